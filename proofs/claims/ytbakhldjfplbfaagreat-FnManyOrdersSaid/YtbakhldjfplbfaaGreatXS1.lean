/-
  The reference's small functions: width, kinds, places of numbers, numbers of places. No condition.
-/
import Derived.Test.YtbakhldjfplbfaaGreatXH7
set_option linter.unusedVariables false
set_option linter.unusedSimpArgs false
namespace Go.Proofs.YtbakhldjfplbfaaGreat
open Go.RowKit Go.Fl Go.Sl Go.Pg Go.Ch Go.Kf
/-- plain data of a geometry: four cells -/
inductive GmR (w : World) (F : Nat → Prop) : List Value → Pg → Prop where
  | mk (k d : Nat) (ps : List Pl) (kids : List Pg) (na ka : Option Addr) (nn nc kn kc : Nat) (css : List (List Value)) (hn : nn = (numsOf d ps).length) (h1 : SzF w F na nn nc 1 (encN (numsOf d ps))) (lc : css.length = kn) (lx : kids.length = kn) (each : ∀ c ∈ css, c.length = 4) (sz : SzF w F ka kn kc 4 css.flatten)
      (is : ∀ i (h1 : i < css.length) (h2 : i < kids.length), GmR w F css[i] kids[i]) : GmR w F [.int .i64 (k : Nat), .int .i64 (d : Nat), .slice na nn nc, .slice ka kn kc] (.node k d ps kids)
theorem gmS : Stable GmR := by
  constructor
  · intro w w' F c x h hk
    induction h with
    | mk k d ps kids na ka nn nc kn kc css hn h1 lc lx each sz is ih => exact .mk k d ps kids na ka nn nc kn kc css hn (h1.kf hk) lc lx each (sz.kf hk) (fun i h1 h2 => ih i h1 h2)
  · intro w F G c x h hG
    induction h with
    | mk k d ps kids na ka nn nc kn kc css hn h1 lc lx each sz is ih => exact .mk k d ps kids na ka nn nc kn kc css hn (h1.mono hG) lc lx each (sz.mono hG) (fun i h1 h2 => ih i h1 h2)
theorem GmR.four {w : World} {F : Nat → Prop} {cs : List Value} {p : Pg} (h : GmR w F cs p) : ∃ (k d : Nat) (na : Option Addr) (nn nc : Nat) (ka : Option Addr) (kn kc : Nat), cs = [.int .i64 k, .int .i64 d, .slice na nn nc, .slice ka kn kc] := by
  cases h; exact ⟨_, _, _, _, _, _, _, _, rfl⟩
theorem GmR.ones {w : World} {F : Nat → Prop} {cs : List Value} {p : Pg} (h : GmR w F cs p) : ∀ u ∈ cs, u.oneCell' = true := by
  obtain ⟨k, d, na, nn, nc, ka, kn, kc, rfl⟩ := h.four
  intro u hu; simp at hu; rcases hu with rfl | rfl | rfl | rfl <;> rfl
/-- a place of the reference -/
def PlR (w : World) (F : Nat → Prop) (cs : List Value) (p : Pl) : Prop := cs = [.float .f64 p.x, .float .f64 p.y, .float .f64 p.z, .float .f64 p.m]
theorem plS : Stable PlR := ⟨fun h _ => h, fun h _ => h⟩
theorem infoPlace : (Tryz.prog.info? 212).map (fun i => (i.zero, i.size, i.bytes)) = some (some (.agg #[.float .f64 0, .float .f64 0, .float .f64 0, .float .f64 0]), 4, 32) := by kernel_rfl
/-- a new block that a region makes -/
def AllocF (B idx : Nat) (T : TypeId) (vs : List Value) (k : Nat) (v : Value) (w : World) : Prop := k = idx → ∃ g, v = .pointer (some ⟨g, 0, none⟩) ∧ B ≤ g ∧ Blk w g T vs
theorem allocPre (B idx : Nat) (T : TypeId) (vs : List Value) : Stab.Pre Stab.Keeps (AllocF B idx T vs) :=
  ⟨Stab.Keeps.refl, Stab.Keeps.trans, fun k v w w' hk hF e => by
    obtain ⟨g, h1, h2, h3⟩ := hF e
    exact ⟨g, h1, h2, h3.keep hk⟩⟩
theorem band01 : bits .and .i64 0 1 = 0 := by decide
theorem band02 : bits .and .i64 0 2 = 0 := by decide
theorem band11 : bits .and .i64 1 1 = 1 := by decide
theorem band12 : bits .and .i64 1 2 = 0 := by decide
theorem band21 : bits .and .i64 2 1 = 0 := by decide
theorem band22 : bits .and .i64 2 2 = 2 := by decide
theorem band31 : bits .and .i64 3 1 = 1 := by decide
theorem band32 : bits .and .i64 3 2 = 2 := by decide
set_option maxRecDepth 100000 in
theorem width_ (d : Nat) (hd : d < 4) (w : World) : Calls Tryz.prog 44 #[.int .i64 d] w (One w (.int .i64 (wid d))) := by
  have b1 := band01
  have b2 := band11
  have b3 := band21
  have b4 := band31
  have : d = 0 ∨ d = 1 ∨ d = 2 ∨ d = 3 := by omega
  rcases this with rfl | rfl | rfl | rfl
  all_goals
    go_enter Tryz.func44, Tryz.ntmps44
    go_wp2
    go_ret
    exact ⟨rfl, by with_reducible (repeat first | exact Kx.r _ | assumption | refine Kx.a ?_ _ | refine Kx.d ?_ | refine Kx.e ?_ _ | refine Kx.s (by simp <;> omega) ?_ _ | refine Kx.t ?_ (by assumption))⟩
set_option maxRecDepth 100000 in
theorem leaf_ (k : Nat) (hk : k ≤ 6) (w : World) : Calls Tryz.prog 24 #[.int .i64 k] w (One w (.bool (k == 1 || k == 2))) := by
  have : k = 0 ∨ k = 1 ∨ k = 2 ∨ k = 3 ∨ k = 4 ∨ k = 5 ∨ k = 6 := by omega
  rcases this with rfl | rfl | rfl | rfl | rfl | rfl | rfl
  all_goals
    go_enter Tryz.func24, Tryz.ntmps24
    go_wp2
    go_ret
    exact ⟨rfl, by with_reducible (repeat first | exact Kx.r _ | assumption | refine Kx.a ?_ _ | refine Kx.d ?_ | refine Kx.e ?_ _ | refine Kx.s (by simp <;> omega) ?_ _ | refine Kx.t ?_ (by assumption))⟩
def kidI (k : Nat) : Int := if k = 4 then 1 else if k = 3 ∨ k = 5 then 2 else if k = 6 then 3 else -1
set_option maxRecDepth 100000 in
theorem kidOf_ (k : Nat) (hk : k ≤ 6) (w : World) : Calls Tryz.prog 22 #[.int .i64 k] w (One w (.int .i64 (kidI k))) := by
  have : k = 0 ∨ k = 1 ∨ k = 2 ∨ k = 3 ∨ k = 4 ∨ k = 5 ∨ k = 6 := by omega
  rcases this with rfl | rfl | rfl | rfl | rfl | rfl | rfl
  all_goals
    go_enter Tryz.func22, Tryz.ntmps22
    go_wp2
    go_ret
    exact ⟨rfl, by with_reducible (repeat first | exact Kx.r _ | assumption | refine Kx.a ?_ _ | refine Kx.d ?_ | refine Kx.e ?_ _ | refine Kx.s (by simp <;> omega) ?_ _ | refine Kx.t ?_ (by assumption))⟩
set_option maxRecDepth 100000 in
set_option maxHeartbeats 4000000 in
theorem places0_ (ps : List Pl) (hps : ∀ p ∈ ps, p.norm 0) (hsm : ps.length ≤ 250000) (a : Option Addr) (n cap : Nat) (w : World) (hn : n = ps.length * 2) (h : Sz w a n cap 1 (encN (numsOf 0 ps))) :
    Calls Tryz.prog 92 #[.slice a n cap, .int .i64 0] w (RetS w no PlR 4 ps.length ps) := by
  obtain ⟨i0, hi, hz0, hz1, hz2⟩ := info_parts infoPlace
  have HI := Lib.hid hi
  have HZ0 := Lib.hid hz0
  have HZ1 := Lib.hid hz1
  have HZ2 := Lib.hid hz2
  have hS : SeqAt w (fun _ => True) 0 ps a n cap := ⟨by omega, hps, hn, hsm, ⟨h, fun _ _ _ => trivial⟩⟩
  have hW := fun w' => width_ 0 (by omega) w'
  simp only [show wid 0 = 2 from rfl, Int.natCast_zero, Int.natCast_one, Int.cast_ofNat_Int] at hW
  have hle := h.le
  have hmx := h.max
  unfold maxLen at hmx
  have HNN := Lib.hid hn
  have HNR := Lib.hid hps
  have q1 := band01
  have q2 := band02
  clear hi hz0 hz1 hz2 hn hps
  go_enter Tryz.func92, Tryz.ntmps92
  go_wp2_with fail
  refine (hW _).mono ?_
  clear hW
  rintro e w1 ⟨rfl, hk1⟩
  go_wp2_with fail
  go_loopw [5, 7] (fun v iv wr => ∃ k p : Nat, k ≤ ps.length ∧ p = k * 2 ∧ iv = .int .i64 p ∧ Grow w wr PlR 212 4 k v (ps.take k)) (fun _ iv _ => n - (intOf iv).toNat)
  case atStart => exact ⟨0, 0, by omega, rfl, rfl, by simpa using Grow.nil w w1 PlR 212 4 hk1⟩
  case round =>
    obtain ⟨k, p, k2, hp, rfl, hG⟩ := hrel
    obtain ⟨al, c0, rfl, hmc, hcm⟩ := hG.shape
    have hk := hG.keeps
    unfold maxLen at hcm
    have HP := Lib.hid hp
    have hp6 : p ≤ 1000000 := by omega
    by_cases hlt : k < ps.length
    · obtain ⟨b, off, ha, hb, hc⟩ := (hS.keep hk).cell hlt
      subst ha
      have hpn : p + 2 ≤ n := by have := HNN.out; omega
      have hd1 : decide ((p : Int) + 2 ≤ n) = true := decide_eq_true (by omega)
      have hnr := HNR.out _ (List.getElem_mem hlt)
      have htk : ps.take (k + 1) = ps.take k ++ [ps[k]] := List.take_succ_eq_append_getElem hlt
      have HTK := Lib.hid htk
      generalize ps[k] = pl at *
      obtain ⟨px, py, pz, pm⟩ := pl
      obtain ⟨hz, hm⟩ := hnr
      have z0 : pz = 0 := hz rfl
      subst z0
      have m0 : pm = 0 := hm rfl
      subst m0
      clear hz hm htk
      simp only [show wid 0 = 2 from rfl, ← hp] at hc
      clear hp
      have c0 : wr.cell? ⟨b, off + p, none⟩ = some (.float .f64 px) := by have := hc 0 _ rfl; simpa using this
      have c1 : wr.cell? ⟨b, off + (p + 1), none⟩ = some (.float .f64 py) := hc 1 _ rfl
      clear hc
      have b3 : (p : Int) < n := by omega
      have b10 : (0 : Int) ≤ (p : Int) + 1 := by omega
      have b11 : ((p : Int) + 1).toNat = p + 1 := by omega
      have b12 : (p : Int) + 1 < n := by omega
      have wq : IntKind.i64.wrap ((p : Int) + 1) = (p : Int) + 1 := IntWalk.i64_in _ (by omega)
      go_upto_region 6 with (fail)
      refine Stab.keep_tail 11 (AllocF wr.heap.size 10 212 [.float .f64 0, .float .f64 0, .float .f64 0, .float .f64 0]) (fun k => k == 10) (fun _ => false) (allocPre _ _ _ _) (by kernel_rfl) (by kernel_rfl) fun hcx => ?_
      simp only [List.take_succ_cons, List.take_zero, List.drop_succ_cons, List.drop_zero]
      repeat (first
        | (refine Stab.quiet rfl rfl rfl (fun K hK => ?_); go_big_quiet_op; refine hK _ ?_; clear hK K)
        | (refine Stab.one rfl rfl rfl ?_
           apply Exists.intro
           refine ⟨fun w1 hw1 => ?_, fun K hK => ?_⟩
           · go_simp
             first | fail
           go_simp
           refine hK _ ?_
           clear hK K)
        | (refine Stab.skip rfl (fun K hK => ?_); go_simp; refine hK _ ?_; clear hK K))
      refine Stab.made rfl rfl (fun w1 hk1 => ?_) (fun v hv K hK => ?_)
      · go_simp
        refine ⟨by with_reducible (repeat first | exact Kx.r _ | assumption | refine Kx.a ?_ _ | refine Kx.d ?_ | refine Kx.e ?_ _ | refine Kx.s (by simp <;> omega) ?_ _ | refine Kx.t ?_ (by assumption)), fun _ => ⟨_, rfl, Below.size hk1.1, by with_reducible (repeat first | assumption | (refine Bx.n ⟨?_, ?_⟩ <;> focus (first | rfl | (simp; done) | omega)) | refine Bx.a ?_ _ | refine Bx.d ?_ | refine Bx.e ?_ _ | refine Bx.p (by first | omega | simp <;> omega) ?_)⟩⟩
      obtain ⟨wv, _, _, hv⟩ := hv
      obtain ⟨g0, rfl, _, _⟩ := hv rfl
      go_simp
      refine hK _ ?_
      clear hK
      refine Stab.nil fun w' hw' hfs => ?_
      obtain ⟨g, he, hge, hBg⟩ := Stab.setF_new (hfs 10) rfl
      cases he
      clear hcx hfs hv wq
      have hkr : Stab.Keeps wr w' := hw'
      have s0 := hBg.cell (i := 0) rfl
      have s1 := hBg.cell (i := 1) rfl
      have s2 := hBg.cell (i := 2) rfl
      have s3 := hBg.cell (i := 3) rfl
      have sf := hBg.free
      have sl := hBg.lt
      go_upto_region 7 with (fail)
      clear s0 s1 s2 s3 sf sl
      have hB5 : Blk ((((w'.setCell ⟨g0, 0, none⟩ (.float .f64 px)).setCell ⟨g0, 1, none⟩ (.float .f64 py)).setCell ⟨g0, 2, none⟩ (.float .f64 0)).setCell ⟨g0, 3, none⟩ (.float .f64 0)) g0 212 [.float .f64 px, .float .f64 py, .float .f64 0, .float .f64 0] := (((hBg.set 0 _).set 1 _).set 2 _).set 3 _
      have hk5 : Stab.Keeps wr ((((w'.setCell ⟨g0, 0, none⟩ (.float .f64 px)).setCell ⟨g0, 1, none⟩ (.float .f64 py)).setCell ⟨g0, 2, none⟩ (.float .f64 0)).setCell ⟨g0, 3, none⟩ (.float .f64 0)) := by with_reducible (repeat first | exact Kx.r _ | assumption | refine Kx.a ?_ _ | refine Kx.d ?_ | refine Kx.e ?_ _ | refine Kx.s (by simp <;> omega) ?_ _ | refine Kx.t ?_ (by assumption))
      generalize ((((w'.setCell ⟨g0, 0, none⟩ (.float .f64 px)).setCell ⟨g0, 1, none⟩ (.float .f64 py)).setCell ⟨g0, 2, none⟩ (.float .f64 0)).setCell ⟨g0, 3, none⟩ (.float .f64 0)) = W5 at hB5 hk5 ⊢
      clear hBg hkr hw'
      have hbl : b < W5.heap.size := Nat.lt_of_lt_of_le hb hk5.size
      have d1 : W5.cell? ⟨b, off + (p + 1), none⟩ = some (.float .f64 py) := by rw [(Stab.own_cell hk5 b hb).1]; exact c1
      have t0 := hB5.cell (i := 0) rfl
      have t1 := hB5.cell (i := 1) rfl
      have t2 := hB5.cell (i := 2) rfl
      have t3 := hB5.cell (i := 3) rfl
      have tf := hB5.free
      have tl := hB5.lt
      go_wp2_with (at_builtin; (refine append_grow (w0 := w) plS rfl _ _ 154 rfl 212 i0 _ 4 32 Tryz.underlying154 HI.out HZ0.out HZ1.out HZ2.out rfl (by decide) _ k (ps.take k) rfl (hG.keep plS ?c0) _ 1 [.float .f64 px, .float .f64 py, .float .f64 0, .float .f64 0] rfl rfl ?c1 ?c2 ?c3 ?c4 ⟨px, py, 0, 0⟩ no rfl ?c5 ?c6 ?_))
      case c0 => with_reducible (repeat first | exact Kx.r _ | assumption | refine Kx.a ?_ _ | refine Kx.d ?_ | refine Kx.e ?_ _ | refine Kx.s (by simp <;> omega) ?_ _ | refine Kx.t ?_ (by assumption))
      case c1 => exact new_cells _ _ _ _ (by simp)
      case c2 => intro u hu; simp at hu; rcases hu with rfl | rfl | rfl | rfl <;> rfl
      case c3 => unfold maxLen; omega
      case c4 => omega
      case c5 => exact fun b hb => hb.elim
      case c6 => exact fun g _ hb => hb.elim
      intro al' c' w5 hG6 hsz5
      rw [← HTK.out] at hG6
      clear hG t0 t1 t2 t3 tf tl hB5 hk5 d1
      go_wp2_with fail
      go_roundw
      case rel => exact ⟨k + 1, p + 2, by omega, by have := HP.out; omega, by go_num, hG6⟩
      case measure => simp [intOf]; omega
    · obtain rfl : k = ps.length := by omega
      have hd1 : decide ((p : Int) + 2 ≤ n) = false := decide_eq_false (by have := HNN.out; omega)
      clear hp
      rw [List.take_length] at hG
      obtain ⟨css, hR⟩ := hG.toRows plS
      clear hG
      go_wp2_with fail
      go_ret
      exact ⟨al, c0, css, rfl, hk, hR.mono (fun b _ hb => .inr hb) (fun c x hx => hx)⟩
set_option maxRecDepth 100000 in
set_option maxHeartbeats 4000000 in
theorem places1_ (ps : List Pl) (hps : ∀ p ∈ ps, p.norm 1) (hsm : ps.length ≤ 250000) (a : Option Addr) (n cap : Nat) (w : World) (hn : n = ps.length * 3) (h : Sz w a n cap 1 (encN (numsOf 1 ps))) :
    Calls Tryz.prog 92 #[.slice a n cap, .int .i64 1] w (RetS w no PlR 4 ps.length ps) := by
  obtain ⟨i0, hi, hz0, hz1, hz2⟩ := info_parts infoPlace
  have HI := Lib.hid hi
  have HZ0 := Lib.hid hz0
  have HZ1 := Lib.hid hz1
  have HZ2 := Lib.hid hz2
  have hS : SeqAt w (fun _ => True) 1 ps a n cap := ⟨by omega, hps, hn, hsm, ⟨h, fun _ _ _ => trivial⟩⟩
  have hW := fun w' => width_ 1 (by omega) w'
  simp only [show wid 1 = 3 from rfl, Int.natCast_zero, Int.natCast_one, Int.cast_ofNat_Int] at hW
  have hle := h.le
  have hmx := h.max
  unfold maxLen at hmx
  have HNN := Lib.hid hn
  have HNR := Lib.hid hps
  have q1 := band11
  have q2 := band12
  clear hi hz0 hz1 hz2 hn hps
  go_enter Tryz.func92, Tryz.ntmps92
  go_wp2_with fail
  refine (hW _).mono ?_
  clear hW
  rintro e w1 ⟨rfl, hk1⟩
  go_wp2_with fail
  go_loopw [5, 7] (fun v iv wr => ∃ k p : Nat, k ≤ ps.length ∧ p = k * 3 ∧ iv = .int .i64 p ∧ Grow w wr PlR 212 4 k v (ps.take k)) (fun _ iv _ => n - (intOf iv).toNat)
  case atStart => exact ⟨0, 0, by omega, rfl, rfl, by simpa using Grow.nil w w1 PlR 212 4 hk1⟩
  case round =>
    obtain ⟨k, p, k2, hp, rfl, hG⟩ := hrel
    obtain ⟨al, c0, rfl, hmc, hcm⟩ := hG.shape
    have hk := hG.keeps
    unfold maxLen at hcm
    have HP := Lib.hid hp
    have hp6 : p ≤ 1000000 := by omega
    by_cases hlt : k < ps.length
    · obtain ⟨b, off, ha, hb, hc⟩ := (hS.keep hk).cell hlt
      subst ha
      have hpn : p + 3 ≤ n := by have := HNN.out; omega
      have hd1 : decide ((p : Int) + 3 ≤ n) = true := decide_eq_true (by omega)
      have hnr := HNR.out _ (List.getElem_mem hlt)
      have htk : ps.take (k + 1) = ps.take k ++ [ps[k]] := List.take_succ_eq_append_getElem hlt
      have HTK := Lib.hid htk
      generalize ps[k] = pl at *
      obtain ⟨px, py, pz, pm⟩ := pl
      obtain ⟨hz, hm⟩ := hnr
      have m0 : pm = 0 := hm rfl
      subst m0
      clear hz hm htk
      simp only [show wid 1 = 3 from rfl, ← hp] at hc
      clear hp
      have c0 : wr.cell? ⟨b, off + p, none⟩ = some (.float .f64 px) := by have := hc 0 _ rfl; simpa using this
      have c1 : wr.cell? ⟨b, off + (p + 1), none⟩ = some (.float .f64 py) := hc 1 _ rfl
      have c2 : wr.cell? ⟨b, off + (p + 2), none⟩ = some (.float .f64 pz) := hc 2 _ rfl
      clear hc
      have b3 : (p : Int) < n := by omega
      have b10 : (0 : Int) ≤ (p : Int) + 1 := by omega
      have b11 : ((p : Int) + 1).toNat = p + 1 := by omega
      have b12 : (p : Int) + 1 < n := by omega
      have b20 : (0 : Int) ≤ (p : Int) + 2 := by omega
      have b21 : ((p : Int) + 2).toNat = p + 2 := by omega
      have b22 : (p : Int) + 2 < n := by omega
      have wq : IntKind.i64.wrap ((p : Int) + 1) = (p : Int) + 1 := IntWalk.i64_in _ (by omega)
      go_upto_region 6 with (fail)
      refine Stab.keep_tail 11 (AllocF wr.heap.size 10 212 [.float .f64 0, .float .f64 0, .float .f64 0, .float .f64 0]) (fun k => k == 10) (fun _ => false) (allocPre _ _ _ _) (by kernel_rfl) (by kernel_rfl) fun hcx => ?_
      simp only [List.take_succ_cons, List.take_zero, List.drop_succ_cons, List.drop_zero]
      repeat (first
        | (refine Stab.quiet rfl rfl rfl (fun K hK => ?_); go_big_quiet_op; refine hK _ ?_; clear hK K)
        | (refine Stab.one rfl rfl rfl ?_
           apply Exists.intro
           refine ⟨fun w1 hw1 => ?_, fun K hK => ?_⟩
           · go_simp
             first | fail
           go_simp
           refine hK _ ?_
           clear hK K)
        | (refine Stab.skip rfl (fun K hK => ?_); go_simp; refine hK _ ?_; clear hK K))
      refine Stab.made rfl rfl (fun w1 hk1 => ?_) (fun v hv K hK => ?_)
      · go_simp
        refine ⟨by with_reducible (repeat first | exact Kx.r _ | assumption | refine Kx.a ?_ _ | refine Kx.d ?_ | refine Kx.e ?_ _ | refine Kx.s (by simp <;> omega) ?_ _ | refine Kx.t ?_ (by assumption)), fun _ => ⟨_, rfl, Below.size hk1.1, by with_reducible (repeat first | assumption | (refine Bx.n ⟨?_, ?_⟩ <;> focus (first | rfl | (simp; done) | omega)) | refine Bx.a ?_ _ | refine Bx.d ?_ | refine Bx.e ?_ _ | refine Bx.p (by first | omega | simp <;> omega) ?_)⟩⟩
      obtain ⟨wv, _, _, hv⟩ := hv
      obtain ⟨g0, rfl, _, _⟩ := hv rfl
      go_simp
      refine hK _ ?_
      clear hK
      refine Stab.nil fun w' hw' hfs => ?_
      obtain ⟨g, he, hge, hBg⟩ := Stab.setF_new (hfs 10) rfl
      cases he
      clear hcx hfs hv wq
      have hkr : Stab.Keeps wr w' := hw'
      have s0 := hBg.cell (i := 0) rfl
      have s1 := hBg.cell (i := 1) rfl
      have s2 := hBg.cell (i := 2) rfl
      have s3 := hBg.cell (i := 3) rfl
      have sf := hBg.free
      have sl := hBg.lt
      go_upto_region 7 with (fail)
      clear s0 s1 s2 s3 sf sl
      have hB5 : Blk ((((w'.setCell ⟨g0, 0, none⟩ (.float .f64 px)).setCell ⟨g0, 1, none⟩ (.float .f64 py)).setCell ⟨g0, 2, none⟩ (.float .f64 0)).setCell ⟨g0, 3, none⟩ (.float .f64 0)) g0 212 [.float .f64 px, .float .f64 py, .float .f64 0, .float .f64 0] := (((hBg.set 0 _).set 1 _).set 2 _).set 3 _
      have hk5 : Stab.Keeps wr ((((w'.setCell ⟨g0, 0, none⟩ (.float .f64 px)).setCell ⟨g0, 1, none⟩ (.float .f64 py)).setCell ⟨g0, 2, none⟩ (.float .f64 0)).setCell ⟨g0, 3, none⟩ (.float .f64 0)) := by with_reducible (repeat first | exact Kx.r _ | assumption | refine Kx.a ?_ _ | refine Kx.d ?_ | refine Kx.e ?_ _ | refine Kx.s (by simp <;> omega) ?_ _ | refine Kx.t ?_ (by assumption))
      generalize ((((w'.setCell ⟨g0, 0, none⟩ (.float .f64 px)).setCell ⟨g0, 1, none⟩ (.float .f64 py)).setCell ⟨g0, 2, none⟩ (.float .f64 0)).setCell ⟨g0, 3, none⟩ (.float .f64 0)) = W5 at hB5 hk5 ⊢
      clear hBg hkr hw'
      have hbl : b < W5.heap.size := Nat.lt_of_lt_of_le hb hk5.size
      have d1 : W5.cell? ⟨b, off + (p + 1), none⟩ = some (.float .f64 py) := by rw [(Stab.own_cell hk5 b hb).1]; exact c1
      have d2 : W5.cell? ⟨b, off + (p + 2), none⟩ = some (.float .f64 pz) := by rw [(Stab.own_cell hk5 b hb).1]; exact c2
      have t0 := hB5.cell (i := 0) rfl
      have t1 := hB5.cell (i := 1) rfl
      have t2 := hB5.cell (i := 2) rfl
      have t3 := hB5.cell (i := 3) rfl
      have tf := hB5.free
      have tl := hB5.lt
      go_upto_region 9 with (fail)
      have hB6 := hB5.set 2 (.float .f64 pz)
      have hk6 : Stab.Keeps wr (W5.setCell ⟨g0, 2, none⟩ (.float .f64 pz)) := by with_reducible (repeat first | exact Kx.r _ | assumption | refine Kx.a ?_ _ | refine Kx.d ?_ | refine Kx.e ?_ _ | refine Kx.s (by simp <;> omega) ?_ _ | refine Kx.t ?_ (by assumption))
      simp only [List.set] at hB6
      generalize (W5.setCell ⟨g0, 2, none⟩ (.float .f64 pz)) = W6 at hB6 hk6 ⊢
      clear hbl t0 t1 t2 t3 tf tl d1 d2 hB5 hk5
      obtain ⟨W5, rfl⟩ : ∃ W5 : World, W5 = W6 := ⟨W6, rfl⟩
      have hB5 := hB6
      have hk5 := hk6
      clear hB6 hk6
      have hbl : b < W5.heap.size := Nat.lt_of_lt_of_le hb hk5.size
      have d1 : W5.cell? ⟨b, off + (p + 1), none⟩ = some (.float .f64 py) := by rw [(Stab.own_cell hk5 b hb).1]; exact c1
      have d2 : W5.cell? ⟨b, off + (p + 2), none⟩ = some (.float .f64 pz) := by rw [(Stab.own_cell hk5 b hb).1]; exact c2
      have t0 := hB5.cell (i := 0) rfl
      have t1 := hB5.cell (i := 1) rfl
      have t2 := hB5.cell (i := 2) rfl
      have t3 := hB5.cell (i := 3) rfl
      have tf := hB5.free
      have tl := hB5.lt
      go_wp2_with (at_builtin; (refine append_grow (w0 := w) plS rfl _ _ 154 rfl 212 i0 _ 4 32 Tryz.underlying154 HI.out HZ0.out HZ1.out HZ2.out rfl (by decide) _ k (ps.take k) rfl (hG.keep plS ?c0) _ 1 [.float .f64 px, .float .f64 py, .float .f64 pz, .float .f64 0] rfl rfl ?c1 ?c2 ?c3 ?c4 ⟨px, py, pz, 0⟩ no rfl ?c5 ?c6 ?_))
      case c0 => with_reducible (repeat first | exact Kx.r _ | assumption | refine Kx.a ?_ _ | refine Kx.d ?_ | refine Kx.e ?_ _ | refine Kx.s (by simp <;> omega) ?_ _ | refine Kx.t ?_ (by assumption))
      case c1 => exact new_cells _ _ _ _ (by simp)
      case c2 => intro u hu; simp at hu; rcases hu with rfl | rfl | rfl | rfl <;> rfl
      case c3 => unfold maxLen; omega
      case c4 => omega
      case c5 => exact fun b hb => hb.elim
      case c6 => exact fun g _ hb => hb.elim
      intro al' c' w5 hG6 hsz5
      rw [← HTK.out] at hG6
      clear hG t0 t1 t2 t3 tf tl hB5 hk5 d1 d2
      go_wp2_with fail
      go_roundw
      case rel => exact ⟨k + 1, p + 3, by omega, by have := HP.out; omega, by go_num, hG6⟩
      case measure => simp [intOf]; omega
    · obtain rfl : k = ps.length := by omega
      have hd1 : decide ((p : Int) + 3 ≤ n) = false := decide_eq_false (by have := HNN.out; omega)
      clear hp
      rw [List.take_length] at hG
      obtain ⟨css, hR⟩ := hG.toRows plS
      clear hG
      go_wp2_with fail
      go_ret
      exact ⟨al, c0, css, rfl, hk, hR.mono (fun b _ hb => .inr hb) (fun c x hx => hx)⟩
set_option maxRecDepth 100000 in
set_option maxHeartbeats 4000000 in
theorem places2_ (ps : List Pl) (hps : ∀ p ∈ ps, p.norm 2) (hsm : ps.length ≤ 250000) (a : Option Addr) (n cap : Nat) (w : World) (hn : n = ps.length * 3) (h : Sz w a n cap 1 (encN (numsOf 2 ps))) :
    Calls Tryz.prog 92 #[.slice a n cap, .int .i64 2] w (RetS w no PlR 4 ps.length ps) := by
  obtain ⟨i0, hi, hz0, hz1, hz2⟩ := info_parts infoPlace
  have HI := Lib.hid hi
  have HZ0 := Lib.hid hz0
  have HZ1 := Lib.hid hz1
  have HZ2 := Lib.hid hz2
  have hS : SeqAt w (fun _ => True) 2 ps a n cap := ⟨by omega, hps, hn, hsm, ⟨h, fun _ _ _ => trivial⟩⟩
  have hW := fun w' => width_ 2 (by omega) w'
  simp only [show wid 2 = 3 from rfl, Int.natCast_zero, Int.natCast_one, Int.cast_ofNat_Int] at hW
  have hle := h.le
  have hmx := h.max
  unfold maxLen at hmx
  have HNN := Lib.hid hn
  have HNR := Lib.hid hps
  have q1 := band21
  have q2 := band22
  clear hi hz0 hz1 hz2 hn hps
  go_enter Tryz.func92, Tryz.ntmps92
  go_wp2_with fail
  refine (hW _).mono ?_
  clear hW
  rintro e w1 ⟨rfl, hk1⟩
  go_wp2_with fail
  go_loopw [5, 7] (fun v iv wr => ∃ k p : Nat, k ≤ ps.length ∧ p = k * 3 ∧ iv = .int .i64 p ∧ Grow w wr PlR 212 4 k v (ps.take k)) (fun _ iv _ => n - (intOf iv).toNat)
  case atStart => exact ⟨0, 0, by omega, rfl, rfl, by simpa using Grow.nil w w1 PlR 212 4 hk1⟩
  case round =>
    obtain ⟨k, p, k2, hp, rfl, hG⟩ := hrel
    obtain ⟨al, c0, rfl, hmc, hcm⟩ := hG.shape
    have hk := hG.keeps
    unfold maxLen at hcm
    have HP := Lib.hid hp
    have hp6 : p ≤ 1000000 := by omega
    by_cases hlt : k < ps.length
    · obtain ⟨b, off, ha, hb, hc⟩ := (hS.keep hk).cell hlt
      subst ha
      have hpn : p + 3 ≤ n := by have := HNN.out; omega
      have hd1 : decide ((p : Int) + 3 ≤ n) = true := decide_eq_true (by omega)
      have hnr := HNR.out _ (List.getElem_mem hlt)
      have htk : ps.take (k + 1) = ps.take k ++ [ps[k]] := List.take_succ_eq_append_getElem hlt
      have HTK := Lib.hid htk
      generalize ps[k] = pl at *
      obtain ⟨px, py, pz, pm⟩ := pl
      obtain ⟨hz, hm⟩ := hnr
      have z0 : pz = 0 := hz rfl
      subst z0
      clear hz hm htk
      simp only [show wid 2 = 3 from rfl, ← hp] at hc
      clear hp
      have c0 : wr.cell? ⟨b, off + p, none⟩ = some (.float .f64 px) := by have := hc 0 _ rfl; simpa using this
      have c1 : wr.cell? ⟨b, off + (p + 1), none⟩ = some (.float .f64 py) := hc 1 _ rfl
      have c2 : wr.cell? ⟨b, off + (p + 2), none⟩ = some (.float .f64 pm) := hc 2 _ rfl
      clear hc
      have b3 : (p : Int) < n := by omega
      have b10 : (0 : Int) ≤ (p : Int) + 1 := by omega
      have b11 : ((p : Int) + 1).toNat = p + 1 := by omega
      have b12 : (p : Int) + 1 < n := by omega
      have b20 : (0 : Int) ≤ (p : Int) + 2 := by omega
      have b21 : ((p : Int) + 2).toNat = p + 2 := by omega
      have b22 : (p : Int) + 2 < n := by omega
      have wq : IntKind.i64.wrap ((p : Int) + 1) = (p : Int) + 1 := IntWalk.i64_in _ (by omega)
      go_upto_region 6 with (fail)
      refine Stab.keep_tail 11 (AllocF wr.heap.size 10 212 [.float .f64 0, .float .f64 0, .float .f64 0, .float .f64 0]) (fun k => k == 10) (fun _ => false) (allocPre _ _ _ _) (by kernel_rfl) (by kernel_rfl) fun hcx => ?_
      simp only [List.take_succ_cons, List.take_zero, List.drop_succ_cons, List.drop_zero]
      repeat (first
        | (refine Stab.quiet rfl rfl rfl (fun K hK => ?_); go_big_quiet_op; refine hK _ ?_; clear hK K)
        | (refine Stab.one rfl rfl rfl ?_
           apply Exists.intro
           refine ⟨fun w1 hw1 => ?_, fun K hK => ?_⟩
           · go_simp
             first | fail
           go_simp
           refine hK _ ?_
           clear hK K)
        | (refine Stab.skip rfl (fun K hK => ?_); go_simp; refine hK _ ?_; clear hK K))
      refine Stab.made rfl rfl (fun w1 hk1 => ?_) (fun v hv K hK => ?_)
      · go_simp
        refine ⟨by with_reducible (repeat first | exact Kx.r _ | assumption | refine Kx.a ?_ _ | refine Kx.d ?_ | refine Kx.e ?_ _ | refine Kx.s (by simp <;> omega) ?_ _ | refine Kx.t ?_ (by assumption)), fun _ => ⟨_, rfl, Below.size hk1.1, by with_reducible (repeat first | assumption | (refine Bx.n ⟨?_, ?_⟩ <;> focus (first | rfl | (simp; done) | omega)) | refine Bx.a ?_ _ | refine Bx.d ?_ | refine Bx.e ?_ _ | refine Bx.p (by first | omega | simp <;> omega) ?_)⟩⟩
      obtain ⟨wv, _, _, hv⟩ := hv
      obtain ⟨g0, rfl, _, _⟩ := hv rfl
      go_simp
      refine hK _ ?_
      clear hK
      refine Stab.nil fun w' hw' hfs => ?_
      obtain ⟨g, he, hge, hBg⟩ := Stab.setF_new (hfs 10) rfl
      cases he
      clear hcx hfs hv wq
      have hkr : Stab.Keeps wr w' := hw'
      have s0 := hBg.cell (i := 0) rfl
      have s1 := hBg.cell (i := 1) rfl
      have s2 := hBg.cell (i := 2) rfl
      have s3 := hBg.cell (i := 3) rfl
      have sf := hBg.free
      have sl := hBg.lt
      go_upto_region 7 with (fail)
      clear s0 s1 s2 s3 sf sl
      have hB5 : Blk ((((w'.setCell ⟨g0, 0, none⟩ (.float .f64 px)).setCell ⟨g0, 1, none⟩ (.float .f64 py)).setCell ⟨g0, 2, none⟩ (.float .f64 0)).setCell ⟨g0, 3, none⟩ (.float .f64 0)) g0 212 [.float .f64 px, .float .f64 py, .float .f64 0, .float .f64 0] := (((hBg.set 0 _).set 1 _).set 2 _).set 3 _
      have hk5 : Stab.Keeps wr ((((w'.setCell ⟨g0, 0, none⟩ (.float .f64 px)).setCell ⟨g0, 1, none⟩ (.float .f64 py)).setCell ⟨g0, 2, none⟩ (.float .f64 0)).setCell ⟨g0, 3, none⟩ (.float .f64 0)) := by with_reducible (repeat first | exact Kx.r _ | assumption | refine Kx.a ?_ _ | refine Kx.d ?_ | refine Kx.e ?_ _ | refine Kx.s (by simp <;> omega) ?_ _ | refine Kx.t ?_ (by assumption))
      generalize ((((w'.setCell ⟨g0, 0, none⟩ (.float .f64 px)).setCell ⟨g0, 1, none⟩ (.float .f64 py)).setCell ⟨g0, 2, none⟩ (.float .f64 0)).setCell ⟨g0, 3, none⟩ (.float .f64 0)) = W5 at hB5 hk5 ⊢
      clear hBg hkr hw'
      have hbl : b < W5.heap.size := Nat.lt_of_lt_of_le hb hk5.size
      have d1 : W5.cell? ⟨b, off + (p + 1), none⟩ = some (.float .f64 py) := by rw [(Stab.own_cell hk5 b hb).1]; exact c1
      have d2 : W5.cell? ⟨b, off + (p + 2), none⟩ = some (.float .f64 pm) := by rw [(Stab.own_cell hk5 b hb).1]; exact c2
      have t0 := hB5.cell (i := 0) rfl
      have t1 := hB5.cell (i := 1) rfl
      have t2 := hB5.cell (i := 2) rfl
      have t3 := hB5.cell (i := 3) rfl
      have tf := hB5.free
      have tl := hB5.lt
      go_upto_region 11 with (fail)
      have hB6 := hB5.set 3 (.float .f64 pm)
      have hk6 : Stab.Keeps wr (W5.setCell ⟨g0, 3, none⟩ (.float .f64 pm)) := by with_reducible (repeat first | exact Kx.r _ | assumption | refine Kx.a ?_ _ | refine Kx.d ?_ | refine Kx.e ?_ _ | refine Kx.s (by simp <;> omega) ?_ _ | refine Kx.t ?_ (by assumption))
      simp only [List.set] at hB6
      generalize (W5.setCell ⟨g0, 3, none⟩ (.float .f64 pm)) = W6 at hB6 hk6 ⊢
      clear hbl t0 t1 t2 t3 tf tl d1 d2 hB5 hk5
      obtain ⟨W5, rfl⟩ : ∃ W5 : World, W5 = W6 := ⟨W6, rfl⟩
      have hB5 := hB6
      have hk5 := hk6
      clear hB6 hk6
      have hbl : b < W5.heap.size := Nat.lt_of_lt_of_le hb hk5.size
      have d1 : W5.cell? ⟨b, off + (p + 1), none⟩ = some (.float .f64 py) := by rw [(Stab.own_cell hk5 b hb).1]; exact c1
      have d2 : W5.cell? ⟨b, off + (p + 2), none⟩ = some (.float .f64 pm) := by rw [(Stab.own_cell hk5 b hb).1]; exact c2
      have t0 := hB5.cell (i := 0) rfl
      have t1 := hB5.cell (i := 1) rfl
      have t2 := hB5.cell (i := 2) rfl
      have t3 := hB5.cell (i := 3) rfl
      have tf := hB5.free
      have tl := hB5.lt
      go_wp2_with (at_builtin; (refine append_grow (w0 := w) plS rfl _ _ 154 rfl 212 i0 _ 4 32 Tryz.underlying154 HI.out HZ0.out HZ1.out HZ2.out rfl (by decide) _ k (ps.take k) rfl (hG.keep plS ?c0) _ 1 [.float .f64 px, .float .f64 py, .float .f64 0, .float .f64 pm] rfl rfl ?c1 ?c2 ?c3 ?c4 ⟨px, py, 0, pm⟩ no rfl ?c5 ?c6 ?_))
      case c0 => with_reducible (repeat first | exact Kx.r _ | assumption | refine Kx.a ?_ _ | refine Kx.d ?_ | refine Kx.e ?_ _ | refine Kx.s (by simp <;> omega) ?_ _ | refine Kx.t ?_ (by assumption))
      case c1 => exact new_cells _ _ _ _ (by simp)
      case c2 => intro u hu; simp at hu; rcases hu with rfl | rfl | rfl | rfl <;> rfl
      case c3 => unfold maxLen; omega
      case c4 => omega
      case c5 => exact fun b hb => hb.elim
      case c6 => exact fun g _ hb => hb.elim
      intro al' c' w5 hG6 hsz5
      rw [← HTK.out] at hG6
      clear hG t0 t1 t2 t3 tf tl hB5 hk5 d1 d2
      go_wp2_with fail
      go_roundw
      case rel => exact ⟨k + 1, p + 3, by omega, by have := HP.out; omega, by go_num, hG6⟩
      case measure => simp [intOf]; omega
    · obtain rfl : k = ps.length := by omega
      have hd1 : decide ((p : Int) + 3 ≤ n) = false := decide_eq_false (by have := HNN.out; omega)
      clear hp
      rw [List.take_length] at hG
      obtain ⟨css, hR⟩ := hG.toRows plS
      clear hG
      go_wp2_with fail
      go_ret
      exact ⟨al, c0, css, rfl, hk, hR.mono (fun b _ hb => .inr hb) (fun c x hx => hx)⟩
set_option maxRecDepth 100000 in
set_option maxHeartbeats 4000000 in
theorem places3_ (ps : List Pl) (hps : ∀ p ∈ ps, p.norm 3) (hsm : ps.length ≤ 250000) (a : Option Addr) (n cap : Nat) (w : World) (hn : n = ps.length * 4) (h : Sz w a n cap 1 (encN (numsOf 3 ps))) :
    Calls Tryz.prog 92 #[.slice a n cap, .int .i64 3] w (RetS w no PlR 4 ps.length ps) := by
  obtain ⟨i0, hi, hz0, hz1, hz2⟩ := info_parts infoPlace
  have HI := Lib.hid hi
  have HZ0 := Lib.hid hz0
  have HZ1 := Lib.hid hz1
  have HZ2 := Lib.hid hz2
  have hS : SeqAt w (fun _ => True) 3 ps a n cap := ⟨by omega, hps, hn, hsm, ⟨h, fun _ _ _ => trivial⟩⟩
  have hW := fun w' => width_ 3 (by omega) w'
  simp only [show wid 3 = 4 from rfl, Int.natCast_zero, Int.natCast_one, Int.cast_ofNat_Int] at hW
  have hle := h.le
  have hmx := h.max
  unfold maxLen at hmx
  have HNN := Lib.hid hn
  have HNR := Lib.hid hps
  have q1 := band31
  have q2 := band32
  clear hi hz0 hz1 hz2 hn hps
  go_enter Tryz.func92, Tryz.ntmps92
  go_wp2_with fail
  refine (hW _).mono ?_
  clear hW
  rintro e w1 ⟨rfl, hk1⟩
  go_wp2_with fail
  go_loopw [5, 7] (fun v iv wr => ∃ k p : Nat, k ≤ ps.length ∧ p = k * 4 ∧ iv = .int .i64 p ∧ Grow w wr PlR 212 4 k v (ps.take k)) (fun _ iv _ => n - (intOf iv).toNat)
  case atStart => exact ⟨0, 0, by omega, rfl, rfl, by simpa using Grow.nil w w1 PlR 212 4 hk1⟩
  case round =>
    obtain ⟨k, p, k2, hp, rfl, hG⟩ := hrel
    obtain ⟨al, c0, rfl, hmc, hcm⟩ := hG.shape
    have hk := hG.keeps
    unfold maxLen at hcm
    have HP := Lib.hid hp
    have hp6 : p ≤ 1000000 := by omega
    by_cases hlt : k < ps.length
    · obtain ⟨b, off, ha, hb, hc⟩ := (hS.keep hk).cell hlt
      subst ha
      have hpn : p + 4 ≤ n := by have := HNN.out; omega
      have hd1 : decide ((p : Int) + 4 ≤ n) = true := decide_eq_true (by omega)
      have hnr := HNR.out _ (List.getElem_mem hlt)
      have htk : ps.take (k + 1) = ps.take k ++ [ps[k]] := List.take_succ_eq_append_getElem hlt
      have HTK := Lib.hid htk
      generalize ps[k] = pl at *
      obtain ⟨px, py, pz, pm⟩ := pl
      obtain ⟨hz, hm⟩ := hnr
      skip
      clear hz hm htk
      simp only [show wid 3 = 4 from rfl, ← hp] at hc
      clear hp
      have c0 : wr.cell? ⟨b, off + p, none⟩ = some (.float .f64 px) := by have := hc 0 _ rfl; simpa using this
      have c1 : wr.cell? ⟨b, off + (p + 1), none⟩ = some (.float .f64 py) := hc 1 _ rfl
      have c2 : wr.cell? ⟨b, off + (p + 2), none⟩ = some (.float .f64 pz) := hc 2 _ rfl
      have c3 : wr.cell? ⟨b, off + (p + 3), none⟩ = some (.float .f64 pm) := hc 3 _ rfl
      clear hc
      have b3 : (p : Int) < n := by omega
      have b10 : (0 : Int) ≤ (p : Int) + 1 := by omega
      have b11 : ((p : Int) + 1).toNat = p + 1 := by omega
      have b12 : (p : Int) + 1 < n := by omega
      have b20 : (0 : Int) ≤ (p : Int) + 2 := by omega
      have b21 : ((p : Int) + 2).toNat = p + 2 := by omega
      have b22 : (p : Int) + 2 < n := by omega
      have b30 : (0 : Int) ≤ (p : Int) + 3 := by omega
      have b31 : ((p : Int) + 3).toNat = p + 3 := by omega
      have b32 : (p : Int) + 3 < n := by omega
      have wq : IntKind.i64.wrap ((p : Int) + 1) = (p : Int) + 1 := IntWalk.i64_in _ (by omega)
      go_upto_region 6 with (fail)
      refine Stab.keep_tail 11 (AllocF wr.heap.size 10 212 [.float .f64 0, .float .f64 0, .float .f64 0, .float .f64 0]) (fun k => k == 10) (fun _ => false) (allocPre _ _ _ _) (by kernel_rfl) (by kernel_rfl) fun hcx => ?_
      simp only [List.take_succ_cons, List.take_zero, List.drop_succ_cons, List.drop_zero]
      repeat (first
        | (refine Stab.quiet rfl rfl rfl (fun K hK => ?_); go_big_quiet_op; refine hK _ ?_; clear hK K)
        | (refine Stab.one rfl rfl rfl ?_
           apply Exists.intro
           refine ⟨fun w1 hw1 => ?_, fun K hK => ?_⟩
           · go_simp
             first | fail
           go_simp
           refine hK _ ?_
           clear hK K)
        | (refine Stab.skip rfl (fun K hK => ?_); go_simp; refine hK _ ?_; clear hK K))
      refine Stab.made rfl rfl (fun w1 hk1 => ?_) (fun v hv K hK => ?_)
      · go_simp
        refine ⟨by with_reducible (repeat first | exact Kx.r _ | assumption | refine Kx.a ?_ _ | refine Kx.d ?_ | refine Kx.e ?_ _ | refine Kx.s (by simp <;> omega) ?_ _ | refine Kx.t ?_ (by assumption)), fun _ => ⟨_, rfl, Below.size hk1.1, by with_reducible (repeat first | assumption | (refine Bx.n ⟨?_, ?_⟩ <;> focus (first | rfl | (simp; done) | omega)) | refine Bx.a ?_ _ | refine Bx.d ?_ | refine Bx.e ?_ _ | refine Bx.p (by first | omega | simp <;> omega) ?_)⟩⟩
      obtain ⟨wv, _, _, hv⟩ := hv
      obtain ⟨g0, rfl, _, _⟩ := hv rfl
      go_simp
      refine hK _ ?_
      clear hK
      refine Stab.nil fun w' hw' hfs => ?_
      obtain ⟨g, he, hge, hBg⟩ := Stab.setF_new (hfs 10) rfl
      cases he
      clear hcx hfs hv wq
      have hkr : Stab.Keeps wr w' := hw'
      have s0 := hBg.cell (i := 0) rfl
      have s1 := hBg.cell (i := 1) rfl
      have s2 := hBg.cell (i := 2) rfl
      have s3 := hBg.cell (i := 3) rfl
      have sf := hBg.free
      have sl := hBg.lt
      go_upto_region 7 with (fail)
      clear s0 s1 s2 s3 sf sl
      have hB5 : Blk ((((w'.setCell ⟨g0, 0, none⟩ (.float .f64 px)).setCell ⟨g0, 1, none⟩ (.float .f64 py)).setCell ⟨g0, 2, none⟩ (.float .f64 0)).setCell ⟨g0, 3, none⟩ (.float .f64 0)) g0 212 [.float .f64 px, .float .f64 py, .float .f64 0, .float .f64 0] := (((hBg.set 0 _).set 1 _).set 2 _).set 3 _
      have hk5 : Stab.Keeps wr ((((w'.setCell ⟨g0, 0, none⟩ (.float .f64 px)).setCell ⟨g0, 1, none⟩ (.float .f64 py)).setCell ⟨g0, 2, none⟩ (.float .f64 0)).setCell ⟨g0, 3, none⟩ (.float .f64 0)) := by with_reducible (repeat first | exact Kx.r _ | assumption | refine Kx.a ?_ _ | refine Kx.d ?_ | refine Kx.e ?_ _ | refine Kx.s (by simp <;> omega) ?_ _ | refine Kx.t ?_ (by assumption))
      generalize ((((w'.setCell ⟨g0, 0, none⟩ (.float .f64 px)).setCell ⟨g0, 1, none⟩ (.float .f64 py)).setCell ⟨g0, 2, none⟩ (.float .f64 0)).setCell ⟨g0, 3, none⟩ (.float .f64 0)) = W5 at hB5 hk5 ⊢
      clear hBg hkr hw'
      have hbl : b < W5.heap.size := Nat.lt_of_lt_of_le hb hk5.size
      have d1 : W5.cell? ⟨b, off + (p + 1), none⟩ = some (.float .f64 py) := by rw [(Stab.own_cell hk5 b hb).1]; exact c1
      have d2 : W5.cell? ⟨b, off + (p + 2), none⟩ = some (.float .f64 pz) := by rw [(Stab.own_cell hk5 b hb).1]; exact c2
      have d3 : W5.cell? ⟨b, off + (p + 3), none⟩ = some (.float .f64 pm) := by rw [(Stab.own_cell hk5 b hb).1]; exact c3
      have t0 := hB5.cell (i := 0) rfl
      have t1 := hB5.cell (i := 1) rfl
      have t2 := hB5.cell (i := 2) rfl
      have t3 := hB5.cell (i := 3) rfl
      have tf := hB5.free
      have tl := hB5.lt
      go_upto_region 9 with (fail)
      have hB6 := hB5.set 2 (.float .f64 pz)
      have hk6 : Stab.Keeps wr (W5.setCell ⟨g0, 2, none⟩ (.float .f64 pz)) := by with_reducible (repeat first | exact Kx.r _ | assumption | refine Kx.a ?_ _ | refine Kx.d ?_ | refine Kx.e ?_ _ | refine Kx.s (by simp <;> omega) ?_ _ | refine Kx.t ?_ (by assumption))
      simp only [List.set] at hB6
      generalize (W5.setCell ⟨g0, 2, none⟩ (.float .f64 pz)) = W6 at hB6 hk6 ⊢
      clear hbl t0 t1 t2 t3 tf tl d1 d2 d3 hB5 hk5
      obtain ⟨W5, rfl⟩ : ∃ W5 : World, W5 = W6 := ⟨W6, rfl⟩
      have hB5 := hB6
      have hk5 := hk6
      clear hB6 hk6
      have hbl : b < W5.heap.size := Nat.lt_of_lt_of_le hb hk5.size
      have d1 : W5.cell? ⟨b, off + (p + 1), none⟩ = some (.float .f64 py) := by rw [(Stab.own_cell hk5 b hb).1]; exact c1
      have d2 : W5.cell? ⟨b, off + (p + 2), none⟩ = some (.float .f64 pz) := by rw [(Stab.own_cell hk5 b hb).1]; exact c2
      have d3 : W5.cell? ⟨b, off + (p + 3), none⟩ = some (.float .f64 pm) := by rw [(Stab.own_cell hk5 b hb).1]; exact c3
      have t0 := hB5.cell (i := 0) rfl
      have t1 := hB5.cell (i := 1) rfl
      have t2 := hB5.cell (i := 2) rfl
      have t3 := hB5.cell (i := 3) rfl
      have tf := hB5.free
      have tl := hB5.lt
      go_upto_region 11 with (fail)
      have hB6 := hB5.set 3 (.float .f64 pm)
      have hk6 : Stab.Keeps wr (W5.setCell ⟨g0, 3, none⟩ (.float .f64 pm)) := by with_reducible (repeat first | exact Kx.r _ | assumption | refine Kx.a ?_ _ | refine Kx.d ?_ | refine Kx.e ?_ _ | refine Kx.s (by simp <;> omega) ?_ _ | refine Kx.t ?_ (by assumption))
      simp only [List.set] at hB6
      generalize (W5.setCell ⟨g0, 3, none⟩ (.float .f64 pm)) = W6 at hB6 hk6 ⊢
      clear hbl t0 t1 t2 t3 tf tl d1 d2 d3 hB5 hk5
      obtain ⟨W5, rfl⟩ : ∃ W5 : World, W5 = W6 := ⟨W6, rfl⟩
      have hB5 := hB6
      have hk5 := hk6
      clear hB6 hk6
      have hbl : b < W5.heap.size := Nat.lt_of_lt_of_le hb hk5.size
      have d1 : W5.cell? ⟨b, off + (p + 1), none⟩ = some (.float .f64 py) := by rw [(Stab.own_cell hk5 b hb).1]; exact c1
      have d2 : W5.cell? ⟨b, off + (p + 2), none⟩ = some (.float .f64 pz) := by rw [(Stab.own_cell hk5 b hb).1]; exact c2
      have d3 : W5.cell? ⟨b, off + (p + 3), none⟩ = some (.float .f64 pm) := by rw [(Stab.own_cell hk5 b hb).1]; exact c3
      have t0 := hB5.cell (i := 0) rfl
      have t1 := hB5.cell (i := 1) rfl
      have t2 := hB5.cell (i := 2) rfl
      have t3 := hB5.cell (i := 3) rfl
      have tf := hB5.free
      have tl := hB5.lt
      go_wp2_with (at_builtin; (refine append_grow (w0 := w) plS rfl _ _ 154 rfl 212 i0 _ 4 32 Tryz.underlying154 HI.out HZ0.out HZ1.out HZ2.out rfl (by decide) _ k (ps.take k) rfl (hG.keep plS ?c0) _ 1 [.float .f64 px, .float .f64 py, .float .f64 pz, .float .f64 pm] rfl rfl ?c1 ?c2 ?c3 ?c4 ⟨px, py, pz, pm⟩ no rfl ?c5 ?c6 ?_))
      case c0 => with_reducible (repeat first | exact Kx.r _ | assumption | refine Kx.a ?_ _ | refine Kx.d ?_ | refine Kx.e ?_ _ | refine Kx.s (by simp <;> omega) ?_ _ | refine Kx.t ?_ (by assumption))
      case c1 => exact new_cells _ _ _ _ (by simp)
      case c2 => intro u hu; simp at hu; rcases hu with rfl | rfl | rfl | rfl <;> rfl
      case c3 => unfold maxLen; omega
      case c4 => omega
      case c5 => exact fun b hb => hb.elim
      case c6 => exact fun g _ hb => hb.elim
      intro al' c' w5 hG6 hsz5
      rw [← HTK.out] at hG6
      clear hG t0 t1 t2 t3 tf tl hB5 hk5 d1 d2 d3
      go_wp2_with fail
      go_roundw
      case rel => exact ⟨k + 1, p + 4, by omega, by have := HP.out; omega, by go_num, hG6⟩
      case measure => simp [intOf]; omega
    · obtain rfl : k = ps.length := by omega
      have hd1 : decide ((p : Int) + 4 ≤ n) = false := decide_eq_false (by have := HNN.out; omega)
      clear hp
      rw [List.take_length] at hG
      obtain ⟨css, hR⟩ := hG.toRows plS
      clear hG
      go_wp2_with fail
      go_ret
      exact ⟨al, c0, css, rfl, hk, hR.mono (fun b _ hb => .inr hb) (fun c x hx => hx)⟩
theorem places_ (d : Nat) (hd : d < 4) (ps : List Pl) (hps : ∀ p ∈ ps, p.norm d) (hsm : ps.length ≤ 250000) (a : Option Addr) (n cap : Nat) (w : World) (hn : n = ps.length * wid d) (h : Sz w a n cap 1 (encN (numsOf d ps))) :
    Calls Tryz.prog 92 #[.slice a n cap, .int .i64 d] w (RetS w no PlR 4 ps.length ps) := by
  have : d = 0 ∨ d = 1 ∨ d = 2 ∨ d = 3 := by omega
  rcases this with rfl | rfl | rfl | rfl
  · exact places0_ ps hps hsm a n cap w hn h
  · exact places1_ ps hps hsm a n cap w hn h
  · exact places2_ ps hps hsm a n cap w hn h
  · exact places3_ ps hps hsm a n cap w hn h
end Go.Proofs.YtbakhldjfplbfaaGreat
