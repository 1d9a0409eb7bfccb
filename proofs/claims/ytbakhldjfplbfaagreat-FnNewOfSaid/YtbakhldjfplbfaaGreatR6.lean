/-
  FnNewOf returns true at every input: the walk of the law. No condition.
-/
import Derived.Test.YtbakhldjfplbfaaGreatR5
set_option linter.unusedVariables false
set_option linter.unusedSimpArgs false
namespace Go.Proofs.YtbakhldjfplbfaaGreat
open Go.RowKit Go.Fl Go.Sl Go.Pg Go.Ch Go.Kf
theorem rows_gt {w : World} {F : Nat → Prop} {al : Option Addr} {m c : Nat} {css : List (List Value)} {ys : List Pg} (hR : Go.Kf.Rows w F GmR al m c 4 css ys) : ∃ qs : List GT, qs.length = m ∧ Sz w al m c 4 (qs.flatMap GT.cells) ∧ (∀ q ∈ qs, q.At w) ∧ ∀ i (a : i < qs.length) (b : i < ys.length), GT.Is qs[i] ys[i] := by
  have lc := hR.lc
  have lx := hR.lx
  obtain ⟨qs, hq1, hq2⟩ := choose_list (p := fun (i : Nat) (t : GT) => ∀ (h1 : i < css.length) (h2 : i < ys.length), css[i] = t.cells ∧ t.At w ∧ t.Is ys[i]) (List.range m) (fun i hi => by
    have hi' : i < m := by simpa using hi
    obtain ⟨t, ht⟩ := GmR.gt (hR.is i (by omega) (by omega))
    exact ⟨t, fun _ _ => ht⟩)
  simp at hq1
  have hcs : css = qs.map GT.cells := by
    refine List.ext_getElem (by simp; omega) fun i a b => ?_
    rw [List.getElem_map]
    have h2 := hq2 i (by simp; omega) (by simp at b; omega)
    simp only [List.getElem_range] at h2
    exact (h2 a (by omega)).1
  refine ⟨qs, hq1, by rw [List.flatMap_def, ← hcs]; exact hR.sz.sz, fun q hq => ?_, fun i a b => ?_⟩
  · obtain ⟨j, hj, rfl⟩ := List.getElem_of_mem hq
    have h2 := hq2 j (by simp; omega) hj
    simp only [List.getElem_range] at h2
    exact (h2 (by omega) (by omega)).2.1
  · have h2 := hq2 i (by simp; omega) a
    simp only [List.getElem_range] at h2
    exact (h2 (by omega) (by omega)).2.2
set_option maxRecDepth 100000 in
theorem joined_ (kind : Nat) (hk6 : kind ≤ 6) (k1 : kind ≠ 1) (k2 : kind ≠ 2) {F : Nat → Prop} (al : Option Addr) (m c : Nat) (css : List (List Value)) (ys : List Pg) (w : World) (hR : Go.Kf.Rows w F GmR al m c 4 css ys) (hm : m ≤ 1000) (hM : ∀ p ∈ ys, PgMade p) (hN : ∀ p ∈ ys, PgNum 1000 p) :
    Calls Tryz.prog 25 #[.int .i64 kind, .slice al m c] w (RetR w no GmR (wholeP kind 0 (ys.filter (takes kind)))) := by
  obtain ⟨qs, h1, h2, h3, h4⟩ := rows_gt hR
  have lx := hR.lx
  have hm2 : qs.map newP = ys := by
    refine List.ext_getElem (by simp; omega) fun i a b => ?_
    rw [List.getElem_map]
    exact newP_is (hM _ (List.getElem_mem _)) _ (h4 i (by simpa using a) b)
  have hsm : (GT.node ⟨kind, 0, none, 0, 0, al, m, c⟩ [] qs).Small := .mk _ _ _ (by simp) (by omega) (fun t ht => by
    obtain ⟨j, hj, rfl⟩ := List.getElem_of_mem ht
    exact small_is (hN _ (List.getElem_mem _)) _ (h4 j hj (by omega)))
  have hw := newP_whole ⟨kind, 0, none, 0, 0, al, m, c⟩ [] qs (by show kindN (kind : Int) ≠ 1; rw [kindN_of kind hk6]; exact k1) (by show kindN (kind : Int) ≠ 2; rw [kindN_of kind hk6]; exact k2)
  simp only [kindN_of kind hk6, hm2] at hw
  have hd0 : dim4 0 = 0 := by decide
  rw [hd0] at hw
  have hS := fun w' (hk : Stab.Keeps w w') => newSpec_ (.node ⟨kind, 0, none, 0, 0, al, m, c⟩ [] qs) w' (GT.At.keep hk (.mk _ _ _ rfl h1 (Sz.nil _ _) h2 h3)) hsm
  rw [hw] at hS
  simp only [GT.hd, Gm.val] at hS
  generalize wholeP kind 0 (ys.filter (takes kind)) = P at *
  clear hw hsm hm2 h1 h2 h3 h4 hR hM hN lx
  go_enter Tryz.func25, Tryz.ntmps25
  go_wp2_with fail
  have hkA : Stab.Keeps w (w.alloc (.cells #[.int .i64 0, .int .i64 0, .slice none 0 0, .slice none 0 0] 25)) := by with_reducible (repeat (first | exact Kx.r _ | assumption | refine Kx.a ?_ _ | refine Kx.d ?_ | refine Kx.e ?_ _ | (refine Kx.s ?_ ?_ _; focus (first | (simp; done) | (simp; omega))) | refine Kx.t ?_ (by assumption)))
  have hBA : Blk (w.alloc (.cells #[.int .i64 0, .int .i64 0, .slice none 0 0, .slice none 0 0] 25)) w.heap.size 25 [.int .i64 0, .int .i64 0, .slice none 0 0, .slice none 0 0] := by with_reducible (repeat (first | assumption | ((refine Bx.n ⟨?_, ?_⟩) <;> focus (first | rfl | (simp; done) | omega)) | refine Bx.a ?_ _ | refine Bx.d ?_ | refine Bx.e ?_ _ | (refine Bx.p ?_ ?_; focus (first | (simp; done) | (simp; omega) | omega))))
  refine (hS _ hkA).mono ?_
  clear hS
  generalize (w.alloc (.cells #[.int .i64 0, .int .i64 0, .slice none 0 0, .slice none 0 0] 25)) = WA at *
  rintro e w5 ⟨cs5, rfl, hk5, hx⟩
  obtain ⟨zk, zd, zna, znn, znc, zka, zkn, zkc, rfl⟩ := hx.four
  have hkC : Stab.Keeps w w5 := Stab.Keeps.trans hkA hk5
  have hBC := hBA.keep hk5
  have hsA : w.heap.size < WA.heap.size := hBA.lt
  clear hkA hk5 hBA
  have g0 := hBC.cell (i := 0) rfl
  have g1 := hBC.cell (i := 1) rfl
  have g2 := hBC.cell (i := 2) rfl
  have g3 := hBC.cell (i := 3) rfl
  have gf := hBC.free
  have gl := hBC.lt
  have hBn := (((hBC.set 0 (.int .i64 zk)).set 1 (.int .i64 zd)).set 2 (.slice zna znn znc)).set 3 (.slice zka zkn zkc)
  simp only [List.set] at hBn
  have hkz : Stab.Keeps w ((((w5.setCell ⟨w.heap.size, 0, none⟩ (.int .i64 zk)).setCell ⟨w.heap.size, 1, none⟩ (.int .i64 zd)).setCell ⟨w.heap.size, 2, none⟩ (.slice zna znn znc)).setCell ⟨w.heap.size, 3, none⟩ (.slice zka zkn zkc)) := by with_reducible (repeat (first | exact Kx.r _ | assumption | refine Kx.a ?_ _ | refine Kx.d ?_ | refine Kx.e ?_ _ | (refine Kx.s ?_ ?_ _; focus (first | (simp; done) | (simp; omega))) | refine Kx.t ?_ (by assumption)))
  have hxn := gmS.kf (gmS.mono (G := fun b => w.heap.size + 1 ≤ b) hx (fun b hbl hb => by exact hb.elim (fun h => h.elim) (fun h => by omega))) (w' := ((((w5.setCell ⟨w.heap.size, 0, none⟩ (.int .i64 zk)).setCell ⟨w.heap.size, 1, none⟩ (.int .i64 zd)).setCell ⟨w.heap.size, 2, none⟩ (.slice zna znn znc)).setCell ⟨w.heap.size, 3, none⟩ (.slice zka zkn zkc))) (((((KF.refl _ _).set (fun h => by first | (simp at h; done) | (simp at h; omega))).set (fun h => by first | (simp at h; done) | (simp at h; omega))).set (fun h => by first | (simp at h; done) | (simp at h; omega))).set (fun h => by first | (simp at h; done) | (simp at h; omega)))
  clear hx
  go_wp2_with fail
  generalize ((((w5.setCell ⟨w.heap.size, 0, none⟩ (.int .i64 zk)).setCell ⟨w.heap.size, 1, none⟩ (.int .i64 zd)).setCell ⟨w.heap.size, 2, none⟩ (.slice zna znn znc)).setCell ⟨w.heap.size, 3, none⟩ (.slice zka zkn zkc)) = Wz at *
  clear hBC g0 g1 g2 g3 gf gl
  have y0 := hBn.cell (i := 0) rfl
  have y1 := hBn.cell (i := 1) rfl
  have y2 := hBn.cell (i := 2) rfl
  have y3 := hBn.cell (i := 3) rfl
  have yf := hBn.free
  have yl := hBn.lt
  refine bodyPost_ret (v := .agg #[.int .i64 zk, .int .i64 zd, .slice zna znn znc, .slice zka zkn zkc]) (by simp [results, Tryz.results25, go_sem, *]) rfl ⟨[.int .i64 zk, .int .i64 zd, .slice zna znn znc, .slice zka zkn zkc], rfl, hkz, ?_⟩
  exact gmS.mono hxn (fun b _ hb => .inr (by omega))
theorem takes_kid2 (k : Nat) (p : Pg) (hk : k ≤ 6) : takes k p = (decide (kidI k < 0) || decide ((p.kind : Int) = kidI k)) := by
  by_cases h1 : k = 1
  · subst h1; rfl
  by_cases h2 : k = 2
  · subst h2; rfl
  rw [takes_kid k p hk h1 h2]
  congr 1
  rw [Bool.eq_iff_iff]
  simp only [decide_eq_true_eq]
  exact ⟨fun h => h.symm, fun h => h.symm⟩
/-- what the last region makes -/
structure EndF (B : Nat) (p : Pg) (k : Nat) (v : Value) (w : World) : Prop where
  f8 : k = 8 → ∃ (zk zd : Nat) (na : Option Addr) (nn nc : Nat) (ka : Option Addr) (kn kc : Nat), v = .agg #[.int .i64 zk, .int .i64 zd, .slice na nn nc, .slice ka kn kc] ∧ GmR w (fun b => B ≤ b) [.int .i64 zk, .int .i64 zd, .slice na nn nc, .slice ka kn kc] p
  f9 : k = 9 → v = .bool true
theorem endPre (B : Nat) (p : Pg) : Stab.Pre Stab.Keeps (EndF B p) :=
  ⟨Stab.Keeps.refl, Stab.Keeps.trans, fun k v w w' hk hF => ⟨fun e => by
    obtain ⟨a1, a2, a3, a4, a5, a6, a7, a8, h1, h2⟩ := hF.f8 e
    exact ⟨a1, a2, a3, a4, a5, a6, a7, a8, h1, gmS.kf h2 (KF.keeps hk)⟩, fun e => hF.f9 e⟩⟩
theorem gm_val {t : GT} {zk zd : Nat} {na ka : Option Addr} {nn nc kn kc : Nat} (h : ([.int .i64 zk, .int .i64 zd, .slice na nn nc, .slice ka kn kc] : List Value) = t.cells) : t.hd.val = .agg #[.int .i64 zk, .int .i64 zd, .slice na nn nc, .slice ka kn kc] := by
  obtain ⟨⟨a0, a1, a2, a3, a4, a5, a6, a7⟩, nums, kids⟩ := t
  simp only [GT.cells, GT.hd, Gm.cells, Gm.val] at h ⊢
  injection h with e0 h
  injection h with e1 h
  injection h with e2 h
  injection h with e3 h
  injection e0 with _ e0
  injection e1 with _ e1
  injection e2 with e21 e22 e23
  injection e3 with e31 e32 e33
  subst e0 e1 e21 e22 e23 e31 e32 e33
  rfl
set_option maxRecDepth 100000 in
set_option maxHeartbeats 4000000 in
theorem newOfLaw_ (kind : Int) (a : Option Addr) (n cap : Nat) (ts : List GT) (w : World) (hn : ts.length = n) (hS : Sz w a n cap 4 (ts.flatMap GT.cells)) (hA : ∀ t ∈ ts, t.At w) (hR : ∀ t ∈ ts, t.Reach) : Calls Tryz.prog 5 #[.int .i64 kind, .slice a n cap] w (LawPost w) := by
  obtain ⟨i0, hi, hz0, hz1, hz2⟩ := info_parts infoGm
  have HI := Lib.hid hi
  have HZ0 := Lib.hid hz0
  have HZ1 := Lib.hid hz1
  have HZ2 := Lib.hid hz2
  clear hi hz0 hz1 hz2
  have hle := hS.le
  have hmx := hS.max
  unfold maxLen at hmx
  by_cases h20 : 20 < n
  · have d1 : decide ((20 : Int) < (n : Int)) = true := by simp; omega
    have d2 : decide ((n : Int) > 20) = true := by simp; omega
    have d3 : decide (20 < n) = true := by simp; omega
    by_cases hz : (2147483647 : Int) < n
    · go_enter Tryz.func5, Tryz.ntmps5
      go_wp2_with fail
      go_ret
      exact ⟨rfl, Stab.Keeps.refl _⟩
    · go_enter Tryz.func5, Tryz.ntmps5
      go_wp2_with fail
      go_ret
      exact ⟨rfl, Stab.Keeps.refl _⟩
  have d1 : decide ((20 : Int) < (n : Int)) = false := by simp; omega
  have d2 : decide ((n : Int) > 20) = false := by simp; omega
  have d3 : decide (20 < n) = false := by simp; omega
  have d4 : decide ((2147483647 : Int) < (n : Int)) = false := by simp; omega
  have d5 : decide ((n : Int) > 2147483647) = false := by simp; omega
  have d6 : decide (2147483647 < n) = false := by simp; omega
  have hn20 : n ≤ 20 := by omega
  clear h20
  by_cases hneg : kind < 0
  · have e1 : decide (kind < 0) = true := by simpa using hneg
    go_enter Tryz.func5, Tryz.ntmps5
    go_wp2_with fail
    go_ret
    exact ⟨rfl, Stab.Keeps.refl _⟩
  have e1 : decide (kind < 0) = false := by simpa using hneg
  by_cases hbig : 6 < kind
  · have e2 : decide (kind > 6) = true := by simpa using hbig
    have e3 : decide (6 < kind) = true := by simpa using hbig
    go_enter Tryz.func5, Tryz.ntmps5
    go_wp2_with fail
    go_ret
    exact ⟨rfl, Stab.Keeps.refl _⟩
  have e2 : decide (kind > 6) = false := by simpa using hbig
  have e3 : decide (6 < kind) = false := by simpa using hbig
  obtain ⟨K, rfl⟩ : ∃ K : Nat, kind = K := ⟨kind.toNat, by omega⟩
  have hK6 : K ≤ 6 := by omega
  clear hneg hbig
  have hKA := fun (i : Nat) (hi : i < ts.length) (w' : World) (hk : Stab.Keeps w w') => kAny_ ts[i] w w' (hA _ (List.getElem_mem hi)) (hR _ (List.getElem_mem hi)) hk
  have HN := Lib.hid hn
  have HA := Lib.hid hA
  have HKA := Lib.hid hKA
  have hKO := fun w' => kidOf_ K hK6 w'
  obtain ⟨κ, hκ⟩ : ∃ κ : Int, kidI K = κ := ⟨_, rfl⟩
  rw [hκ] at hKO
  have HKK := Lib.hid hκ
  clear hn hA hR hKA hκ
  go_enter Tryz.func5, Tryz.ntmps5
  go_wp2_with fail
  have hG0 : GrowB w.heap.size w GmR 25 4 0 (.slice none 0 0) (((ts.take 0).map newP).filter (takes K)) := by simpa using GrowB.nil w.heap.size w GmR 25 4 (Nat.le_refl _)
  go_loopw [5, 29] (fun v iv wr => ∃ (k m : Nat) (al : Option Addr) (c : Nat), k ≤ n ∧ m ≤ k ∧ iv = .int .i64 k ∧ v = .slice al m c ∧ Stab.Keeps w wr ∧ (∀ j (hj : j < ts.length), j < k → ts[j].Any) ∧ GrowB w.heap.size wr GmR 25 4 m (.slice al m c) (((ts.take k).map newP).filter (takes K))) (fun _ iv _ => n - (intOf iv).toNat)
  case atStart => exact ⟨0, 0, none, 0, by omega, by omega, rfl, rfl, Stab.Keeps.refl _, fun j _ hj => by omega, hG0⟩
  case round =>
    clear hG0
    obtain ⟨k, m, al, c, hk, hmk, rfl, rfl, hkw, hall, hG⟩ := hrel
    by_cases hlt : k < n
    · obtain ⟨b, off, ha, hb, hc⟩ := (hS.keep hkw).elem hlt
      subst ha
      have hkk : k < ts.length := by have := HN.out; omega
      obtain ⟨c0, c1, c2, c3⟩ := kid_cells (T := []) hkk HN.out hc
      have hKa := fun w' hk' => HKA.out k hkk w' hk'
      have hNw := fun w' (hk' : Stab.Keeps w w') (hs : (ts[k]).Small) => newSpec_ ts[k] w' ((HA.out _ (List.getElem_mem _)).keep hk') hs
      have hsm := fun (h : (ts[k]).Any) => h.small
      have hnext : ∀ j (hj : j < ts.length), (ts[k]).Any → j < k + 1 → ts[j].Any := fun j hj h hl => by
        rcases Nat.lt_or_ge j k with h1 | h1
        · exact hall j hj h1
        · have : j = k := by omega
          subst this; exact h
      have hsn : ((ts.take (k + 1)).map newP).filter (takes K) = if takes K (newP ts[k]) then ((ts.take k).map newP).filter (takes K) ++ [newP ts[k]] else ((ts.take k).map newP).filter (takes K) := by rw [List.take_succ_eq_append_getElem hkk, List.map_append]; exact filter_snoc _ _ _
      have htk := takes_kid2 K (newP ts[k]) hK6
      rw [HKK.out] at htk
      have HSN := Lib.hid hsn
      have HTK := Lib.hid htk
      have HNX := Lib.hid hnext
      clear hc hsn htk hnext hall
      generalize hXe : ts[k]'hkk = X at *
      generalize newP X = y at *
      generalize X.Any = XA at *
      generalize X.Small = XS at *
      obtain ⟨⟨xk, xd, xna, xnn, xnc, xka, xkn, xkc⟩, xnums, xkids⟩ := X
      simp only [GT.hd, Gm.val] at c0 c1 c2 c3 hKa hNw
      clear hXe
      have HNW := Lib.hid hNw
      clear hNw
      generalize hYe : ((ts.take k).map newP).filter (takes K) = ys at *
      go_upto_region 9 with (fail)
      have hkX : Stab.Keeps wr (wr.alloc (.cells #[.int .i64 xk, .int .i64 xd, .slice xna xnn xnc, .slice xka xkn xkc] 25)) := by with_reducible (repeat (first | exact Kx.r _ | assumption | refine Kx.a ?_ _ | refine Kx.d ?_ | refine Kx.e ?_ _ | (refine Kx.s ?_ ?_ _; focus (first | (simp; done) | (simp; omega))) | refine Kx.t ?_ (by assumption)))
      have hBX : Blk (wr.alloc (.cells #[.int .i64 xk, .int .i64 xd, .slice xna xnn xnc, .slice xka xkn xkc] 25)) wr.heap.size 25 [.int .i64 xk, .int .i64 xd, .slice xna xnn xnc, .slice xka xkn xkc] := by with_reducible (repeat (first | assumption | ((refine Bx.n ⟨?_, ?_⟩) <;> focus (first | rfl | (simp; done) | omega)) | refine Bx.a ?_ _ | refine Bx.d ?_ | refine Bx.e ?_ _ | (refine Bx.p ?_ ?_; focus (first | (simp; done) | (simp; omega) | omega))))
      generalize (wr.alloc (.cells #[.int .i64 xk, .int .i64 xd, .slice xna xnn xnc, .slice xka xkn xkc] 25)) = W1 at *
      have t0 := hBX.cell (i := 0) rfl
      have t1 := hBX.cell (i := 1) rfl
      have t2 := hBX.cell (i := 2) rfl
      have t3 := hBX.cell (i := 3) rfl
      have tf := hBX.free
      have tl := hBX.lt
      go_wp2_with fail
      refine (hKa _ (Stab.Keeps.trans hkw hkX)).mono ?_
      clear hKa
      rintro e w2 ⟨⟨bb, rfl, hbb⟩, hk2⟩
      have hkr2 := Stab.Keeps.trans hkX hk2
      have hkw2 := Stab.Keeps.trans hkw hkr2
      have hB2 := hBX.keep hk2
      clear hkX hk2 hBX t0 t1 t2 t3 tf tl c0 c1 c2 c3
      cases bb with
      | false =>
        clear hG
        go_wp2_with fail
        go_ret
        exact ⟨rfl, hkw2⟩
      | true =>
      have hXA := hbb rfl
      have hXS := hsm hXA
      have t0 := hB2.cell (i := 0) rfl
      have t1 := hB2.cell (i := 1) rfl
      have t2 := hB2.cell (i := 2) rfl
      have t3 := hB2.cell (i := 3) rfl
      have tf := hB2.free
      have tl := hB2.lt
      go_wp2_with fail
      refine (HNW.out _ hkw2 hXS).mono ?_
      rintro e w3 ⟨cs3, rfl, hk3, hx3⟩
      obtain ⟨zk, zd, zna, znn, znc, zka, zkn, zkc, rfl⟩ := hx3.four
      have hzk : zk = y.kind := by have := hx3.kd.1; omega
      have hkr3 := Stab.Keeps.trans hkr2 hk3
      have hkw3 := Stab.Keeps.trans hkw hkr3
      have hG3 := hG.keep gmS hkr3
      have hs3 : wr.heap.size ≤ w2.heap.size := hkr2.size
      have hgl : w.heap.size ≤ wr.heap.size := hG.size
      have hown : ∀ g, (Value.slice al m c).ownBlock = some g → g < wr.heap.size := fun g hg => (hG.own hg).2
      have HZK := Lib.hid hzk
      clear hkr2 hkw2 hB2 hk3 hG hkr3 hkw t0 t1 t2 t3 tf tl hzk hbb
      go_upto_region 12 with (fail)
      have hkN : Stab.Keeps w3 (w3.alloc (.cells #[.int .i64 zk, .int .i64 zd, .slice zna znn znc, .slice zka zkn zkc] 25)) := by with_reducible (repeat (first | exact Kx.r _ | assumption | refine Kx.a ?_ _ | refine Kx.d ?_ | refine Kx.e ?_ _ | (refine Kx.s ?_ ?_ _; focus (first | (simp; done) | (simp; omega))) | refine Kx.t ?_ (by assumption)))
      have hBN : Blk (w3.alloc (.cells #[.int .i64 zk, .int .i64 zd, .slice zna znn znc, .slice zka zkn zkc] 25)) w3.heap.size 25 [.int .i64 zk, .int .i64 zd, .slice zna znn znc, .slice zka zkn zkc] := by with_reducible (repeat (first | assumption | ((refine Bx.n ⟨?_, ?_⟩) <;> focus (first | rfl | (simp; done) | omega)) | refine Bx.a ?_ _ | refine Bx.d ?_ | refine Bx.e ?_ _ | (refine Bx.p ?_ ?_; focus (first | (simp; done) | (simp; omega) | omega))))
      have hx4 : GmR (w3.alloc (.cells #[.int .i64 zk, .int .i64 zd, .slice zna znn znc, .slice zka zkn zkc] 25)) (fun b => w2.heap.size ≤ b ∧ b < w3.heap.size) [.int .i64 zk, .int .i64 zd, .slice zna znn znc, .slice zka zkn zkc] y := gmS.kf (gmS.mono hx3 (fun b hb hf => hf.elim (fun h => h.elim) (fun h => ⟨h, hb⟩))) ((KF.refl _ _).alloc _)
      have hs4 : w3.heap.size < (w3.alloc (.cells #[.int .i64 zk, .int .i64 zd, .slice zna znn znc, .slice zka zkn zkc] 25)).heap.size := by simp
      generalize (w3.alloc (.cells #[.int .i64 zk, .int .i64 zd, .slice zna znn znc, .slice zka zkn zkc] 25)) = W4 at *
      have hkw4 := Stab.Keeps.trans hkw3 hkN
      have hG4 := hG3.keep gmS hkN
      clear hkw3 hG3 hx3
      have t0 := hBN.cell (i := 0) rfl
      have t1 := hBN.cell (i := 1) rfl
      have t2 := hBN.cell (i := 2) rfl
      have t3 := hBN.cell (i := 3) rfl
      have tf := hBN.free
      have tl := hBN.lt
      by_cases hkn : κ < 0
      · have q1 : decide (κ < 0) = true := by simpa using hkn
        have htrue : takes K y = true := by rw [HTK.out, q1]; rfl
        have HTR := Lib.hid htrue
        clear hkn htrue
        refine Stab.keep_region (fun _ _ _ => True) (fun _ => false) (fun k => k == 1 || k == 7) Stab.pre_none (by kernel_rfl) (by kernel_rfl) fun hcx => ?_
        (with_reducible refine Stab.quiet ?_ ?_ ?_ ?_); rfl; rfl; rfl; intro K hK; go_big_quiet_op; refine hK _ ?_; clear hK K
        (with_reducible refine Stab.one ?_ ?_ ?_ ?_); rfl; rfl; rfl
        apply Exists.intro
        refine ⟨fun w1 hw1 => ?_, fun K hK => ?_⟩
        · go_simp
          (go_at_call 22; exact hKO _)
        go_simp
        refine hK _ ?_
        clear hK K
        (with_reducible refine Stab.quiet ?_ ?_ ?_ ?_); rfl; rfl; rfl; intro K hK; go_big_quiet_op; refine hK _ ?_; clear hK K
        (with_reducible refine Stab.quiet ?_ ?_ ?_ ?_); rfl; rfl; rfl; intro K hK; go_big_quiet_op; refine hK _ ?_; clear hK K
        (with_reducible refine Stab.skip ?_ ?_); rfl; intro K hK; go_simp; refine hK _ ?_; clear hK K
        (with_reducible refine Stab.skip ?_ ?_); rfl; intro K hK; go_simp; refine hK _ ?_; clear hK K
        (with_reducible refine Stab.skip ?_ ?_); rfl; intro K hK; go_simp; refine hK _ ?_; clear hK K
        (with_reducible refine Stab.skip ?_ ?_); rfl; intro K hK; go_simp; refine hK _ ?_; clear hK K
        (with_reducible refine Stab.skip ?_ ?_); rfl; intro K hK; go_simp; refine hK _ ?_; clear hK K
        (with_reducible refine Stab.quiet ?_ ?_ ?_ ?_); rfl; rfl; rfl; intro K hK; go_big_quiet_op; refine hK _ ?_; clear hK K
        refine Stab.nil fun w6 hk6 _ => ?_
        have hkw6 := Stab.Keeps.trans hkw4 hk6
        have hG6 : GrowB w.heap.size (w6.alloc (.cells #[.int .i64 zk, .int .i64 zd, .slice zna znn znc, .slice zka zkn zkc] 25)) GmR 25 4 m (.slice al m c) ys := (hG4.keep gmS hk6).keep gmS ((Stab.Keeps.refl w6).alloc _)
        have hx6 : GmR (w6.alloc (.cells #[.int .i64 zk, .int .i64 zd, .slice zna znn znc, .slice zka zkn zkc] 25)) (fun b => w2.heap.size ≤ b ∧ b < w3.heap.size) [.int .i64 zk, .int .i64 zd, .slice zna znn znc, .slice zka zkn zkc] y := gmS.kf (gmS.kf hx4 (KF.keeps hk6)) ((KF.refl _ _).alloc _)
        have hB6 := hBN.keep hk6
        have hs6 : w3.heap.size < w6.heap.size := by have := hk6.size; omega
        have hone : ∀ u ∈ ([.int .i64 zk, .int .i64 zd, .slice zna znn znc, .slice zka zkn zkc] : List Value), u.oneCell' = true := hx6.ones
        have HG6 := Lib.hid hG6
        clear hcx hkw4 hk6 hG4 hx4 hBN t0 t1 t2 t3 tf tl hG6
        have t0 := hB6.cell (i := 0) rfl
        have t1 := hB6.cell (i := 1) rfl
        have t2 := hB6.cell (i := 2) rfl
        have t3 := hB6.cell (i := 3) rfl
        have tf := hB6.free
        have tl := hB6.lt
        go_wp2_with (at_builtin; (refine append_growB (B := w.heap.size) gmS rfl _ _ 23 rfl 25 i0 _ 4 64 Tryz.underlying23 HI.out HZ0.out HZ1.out HZ2.out rfl (by decide) _ m ys rfl HG6.out ⟨w6.heap.size, 0, none⟩ 1 [.int .i64 zk, .int .i64 zd, .slice zna znn znc, .slice zka zkn zkc] rfl rfl ?c1a hone ?c2a ?c3a y _ hx6 ?c4a ?c5a ?_))
        all_goals try (exact new_cells _ _ _ _ rfl)
        case c2a => unfold maxLen; omega
        case c3a => omega
        case c4a => intro b; intros; exact ⟨by omega, by first | omega | (simp; omega)⟩
        case c5a => intro g hg hb; have := hown g hg; omega
        intro al' c' w7 hG7 hB7 hgr
        have hk7 : Stab.Keeps w w7 := Below.trans (Stab.Keeps.alloc hkw6 _) hB7
        clear hx6 HG6 hown hgr hB7 hkw6 hB6 t0 t1 t2 t3 tf tl
        go_wp2_with fail
        exact ⟨⟨k + 1, m + 1, al', c', by omega, by omega, by simp, rfl, hk7, fun j hj hl => HNX.out j hj hXA hl, by rw [HSN.out, if_pos HTR.out]; exact hG7⟩, by simp [intOf]; omega⟩
      · have q1 : decide (κ < 0) = false := by simpa using hkn
        have HKN := Lib.hid hkn
        clear hkn
        by_cases hkd : (zk : Int) = κ
        · have q2 : ((zk : Int) == κ) = true := by simpa using hkd
          have q3 : decide ((zk : Int) = κ) = true := by simpa using hkd
          have htrue : takes K y = true := by rw [HTK.out, q1, ← HZK.out, q3]; rfl
          have HTR := Lib.hid htrue
          clear hkd htrue
          refine Stab.keep_region (fun _ _ _ => True) (fun _ => false) (fun k => k == 1 || k == 7) Stab.pre_none (by kernel_rfl) (by kernel_rfl) fun hcx => ?_
          repeat (first
            | (refine Stab.quiet rfl rfl rfl (fun K hK => ?_); go_big_quiet_op; refine hK _ ?_; clear hK K)
            | (refine Stab.one rfl rfl rfl ?_
               apply Exists.intro
               refine ⟨fun w1 hw1 => ?_, fun K hK => ?_⟩
               · go_simp
                 first | (go_at_call 22; exact hKO _)
               go_simp
               refine hK _ ?_
               clear hK K)
            | (refine Stab.skip rfl (fun K hK => ?_); go_simp; refine hK _ ?_; clear hK K))
          refine Stab.nil fun w6 hk6 _ => ?_
          have hkw6 := Stab.Keeps.trans hkw4 hk6
          have hG6 : GrowB w.heap.size (w6.alloc (.cells #[.int .i64 zk, .int .i64 zd, .slice zna znn znc, .slice zka zkn zkc] 25)) GmR 25 4 m (.slice al m c) ys := (hG4.keep gmS hk6).keep gmS ((Stab.Keeps.refl w6).alloc _)
          have hx6 : GmR (w6.alloc (.cells #[.int .i64 zk, .int .i64 zd, .slice zna znn znc, .slice zka zkn zkc] 25)) (fun b => w2.heap.size ≤ b ∧ b < w3.heap.size) [.int .i64 zk, .int .i64 zd, .slice zna znn znc, .slice zka zkn zkc] y := gmS.kf (gmS.kf hx4 (KF.keeps hk6)) ((KF.refl _ _).alloc _)
          have hB6 := hBN.keep hk6
          have hs6 : w3.heap.size < w6.heap.size := by have := hk6.size; omega
          have hone : ∀ u ∈ ([.int .i64 zk, .int .i64 zd, .slice zna znn znc, .slice zka zkn zkc] : List Value), u.oneCell' = true := hx6.ones
          have HG6 := Lib.hid hG6
          clear hcx hkw4 hk6 hG4 hx4 hBN t0 t1 t2 t3 tf tl hG6
          have t0 := hB6.cell (i := 0) rfl
          have t1 := hB6.cell (i := 1) rfl
          have t2 := hB6.cell (i := 2) rfl
          have t3 := hB6.cell (i := 3) rfl
          have tf := hB6.free
          have tl := hB6.lt
          go_wp2_with (at_builtin; (refine append_growB (B := w.heap.size) gmS rfl _ _ 23 rfl 25 i0 _ 4 64 Tryz.underlying23 HI.out HZ0.out HZ1.out HZ2.out rfl (by decide) _ m ys rfl HG6.out ⟨w6.heap.size, 0, none⟩ 1 [.int .i64 zk, .int .i64 zd, .slice zna znn znc, .slice zka zkn zkc] rfl rfl ?c1b hone ?c2b ?c3b y _ hx6 ?c4b ?c5b ?_))
          all_goals try (exact new_cells _ _ _ _ rfl)
          case c2b => unfold maxLen; omega
          case c3b => omega
          case c4b => intro b; intros; exact ⟨by omega, by first | omega | (simp; omega)⟩
          case c5b => intro g hg hb; have := hown g hg; omega
          intro al' c' w7 hG7 hB7 hgr
          have hk7 : Stab.Keeps w w7 := Below.trans (Stab.Keeps.alloc hkw6 _) hB7
          clear hx6 HG6 hown hgr hB7 hkw6 hB6 t0 t1 t2 t3 tf tl
          go_wp2_with fail
          exact ⟨⟨k + 1, m + 1, al', c', by omega, by omega, by simp, rfl, hk7, fun j hj hl => HNX.out j hj hXA hl, by rw [HSN.out, if_pos HTR.out]; exact hG7⟩, by simp [intOf]; omega⟩
        · have q2 : ((zk : Int) == κ) = false := by simpa using hkd
          have q3 : decide ((zk : Int) = κ) = false := by simpa using hkd
          have htrue : takes K y = false := by rw [HTK.out, q1, ← HZK.out, q3]; rfl
          have HTR := Lib.hid htrue
          clear hkd htrue
          refine Stab.keep_region (fun _ _ _ => True) (fun _ => false) (fun k => k == 1 || k == 7) Stab.pre_none (by kernel_rfl) (by kernel_rfl) fun hcx => ?_
          repeat (first
            | (refine Stab.quiet rfl rfl rfl (fun K hK => ?_); go_big_quiet_op; refine hK _ ?_; clear hK K)
            | (refine Stab.one rfl rfl rfl ?_
               apply Exists.intro
               refine ⟨fun w1 hw1 => ?_, fun K hK => ?_⟩
               · go_simp
                 first | (go_at_call 22; exact hKO _)
               go_simp
               refine hK _ ?_
               clear hK K)
            | (refine Stab.skip rfl (fun K hK => ?_); go_simp; refine hK _ ?_; clear hK K))
          refine Stab.nil fun w6 hk6 _ => ?_
          have hkw6 := Stab.Keeps.trans hkw4 hk6
          have hG6 := hG4.keep gmS hk6
          clear hcx hkw4 hk6 hG4 hx4 hBN t0 t1 t2 t3 tf tl
          go_wp2_with fail
          exact ⟨⟨k + 1, m, al, c, by omega, by omega, by simp, rfl, hkw6, fun j hj hl => HNX.out j hj hXA hl, by rw [HSN.out, if_neg (by rw [HTR.out]; decide)]; exact hG6⟩, by simp [intOf]; omega⟩
    · obtain rfl : n = k := by omega
      have hfull : ts.take n = ts := List.take_of_length_le (by rw [HN.out]; exact Nat.le_refl _)
      rw [hfull] at hG
      have hany : ∀ t ∈ ts, t.Any := fun t ht => by
        obtain ⟨j, hj, rfl⟩ := List.getElem_of_mem ht
        exact hall j hj (by have := HN.out; omega)
      have hNO := fun w' (hk : Stab.Keeps w w') => implNewOf_ K hK6 a n cap ts w' HN.out (by omega) (hS.keep hk) (fun t ht => (HA.out t ht).keep hk) (fun t ht => (hany t ht).small)
      have hN4 := fun w' => implNewOf_ 4 (by omega) none 0 0 [] w' rfl (by omega) (Sz.nil _ _) (by simp) (by simp)
      have hLf := fun w' => leaf_ K hK6 w'
      have hmade : ∀ p ∈ (ts.map newP).filter (takes K), PgMade p ∧ PgNum 1000 p ∧ PgReal p := fun p hp => by
        obtain ⟨t, ht, rfl⟩ := List.mem_map.1 (List.mem_filter.1 hp).1
        exact ⟨newP_made t, newP_num t (hany t ht).small, newP_real t (hany t ht).real⟩
      have hff : ((ts.map newP).filter (takes K)).filter (takes K) = (ts.map newP).filter (takes K) := by rw [List.filter_filter]; congr 1; funext x; simp
      have hmd : (K ≠ 1 ∧ K ≠ 2) → madeP K ts = wholeP K 0 ((ts.map newP).filter (takes K)) := fun h => by unfold madeP; rw [if_neg (by omega)]
      unfold ImplNewPost at hNO hN4
      generalize madeP K ts = P at *
      generalize (ts.map newP).filter (takes K) = ys at *
      obtain ⟨css, hRw⟩ := hG.toRows gmS
      have hm20 : m ≤ 1000 := by omega
      have HJ := Lib.hid (fun (w' : World) (hk : Stab.Keeps wr w') (h1 : K ≠ 1) (h2 : K ≠ 2) => joined_ K hK6 h1 h2 al m c css ys w' (hRw.kf (KF.keeps hk) (fun _ _ h => gmS.kf h (KF.keeps hk))) hm20 (fun p hp => (hmade p hp).1) (fun p hp => (hmade p hp).2.1))
      have HRE := Lib.hid (fun p hp => (hmade p hp).2.2)
      have HFF := Lib.hid hff
      have HMD := Lib.hid hmd
      clear hany hall hG hfull hmade hff hmd hRw hKO
      obtain ⟨bq, hbq⟩ : ∃ bq : Bool, (K == 1 || K == 2) = bq := ⟨_, rfl⟩
      simp only [hbq] at hNO hLf
      have hb4 : (!((4 : Nat) == 1 || (4 : Nat) == 2)) = true := by decide
      simp only [hb4] at hN4
      clear hb4
      go_wp2_with fail
      refine (hNO _ hkw).mono ?_
      clear hNO
      rintro e w2 ⟨zk, zd, zna, znn, znc, zka, zkn, zkc, rfl, hk2, hx2⟩
      go_upto_region 16 with (fail)
      have hkr2 : Stab.Keeps wr (w2.alloc (.cells #[.int .i64 zk, .int .i64 zd, .slice zna znn znc, .slice zka zkn zkc] 25)) := hk2.alloc _
      have hB2 : Blk (w2.alloc (.cells #[.int .i64 zk, .int .i64 zd, .slice zna znn znc, .slice zka zkn zkc] 25)) w2.heap.size 25 [.int .i64 zk, .int .i64 zd, .slice zna znn znc, .slice zka zkn zkc] := by with_reducible (repeat (first | assumption | ((refine Bx.n ⟨?_, ?_⟩) <;> focus (first | rfl | (simp; done) | omega)) | refine Bx.a ?_ _ | refine Bx.d ?_ | refine Bx.e ?_ _ | (refine Bx.p ?_ ?_; focus (first | (simp; done) | (simp; omega) | omega))))
      have hx3 := gmS.kf (w' := w2.alloc (.cells #[.int .i64 zk, .int .i64 zd, .slice zna znn znc, .slice zka zkn zkc] 25)) hx2 ((KF.refl _ _).alloc _)
      generalize hWX : w2.alloc (.cells #[.int .i64 zk, .int .i64 zd, .slice zna znn znc, .slice zka zkn zkc] 25) = W3 at *
      generalize w2.heap.size = b9 at *
      clear hk2 hx2 hWX
      go_wp2_with fail
      refine (hN4 _).mono ?_
      clear hN4
      rintro e w4 ⟨uk, ud, una, unn, unc, uka, ukn, ukc, rfl, hk4, _⟩
      have hkr4 := Stab.Keeps.trans hkr2 hk4
      have hB4 := hB2.keep hk4
      have hx4 := gmS.kf hx3 (KF.keeps hk4)
      clear hkr2 hB2 hx3 hk4
      go_upto_region 17 with (fail)
      have hkN : Stab.Keeps w4 (w4.alloc (.cells #[.int .i64 uk, .int .i64 ud, .slice una unn unc, .slice uka ukn ukc] 25)) := by with_reducible (repeat (first | exact Kx.r _ | assumption | refine Kx.a ?_ _ | refine Kx.d ?_ | refine Kx.e ?_ _ | (refine Kx.s ?_ ?_ _; focus (first | (simp; done) | (simp; omega))) | refine Kx.t ?_ (by assumption)))
      generalize (w4.alloc (.cells #[.int .i64 uk, .int .i64 ud, .slice una unn unc, .slice uka ukn ukc] 25)) = W5 at *
      have hkr5 := Stab.Keeps.trans hkr4 hkN
      have hB5 := hB4.keep hkN
      have hx5 := gmS.kf hx4 (KF.keeps hkN)
      clear hkr4 hB4 hx4 hkN
      go_wp2_with fail
      refine (hLf _).mono ?_
      clear hLf
      rintro e w6 ⟨rfl, hk6⟩
      have hkr6 := Stab.Keeps.trans hkr5 hk6
      have hB6 := hB5.keep hk6
      have hx6 := gmS.kf hx5 (KF.keeps hk6)
      clear hkr5 hB5 hx5 hk6
      cases bq with
      | true =>
        go_wp2_with fail
        go_ret
        exact ⟨rfl, Stab.Keeps.trans hkw hkr6⟩
      | false =>
        have hK12 : K ≠ 1 ∧ K ≠ 2 := by constructor <;> (intro h; subst h; simp at hbq)
        have hPe := HMD.out hK12
        have hreal : PgReal P := by rw [hPe]; exact wholeP_real _ _ HRE.out
        have hJ := fun w' hk => HJ.out w' hk hK12.1 hK12.2
        rw [HFF.out, ← hPe] at hJ
        have HJJ := Lib.hid hJ
        have HKR := Lib.hid hkr6
        clear hPe hJ HJ hbq hK12
        have t0 := hB6.cell (i := 0) rfl
        have t1 := hB6.cell (i := 1) rfl
        have t2 := hB6.cell (i := 2) rfl
        have t3 := hB6.cell (i := 3) rfl
        have tf := hB6.free
        have tl := hB6.lt
        go_upto_region 19 with (fail)
        refine Stab.keep_region (EndF wr.heap.size P) (fun k => k == 8 || k == 9) (fun _ => false) (endPre _ _) (by kernel_rfl) (by kernel_rfl) fun hcx => ?_
        repeat (first
          | (refine Stab.quiet rfl rfl rfl (fun K hK => ?_); go_big_quiet_op; refine hK _ ?_; clear hK K)
          | (refine Stab.one rfl rfl rfl ?_
             apply Exists.intro
             refine ⟨fun w1 hw1 => ?_, fun K hK => ?_⟩
             · go_simp
               first | fail
             go_simp
             refine hK _ ?_
             clear hK K)
          | (refine Stab.skip rfl (fun K hK => ?_); go_simp; refine hK _ ?_; clear hK K))
        refine Stab.made rfl rfl (fun w1 hk1 => ?_) (fun v hv K hK => ?_)
        · go_simp
          have hk1' : Stab.Keeps w6 w1 := hk1.1
          refine (HJJ.out _ (Stab.Keeps.trans HKR.out hk1')).mono ?_
          rintro e w2 ⟨cs2, rfl, hk2, hx2⟩
          obtain ⟨yk, yd, yna, ynn, ync, yka, ykn, ykc, rfl⟩ := hx2.four
          have hsz := (Stab.Keeps.trans HKR.out hk1').size
          exact ⟨_, rfl, hk2, fun _ => ⟨yk, yd, yna, ynn, ync, yka, ykn, ykc, rfl, gmS.mono hx2 (fun b _ hb => hb.elim (fun h => h.elim) (fun h => Nat.le_trans hsz h))⟩, fun e => by omega⟩
        obtain ⟨wv, _, _, hv⟩ := hv
        obtain ⟨yk, yd, yna, ynn, ync, yka, ykn, ykc, rfl, _⟩ := hv.f8 rfl
        go_simp
        refine hK _ ?_
        clear hK hv
        refine Stab.made rfl rfl (fun w1 hk1 => ?_) (fun v hv K hK => ?_)
        · go_simp
          have hk1' : Stab.Keeps w6 w1 := hk1.1
          have hf8 := Stab.setF_new (hk1.2 8 (by rfl))
          obtain ⟨vk, vd, vna, vnn, vnc, vka, vkn, vkc, he, hx8⟩ := hf8.f8 rfl
          injection he with he
          injection he with he
          simp only [List.cons.injEq, Value.int.injEq, Value.slice.injEq, true_and, and_true] at he
          obtain ⟨e0, e1, ⟨e2, e3, e4⟩, e5, e6, e7⟩ := he
          have f0 : vk = yk := by omega
          have f1 : vd = yd := by omega
          subst f0 f1 e2 e3 e4 e5 e6 e7
          obtain ⟨t8, ht8, hA8, hI8⟩ := hx8.gt
          obtain ⟨t9, ht9, hA9, hI9⟩ := (gmS.kf hx6 (KF.keeps hk1')).gt
          have hAl := alike_ P t9 t8 w1 hA9 hA8 hI9 hI8 hreal
          rw [gm_val ht8, gm_val ht9] at hAl
          refine hAl.mono ?_
          rintro e w2 ⟨rfl, hk2⟩
          exact ⟨_, rfl, hk2, fun e => by omega, fun _ => rfl⟩
        obtain ⟨wv, _, _, hv⟩ := hv
        obtain rfl := hv.f9 rfl
        go_simp
        refine hK _ ?_
        clear hK hv
        repeat (first
          | (refine Stab.quiet rfl rfl rfl (fun K hK => ?_); go_big_quiet_op; refine hK _ ?_; clear hK K)
          | (refine Stab.one rfl rfl rfl ?_
             apply Exists.intro
             refine ⟨fun w1 hw1 => ?_, fun K hK => ?_⟩
             · go_simp
               first | fail
             go_simp
             refine hK _ ?_
             clear hK K)
          | (refine Stab.skip rfl (fun K hK => ?_); go_simp; refine hK _ ?_; clear hK K))
        refine Stab.nil fun w7 hw7 hfs => ?_
        have hkz := Stab.Keeps.trans hkw (Stab.Keeps.trans HKR.out hw7)
        clear hcx hfs hw7
        go_wp2_with fail
        go_ret
        exact ⟨rfl, hkz⟩
end Go.Proofs.YtbakhldjfplbfaaGreat
