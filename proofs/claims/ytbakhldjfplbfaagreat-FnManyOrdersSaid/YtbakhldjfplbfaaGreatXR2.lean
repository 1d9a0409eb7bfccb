/-
  Polygons, multis, collections, geometries as plain data. No condition.
-/
import Derived.Test.YtbakhldjfplbfaaGreatXR1
import Derived.Test.YtbakhldjfplbfaaGreatXCp
import Derived.Test.YtbakhldjfplbfaaGreatXHb
set_option linter.unusedVariables false
set_option linter.unusedSimpArgs false
namespace Go.Proofs.YtbakhldjfplbfaaGreat
open Go.RowKit Go.Fl Go.Sl Go.Pg Go.Ch Go.Kf
set_option maxRecDepth 100000 in
set_option maxHeartbeats 2000000 in
theorem dumpRings_ {F : Nat → Prop} (cs : List Value) (p : Pg) (w : World) (h : PyR w F cs p) : Calls Tryz.prog 175 #[.agg cs.toArray] w (RetS w F LsR 2 p.kids.length p.kids) := by
  obtain ⟨d, a, n, cap, css, kids, rfl, rfl, hd, hn, hR, hdim⟩ := h
  have hmk := fun w => run_makeN (P := Tryz.prog) 119 99 _ 2 32 n Tryz.underlying119 infoLs (by omega) (by omega) w
  have hle := hR.sz.sz.le
  have hmx := hR.sz.sz.max
  unfold maxLen at hmx
  have hlk := hR.lx
  show Calls _ _ _ _ (RetS w F LsR 2 kids.length kids)
  rw [hlk]
  have hones := rows_ones hR (fun h => h.ones)
  have hkA : Stab.Keeps w ((w.alloc (.cells #[.slice a n cap, .int .u8 d] 121)).alloc (.cells (madeCells #[.int .u8 0, .slice none 0 0] (n * 2)) 99)) := by with_reducible (repeat first | exact Kx.r _ | assumption | refine Kx.a ?_ _ | refine Kx.d ?_ | refine Kx.e ?_ _ | refine Kx.s (by simp <;> omega) ?_ _ | refine Kx.t ?_ (by assumption))
  have hB0 : Blk ((w.alloc (.cells #[.slice a n cap, .int .u8 d] 121)).alloc (.cells (madeCells #[.int .u8 0, .slice none 0 0] (n * 2)) 99)) w.heap.size 121 [.slice a n cap, .int .u8 d] := Blk.alloc (by with_reducible (repeat first | assumption | (refine Bx.n ⟨?_, ?_⟩ <;> focus (first | rfl | (simp; done) | omega)) | refine Bx.a ?_ _ | refine Bx.d ?_ | refine Bx.e ?_ _ | refine Bx.p (by first | omega | simp <;> omega) ?_)) _
  have hg : ((w.alloc (.cells #[.slice a n cap, .int .u8 d] 121)).alloc (.cells (madeCells #[.int .u8 0, .slice none 0 0] (n * 2)) 99)).heap[w.heap.size + 1]? = some (.cells (madeCells #[.int .u8 0, .slice none 0 0] (n * 2)) 99 (0, 0)) := by
    have := heap_alloc_new (w.alloc (.cells #[.slice a n cap, .int .u8 d] 121)) (.cells (madeCells #[.int .u8 0, .slice none 0 0] (n * 2)) 99)
    simpa using this
  have hsz : (madeCells #[.int .u8 0, .slice none 0 0] (n * 2)).size = n * 2 := size_madeCells _ _
  have hRA := hR.kf (KF.keeps hkA) (fun _ _ h => lsS.kf h (KF.keeps hkA))
  generalize hmc : madeCells #[.int .u8 0, .slice none 0 0] (n * 2) = mc at *
  go_enter Tryz.func175, Tryz.ntmps175
  go_upto_region 2 with (fail)
  try simp only [hmc]
  generalize hWA : ((w.alloc (.cells #[.slice a n cap, .int .u8 d] 121)).alloc (.cells mc 99)) = WA at *
  have hfb : w.heap.size + 1 < WA.heap.size := (Array.getElem?_eq_some_iff.1 hg).1
  clear hWA hmk
  have t0 := hB0.cell (i := 0) rfl
  have t1 := hB0.cell (i := 1) rfl
  have tf := hB0.free
  have tl := hB0.lt
  go_wp2_with ((with_reducible_and_instances refine wpList_copy_all (w0 := WA) rfl _ _ 119 119 rfl 99 2 Tryz.underlying119 (by kernel_rfl) (w.heap.size + 1) n a cap ?z2 ?z3 mc 99 css.flatten ?z4 hsz ?z6 hones (w.heap.size + 1) ?z9 (Nat.le_refl _) ?_))
  case z2 => rfl
  case z3 => rfl
  case z4 => exact hg
  case z6 => exact hRA.sz.sz
  case z9 => exact Below.refl _ _
  intro w5 hG hB hs5
  have hk5 : Stab.Keeps w w5 := Below.trans hkA (Below.mono hB (by omega))
  clear t0 t1 tf tl
  go_wp2_with fail
  go_ret
  have hGo := hG.out
  have hown : w5.ownsRow (w.heap.size + 1) 99 2 (.slice (some ⟨w.heap.size + 1, 0, none⟩) n n) n css.flatten := by
    refine ⟨hR.sz.sz.len, .inr ⟨w.heap.size + 1, n, css.flatten.toArray, rfl, Nat.le_refl _, hGo, Nat.le_refl _, by unfold maxLen; omega, by simpa using hR.sz.sz.len, List.take_of_length_le (by rw [hR.sz.sz.len]; exact Nat.le_refl _)⟩⟩
  refine ⟨_, _, css, rfl, hk5, hR.lc, hlk, hR.each, SzF.of_owns hown (fun b hb => .inr (by omega)), fun i h1 h2 => ?_⟩
  exact lsS.mono (lsS.kf (hR.is i h1 h2) (KF.keeps hk5)) (fun b _ hb => .inl hb)
set_option maxRecDepth 100000 in
set_option maxHeartbeats 4000000 in
theorem plainMp_ {F : Nat → Prop} (cs : List Value) (p : Pg) (w : World) (h : MpR w F cs p) : Calls Tryz.prog 105 #[.agg cs.toArray] w (RetR w no GmR p) := by
  obtain ⟨i0, hi, hz0, hz1, hz2⟩ := info_parts infoGm
  have HI := Lib.hid hi
  have HZ0 := Lib.hid hz0
  have HZ1 := Lib.hid hz1
  have HZ2 := Lib.hid hz2
  clear hi hz0 hz1 hz2
  obtain ⟨d, a, n, cap, css, kids, rfl, rfl, hd, hn, hR, hdim⟩ := h
  have hwd : wrap64 (d : Int) = d := IntWalk.wrap64_in _ (by omega)
  have hle := hR.sz.sz.le
  have hmx := hR.sz.sz.max
  unfold maxLen at hmx
  have hlk := hR.lx
  have HLK := Lib.hid hlk
  clear hlk hd hdim
  go_enter Tryz.func105, Tryz.ntmps105
  go_wp2_with fail
  have hkw : Stab.Keeps w ((w.alloc (.cells #[.slice a n cap, .int .u8 d] 126)).alloc (.cells #[.int .i64 0, .int .i64 0, .slice none 0 0, .slice none 0 0] 25)) := by with_reducible (repeat first | exact Kx.r _ | assumption | refine Kx.a ?_ _ | refine Kx.d ?_ | refine Kx.e ?_ _ | refine Kx.s (by simp <;> omega) ?_ _ | refine Kx.t ?_ (by assumption))
  have hB1 : Blk ((w.alloc (.cells #[.slice a n cap, .int .u8 d] 126)).alloc (.cells #[.int .i64 0, .int .i64 0, .slice none 0 0, .slice none 0 0] 25)) w.heap.size 126 [.slice a n cap, .int .u8 d] := by with_reducible (repeat first | assumption | (refine Bx.n ⟨?_, ?_⟩ <;> focus (first | rfl | (simp; done) | omega)) | refine Bx.a ?_ _ | refine Bx.d ?_ | refine Bx.e ?_ _ | refine Bx.p (by first | omega | simp <;> omega) ?_)
  have hB2 : Blk ((w.alloc (.cells #[.slice a n cap, .int .u8 d] 126)).alloc (.cells #[.int .i64 0, .int .i64 0, .slice none 0 0, .slice none 0 0] 25)) (w.heap.size + 1) 25 [.int .i64 0, .int .i64 0, .slice none 0 0, .slice none 0 0] := by with_reducible (repeat first | assumption | (refine Bx.n ⟨?_, ?_⟩ <;> focus (first | rfl | (simp; done) | omega)) | refine Bx.a ?_ _ | refine Bx.d ?_ | refine Bx.e ?_ _ | refine Bx.p (by first | omega | simp <;> omega) ?_)
  generalize ((w.alloc (.cells #[.slice a n cap, .int .u8 d] 126)).alloc (.cells #[.int .i64 0, .int .i64 0, .slice none 0 0, .slice none 0 0] 25)) = W0 at *
  refine (numMp_ a n cap d _).mono ?_
  rintro e w4 ⟨rfl, hk4⟩
  replace hB1 := hB1.keep hk4
  replace hB2 := hB2.keep hk4
  replace hkw := Stab.Keeps.trans hkw hk4
  clear hk4
  have g0 := hB1.cell (i := 0) rfl
  have g1 := hB1.cell (i := 1) rfl
  have gf := hB1.free
  have gl := hB1.lt
  go_upto_region 2 with (fail)
  clear g0 g1 gf gl
  have hl2 := hB2.lt
  have hkwN : Stab.Keeps w (w4.alloc (.cells #[.int .i64 4, .int .i64 d, .slice none 0 0, .slice none 0 0] 25)) := by with_reducible (repeat first | exact Kx.r _ | assumption | refine Kx.a ?_ _ | refine Kx.d ?_ | refine Kx.e ?_ _ | refine Kx.s (by simp <;> omega) ?_ _ | refine Kx.t ?_ (by assumption))
  have hB1N : Blk (w4.alloc (.cells #[.int .i64 4, .int .i64 d, .slice none 0 0, .slice none 0 0] 25)) w.heap.size 126 [.slice a n cap, .int .u8 d] := by with_reducible (repeat first | assumption | (refine Bx.n ⟨?_, ?_⟩ <;> focus (first | rfl | (simp; done) | omega)) | refine Bx.a ?_ _ | refine Bx.d ?_ | refine Bx.e ?_ _ | refine Bx.p (by first | omega | simp <;> omega) ?_)
  have hB2N : Blk (w4.alloc (.cells #[.int .i64 4, .int .i64 d, .slice none 0 0, .slice none 0 0] 25)) (w.heap.size + 1) 25 [.int .i64 0, .int .i64 0, .slice none 0 0, .slice none 0 0] := by with_reducible (repeat first | assumption | (refine Bx.n ⟨?_, ?_⟩ <;> focus (first | rfl | (simp; done) | omega)) | refine Bx.a ?_ _ | refine Bx.d ?_ | refine Bx.e ?_ _ | refine Bx.p (by first | omega | simp <;> omega) ?_)
  have hB3N : Blk (w4.alloc (.cells #[.int .i64 4, .int .i64 d, .slice none 0 0, .slice none 0 0] 25)) w4.heap.size 25 [.int .i64 4, .int .i64 d, .slice none 0 0, .slice none 0 0] := by with_reducible (repeat first | assumption | (refine Bx.n ⟨?_, ?_⟩ <;> focus (first | rfl | (simp; done) | omega)) | refine Bx.a ?_ _ | refine Bx.d ?_ | refine Bx.e ?_ _ | refine Bx.p (by first | omega | simp <;> omega) ?_)
  have hszN : (w4.alloc (.cells #[.int .i64 4, .int .i64 d, .slice none 0 0, .slice none 0 0] 25)).heap.size = w4.heap.size + 1 := by simp
  generalize (w4.alloc (.cells #[.int .i64 4, .int .i64 d, .slice none 0 0, .slice none 0 0] 25)) = W5 at *
  generalize w4.heap.size = b3 at *
  clear hB1 hB2 hkw
  obtain ⟨B, hBe⟩ : ∃ B, b3 + 1 = B := ⟨_, rfl⟩
  have hb3B : b3 < B := by omega
  have hb2 : w.heap.size + 1 < b3 := hl2
  have hB5s : B ≤ W5.heap.size := by omega
  clear hBe hl2 hszN
  have hG0 : GrowB B W5 GmR 25 4 0 (.slice none 0 0) (kids.take 0) := by simpa using GrowB.nil B W5 GmR 25 4 hB5s
  go_wp2_with fail
  try simp only [hwd]
  go_loopw [4] (fun iv wr => ∃ (k : Nat) (al : Option Addr) (c : Nat), k ≤ n ∧ iv = .int .i64 k ∧ Stab.Keeps w wr ∧ Blk wr w.heap.size 126 [.slice a n cap, .int .u8 d] ∧ Blk wr (w.heap.size + 1) 25 [.int .i64 0, .int .i64 0, .slice none 0 0, .slice none 0 0] ∧ Blk wr b3 25 [.int .i64 4, .int .i64 d, .slice none 0 0, .slice al k c] ∧ GrowB B wr GmR 25 4 k (.slice al k c) (kids.take k)) (fun iv _ => n - (intOf iv).toNat)
  case atStart => exact ⟨0, none, 0, by omega, rfl, hkwN, hB1N, hB2N, hB3N, hG0⟩
  case round =>
    clear hkwN hB1N hB2N hB3N hG0 hB5s
    obtain ⟨k, al, c, hk, rfl, hkw, hB1, hB2, hB3, hG⟩ := hrel
    have g0 := hB1.cell (i := 0) rfl
    have g1 := hB1.cell (i := 1) rfl
    have gf := hB1.free
    have gl := hB1.lt
    go_wp2_with fail
    refine (numPts_ a n cap d _).mono ?_
    rintro e w6 ⟨rfl, hk6⟩
    clear g0 g1 gf gl
    replace hB1 := hB1.keep hk6
    replace hB2 := hB2.keep hk6
    replace hB3 := hB3.keep hk6
    replace hG := hG.keep gmS hk6
    replace hkw := Stab.Keeps.trans hkw hk6
    clear hk6
    by_cases hlt : k < n
    · have hd1 : decide ((k : Int) < (n : Int)) = true := by simp; omega
      obtain ⟨b, off, cc, ha, hb, _, _, hc6, hcc, hx⟩ := (hR.kf (KF.keeps hkw) (fun _ _ h => ptS.kf h (KF.keeps hkw))).elem hlt
      have hkk : k < kids.length := by have := HLK.out; omega
      have htk : kids.take (k + 1) = kids.take k ++ [kids[k]] := List.take_succ_eq_append_getElem hkk
      generalize hke : kids[k]'hkk = kid at *
      have HTK := Lib.hid htk
      clear htk hke
      obtain ⟨xq, yq, zq, mq, dq, fq, rfl⟩ := hx.six
      subst ha
      have e0 : w6.cell? ⟨b, off + k * 6, none⟩ = some (.float .f64 xq) := by have := hcc 0 _ rfl; simpa using this
      have e1 : w6.cell? ⟨b, off + k * 6 + 1, none⟩ = some (.float .f64 yq) := hcc 1 _ rfl
      have e2 : w6.cell? ⟨b, off + k * 6 + 2, none⟩ = some (.float .f64 zq) := hcc 2 _ rfl
      have e3 : w6.cell? ⟨b, off + k * 6 + 3, none⟩ = some (.float .f64 mq) := hcc 3 _ rfl
      have e4 : w6.cell? ⟨b, off + k * 6 + 4, none⟩ = some (.int .u8 dq) := hcc 4 _ rfl
      have e5 : w6.cell? ⟨b, off + k * 6 + 5, none⟩ = some (.bool fq) := hcc 5 _ rfl
      have hP := fun w' (hk' : Stab.Keeps w6 w') => plainPoint_ [.float .f64 xq, .float .f64 yq, .float .f64 zq, .float .f64 mq, .int .u8 dq, .bool fq] kid w' (ptS.kf hx (KF.keeps hk'))
      clear hcc hx
      generalize hyse : kids.take k = ys at *
      have hown : ∀ g, (Value.slice al k c).ownBlock = some g → B ≤ g ∧ g < w6.heap.size := fun g hg => hG.own hg
      have hgl : B ≤ w6.heap.size := hG.size
      have hNth := fun w' (hk' : Stab.Keeps w6 w') => pointN_ b off n cap d k xq yq zq mq dq fq w' hlt hle (by omega) (Nat.lt_of_lt_of_le hb hk'.size) (by rw [(Stab.own_cell hk' b hb).1]; exact e0) (by rw [(Stab.own_cell hk' b hb).1]; exact e1) (by rw [(Stab.own_cell hk' b hb).1]; exact e2) (by rw [(Stab.own_cell hk' b hb).1]; exact e3) (by rw [(Stab.own_cell hk' b hb).1]; exact e4) (by rw [(Stab.own_cell hk' b hb).1]; exact e5)
      have hlb := hb
      have t0 := hB1.cell (i := 0) rfl
      have t1 := hB1.cell (i := 1) rfl
      have tf := hB1.free
      have tl := hB1.lt
      have y0 := hB3.cell (i := 0) rfl
      have y1 := hB3.cell (i := 1) rfl
      have y2 := hB3.cell (i := 2) rfl
      have y3 := hB3.cell (i := 3) rfl
      have yf := hB3.free
      have yl := hB3.lt
      go_upto_region 5 with (fail)
      refine Stab.keep_tail 7 (GmF w6.heap.size 5 kid) (fun k => k == 5 || k == 6) (fun k => k == 4) (gmPre _ _ _) (by kernel_rfl) (by kernel_rfl) fun hcx => ?_
      simp only [List.take_succ_cons, List.take_zero, List.drop_succ_cons, List.drop_zero]
      repeat (first
        | (refine Stab.quiet rfl rfl rfl (fun K hK => ?_); go_big_quiet_op; refine hK _ ?_; clear hK K)
        | (refine Stab.one rfl rfl rfl ?_
           apply Exists.intro
           refine ⟨fun w1 hw1 => ?_, fun K hK => ?_⟩
           · go_simp
             first | (go_at_call 167; exact hNth _ (by with_reducible (repeat first | exact Kx.r _ | assumption | refine Kx.a ?_ _ | refine Kx.d ?_ | refine Kx.e ?_ _ | refine Kx.s (by simp <;> omega) ?_ _ | refine Kx.t ?_ (by assumption))))
           go_simp
           refine hK _ ?_
           clear hK K)
        | (refine Stab.skip rfl (fun K hK => ?_); go_simp; refine hK _ ?_; clear hK K))
      refine Stab.made rfl rfl (fun w1 hk1 => ?_) (fun v hv K hK => ?_)
      · go_simp
        have hk1' : Stab.Keeps w6 w1 := hk1.1
        refine (hP _ (hk1')).mono ?_
        rintro e w2 ⟨cs2, rfl, hk2, hx2⟩
        obtain ⟨zk, zd, zna, znn, znc, zka, zkn, zkc, rfl⟩ := hx2.four
        have hsz := hk1'.size
        exact ⟨_, rfl, hk2, fun _ => ⟨zk, zd, zna, znn, znc, zka, zkn, zkc, rfl, gmS.mono hx2 (fun b _ hb => hb.elim (fun h => h.elim) (fun h => by omega))⟩, fun e => by omega⟩
      obtain ⟨wv, _, _, hv⟩ := hv
      obtain ⟨zk, zd, zna, znn, znc, zka, zkn, zkc, rfl, _⟩ := hv.f5 rfl
      go_simp
      refine hK _ ?_
      clear hK hv
      refine Stab.made rfl rfl (fun w1 hk1 => ?_) (fun v hv K hK => ?_)
      · go_simp
        have hk1' : Stab.Keeps w6 w1 := hk1.1
        have hf := Stab.setF_new (hk1.2 5 (by rfl))
        obtain ⟨yk, yd, yna, ynn, ync, yka, ykn, ykc, he, hx5⟩ := hf.f5 rfl
        injection he with he
        injection he with he
        simp only [List.cons.injEq, Value.int.injEq, Value.slice.injEq, true_and, and_true] at he
        obtain ⟨e0, e1, ⟨e2, e3, e4⟩, e5, e6, e7⟩ := he
        have f0 : yk = zk := by omega
        have f1 : yd = zd := by omega
        subst f0 f1 e2 e3 e4 e5 e6 e7
        refine ⟨by with_reducible (repeat first | exact Kx.r _ | assumption | refine Kx.a ?_ _ | refine Kx.d ?_ | refine Kx.e ?_ _ | refine Kx.s (by simp <;> omega) ?_ _ | refine Kx.t ?_ (by assumption)), fun e => by omega, fun _ => ⟨w1.heap.size, yk, yd, zna, znn, znc, zka, zkn, zkc, rfl, hk1'.size, by with_reducible (repeat first | assumption | (refine Bx.n ⟨?_, ?_⟩ <;> focus (first | rfl | (simp; done) | omega)) | refine Bx.a ?_ _ | refine Bx.d ?_ | refine Bx.e ?_ _ | refine Bx.p (by first | omega | simp <;> omega) ?_), ?_⟩⟩
        exact gmS.mono (gmS.kf (gmS.mono (G := fun b => w6.heap.size ≤ b ∧ b < w1.heap.size) hx5 (fun b hbl hb => ⟨hb, hbl⟩)) ((KF.refl _ _).alloc _)) (fun b _ hb => ⟨hb.1, by simp; omega⟩)
      obtain ⟨wv, _, _, hv⟩ := hv
      obtain ⟨g, _, _, _, _, _, _, _, _, rfl, _⟩ := hv.f6 rfl
      go_simp
      refine hK _ ?_
      clear hK hv
      refine Stab.nil fun w5 hw5 hfs => ?_
      obtain ⟨g', yk, yd, yna, ynn, ync, yka, ykn, ykc, he, hge, hBg, hx5⟩ := (Stab.setF_new (hfs 6)).f6 rfl
      cases he
      have hG5 := hG.keep gmS hw5
      have hB15 := hB1.keep hw5
      have hB25 := hB2.keep hw5
      have hB35 := hB3.keep hw5
      have hkw5 := Stab.Keeps.trans hkw hw5
      have hone : ∀ u ∈ ([.int .i64 (yk : Nat), .int .i64 (yd : Nat), .slice yna ynn ync, .slice yka ykn ykc] : List Value), u.oneCell' = true := hx5.ones
      have hnc : ∀ (j : Nat) (u : Value), ([.int .i64 (yk : Nat), .int .i64 (yd : Nat), .slice yna ynn ync, .slice yka ykn ykc] : List Value)[j]? = some u → w5.cell? ((⟨g, 0, none⟩ : Addr).add j) = some u := fun j u hj => by rw [add_none]; simpa using hBg.cell (i := j) hj
      have hs5 := hw5.size
      have hx6 := gmS.mono (G := fun b => w6.heap.size ≤ b ∧ b < w5.heap.size) hx5 (fun b _ hb => hb)
      have HG5 := Lib.hid hG5
      have hB3l := hB35.lt
      clear hcx hfs hG hG5 hB1 hB2 hB3 hkw hw5 hx5 hNth hP t0 t1 tf tl y0 y1 y2 y3 yf yl
      refine append_growB (B := B) gmS rfl _ _ 23 rfl 25 i0 _ 4 64 Tryz.underlying23 HI.out HZ0.out HZ1.out HZ2.out rfl (by decide) _ k ys rfl HG5.out ⟨g, 0, none⟩ 1 [.int .i64 (yk : Nat), .int .i64 (yd : Nat), .slice yna ynn ync, .slice yka ykn ykc] rfl rfl hnc hone ?c2 ?c3 _ _ hx6 ?c4 ?c5 ?_
      case c2 => unfold maxLen; omega
      case c3 => omega
      case c4 => exact fun b hb => ⟨by omega, hb.2⟩
      case c5 => exact fun q hq hb => by have := hown q hq; omega
      intro al' c' w7 hG7 hB7 hgr
      have hB17 := hB15.below hB7 (by omega)
      have hB27 := hB25.below hB7 (by omega)
      have hB37 := hB35.below hB7 (by omega)
      have hk7 : Stab.Keeps w w7 := Below.trans hkw5 (Below.mono hB7 (by omega))
      clear HG5 hown hgr hB7 hkw5 hx6 hB15 hB25 hB35 hnc hone hBg
      rw [← HTK.out] at hG7
      have y0 := hB37.cell (i := 0) rfl
      have y1 := hB37.cell (i := 1) rfl
      have y2 := hB37.cell (i := 2) rfl
      have y3 := hB37.cell (i := 3) rfl
      have yf := hB37.free
      have yl := hB37.lt
      have hB38 := hB37.set 3 (.slice al' (k + 1) c')
      simp only [List.set] at hB38
      have hB18 : Blk (w7.setCell ⟨b3, 3, none⟩ (.slice al' (k + 1) c')) w.heap.size 126 [.slice (some ⟨b, off, none⟩) n cap, .int .u8 d] := by with_reducible (repeat first | assumption | (refine Bx.n ⟨?_, ?_⟩ <;> focus (first | rfl | (simp; done) | omega)) | refine Bx.a ?_ _ | refine Bx.d ?_ | refine Bx.e ?_ _ | refine Bx.p (by first | omega | simp <;> omega) ?_)
      have hB28 : Blk (w7.setCell ⟨b3, 3, none⟩ (.slice al' (k + 1) c')) (w.heap.size + 1) 25 [.int .i64 0, .int .i64 0, .slice none 0 0, .slice none 0 0] := by with_reducible (repeat first | assumption | (refine Bx.n ⟨?_, ?_⟩ <;> focus (first | rfl | (simp; done) | omega)) | refine Bx.a ?_ _ | refine Bx.d ?_ | refine Bx.e ?_ _ | refine Bx.p (by first | omega | simp <;> omega) ?_)
      have hk8 : Stab.Keeps w (w7.setCell ⟨b3, 3, none⟩ (.slice al' (k + 1) c')) := Stab.Keeps.setCell (by simp; omega) hk7 _
      have hG8 := hG7.kf gmS (w4 := w7.setCell ⟨b3, 3, none⟩ (.slice al' (k + 1) c')) ((KF.refl _ _).set (fun h => by simp at h; omega))
      clear hB17 hB27 hB37 hG7 hk7
      go_wp2_with fail
      exact ⟨⟨k + 1, al', c', by omega, by simp, hk8, hB18, hB28, hB38, hG8⟩, by simp [intOf]; omega⟩
    · obtain rfl : k = n := by omega
      have hd1 : decide ((k : Int) < (k : Int)) = false := by simp
      rw [List.take_of_length_le (by rw [HLK.out]; exact Nat.le_refl _)] at hG
      obtain ⟨css', hRw⟩ := hG.toRows gmS
      have t0 := hB3.cell (i := 0) rfl
      have t1 := hB3.cell (i := 1) rfl
      have t2 := hB3.cell (i := 2) rfl
      have t3 := hB3.cell (i := 3) rfl
      have tf := hB3.free
      have tl := hB3.lt
      have g0 := hB2.cell (i := 0) rfl
      have g1 := hB2.cell (i := 1) rfl
      have g2 := hB2.cell (i := 2) rfl
      have g3 := hB2.cell (i := 3) rfl
      have gf := hB2.free
      have gl := hB2.lt
      have hBn := (((hB2.set 0 (.int .i64 4)).set 1 (.int .i64 d)).set 2 (.slice none 0 0)).set 3 (.slice al k c)
      simp only [List.set] at hBn
      have hkz : Stab.Keeps w ((((w6.setCell ⟨w.heap.size + 1, 0, none⟩ (.int .i64 4)).setCell ⟨w.heap.size + 1, 1, none⟩ (.int .i64 d)).setCell ⟨w.heap.size + 1, 2, none⟩ (.slice none 0 0)).setCell ⟨w.heap.size + 1, 3, none⟩ (.slice al k c)) := by with_reducible (repeat first | exact Kx.r _ | assumption | refine Kx.a ?_ _ | refine Kx.d ?_ | refine Kx.e ?_ _ | refine Kx.s (by simp <;> omega) ?_ _ | refine Kx.t ?_ (by assumption))
      have hkf : KF (fun b => B ≤ b) w6 ((((w6.setCell ⟨w.heap.size + 1, 0, none⟩ (.int .i64 4)).setCell ⟨w.heap.size + 1, 1, none⟩ (.int .i64 d)).setCell ⟨w.heap.size + 1, 2, none⟩ (.slice none 0 0)).setCell ⟨w.heap.size + 1, 3, none⟩ (.slice al k c)) := ((((KF.refl _ _).set (fun h => by simp at h; omega)).set (fun h => by simp at h; omega)).set (fun h => by simp at h; omega)).set (fun h => by simp at h; omega)
      have hRz := hRw.kf hkf (fun _ _ h => gmS.kf h hkf)
      clear hRw hG hkf
      go_wp2_with fail
      generalize ((((w6.setCell ⟨w.heap.size + 1, 0, none⟩ (.int .i64 4)).setCell ⟨w.heap.size + 1, 1, none⟩ (.int .i64 d)).setCell ⟨w.heap.size + 1, 2, none⟩ (.slice none 0 0)).setCell ⟨w.heap.size + 1, 3, none⟩ (.slice al k c)) = Wz at *
      clear hB1 hB2 hB3 t0 t1 t2 t3 tf tl g0 g1 g2 g3 gf gl hkw
      have y0 := hBn.cell (i := 0) rfl
      have y1 := hBn.cell (i := 1) rfl
      have y2 := hBn.cell (i := 2) rfl
      have y3 := hBn.cell (i := 3) rfl
      have yf := hBn.free
      have yl := hBn.lt
      refine bodyPost_ret (v := .agg #[.int .i64 4, .int .i64 d, .slice none 0 0, .slice al k c]) (by simp [results, Tryz.results105, go_sem, *]) rfl ⟨[.int .i64 (4 : Nat), .int .i64 (d : Nat), .slice none 0 0, .slice al k c], rfl, hkz, ?_⟩
      exact .mk 4 d _ _ none al _ _ _ _ css' rfl (SzF.nil _ _ _) hRz.lc hRz.lx hRz.each (hRz.sz.mono (fun b _ hb => .inr (by omega))) (fun i h1 h2 => gmS.mono (hRz.is i h1 h2) (fun b _ hb => .inr (by omega)))
set_option maxRecDepth 100000 in
theorem typeMl0_ (a : Option Addr) (n cap d : Nat) (w : World) : Calls Tryz.prog 176 #[.agg #[.slice a n cap, .int .u8 d]] w (One w (.int .u8 d)) := by
  go_enter Tryz.func176, Tryz.ntmps176
  go_wp2
  go_ret
  exact ⟨rfl, by with_reducible (repeat first | exact Kx.r _ | assumption | refine Kx.a ?_ _ | refine Kx.d ?_ | refine Kx.e ?_ _ | refine Kx.s (by simp <;> omega) ?_ _ | refine Kx.t ?_ (by assumption))⟩
set_option maxRecDepth 100000 in
set_option maxHeartbeats 4000000 in
theorem plainMl_ {F : Nat → Prop} (cs : List Value) (p : Pg) (w : World) (h : MlR w F cs p) : Calls Tryz.prog 106 #[.agg cs.toArray] w (RetR w no GmR p) := by
  obtain ⟨i0, hi, hz0, hz1, hz2⟩ := info_parts infoGm
  have HI := Lib.hid hi
  have HZ0 := Lib.hid hz0
  have HZ1 := Lib.hid hz1
  have HZ2 := Lib.hid hz2
  clear hi hz0 hz1 hz2
  obtain ⟨d, a, n, cap, css, kids, rfl, rfl, hd, hn, hR, hdim⟩ := h
  have hwd : wrap64 (d : Int) = d := IntWalk.wrap64_in _ (by omega)
  have hle := hR.sz.sz.le
  have hmx := hR.sz.sz.max
  unfold maxLen at hmx
  have hlk := hR.lx
  have HLK := Lib.hid hlk
  clear hlk hd hdim
  go_enter Tryz.func106, Tryz.ntmps106
  go_wp2_with fail
  have hkw : Stab.Keeps w ((w.alloc (.cells #[.slice a n cap, .int .u8 d] 129)).alloc (.cells #[.int .i64 0, .int .i64 0, .slice none 0 0, .slice none 0 0] 25)) := by with_reducible (repeat first | exact Kx.r _ | assumption | refine Kx.a ?_ _ | refine Kx.d ?_ | refine Kx.e ?_ _ | refine Kx.s (by simp <;> omega) ?_ _ | refine Kx.t ?_ (by assumption))
  have hB1 : Blk ((w.alloc (.cells #[.slice a n cap, .int .u8 d] 129)).alloc (.cells #[.int .i64 0, .int .i64 0, .slice none 0 0, .slice none 0 0] 25)) w.heap.size 129 [.slice a n cap, .int .u8 d] := by with_reducible (repeat first | assumption | (refine Bx.n ⟨?_, ?_⟩ <;> focus (first | rfl | (simp; done) | omega)) | refine Bx.a ?_ _ | refine Bx.d ?_ | refine Bx.e ?_ _ | refine Bx.p (by first | omega | simp <;> omega) ?_)
  have hB2 : Blk ((w.alloc (.cells #[.slice a n cap, .int .u8 d] 129)).alloc (.cells #[.int .i64 0, .int .i64 0, .slice none 0 0, .slice none 0 0] 25)) (w.heap.size + 1) 25 [.int .i64 0, .int .i64 0, .slice none 0 0, .slice none 0 0] := by with_reducible (repeat first | assumption | (refine Bx.n ⟨?_, ?_⟩ <;> focus (first | rfl | (simp; done) | omega)) | refine Bx.a ?_ _ | refine Bx.d ?_ | refine Bx.e ?_ _ | refine Bx.p (by first | omega | simp <;> omega) ?_)
  generalize ((w.alloc (.cells #[.slice a n cap, .int .u8 d] 129)).alloc (.cells #[.int .i64 0, .int .i64 0, .slice none 0 0, .slice none 0 0] 25)) = W0 at *
  refine (typeMl0_ a n cap d _).mono ?_
  rintro e w4 ⟨rfl, hk4⟩
  replace hB1 := hB1.keep hk4
  replace hB2 := hB2.keep hk4
  replace hkw := Stab.Keeps.trans hkw hk4
  clear hk4
  have g0 := hB1.cell (i := 0) rfl
  have g1 := hB1.cell (i := 1) rfl
  have gf := hB1.free
  have gl := hB1.lt
  go_upto_region 2 with (fail)
  clear g0 g1 gf gl
  have hl2 := hB2.lt
  have hkwN : Stab.Keeps w (w4.alloc (.cells #[.int .i64 5, .int .i64 d, .slice none 0 0, .slice none 0 0] 25)) := by with_reducible (repeat first | exact Kx.r _ | assumption | refine Kx.a ?_ _ | refine Kx.d ?_ | refine Kx.e ?_ _ | refine Kx.s (by simp <;> omega) ?_ _ | refine Kx.t ?_ (by assumption))
  have hB1N : Blk (w4.alloc (.cells #[.int .i64 5, .int .i64 d, .slice none 0 0, .slice none 0 0] 25)) w.heap.size 129 [.slice a n cap, .int .u8 d] := by with_reducible (repeat first | assumption | (refine Bx.n ⟨?_, ?_⟩ <;> focus (first | rfl | (simp; done) | omega)) | refine Bx.a ?_ _ | refine Bx.d ?_ | refine Bx.e ?_ _ | refine Bx.p (by first | omega | simp <;> omega) ?_)
  have hB2N : Blk (w4.alloc (.cells #[.int .i64 5, .int .i64 d, .slice none 0 0, .slice none 0 0] 25)) (w.heap.size + 1) 25 [.int .i64 0, .int .i64 0, .slice none 0 0, .slice none 0 0] := by with_reducible (repeat first | assumption | (refine Bx.n ⟨?_, ?_⟩ <;> focus (first | rfl | (simp; done) | omega)) | refine Bx.a ?_ _ | refine Bx.d ?_ | refine Bx.e ?_ _ | refine Bx.p (by first | omega | simp <;> omega) ?_)
  have hB3N : Blk (w4.alloc (.cells #[.int .i64 5, .int .i64 d, .slice none 0 0, .slice none 0 0] 25)) w4.heap.size 25 [.int .i64 5, .int .i64 d, .slice none 0 0, .slice none 0 0] := by with_reducible (repeat first | assumption | (refine Bx.n ⟨?_, ?_⟩ <;> focus (first | rfl | (simp; done) | omega)) | refine Bx.a ?_ _ | refine Bx.d ?_ | refine Bx.e ?_ _ | refine Bx.p (by first | omega | simp <;> omega) ?_)
  have hszN : (w4.alloc (.cells #[.int .i64 5, .int .i64 d, .slice none 0 0, .slice none 0 0] 25)).heap.size = w4.heap.size + 1 := by simp
  generalize (w4.alloc (.cells #[.int .i64 5, .int .i64 d, .slice none 0 0, .slice none 0 0] 25)) = W5 at *
  generalize w4.heap.size = b3 at *
  clear hB1 hB2 hkw
  obtain ⟨B, hBe⟩ : ∃ B, b3 + 1 = B := ⟨_, rfl⟩
  have hb3B : b3 < B := by omega
  have hb2 : w.heap.size + 1 < b3 := hl2
  have hB5s : B ≤ W5.heap.size := by omega
  clear hBe hl2 hszN
  have hG0 : GrowB B W5 GmR 25 4 0 (.slice none 0 0) (kids.take 0) := by simpa using GrowB.nil B W5 GmR 25 4 hB5s
  go_wp2_with fail
  try simp only [hwd]
  go_loopw [4] (fun iv wr => ∃ (k : Nat) (al : Option Addr) (c : Nat), k ≤ n ∧ iv = .int .i64 k ∧ Stab.Keeps w wr ∧ Blk wr w.heap.size 129 [.slice a n cap, .int .u8 d] ∧ Blk wr (w.heap.size + 1) 25 [.int .i64 0, .int .i64 0, .slice none 0 0, .slice none 0 0] ∧ Blk wr b3 25 [.int .i64 5, .int .i64 d, .slice none 0 0, .slice al k c] ∧ GrowB B wr GmR 25 4 k (.slice al k c) (kids.take k)) (fun iv _ => n - (intOf iv).toNat)
  case atStart => exact ⟨0, none, 0, by omega, rfl, hkwN, hB1N, hB2N, hB3N, hG0⟩
  case round =>
    clear hkwN hB1N hB2N hB3N hG0 hB5s
    obtain ⟨k, al, c, hk, rfl, hkw, hB1, hB2, hB3, hG⟩ := hrel
    have g0 := hB1.cell (i := 0) rfl
    have g1 := hB1.cell (i := 1) rfl
    have gf := hB1.free
    have gl := hB1.lt
    go_wp2_with fail
    refine (numMl_ a n cap d _).mono ?_
    rintro e w6 ⟨rfl, hk6⟩
    clear g0 g1 gf gl
    replace hB1 := hB1.keep hk6
    replace hB2 := hB2.keep hk6
    replace hB3 := hB3.keep hk6
    replace hG := hG.keep gmS hk6
    replace hkw := Stab.Keeps.trans hkw hk6
    clear hk6
    by_cases hlt : k < n
    · have hd1 : decide ((k : Int) < (n : Int)) = true := by simp; omega
      obtain ⟨b, off, cc, ha, hb, _, _, hc6, hcc, hx⟩ := (hR.kf (KF.keeps hkw) (fun _ _ h => lsS.kf h (KF.keeps hkw))).elem hlt
      have hkk : k < kids.length := by have := HLK.out; omega
      have htk : kids.take (k + 1) = kids.take k ++ [kids[k]] := List.take_succ_eq_append_getElem hkk
      generalize hke : kids[k]'hkk = kid at *
      have HTK := Lib.hid htk
      clear htk hke
      obtain ⟨dq, aq, nq, cq, rfl⟩ := hx.two
      subst ha
      have e0 : w6.cell? ⟨b, off + k * 2, none⟩ = some (.int .u8 dq) := by have := hcc 0 _ rfl; simpa using this
      have e1 : w6.cell? ⟨b, off + k * 2 + 1, none⟩ = some (.slice aq nq cq) := hcc 1 _ rfl
      have hP := fun w' (hk' : Stab.Keeps w6 w') => plainLine_ [.int .u8 dq, .slice aq nq cq] kid w' (lsS.kf hx (KF.keeps hk'))
      clear hcc hx
      generalize hyse : kids.take k = ys at *
      have hown : ∀ g, (Value.slice al k c).ownBlock = some g → B ≤ g ∧ g < w6.heap.size := fun g hg => hG.own hg
      have hgl : B ≤ w6.heap.size := hG.size
      have hNth := fun w' (hk' : Stab.Keeps w6 w') => lineN_ b off n cap d k aq nq cq dq w' hlt hle (by omega) (Nat.lt_of_lt_of_le hb hk'.size) (by rw [(Stab.own_cell hk' b hb).1]; exact e0) (by rw [(Stab.own_cell hk' b hb).1]; exact e1)
      have hlb := hb
      have t0 := hB1.cell (i := 0) rfl
      have t1 := hB1.cell (i := 1) rfl
      have tf := hB1.free
      have tl := hB1.lt
      have y0 := hB3.cell (i := 0) rfl
      have y1 := hB3.cell (i := 1) rfl
      have y2 := hB3.cell (i := 2) rfl
      have y3 := hB3.cell (i := 3) rfl
      have yf := hB3.free
      have yl := hB3.lt
      go_upto_region 5 with (fail)
      refine Stab.keep_tail 7 (GmF w6.heap.size 5 kid) (fun k => k == 5 || k == 6) (fun k => k == 4) (gmPre _ _ _) (by kernel_rfl) (by kernel_rfl) fun hcx => ?_
      simp only [List.take_succ_cons, List.take_zero, List.drop_succ_cons, List.drop_zero]
      repeat (first
        | (refine Stab.quiet rfl rfl rfl (fun K hK => ?_); go_big_quiet_op; refine hK _ ?_; clear hK K)
        | (refine Stab.one rfl rfl rfl ?_
           apply Exists.intro
           refine ⟨fun w1 hw1 => ?_, fun K hK => ?_⟩
           · go_simp
             first | (go_at_call 150; exact hNth _ (by with_reducible (repeat first | exact Kx.r _ | assumption | refine Kx.a ?_ _ | refine Kx.d ?_ | refine Kx.e ?_ _ | refine Kx.s (by simp <;> omega) ?_ _ | refine Kx.t ?_ (by assumption))))
           go_simp
           refine hK _ ?_
           clear hK K)
        | (refine Stab.skip rfl (fun K hK => ?_); go_simp; refine hK _ ?_; clear hK K))
      refine Stab.made rfl rfl (fun w1 hk1 => ?_) (fun v hv K hK => ?_)
      · go_simp
        have hk1' : Stab.Keeps w6 w1 := hk1.1
        refine (hP _ (hk1')).mono ?_
        rintro e w2 ⟨cs2, rfl, hk2, hx2⟩
        obtain ⟨zk, zd, zna, znn, znc, zka, zkn, zkc, rfl⟩ := hx2.four
        have hsz := hk1'.size
        exact ⟨_, rfl, hk2, fun _ => ⟨zk, zd, zna, znn, znc, zka, zkn, zkc, rfl, gmS.mono hx2 (fun b _ hb => hb.elim (fun h => h.elim) (fun h => by omega))⟩, fun e => by omega⟩
      obtain ⟨wv, _, _, hv⟩ := hv
      obtain ⟨zk, zd, zna, znn, znc, zka, zkn, zkc, rfl, _⟩ := hv.f5 rfl
      go_simp
      refine hK _ ?_
      clear hK hv
      refine Stab.made rfl rfl (fun w1 hk1 => ?_) (fun v hv K hK => ?_)
      · go_simp
        have hk1' : Stab.Keeps w6 w1 := hk1.1
        have hf := Stab.setF_new (hk1.2 5 (by rfl))
        obtain ⟨yk, yd, yna, ynn, ync, yka, ykn, ykc, he, hx5⟩ := hf.f5 rfl
        injection he with he
        injection he with he
        simp only [List.cons.injEq, Value.int.injEq, Value.slice.injEq, true_and, and_true] at he
        obtain ⟨e0, e1, ⟨e2, e3, e4⟩, e5, e6, e7⟩ := he
        have f0 : yk = zk := by omega
        have f1 : yd = zd := by omega
        subst f0 f1 e2 e3 e4 e5 e6 e7
        refine ⟨by with_reducible (repeat first | exact Kx.r _ | assumption | refine Kx.a ?_ _ | refine Kx.d ?_ | refine Kx.e ?_ _ | refine Kx.s (by simp <;> omega) ?_ _ | refine Kx.t ?_ (by assumption)), fun e => by omega, fun _ => ⟨w1.heap.size, yk, yd, zna, znn, znc, zka, zkn, zkc, rfl, hk1'.size, by with_reducible (repeat first | assumption | (refine Bx.n ⟨?_, ?_⟩ <;> focus (first | rfl | (simp; done) | omega)) | refine Bx.a ?_ _ | refine Bx.d ?_ | refine Bx.e ?_ _ | refine Bx.p (by first | omega | simp <;> omega) ?_), ?_⟩⟩
        exact gmS.mono (gmS.kf (gmS.mono (G := fun b => w6.heap.size ≤ b ∧ b < w1.heap.size) hx5 (fun b hbl hb => ⟨hb, hbl⟩)) ((KF.refl _ _).alloc _)) (fun b _ hb => ⟨hb.1, by simp; omega⟩)
      obtain ⟨wv, _, _, hv⟩ := hv
      obtain ⟨g, _, _, _, _, _, _, _, _, rfl, _⟩ := hv.f6 rfl
      go_simp
      refine hK _ ?_
      clear hK hv
      refine Stab.nil fun w5 hw5 hfs => ?_
      obtain ⟨g', yk, yd, yna, ynn, ync, yka, ykn, ykc, he, hge, hBg, hx5⟩ := (Stab.setF_new (hfs 6)).f6 rfl
      cases he
      have hG5 := hG.keep gmS hw5
      have hB15 := hB1.keep hw5
      have hB25 := hB2.keep hw5
      have hB35 := hB3.keep hw5
      have hkw5 := Stab.Keeps.trans hkw hw5
      have hone : ∀ u ∈ ([.int .i64 (yk : Nat), .int .i64 (yd : Nat), .slice yna ynn ync, .slice yka ykn ykc] : List Value), u.oneCell' = true := hx5.ones
      have hnc : ∀ (j : Nat) (u : Value), ([.int .i64 (yk : Nat), .int .i64 (yd : Nat), .slice yna ynn ync, .slice yka ykn ykc] : List Value)[j]? = some u → w5.cell? ((⟨g, 0, none⟩ : Addr).add j) = some u := fun j u hj => by rw [add_none]; simpa using hBg.cell (i := j) hj
      have hs5 := hw5.size
      have hx6 := gmS.mono (G := fun b => w6.heap.size ≤ b ∧ b < w5.heap.size) hx5 (fun b _ hb => hb)
      have HG5 := Lib.hid hG5
      have hB3l := hB35.lt
      clear hcx hfs hG hG5 hB1 hB2 hB3 hkw hw5 hx5 hNth hP t0 t1 tf tl y0 y1 y2 y3 yf yl
      refine append_growB (B := B) gmS rfl _ _ 23 rfl 25 i0 _ 4 64 Tryz.underlying23 HI.out HZ0.out HZ1.out HZ2.out rfl (by decide) _ k ys rfl HG5.out ⟨g, 0, none⟩ 1 [.int .i64 (yk : Nat), .int .i64 (yd : Nat), .slice yna ynn ync, .slice yka ykn ykc] rfl rfl hnc hone ?c2 ?c3 _ _ hx6 ?c4 ?c5 ?_
      case c2 => unfold maxLen; omega
      case c3 => omega
      case c4 => exact fun b hb => ⟨by omega, hb.2⟩
      case c5 => exact fun q hq hb => by have := hown q hq; omega
      intro al' c' w7 hG7 hB7 hgr
      have hB17 := hB15.below hB7 (by omega)
      have hB27 := hB25.below hB7 (by omega)
      have hB37 := hB35.below hB7 (by omega)
      have hk7 : Stab.Keeps w w7 := Below.trans hkw5 (Below.mono hB7 (by omega))
      clear HG5 hown hgr hB7 hkw5 hx6 hB15 hB25 hB35 hnc hone hBg
      rw [← HTK.out] at hG7
      have y0 := hB37.cell (i := 0) rfl
      have y1 := hB37.cell (i := 1) rfl
      have y2 := hB37.cell (i := 2) rfl
      have y3 := hB37.cell (i := 3) rfl
      have yf := hB37.free
      have yl := hB37.lt
      have hB38 := hB37.set 3 (.slice al' (k + 1) c')
      simp only [List.set] at hB38
      have hB18 : Blk (w7.setCell ⟨b3, 3, none⟩ (.slice al' (k + 1) c')) w.heap.size 129 [.slice (some ⟨b, off, none⟩) n cap, .int .u8 d] := by with_reducible (repeat first | assumption | (refine Bx.n ⟨?_, ?_⟩ <;> focus (first | rfl | (simp; done) | omega)) | refine Bx.a ?_ _ | refine Bx.d ?_ | refine Bx.e ?_ _ | refine Bx.p (by first | omega | simp <;> omega) ?_)
      have hB28 : Blk (w7.setCell ⟨b3, 3, none⟩ (.slice al' (k + 1) c')) (w.heap.size + 1) 25 [.int .i64 0, .int .i64 0, .slice none 0 0, .slice none 0 0] := by with_reducible (repeat first | assumption | (refine Bx.n ⟨?_, ?_⟩ <;> focus (first | rfl | (simp; done) | omega)) | refine Bx.a ?_ _ | refine Bx.d ?_ | refine Bx.e ?_ _ | refine Bx.p (by first | omega | simp <;> omega) ?_)
      have hk8 : Stab.Keeps w (w7.setCell ⟨b3, 3, none⟩ (.slice al' (k + 1) c')) := Stab.Keeps.setCell (by simp; omega) hk7 _
      have hG8 := hG7.kf gmS (w4 := w7.setCell ⟨b3, 3, none⟩ (.slice al' (k + 1) c')) ((KF.refl _ _).set (fun h => by simp at h; omega))
      clear hB17 hB27 hB37 hG7 hk7
      go_wp2_with fail
      exact ⟨⟨k + 1, al', c', by omega, by simp, hk8, hB18, hB28, hB38, hG8⟩, by simp [intOf]; omega⟩
    · obtain rfl : k = n := by omega
      have hd1 : decide ((k : Int) < (k : Int)) = false := by simp
      rw [List.take_of_length_le (by rw [HLK.out]; exact Nat.le_refl _)] at hG
      obtain ⟨css', hRw⟩ := hG.toRows gmS
      have t0 := hB3.cell (i := 0) rfl
      have t1 := hB3.cell (i := 1) rfl
      have t2 := hB3.cell (i := 2) rfl
      have t3 := hB3.cell (i := 3) rfl
      have tf := hB3.free
      have tl := hB3.lt
      have g0 := hB2.cell (i := 0) rfl
      have g1 := hB2.cell (i := 1) rfl
      have g2 := hB2.cell (i := 2) rfl
      have g3 := hB2.cell (i := 3) rfl
      have gf := hB2.free
      have gl := hB2.lt
      have hBn := (((hB2.set 0 (.int .i64 5)).set 1 (.int .i64 d)).set 2 (.slice none 0 0)).set 3 (.slice al k c)
      simp only [List.set] at hBn
      have hkz : Stab.Keeps w ((((w6.setCell ⟨w.heap.size + 1, 0, none⟩ (.int .i64 5)).setCell ⟨w.heap.size + 1, 1, none⟩ (.int .i64 d)).setCell ⟨w.heap.size + 1, 2, none⟩ (.slice none 0 0)).setCell ⟨w.heap.size + 1, 3, none⟩ (.slice al k c)) := by with_reducible (repeat first | exact Kx.r _ | assumption | refine Kx.a ?_ _ | refine Kx.d ?_ | refine Kx.e ?_ _ | refine Kx.s (by simp <;> omega) ?_ _ | refine Kx.t ?_ (by assumption))
      have hkf : KF (fun b => B ≤ b) w6 ((((w6.setCell ⟨w.heap.size + 1, 0, none⟩ (.int .i64 5)).setCell ⟨w.heap.size + 1, 1, none⟩ (.int .i64 d)).setCell ⟨w.heap.size + 1, 2, none⟩ (.slice none 0 0)).setCell ⟨w.heap.size + 1, 3, none⟩ (.slice al k c)) := ((((KF.refl _ _).set (fun h => by simp at h; omega)).set (fun h => by simp at h; omega)).set (fun h => by simp at h; omega)).set (fun h => by simp at h; omega)
      have hRz := hRw.kf hkf (fun _ _ h => gmS.kf h hkf)
      clear hRw hG hkf
      go_wp2_with fail
      generalize ((((w6.setCell ⟨w.heap.size + 1, 0, none⟩ (.int .i64 5)).setCell ⟨w.heap.size + 1, 1, none⟩ (.int .i64 d)).setCell ⟨w.heap.size + 1, 2, none⟩ (.slice none 0 0)).setCell ⟨w.heap.size + 1, 3, none⟩ (.slice al k c)) = Wz at *
      clear hB1 hB2 hB3 t0 t1 t2 t3 tf tl g0 g1 g2 g3 gf gl hkw
      have y0 := hBn.cell (i := 0) rfl
      have y1 := hBn.cell (i := 1) rfl
      have y2 := hBn.cell (i := 2) rfl
      have y3 := hBn.cell (i := 3) rfl
      have yf := hBn.free
      have yl := hBn.lt
      refine bodyPost_ret (v := .agg #[.int .i64 5, .int .i64 d, .slice none 0 0, .slice al k c]) (by simp [results, Tryz.results106, go_sem, *]) rfl ⟨[.int .i64 (5 : Nat), .int .i64 (d : Nat), .slice none 0 0, .slice al k c], rfl, hkz, ?_⟩
      exact .mk 5 d _ _ none al _ _ _ _ css' rfl (SzF.nil _ _ _) hRz.lc hRz.lx hRz.each (hRz.sz.mono (fun b _ hb => .inr (by omega))) (fun i h1 h2 => gmS.mono (hRz.is i h1 h2) (fun b _ hb => .inr (by omega)))
set_option maxRecDepth 100000 in
theorem typePy0_ (a : Option Addr) (n cap d : Nat) (w : World) : Calls Tryz.prog 174 #[.agg #[.slice a n cap, .int .u8 d]] w (One w (.int .u8 d)) := by
  go_enter Tryz.func174, Tryz.ntmps174
  go_wp2
  go_ret
  exact ⟨rfl, by with_reducible (repeat first | exact Kx.r _ | assumption | refine Kx.a ?_ _ | refine Kx.d ?_ | refine Kx.e ?_ _ | refine Kx.s (by simp <;> omega) ?_ _ | refine Kx.t ?_ (by assumption))⟩
set_option maxRecDepth 100000 in
theorem typeMy0_ (a : Option Addr) (n cap d : Nat) (w : World) : Calls Tryz.prog 177 #[.agg #[.slice a n cap, .int .u8 d]] w (One w (.int .u8 d)) := by
  go_enter Tryz.func177, Tryz.ntmps177
  go_wp2
  go_ret
  exact ⟨rfl, by with_reducible (repeat first | exact Kx.r _ | assumption | refine Kx.a ?_ _ | refine Kx.d ?_ | refine Kx.e ?_ _ | refine Kx.s (by simp <;> omega) ?_ _ | refine Kx.t ?_ (by assumption))⟩
set_option maxRecDepth 100000 in
theorem typeGc0_ (a : Option Addr) (n cap d : Nat) (w : World) : Calls Tryz.prog 178 #[.agg #[.slice a n cap, .int .u8 d]] w (One w (.int .u8 d)) := by
  go_enter Tryz.func178, Tryz.ntmps178
  go_wp2
  go_ret
  exact ⟨rfl, by with_reducible (repeat first | exact Kx.r _ | assumption | refine Kx.a ?_ _ | refine Kx.d ?_ | refine Kx.e ?_ _ | refine Kx.s (by simp <;> omega) ?_ _ | refine Kx.t ?_ (by assumption))⟩
set_option maxRecDepth 100000 in
set_option maxHeartbeats 4000000 in
theorem plainPy_ {F : Nat → Prop} (cs : List Value) (p : Pg) (w : World) (h : PyR w F cs p) : Calls Tryz.prog 104 #[.agg cs.toArray] w (RetR w no GmR p) := by
  obtain ⟨i0, hi, hz0, hz1, hz2⟩ := info_parts infoGm
  have HI := Lib.hid hi
  have HZ0 := Lib.hid hz0
  have HZ1 := Lib.hid hz1
  have HZ2 := Lib.hid hz2
  clear hi hz0 hz1 hz2
  obtain ⟨d, a, n, cap, css, kids, rfl, rfl, hd, hn, hR, hdim⟩ := h
  have hwd : wrap64 (d : Int) = d := IntWalk.wrap64_in _ (by omega)
  have hle := hR.sz.sz.le
  have hmx := hR.sz.sz.max
  unfold maxLen at hmx
  have hlk := hR.lx
  have HD := Lib.hid hd
  have HDIM := Lib.hid hdim
  have HLK := Lib.hid hlk
  clear hlk hd hdim
  go_enter Tryz.func104, Tryz.ntmps104
  go_wp2_with fail
  have hkw : Stab.Keeps w ((w.alloc (.cells #[.slice a n cap, .int .u8 d] 121)).alloc (.cells #[.int .i64 0, .int .i64 0, .slice none 0 0, .slice none 0 0] 25)) := by with_reducible (repeat first | exact Kx.r _ | assumption | refine Kx.a ?_ _ | refine Kx.d ?_ | refine Kx.e ?_ _ | refine Kx.s (by simp <;> omega) ?_ _ | refine Kx.t ?_ (by assumption))
  have hB1 : Blk ((w.alloc (.cells #[.slice a n cap, .int .u8 d] 121)).alloc (.cells #[.int .i64 0, .int .i64 0, .slice none 0 0, .slice none 0 0] 25)) w.heap.size 121 [.slice a n cap, .int .u8 d] := by with_reducible (repeat first | assumption | (refine Bx.n ⟨?_, ?_⟩ <;> focus (first | rfl | (simp; done) | omega)) | refine Bx.a ?_ _ | refine Bx.d ?_ | refine Bx.e ?_ _ | refine Bx.p (by first | omega | simp <;> omega) ?_)
  have hB2 : Blk ((w.alloc (.cells #[.slice a n cap, .int .u8 d] 121)).alloc (.cells #[.int .i64 0, .int .i64 0, .slice none 0 0, .slice none 0 0] 25)) (w.heap.size + 1) 25 [.int .i64 0, .int .i64 0, .slice none 0 0, .slice none 0 0] := by with_reducible (repeat first | assumption | (refine Bx.n ⟨?_, ?_⟩ <;> focus (first | rfl | (simp; done) | omega)) | refine Bx.a ?_ _ | refine Bx.d ?_ | refine Bx.e ?_ _ | refine Bx.p (by first | omega | simp <;> omega) ?_)
  generalize ((w.alloc (.cells #[.slice a n cap, .int .u8 d] 121)).alloc (.cells #[.int .i64 0, .int .i64 0, .slice none 0 0, .slice none 0 0] 25)) = W0 at *
  refine (typePy0_ a n cap d _).mono ?_
  rintro e w4 ⟨rfl, hk4⟩
  replace hB1 := hB1.keep hk4
  replace hB2 := hB2.keep hk4
  replace hkw := Stab.Keeps.trans hkw hk4
  clear hk4
  have g0 := hB1.cell (i := 0) rfl
  have g1 := hB1.cell (i := 1) rfl
  have gf := hB1.free
  have gl := hB1.lt
  go_upto_region 2 with (fail)
  clear g0 g1 gf gl
  have hl2 := hB2.lt
  have hkwN : Stab.Keeps w (w4.alloc (.cells #[.int .i64 3, .int .i64 d, .slice none 0 0, .slice none 0 0] 25)) := by with_reducible (repeat first | exact Kx.r _ | assumption | refine Kx.a ?_ _ | refine Kx.d ?_ | refine Kx.e ?_ _ | refine Kx.s (by simp <;> omega) ?_ _ | refine Kx.t ?_ (by assumption))
  have hB1N : Blk (w4.alloc (.cells #[.int .i64 3, .int .i64 d, .slice none 0 0, .slice none 0 0] 25)) w.heap.size 121 [.slice a n cap, .int .u8 d] := by with_reducible (repeat first | assumption | (refine Bx.n ⟨?_, ?_⟩ <;> focus (first | rfl | (simp; done) | omega)) | refine Bx.a ?_ _ | refine Bx.d ?_ | refine Bx.e ?_ _ | refine Bx.p (by first | omega | simp <;> omega) ?_)
  have hB2N : Blk (w4.alloc (.cells #[.int .i64 3, .int .i64 d, .slice none 0 0, .slice none 0 0] 25)) (w.heap.size + 1) 25 [.int .i64 0, .int .i64 0, .slice none 0 0, .slice none 0 0] := by with_reducible (repeat first | assumption | (refine Bx.n ⟨?_, ?_⟩ <;> focus (first | rfl | (simp; done) | omega)) | refine Bx.a ?_ _ | refine Bx.d ?_ | refine Bx.e ?_ _ | refine Bx.p (by first | omega | simp <;> omega) ?_)
  have hB3N : Blk (w4.alloc (.cells #[.int .i64 3, .int .i64 d, .slice none 0 0, .slice none 0 0] 25)) w4.heap.size 25 [.int .i64 3, .int .i64 d, .slice none 0 0, .slice none 0 0] := by with_reducible (repeat first | assumption | (refine Bx.n ⟨?_, ?_⟩ <;> focus (first | rfl | (simp; done) | omega)) | refine Bx.a ?_ _ | refine Bx.d ?_ | refine Bx.e ?_ _ | refine Bx.p (by first | omega | simp <;> omega) ?_)
  have hszN : (w4.alloc (.cells #[.int .i64 3, .int .i64 d, .slice none 0 0, .slice none 0 0] 25)).heap.size = w4.heap.size + 1 := by simp
  generalize (w4.alloc (.cells #[.int .i64 3, .int .i64 d, .slice none 0 0, .slice none 0 0] 25)) = W5 at *
  generalize w4.heap.size = b3 at *
  clear hB1 hB2 hkw
  have g0 := hB1N.cell (i := 0) rfl
  have g1 := hB1N.cell (i := 1) rfl
  have gf := hB1N.free
  have gl := hB1N.lt
  go_wp2_with fail
  have hR5 := (hR.mono (G := Go.Kf.old F w.heap.size) (fun b h1 h2 => ⟨h2, h1⟩) (fun c x hx => lsS.mono hx fun b h1 h2 => ⟨h2, h1⟩)).kf (KF.keeps hkwN) (fun _ _ h => lsS.kf h (KF.keeps hkwN))
  refine (dumpRings_ (F := Go.Kf.old F w.heap.size) [.slice a n cap, .int .u8 d] (.node 3 d [] kids) _ ⟨d, a, n, cap, css, kids, rfl, rfl, HD.out, hn, hR5, HDIM.out⟩).mono ?_
  show ∀ e w', RetS W5 (Go.Kf.old F w.heap.size) LsR 2 kids.length kids e w' → _
  rw [HLK.out]
  rintro e WX ⟨qa, qc, qcss, rfl, hkX, hRX⟩
  clear g0 g1 gf gl hR5
  replace hB1N := hB1N.keep hkX
  replace hB2N := hB2N.keep hkX
  replace hB3N := hB3N.keep hkX
  replace hkwN := Stab.Keeps.trans hkwN hkX
  have hsX := hkX.size
  have hRD := hRX.mono (G := fun b => b < WX.heap.size ∧ b ≠ b3) (fun b hbl hb => ⟨hbl, hb.elim (fun h => by have := h.2; omega) (fun h => by omega)⟩) (fun _ _ h => lsS.mono h (fun b hbl hb => ⟨hbl, hb.elim (fun h => by have := h.2; omega) (fun h => by omega)⟩))
  have hle := hRD.sz.sz.le
  have hmx := hRD.sz.sz.max
  unfold maxLen at hmx
  obtain ⟨B, hBe⟩ : ∃ B, WX.heap.size = B := ⟨_, rfl⟩
  rw [hBe] at hRD
  have hb3B : b3 < B := by omega
  have hb2 : w.heap.size + 1 < b3 := hl2
  have hB5s : B ≤ WX.heap.size := by omega
  replace hle : n ≤ qc := hRD.sz.sz.le
  clear hBe hl2 hszN
  have hG0 : GrowB B WX GmR 25 4 0 (.slice none 0 0) (kids.take 0) := by simpa using GrowB.nil B WX GmR 25 4 hB5s
  go_wp2_with fail
  try simp only [hwd]
  go_loopw [13] (fun iv wr => ∃ (k : Nat) (al : Option Addr) (c : Nat), k ≤ n ∧ iv = .int .i64 k ∧ Stab.Keeps w wr ∧ Blk wr w.heap.size 121 [.slice a n cap, .int .u8 d] ∧ Blk wr (w.heap.size + 1) 25 [.int .i64 0, .int .i64 0, .slice none 0 0, .slice none 0 0] ∧ Blk wr b3 25 [.int .i64 3, .int .i64 d, .slice none 0 0, .slice al k c] ∧ Go.Kf.Rows wr (fun b => b < B ∧ b ≠ b3) LsR qa n qc 2 qcss kids ∧ GrowB B wr GmR 25 4 k (.slice al k c) (kids.take k)) (fun iv _ => n - (intOf iv).toNat)
  case atStart => exact ⟨0, none, 0, by omega, rfl, hkwN, hB1N, hB2N, hB3N, hRD, hG0⟩
  case round =>
    clear hkwN hB1N hB2N hB3N hG0 hB5s hRD
    obtain ⟨k, al, c, hk, rfl, hkw, hB1, hB2, hB3, hRD, hG⟩ := hrel
    by_cases hlt : k < n
    · have hd1 : decide ((k : Int) < (n : Int)) = true := by simp; omega
      obtain ⟨b, off, cc, ha, hb, _, _, hc6, hcc, hx⟩ := hRD.elem hlt
      have hkk : k < kids.length := by have := HLK.out; omega
      have htk : kids.take (k + 1) = kids.take k ++ [kids[k]] := List.take_succ_eq_append_getElem hkk
      generalize hke : kids[k]'hkk = kid at *
      have HTK := Lib.hid htk
      clear htk hke
      obtain ⟨dq, aq, nq, cq, rfl⟩ := hx.two
      subst ha
      have e0 : wr.cell? ⟨b, off + k * 2, none⟩ = some (.int .u8 dq) := by have := hcc 0 _ rfl; simpa using this
      have e1 : wr.cell? ⟨b, off + k * 2 + 1, none⟩ = some (.slice aq nq cq) := hcc 1 _ rfl
      have hP := fun w' (hk' : Stab.Keeps wr w') => plainLine_ [.int .u8 dq, .slice aq nq cq] kid w' (lsS.kf hx (KF.keeps hk'))
      clear hcc hx
      generalize hyse : kids.take k = ys at *
      have hown : ∀ g, (Value.slice al k c).ownBlock = some g → B ≤ g ∧ g < wr.heap.size := fun g hg => hG.own hg
      have hgl : B ≤ wr.heap.size := hG.size
      go_upto_region 5 with (fail)
      have hkM : Stab.Keeps wr (wr.alloc (.cells #[.int .u8 dq, .slice aq nq cq] 99)) := by with_reducible (repeat first | exact Kx.r _ | assumption | refine Kx.a ?_ _ | refine Kx.d ?_ | refine Kx.e ?_ _ | refine Kx.s (by simp <;> omega) ?_ _ | refine Kx.t ?_ (by assumption))
      have hB5 : Blk (wr.alloc (.cells #[.int .u8 dq, .slice aq nq cq] 99)) wr.heap.size 99 [.int .u8 dq, .slice aq nq cq] := by with_reducible (repeat first | assumption | (refine Bx.n ⟨?_, ?_⟩ <;> focus (first | rfl | (simp; done) | omega)) | refine Bx.a ?_ _ | refine Bx.d ?_ | refine Bx.e ?_ _ | refine Bx.p (by first | omega | simp <;> omega) ?_)
      generalize (wr.alloc (.cells #[.int .u8 dq, .slice aq nq cq] 99)) = WM at *
      replace hB1 := hB1.keep hkM
      replace hB2 := hB2.keep hkM
      replace hB3 := hB3.keep hkM
      replace hkw := Stab.Keeps.trans hkw hkM
      replace hG := hG.keep gmS hkM
      replace hRD := hRD.kf (KF.keeps hkM) (fun _ _ h => lsS.kf h (KF.keeps hkM))
      have hsM := hkM.size
      have t0 := hB5.cell (i := 0) rfl
      have t1 := hB5.cell (i := 1) rfl
      have tf := hB5.free
      have tl := hB5.lt
      have y0 := hB3.cell (i := 0) rfl
      have y1 := hB3.cell (i := 1) rfl
      have y2 := hB3.cell (i := 2) rfl
      have y3 := hB3.cell (i := 3) rfl
      have yf := hB3.free
      have yl := hB3.lt
      refine Stab.keep_tail 5 (GmF WM.heap.size 3 kid) (fun k => k == 3 || k == 4) (fun k => false) (gmPre _ _ _) (by kernel_rfl) (by kernel_rfl) fun hcx => ?_
      simp only [List.take_succ_cons, List.take_zero, List.drop_succ_cons, List.drop_zero]
      repeat (first
        | (refine Stab.quiet rfl rfl rfl (fun K hK => ?_); go_big_quiet_op; refine hK _ ?_; clear hK K)
        | (refine Stab.one rfl rfl rfl ?_
           apply Exists.intro
           refine ⟨fun w1 hw1 => ?_, fun K hK => ?_⟩
           · go_simp
             first | (fail)
           go_simp
           refine hK _ ?_
           clear hK K)
        | (refine Stab.skip rfl (fun K hK => ?_); go_simp; refine hK _ ?_; clear hK K))
      refine Stab.made rfl rfl (fun w1 hk1 => ?_) (fun v hv K hK => ?_)
      · go_simp
        have hk1' : Stab.Keeps WM w1 := hk1.1
        refine (hP _ (Stab.Keeps.trans hkM hk1')).mono ?_
        rintro e w2 ⟨cs2, rfl, hk2, hx2⟩
        obtain ⟨zk, zd, zna, znn, znc, zka, zkn, zkc, rfl⟩ := hx2.four
        have hsz := hk1'.size
        exact ⟨_, rfl, hk2, fun _ => ⟨zk, zd, zna, znn, znc, zka, zkn, zkc, rfl, gmS.mono hx2 (fun b _ hb => hb.elim (fun h => h.elim) (fun h => by omega))⟩, fun e => by omega⟩
      obtain ⟨wv, _, _, hv⟩ := hv
      obtain ⟨zk, zd, zna, znn, znc, zka, zkn, zkc, rfl, _⟩ := hv.f5 rfl
      go_simp
      refine hK _ ?_
      clear hK hv
      refine Stab.made rfl rfl (fun w1 hk1 => ?_) (fun v hv K hK => ?_)
      · go_simp
        have hk1' : Stab.Keeps WM w1 := hk1.1
        have hf := Stab.setF_new (hk1.2 3 (by rfl))
        obtain ⟨yk, yd, yna, ynn, ync, yka, ykn, ykc, he, hx5⟩ := hf.f5 rfl
        injection he with he
        injection he with he
        simp only [List.cons.injEq, Value.int.injEq, Value.slice.injEq, true_and, and_true] at he
        obtain ⟨e0, e1, ⟨e2, e3, e4⟩, e5, e6, e7⟩ := he
        have f0 : yk = zk := by omega
        have f1 : yd = zd := by omega
        subst f0 f1 e2 e3 e4 e5 e6 e7
        refine ⟨by with_reducible (repeat first | exact Kx.r _ | assumption | refine Kx.a ?_ _ | refine Kx.d ?_ | refine Kx.e ?_ _ | refine Kx.s (by simp <;> omega) ?_ _ | refine Kx.t ?_ (by assumption)), fun e => by omega, fun _ => ⟨w1.heap.size, yk, yd, zna, znn, znc, zka, zkn, zkc, rfl, hk1'.size, by with_reducible (repeat first | assumption | (refine Bx.n ⟨?_, ?_⟩ <;> focus (first | rfl | (simp; done) | omega)) | refine Bx.a ?_ _ | refine Bx.d ?_ | refine Bx.e ?_ _ | refine Bx.p (by first | omega | simp <;> omega) ?_), ?_⟩⟩
        exact gmS.mono (gmS.kf (gmS.mono (G := fun b => WM.heap.size ≤ b ∧ b < w1.heap.size) hx5 (fun b hbl hb => ⟨hb, hbl⟩)) ((KF.refl _ _).alloc _)) (fun b _ hb => ⟨hb.1, by simp; omega⟩)
      obtain ⟨wv, _, _, hv⟩ := hv
      obtain ⟨g, _, _, _, _, _, _, _, _, rfl, _⟩ := hv.f6 rfl
      go_simp
      refine hK _ ?_
      clear hK hv
      refine Stab.nil fun w5 hw5 hfs => ?_
      obtain ⟨g', yk, yd, yna, ynn, ync, yka, ykn, ykc, he, hge, hBg, hx5⟩ := (Stab.setF_new (hfs (4))).f6 rfl
      cases he
      have hG5 := hG.keep gmS hw5
      have hB15 := hB1.keep hw5
      have hB25 := hB2.keep hw5
      have hB35 := hB3.keep hw5
      have hkw5 := Stab.Keeps.trans hkw hw5
      have hRD5 := hRD.kf (KF.keeps hw5) (fun _ _ h => lsS.kf h (KF.keeps hw5))
      have hone : ∀ u ∈ ([.int .i64 (yk : Nat), .int .i64 (yd : Nat), .slice yna ynn ync, .slice yka ykn ykc] : List Value), u.oneCell' = true := hx5.ones
      have hnc : ∀ (j : Nat) (u : Value), ([.int .i64 (yk : Nat), .int .i64 (yd : Nat), .slice yna ynn ync, .slice yka ykn ykc] : List Value)[j]? = some u → w5.cell? ((⟨g, 0, none⟩ : Addr).add j) = some u := fun j u hj => by rw [add_none]; simpa using hBg.cell (i := j) hj
      have hs5 := hw5.size
      have hx6 := gmS.mono (G := fun b => WM.heap.size ≤ b ∧ b < w5.heap.size) hx5 (fun b _ hb => hb)
      have HG5 := Lib.hid hG5
      have hB3l := hB35.lt
      clear hcx hfs hG hG5 hB1 hB2 hB3 hkw hw5 hx5 hP hB5 hRD t0 t1 tf tl y0 y1 y2 y3 yf yl
      refine append_growB (B := B) gmS rfl _ _ 23 rfl 25 i0 _ 4 64 Tryz.underlying23 HI.out HZ0.out HZ1.out HZ2.out rfl (by decide) _ k ys rfl HG5.out ⟨g, 0, none⟩ 1 [.int .i64 (yk : Nat), .int .i64 (yd : Nat), .slice yna ynn ync, .slice yka ykn ykc] rfl rfl hnc hone ?c2 ?c3 _ _ hx6 ?c4 ?c5 ?_
      case c2 => unfold maxLen; omega
      case c3 => omega
      case c4 => exact fun b hb => ⟨by omega, hb.2⟩
      case c5 => exact fun q hq hb => by have := hown q hq; omega
      intro al' c' w7 hG7 hB7 hgr
      have hB17 := hB15.below hB7 (by omega)
      have hB27 := hB25.below hB7 (by omega)
      have hB37 := hB35.below hB7 (by omega)
      have hRD7 := hRD5.kf (KF.below hB7 (fun b hb _ => hb.1)) (fun _ _ h => lsS.kf h (KF.below hB7 (fun b hb _ => hb.1)))
      have hk7 : Stab.Keeps w w7 := Below.trans hkw5 (Below.mono hB7 (by omega))
      clear HG5 hown hgr hB7 hkw5 hx6 hB15 hB25 hB35 hnc hone hBg
      rw [← HTK.out] at hG7
      have y0 := hB37.cell (i := 0) rfl
      have y1 := hB37.cell (i := 1) rfl
      have y2 := hB37.cell (i := 2) rfl
      have y3 := hB37.cell (i := 3) rfl
      have yf := hB37.free
      have yl := hB37.lt
      have hB38 := hB37.set 3 (.slice al' (k + 1) c')
      simp only [List.set] at hB38
      have hB18 : Blk (w7.setCell ⟨b3, 3, none⟩ (.slice al' (k + 1) c')) w.heap.size 121 [.slice a n cap, .int .u8 d] := by with_reducible (repeat first | assumption | (refine Bx.n ⟨?_, ?_⟩ <;> focus (first | rfl | (simp; done) | omega)) | refine Bx.a ?_ _ | refine Bx.d ?_ | refine Bx.e ?_ _ | refine Bx.p (by first | omega | simp <;> omega) ?_)
      have hB28 : Blk (w7.setCell ⟨b3, 3, none⟩ (.slice al' (k + 1) c')) (w.heap.size + 1) 25 [.int .i64 0, .int .i64 0, .slice none 0 0, .slice none 0 0] := by with_reducible (repeat first | assumption | (refine Bx.n ⟨?_, ?_⟩ <;> focus (first | rfl | (simp; done) | omega)) | refine Bx.a ?_ _ | refine Bx.d ?_ | refine Bx.e ?_ _ | refine Bx.p (by first | omega | simp <;> omega) ?_)
      have hk8 : Stab.Keeps w (w7.setCell ⟨b3, 3, none⟩ (.slice al' (k + 1) c')) := Stab.Keeps.setCell (by simp; omega) hk7 _
      have hkf8 : KF (fun b => b < B ∧ b ≠ b3) w7 (w7.setCell ⟨b3, 3, none⟩ (.slice al' (k + 1) c')) := (KF.refl _ _).set (fun h => h.2 rfl)
      have hRD8 := hRD7.kf hkf8 (fun _ _ h => lsS.kf h hkf8)
      have hG8 := hG7.kf gmS (w4 := w7.setCell ⟨b3, 3, none⟩ (.slice al' (k + 1) c')) ((KF.refl _ _).set (fun h => by simp at h; omega))
      clear hB17 hB27 hB37 hG7 hk7
      go_wp2_with fail
      exact ⟨⟨k + 1, al', c', by omega, by simp, hk8, hB18, hB28, hB38, hRD8, hG8⟩, by simp [intOf]; omega⟩
    · obtain rfl : k = n := by omega
      have hd1 : decide ((k : Int) < (k : Int)) = false := by simp
      rw [List.take_of_length_le (by rw [HLK.out]; exact Nat.le_refl _)] at hG
      obtain ⟨css', hRw⟩ := hG.toRows gmS
      have t0 := hB3.cell (i := 0) rfl
      have t1 := hB3.cell (i := 1) rfl
      have t2 := hB3.cell (i := 2) rfl
      have t3 := hB3.cell (i := 3) rfl
      have tf := hB3.free
      have tl := hB3.lt
      have g0 := hB2.cell (i := 0) rfl
      have g1 := hB2.cell (i := 1) rfl
      have g2 := hB2.cell (i := 2) rfl
      have g3 := hB2.cell (i := 3) rfl
      have gf := hB2.free
      have gl := hB2.lt
      have hBn := (((hB2.set 0 (.int .i64 3)).set 1 (.int .i64 d)).set 2 (.slice none 0 0)).set 3 (.slice al k c)
      simp only [List.set] at hBn
      have hkz : Stab.Keeps w ((((wr.setCell ⟨w.heap.size + 1, 0, none⟩ (.int .i64 3)).setCell ⟨w.heap.size + 1, 1, none⟩ (.int .i64 d)).setCell ⟨w.heap.size + 1, 2, none⟩ (.slice none 0 0)).setCell ⟨w.heap.size + 1, 3, none⟩ (.slice al k c)) := by with_reducible (repeat first | exact Kx.r _ | assumption | refine Kx.a ?_ _ | refine Kx.d ?_ | refine Kx.e ?_ _ | refine Kx.s (by simp <;> omega) ?_ _ | refine Kx.t ?_ (by assumption))
      have hkf : KF (fun b => B ≤ b) wr ((((wr.setCell ⟨w.heap.size + 1, 0, none⟩ (.int .i64 3)).setCell ⟨w.heap.size + 1, 1, none⟩ (.int .i64 d)).setCell ⟨w.heap.size + 1, 2, none⟩ (.slice none 0 0)).setCell ⟨w.heap.size + 1, 3, none⟩ (.slice al k c)) := ((((KF.refl _ _).set (fun h => by simp at h; omega)).set (fun h => by simp at h; omega)).set (fun h => by simp at h; omega)).set (fun h => by simp at h; omega)
      have hRz := hRw.kf hkf (fun _ _ h => gmS.kf h hkf)
      clear hRw hG hkf
      go_wp2_with fail
      generalize ((((wr.setCell ⟨w.heap.size + 1, 0, none⟩ (.int .i64 3)).setCell ⟨w.heap.size + 1, 1, none⟩ (.int .i64 d)).setCell ⟨w.heap.size + 1, 2, none⟩ (.slice none 0 0)).setCell ⟨w.heap.size + 1, 3, none⟩ (.slice al k c)) = Wz at *
      clear hB1 hB2 hB3 t0 t1 t2 t3 tf tl g0 g1 g2 g3 gf gl hkw
      have y0 := hBn.cell (i := 0) rfl
      have y1 := hBn.cell (i := 1) rfl
      have y2 := hBn.cell (i := 2) rfl
      have y3 := hBn.cell (i := 3) rfl
      have yf := hBn.free
      have yl := hBn.lt
      refine bodyPost_ret (v := .agg #[.int .i64 3, .int .i64 d, .slice none 0 0, .slice al k c]) (by simp [results, Tryz.results104, go_sem, *]) rfl ⟨[.int .i64 (3 : Nat), .int .i64 (d : Nat), .slice none 0 0, .slice al k c], rfl, hkz, ?_⟩
      exact .mk 3 d _ _ none al _ _ _ _ css' rfl (SzF.nil _ _ _) hRz.lc hRz.lx hRz.each (hRz.sz.mono (fun b _ hb => .inr (by omega))) (fun i h1 h2 => gmS.mono (hRz.is i h1 h2) (fun b _ hb => .inr (by omega)))
set_option maxRecDepth 100000 in
set_option maxHeartbeats 4000000 in
theorem plainMy_ {F : Nat → Prop} (cs : List Value) (p : Pg) (w : World) (h : MyR w F cs p) : Calls Tryz.prog 107 #[.agg cs.toArray] w (RetR w no GmR p) := by
  obtain ⟨i0, hi, hz0, hz1, hz2⟩ := info_parts infoGm
  have HI := Lib.hid hi
  have HZ0 := Lib.hid hz0
  have HZ1 := Lib.hid hz1
  have HZ2 := Lib.hid hz2
  clear hi hz0 hz1 hz2
  obtain ⟨d, a, n, cap, css, kids, rfl, rfl, hd, hn, hR, hdim⟩ := h
  have hwd : wrap64 (d : Int) = d := IntWalk.wrap64_in _ (by omega)
  have hle := hR.sz.sz.le
  have hmx := hR.sz.sz.max
  unfold maxLen at hmx
  have hlk := hR.lx
  have HLK := Lib.hid hlk
  clear hlk hd hdim
  go_enter Tryz.func107, Tryz.ntmps107
  go_wp2_with fail
  have hkw : Stab.Keeps w ((w.alloc (.cells #[.slice a n cap, .int .u8 d] 134)).alloc (.cells #[.int .i64 0, .int .i64 0, .slice none 0 0, .slice none 0 0] 25)) := by with_reducible (repeat first | exact Kx.r _ | assumption | refine Kx.a ?_ _ | refine Kx.d ?_ | refine Kx.e ?_ _ | refine Kx.s (by simp <;> omega) ?_ _ | refine Kx.t ?_ (by assumption))
  have hB1 : Blk ((w.alloc (.cells #[.slice a n cap, .int .u8 d] 134)).alloc (.cells #[.int .i64 0, .int .i64 0, .slice none 0 0, .slice none 0 0] 25)) w.heap.size 134 [.slice a n cap, .int .u8 d] := by with_reducible (repeat first | assumption | (refine Bx.n ⟨?_, ?_⟩ <;> focus (first | rfl | (simp; done) | omega)) | refine Bx.a ?_ _ | refine Bx.d ?_ | refine Bx.e ?_ _ | refine Bx.p (by first | omega | simp <;> omega) ?_)
  have hB2 : Blk ((w.alloc (.cells #[.slice a n cap, .int .u8 d] 134)).alloc (.cells #[.int .i64 0, .int .i64 0, .slice none 0 0, .slice none 0 0] 25)) (w.heap.size + 1) 25 [.int .i64 0, .int .i64 0, .slice none 0 0, .slice none 0 0] := by with_reducible (repeat first | assumption | (refine Bx.n ⟨?_, ?_⟩ <;> focus (first | rfl | (simp; done) | omega)) | refine Bx.a ?_ _ | refine Bx.d ?_ | refine Bx.e ?_ _ | refine Bx.p (by first | omega | simp <;> omega) ?_)
  generalize ((w.alloc (.cells #[.slice a n cap, .int .u8 d] 134)).alloc (.cells #[.int .i64 0, .int .i64 0, .slice none 0 0, .slice none 0 0] 25)) = W0 at *
  refine (typeMy0_ a n cap d _).mono ?_
  rintro e w4 ⟨rfl, hk4⟩
  replace hB1 := hB1.keep hk4
  replace hB2 := hB2.keep hk4
  replace hkw := Stab.Keeps.trans hkw hk4
  clear hk4
  have g0 := hB1.cell (i := 0) rfl
  have g1 := hB1.cell (i := 1) rfl
  have gf := hB1.free
  have gl := hB1.lt
  go_upto_region 2 with (fail)
  clear g0 g1 gf gl
  have hl2 := hB2.lt
  have hkwN : Stab.Keeps w (w4.alloc (.cells #[.int .i64 6, .int .i64 d, .slice none 0 0, .slice none 0 0] 25)) := by with_reducible (repeat first | exact Kx.r _ | assumption | refine Kx.a ?_ _ | refine Kx.d ?_ | refine Kx.e ?_ _ | refine Kx.s (by simp <;> omega) ?_ _ | refine Kx.t ?_ (by assumption))
  have hB1N : Blk (w4.alloc (.cells #[.int .i64 6, .int .i64 d, .slice none 0 0, .slice none 0 0] 25)) w.heap.size 134 [.slice a n cap, .int .u8 d] := by with_reducible (repeat first | assumption | (refine Bx.n ⟨?_, ?_⟩ <;> focus (first | rfl | (simp; done) | omega)) | refine Bx.a ?_ _ | refine Bx.d ?_ | refine Bx.e ?_ _ | refine Bx.p (by first | omega | simp <;> omega) ?_)
  have hB2N : Blk (w4.alloc (.cells #[.int .i64 6, .int .i64 d, .slice none 0 0, .slice none 0 0] 25)) (w.heap.size + 1) 25 [.int .i64 0, .int .i64 0, .slice none 0 0, .slice none 0 0] := by with_reducible (repeat first | assumption | (refine Bx.n ⟨?_, ?_⟩ <;> focus (first | rfl | (simp; done) | omega)) | refine Bx.a ?_ _ | refine Bx.d ?_ | refine Bx.e ?_ _ | refine Bx.p (by first | omega | simp <;> omega) ?_)
  have hB3N : Blk (w4.alloc (.cells #[.int .i64 6, .int .i64 d, .slice none 0 0, .slice none 0 0] 25)) w4.heap.size 25 [.int .i64 6, .int .i64 d, .slice none 0 0, .slice none 0 0] := by with_reducible (repeat first | assumption | (refine Bx.n ⟨?_, ?_⟩ <;> focus (first | rfl | (simp; done) | omega)) | refine Bx.a ?_ _ | refine Bx.d ?_ | refine Bx.e ?_ _ | refine Bx.p (by first | omega | simp <;> omega) ?_)
  have hszN : (w4.alloc (.cells #[.int .i64 6, .int .i64 d, .slice none 0 0, .slice none 0 0] 25)).heap.size = w4.heap.size + 1 := by simp
  generalize (w4.alloc (.cells #[.int .i64 6, .int .i64 d, .slice none 0 0, .slice none 0 0] 25)) = W5 at *
  generalize w4.heap.size = b3 at *
  clear hB1 hB2 hkw
  obtain ⟨B, hBe⟩ : ∃ B, b3 + 1 = B := ⟨_, rfl⟩
  have hb3B : b3 < B := by omega
  have hb2 : w.heap.size + 1 < b3 := hl2
  have hB5s : B ≤ W5.heap.size := by omega
  clear hBe hl2 hszN
  have hG0 : GrowB B W5 GmR 25 4 0 (.slice none 0 0) (kids.take 0) := by simpa using GrowB.nil B W5 GmR 25 4 hB5s
  go_wp2_with fail
  try simp only [hwd]
  go_loopw [4] (fun iv wr => ∃ (k : Nat) (al : Option Addr) (c : Nat), k ≤ n ∧ iv = .int .i64 k ∧ Stab.Keeps w wr ∧ Blk wr w.heap.size 134 [.slice a n cap, .int .u8 d] ∧ Blk wr (w.heap.size + 1) 25 [.int .i64 0, .int .i64 0, .slice none 0 0, .slice none 0 0] ∧ Blk wr b3 25 [.int .i64 6, .int .i64 d, .slice none 0 0, .slice al k c] ∧ GrowB B wr GmR 25 4 k (.slice al k c) (kids.take k)) (fun iv _ => n - (intOf iv).toNat)
  case atStart => exact ⟨0, none, 0, by omega, rfl, hkwN, hB1N, hB2N, hB3N, hG0⟩
  case round =>
    clear hkwN hB1N hB2N hB3N hG0 hB5s
    obtain ⟨k, al, c, hk, rfl, hkw, hB1, hB2, hB3, hG⟩ := hrel
    have g0 := hB1.cell (i := 0) rfl
    have g1 := hB1.cell (i := 1) rfl
    have gf := hB1.free
    have gl := hB1.lt
    go_wp2_with fail
    refine (numMy_ a n cap d _).mono ?_
    rintro e w6 ⟨rfl, hk6⟩
    clear g0 g1 gf gl
    replace hB1 := hB1.keep hk6
    replace hB2 := hB2.keep hk6
    replace hB3 := hB3.keep hk6
    replace hG := hG.keep gmS hk6
    replace hkw := Stab.Keeps.trans hkw hk6
    clear hk6
    by_cases hlt : k < n
    · have hd1 : decide ((k : Int) < (n : Int)) = true := by simp; omega
      obtain ⟨b, off, cc, ha, hb, _, _, hc6, hcc, hx⟩ := (hR.kf (KF.keeps hkw) (fun _ _ h => pyS.kf h (KF.keeps hkw))).elem hlt
      have hkk : k < kids.length := by have := HLK.out; omega
      have htk : kids.take (k + 1) = kids.take k ++ [kids[k]] := List.take_succ_eq_append_getElem hkk
      generalize hke : kids[k]'hkk = kid at *
      have HTK := Lib.hid htk
      clear htk hke
      obtain ⟨aq, nq, cq, dq, rfl⟩ := hx.two
      subst ha
      have e0 : w6.cell? ⟨b, off + k * 2, none⟩ = some (.slice aq nq cq) := by have := hcc 0 _ rfl; simpa using this
      have e1 : w6.cell? ⟨b, off + k * 2 + 1, none⟩ = some (.int .u8 dq) := hcc 1 _ rfl
      have hP := fun w' (hk' : Stab.Keeps w6 w') => plainPy_ [.slice aq nq cq, .int .u8 dq] kid w' (pyS.kf hx (KF.keeps hk'))
      clear hcc hx
      generalize hyse : kids.take k = ys at *
      have hown : ∀ g, (Value.slice al k c).ownBlock = some g → B ≤ g ∧ g < w6.heap.size := fun g hg => hG.own hg
      have hgl : B ≤ w6.heap.size := hG.size
      have hNth := fun w' (hk' : Stab.Keeps w6 w') => polygonN_ b off n cap d k aq nq cq dq w' hlt hle (by omega) (Nat.lt_of_lt_of_le hb hk'.size) (by rw [(Stab.own_cell hk' b hb).1]; exact e0) (by rw [(Stab.own_cell hk' b hb).1]; exact e1)
      have hlb := hb
      have t0 := hB1.cell (i := 0) rfl
      have t1 := hB1.cell (i := 1) rfl
      have tf := hB1.free
      have tl := hB1.lt
      have y0 := hB3.cell (i := 0) rfl
      have y1 := hB3.cell (i := 1) rfl
      have y2 := hB3.cell (i := 2) rfl
      have y3 := hB3.cell (i := 3) rfl
      have yf := hB3.free
      have yl := hB3.lt
      go_upto_region 5 with (fail)
      refine Stab.keep_tail 7 (GmF w6.heap.size 5 kid) (fun k => k == 5 || k == 6) (fun k => k == 4) (gmPre _ _ _) (by kernel_rfl) (by kernel_rfl) fun hcx => ?_
      simp only [List.take_succ_cons, List.take_zero, List.drop_succ_cons, List.drop_zero]
      repeat (first
        | (refine Stab.quiet rfl rfl rfl (fun K hK => ?_); go_big_quiet_op; refine hK _ ?_; clear hK K)
        | (refine Stab.one rfl rfl rfl ?_
           apply Exists.intro
           refine ⟨fun w1 hw1 => ?_, fun K hK => ?_⟩
           · go_simp
             first | (go_at_call 152; exact hNth _ (by with_reducible (repeat first | exact Kx.r _ | assumption | refine Kx.a ?_ _ | refine Kx.d ?_ | refine Kx.e ?_ _ | refine Kx.s (by simp <;> omega) ?_ _ | refine Kx.t ?_ (by assumption))))
           go_simp
           refine hK _ ?_
           clear hK K)
        | (refine Stab.skip rfl (fun K hK => ?_); go_simp; refine hK _ ?_; clear hK K))
      refine Stab.made rfl rfl (fun w1 hk1 => ?_) (fun v hv K hK => ?_)
      · go_simp
        have hk1' : Stab.Keeps w6 w1 := hk1.1
        refine (hP _ (hk1')).mono ?_
        rintro e w2 ⟨cs2, rfl, hk2, hx2⟩
        obtain ⟨zk, zd, zna, znn, znc, zka, zkn, zkc, rfl⟩ := hx2.four
        have hsz := hk1'.size
        exact ⟨_, rfl, hk2, fun _ => ⟨zk, zd, zna, znn, znc, zka, zkn, zkc, rfl, gmS.mono hx2 (fun b _ hb => hb.elim (fun h => h.elim) (fun h => by omega))⟩, fun e => by omega⟩
      obtain ⟨wv, _, _, hv⟩ := hv
      obtain ⟨zk, zd, zna, znn, znc, zka, zkn, zkc, rfl, _⟩ := hv.f5 rfl
      go_simp
      refine hK _ ?_
      clear hK hv
      refine Stab.made rfl rfl (fun w1 hk1 => ?_) (fun v hv K hK => ?_)
      · go_simp
        have hk1' : Stab.Keeps w6 w1 := hk1.1
        have hf := Stab.setF_new (hk1.2 5 (by rfl))
        obtain ⟨yk, yd, yna, ynn, ync, yka, ykn, ykc, he, hx5⟩ := hf.f5 rfl
        injection he with he
        injection he with he
        simp only [List.cons.injEq, Value.int.injEq, Value.slice.injEq, true_and, and_true] at he
        obtain ⟨e0, e1, ⟨e2, e3, e4⟩, e5, e6, e7⟩ := he
        have f0 : yk = zk := by omega
        have f1 : yd = zd := by omega
        subst f0 f1 e2 e3 e4 e5 e6 e7
        refine ⟨by with_reducible (repeat first | exact Kx.r _ | assumption | refine Kx.a ?_ _ | refine Kx.d ?_ | refine Kx.e ?_ _ | refine Kx.s (by simp <;> omega) ?_ _ | refine Kx.t ?_ (by assumption)), fun e => by omega, fun _ => ⟨w1.heap.size, yk, yd, zna, znn, znc, zka, zkn, zkc, rfl, hk1'.size, by with_reducible (repeat first | assumption | (refine Bx.n ⟨?_, ?_⟩ <;> focus (first | rfl | (simp; done) | omega)) | refine Bx.a ?_ _ | refine Bx.d ?_ | refine Bx.e ?_ _ | refine Bx.p (by first | omega | simp <;> omega) ?_), ?_⟩⟩
        exact gmS.mono (gmS.kf (gmS.mono (G := fun b => w6.heap.size ≤ b ∧ b < w1.heap.size) hx5 (fun b hbl hb => ⟨hb, hbl⟩)) ((KF.refl _ _).alloc _)) (fun b _ hb => ⟨hb.1, by simp; omega⟩)
      obtain ⟨wv, _, _, hv⟩ := hv
      obtain ⟨g, _, _, _, _, _, _, _, _, rfl, _⟩ := hv.f6 rfl
      go_simp
      refine hK _ ?_
      clear hK hv
      refine Stab.nil fun w5 hw5 hfs => ?_
      obtain ⟨g', yk, yd, yna, ynn, ync, yka, ykn, ykc, he, hge, hBg, hx5⟩ := (Stab.setF_new (hfs 6)).f6 rfl
      cases he
      have hG5 := hG.keep gmS hw5
      have hB15 := hB1.keep hw5
      have hB25 := hB2.keep hw5
      have hB35 := hB3.keep hw5
      have hkw5 := Stab.Keeps.trans hkw hw5
      have hone : ∀ u ∈ ([.int .i64 (yk : Nat), .int .i64 (yd : Nat), .slice yna ynn ync, .slice yka ykn ykc] : List Value), u.oneCell' = true := hx5.ones
      have hnc : ∀ (j : Nat) (u : Value), ([.int .i64 (yk : Nat), .int .i64 (yd : Nat), .slice yna ynn ync, .slice yka ykn ykc] : List Value)[j]? = some u → w5.cell? ((⟨g, 0, none⟩ : Addr).add j) = some u := fun j u hj => by rw [add_none]; simpa using hBg.cell (i := j) hj
      have hs5 := hw5.size
      have hx6 := gmS.mono (G := fun b => w6.heap.size ≤ b ∧ b < w5.heap.size) hx5 (fun b _ hb => hb)
      have HG5 := Lib.hid hG5
      have hB3l := hB35.lt
      clear hcx hfs hG hG5 hB1 hB2 hB3 hkw hw5 hx5 hNth hP t0 t1 tf tl y0 y1 y2 y3 yf yl
      refine append_growB (B := B) gmS rfl _ _ 23 rfl 25 i0 _ 4 64 Tryz.underlying23 HI.out HZ0.out HZ1.out HZ2.out rfl (by decide) _ k ys rfl HG5.out ⟨g, 0, none⟩ 1 [.int .i64 (yk : Nat), .int .i64 (yd : Nat), .slice yna ynn ync, .slice yka ykn ykc] rfl rfl hnc hone ?c2 ?c3 _ _ hx6 ?c4 ?c5 ?_
      case c2 => unfold maxLen; omega
      case c3 => omega
      case c4 => exact fun b hb => ⟨by omega, hb.2⟩
      case c5 => exact fun q hq hb => by have := hown q hq; omega
      intro al' c' w7 hG7 hB7 hgr
      have hB17 := hB15.below hB7 (by omega)
      have hB27 := hB25.below hB7 (by omega)
      have hB37 := hB35.below hB7 (by omega)
      have hk7 : Stab.Keeps w w7 := Below.trans hkw5 (Below.mono hB7 (by omega))
      clear HG5 hown hgr hB7 hkw5 hx6 hB15 hB25 hB35 hnc hone hBg
      rw [← HTK.out] at hG7
      have y0 := hB37.cell (i := 0) rfl
      have y1 := hB37.cell (i := 1) rfl
      have y2 := hB37.cell (i := 2) rfl
      have y3 := hB37.cell (i := 3) rfl
      have yf := hB37.free
      have yl := hB37.lt
      have hB38 := hB37.set 3 (.slice al' (k + 1) c')
      simp only [List.set] at hB38
      have hB18 : Blk (w7.setCell ⟨b3, 3, none⟩ (.slice al' (k + 1) c')) w.heap.size 134 [.slice (some ⟨b, off, none⟩) n cap, .int .u8 d] := by with_reducible (repeat first | assumption | (refine Bx.n ⟨?_, ?_⟩ <;> focus (first | rfl | (simp; done) | omega)) | refine Bx.a ?_ _ | refine Bx.d ?_ | refine Bx.e ?_ _ | refine Bx.p (by first | omega | simp <;> omega) ?_)
      have hB28 : Blk (w7.setCell ⟨b3, 3, none⟩ (.slice al' (k + 1) c')) (w.heap.size + 1) 25 [.int .i64 0, .int .i64 0, .slice none 0 0, .slice none 0 0] := by with_reducible (repeat first | assumption | (refine Bx.n ⟨?_, ?_⟩ <;> focus (first | rfl | (simp; done) | omega)) | refine Bx.a ?_ _ | refine Bx.d ?_ | refine Bx.e ?_ _ | refine Bx.p (by first | omega | simp <;> omega) ?_)
      have hk8 : Stab.Keeps w (w7.setCell ⟨b3, 3, none⟩ (.slice al' (k + 1) c')) := Stab.Keeps.setCell (by simp; omega) hk7 _
      have hG8 := hG7.kf gmS (w4 := w7.setCell ⟨b3, 3, none⟩ (.slice al' (k + 1) c')) ((KF.refl _ _).set (fun h => by simp at h; omega))
      clear hB17 hB27 hB37 hG7 hk7
      go_wp2_with fail
      exact ⟨⟨k + 1, al', c', by omega, by simp, hk8, hB18, hB28, hB38, hG8⟩, by simp [intOf]; omega⟩
    · obtain rfl : k = n := by omega
      have hd1 : decide ((k : Int) < (k : Int)) = false := by simp
      rw [List.take_of_length_le (by rw [HLK.out]; exact Nat.le_refl _)] at hG
      obtain ⟨css', hRw⟩ := hG.toRows gmS
      have t0 := hB3.cell (i := 0) rfl
      have t1 := hB3.cell (i := 1) rfl
      have t2 := hB3.cell (i := 2) rfl
      have t3 := hB3.cell (i := 3) rfl
      have tf := hB3.free
      have tl := hB3.lt
      have g0 := hB2.cell (i := 0) rfl
      have g1 := hB2.cell (i := 1) rfl
      have g2 := hB2.cell (i := 2) rfl
      have g3 := hB2.cell (i := 3) rfl
      have gf := hB2.free
      have gl := hB2.lt
      have hBn := (((hB2.set 0 (.int .i64 6)).set 1 (.int .i64 d)).set 2 (.slice none 0 0)).set 3 (.slice al k c)
      simp only [List.set] at hBn
      have hkz : Stab.Keeps w ((((w6.setCell ⟨w.heap.size + 1, 0, none⟩ (.int .i64 6)).setCell ⟨w.heap.size + 1, 1, none⟩ (.int .i64 d)).setCell ⟨w.heap.size + 1, 2, none⟩ (.slice none 0 0)).setCell ⟨w.heap.size + 1, 3, none⟩ (.slice al k c)) := by with_reducible (repeat first | exact Kx.r _ | assumption | refine Kx.a ?_ _ | refine Kx.d ?_ | refine Kx.e ?_ _ | refine Kx.s (by simp <;> omega) ?_ _ | refine Kx.t ?_ (by assumption))
      have hkf : KF (fun b => B ≤ b) w6 ((((w6.setCell ⟨w.heap.size + 1, 0, none⟩ (.int .i64 6)).setCell ⟨w.heap.size + 1, 1, none⟩ (.int .i64 d)).setCell ⟨w.heap.size + 1, 2, none⟩ (.slice none 0 0)).setCell ⟨w.heap.size + 1, 3, none⟩ (.slice al k c)) := ((((KF.refl _ _).set (fun h => by simp at h; omega)).set (fun h => by simp at h; omega)).set (fun h => by simp at h; omega)).set (fun h => by simp at h; omega)
      have hRz := hRw.kf hkf (fun _ _ h => gmS.kf h hkf)
      clear hRw hG hkf
      go_wp2_with fail
      generalize ((((w6.setCell ⟨w.heap.size + 1, 0, none⟩ (.int .i64 6)).setCell ⟨w.heap.size + 1, 1, none⟩ (.int .i64 d)).setCell ⟨w.heap.size + 1, 2, none⟩ (.slice none 0 0)).setCell ⟨w.heap.size + 1, 3, none⟩ (.slice al k c)) = Wz at *
      clear hB1 hB2 hB3 t0 t1 t2 t3 tf tl g0 g1 g2 g3 gf gl hkw
      have y0 := hBn.cell (i := 0) rfl
      have y1 := hBn.cell (i := 1) rfl
      have y2 := hBn.cell (i := 2) rfl
      have y3 := hBn.cell (i := 3) rfl
      have yf := hBn.free
      have yl := hBn.lt
      refine bodyPost_ret (v := .agg #[.int .i64 6, .int .i64 d, .slice none 0 0, .slice al k c]) (by simp [results, Tryz.results107, go_sem, *]) rfl ⟨[.int .i64 (6 : Nat), .int .i64 (d : Nat), .slice none 0 0, .slice al k c], rfl, hkz, ?_⟩
      exact .mk 6 d _ _ none al _ _ _ _ css' rfl (SzF.nil _ _ _) hRz.lc hRz.lx hRz.each (hRz.sz.mono (fun b _ hb => .inr (by omega))) (fun i h1 h2 => gmS.mono (hRz.is i h1 h2) (fun b _ hb => .inr (by omega)))
def PlainOk (c : Pg) : Prop := ∀ (G : Nat → Prop) (cs : List Value) (w : World), GeoR w G cs c → Calls Tryz.prog 53 #[.agg cs.toArray] w (RetR w no GmR c)
set_option maxRecDepth 100000 in
set_option maxHeartbeats 4000000 in
theorem plainGc_ {F : Nat → Prop} (cs : List Value) (p : Pg) (w : World) (h : GcR w F cs p) (hall : ∀ c ∈ p.kids, PlainOk c) : Calls Tryz.prog 108 #[.agg cs.toArray] w (RetR w no GmR p) := by
  obtain ⟨i0, hi, hz0, hz1, hz2⟩ := info_parts infoGm
  have HI := Lib.hid hi
  have HZ0 := Lib.hid hz0
  have HZ1 := Lib.hid hz1
  have HZ2 := Lib.hid hz2
  clear hi hz0 hz1 hz2
  obtain ⟨d, a, n, cap, css, kids, rfl, rfl, hd, hn, hR, hdim⟩ := h
  have hwd : wrap64 (d : Int) = d := IntWalk.wrap64_in _ (by omega)
  have hle := hR.sz.sz.le
  have hmx := hR.sz.sz.max
  unfold maxLen at hmx
  have hlk := hR.lx
  have HALL := Lib.hid hall
  clear hall
  have HLK := Lib.hid hlk
  clear hlk hd hdim
  go_enter Tryz.func108, Tryz.ntmps108
  go_wp2_with fail
  have hkw : Stab.Keeps w ((w.alloc (.cells #[.slice a n cap, .int .u8 d] 150)).alloc (.cells #[.int .i64 0, .int .i64 0, .slice none 0 0, .slice none 0 0] 25)) := by with_reducible (repeat first | exact Kx.r _ | assumption | refine Kx.a ?_ _ | refine Kx.d ?_ | refine Kx.e ?_ _ | refine Kx.s (by simp <;> omega) ?_ _ | refine Kx.t ?_ (by assumption))
  have hB1 : Blk ((w.alloc (.cells #[.slice a n cap, .int .u8 d] 150)).alloc (.cells #[.int .i64 0, .int .i64 0, .slice none 0 0, .slice none 0 0] 25)) w.heap.size 150 [.slice a n cap, .int .u8 d] := by with_reducible (repeat first | assumption | (refine Bx.n ⟨?_, ?_⟩ <;> focus (first | rfl | (simp; done) | omega)) | refine Bx.a ?_ _ | refine Bx.d ?_ | refine Bx.e ?_ _ | refine Bx.p (by first | omega | simp <;> omega) ?_)
  have hB2 : Blk ((w.alloc (.cells #[.slice a n cap, .int .u8 d] 150)).alloc (.cells #[.int .i64 0, .int .i64 0, .slice none 0 0, .slice none 0 0] 25)) (w.heap.size + 1) 25 [.int .i64 0, .int .i64 0, .slice none 0 0, .slice none 0 0] := by with_reducible (repeat first | assumption | (refine Bx.n ⟨?_, ?_⟩ <;> focus (first | rfl | (simp; done) | omega)) | refine Bx.a ?_ _ | refine Bx.d ?_ | refine Bx.e ?_ _ | refine Bx.p (by first | omega | simp <;> omega) ?_)
  generalize ((w.alloc (.cells #[.slice a n cap, .int .u8 d] 150)).alloc (.cells #[.int .i64 0, .int .i64 0, .slice none 0 0, .slice none 0 0] 25)) = W0 at *
  refine (typeGc0_ a n cap d _).mono ?_
  rintro e w4 ⟨rfl, hk4⟩
  replace hB1 := hB1.keep hk4
  replace hB2 := hB2.keep hk4
  replace hkw := Stab.Keeps.trans hkw hk4
  clear hk4
  have g0 := hB1.cell (i := 0) rfl
  have g1 := hB1.cell (i := 1) rfl
  have gf := hB1.free
  have gl := hB1.lt
  go_upto_region 2 with (fail)
  clear g0 g1 gf gl
  have hl2 := hB2.lt
  have hkwN : Stab.Keeps w (w4.alloc (.cells #[.int .i64 0, .int .i64 d, .slice none 0 0, .slice none 0 0] 25)) := by with_reducible (repeat first | exact Kx.r _ | assumption | refine Kx.a ?_ _ | refine Kx.d ?_ | refine Kx.e ?_ _ | refine Kx.s (by simp <;> omega) ?_ _ | refine Kx.t ?_ (by assumption))
  have hB1N : Blk (w4.alloc (.cells #[.int .i64 0, .int .i64 d, .slice none 0 0, .slice none 0 0] 25)) w.heap.size 150 [.slice a n cap, .int .u8 d] := by with_reducible (repeat first | assumption | (refine Bx.n ⟨?_, ?_⟩ <;> focus (first | rfl | (simp; done) | omega)) | refine Bx.a ?_ _ | refine Bx.d ?_ | refine Bx.e ?_ _ | refine Bx.p (by first | omega | simp <;> omega) ?_)
  have hB2N : Blk (w4.alloc (.cells #[.int .i64 0, .int .i64 d, .slice none 0 0, .slice none 0 0] 25)) (w.heap.size + 1) 25 [.int .i64 0, .int .i64 0, .slice none 0 0, .slice none 0 0] := by with_reducible (repeat first | assumption | (refine Bx.n ⟨?_, ?_⟩ <;> focus (first | rfl | (simp; done) | omega)) | refine Bx.a ?_ _ | refine Bx.d ?_ | refine Bx.e ?_ _ | refine Bx.p (by first | omega | simp <;> omega) ?_)
  have hB3N : Blk (w4.alloc (.cells #[.int .i64 0, .int .i64 d, .slice none 0 0, .slice none 0 0] 25)) w4.heap.size 25 [.int .i64 0, .int .i64 d, .slice none 0 0, .slice none 0 0] := by with_reducible (repeat first | assumption | (refine Bx.n ⟨?_, ?_⟩ <;> focus (first | rfl | (simp; done) | omega)) | refine Bx.a ?_ _ | refine Bx.d ?_ | refine Bx.e ?_ _ | refine Bx.p (by first | omega | simp <;> omega) ?_)
  have hszN : (w4.alloc (.cells #[.int .i64 0, .int .i64 d, .slice none 0 0, .slice none 0 0] 25)).heap.size = w4.heap.size + 1 := by simp
  generalize (w4.alloc (.cells #[.int .i64 0, .int .i64 d, .slice none 0 0, .slice none 0 0] 25)) = W5 at *
  generalize w4.heap.size = b3 at *
  clear hB1 hB2 hkw
  obtain ⟨B, hBe⟩ : ∃ B, b3 + 1 = B := ⟨_, rfl⟩
  have hb3B : b3 < B := by omega
  have hb2 : w.heap.size + 1 < b3 := hl2
  have hB5s : B ≤ W5.heap.size := by omega
  clear hBe hl2 hszN
  have hG0 : GrowB B W5 GmR 25 4 0 (.slice none 0 0) (kids.take 0) := by simpa using GrowB.nil B W5 GmR 25 4 hB5s
  go_wp2_with fail
  try simp only [hwd]
  go_loopw [4] (fun iv wr => ∃ (k : Nat) (al : Option Addr) (c : Nat), k ≤ n ∧ iv = .int .i64 k ∧ Stab.Keeps w wr ∧ Blk wr w.heap.size 150 [.slice a n cap, .int .u8 d] ∧ Blk wr (w.heap.size + 1) 25 [.int .i64 0, .int .i64 0, .slice none 0 0, .slice none 0 0] ∧ Blk wr b3 25 [.int .i64 0, .int .i64 d, .slice none 0 0, .slice al k c] ∧ GrowB B wr GmR 25 4 k (.slice al k c) (kids.take k)) (fun iv _ => n - (intOf iv).toNat)
  case atStart => exact ⟨0, none, 0, by omega, rfl, hkwN, hB1N, hB2N, hB3N, hG0⟩
  case round =>
    clear hkwN hB1N hB2N hB3N hG0 hB5s
    obtain ⟨k, al, c, hk, rfl, hkw, hB1, hB2, hB3, hG⟩ := hrel
    have g0 := hB1.cell (i := 0) rfl
    have g1 := hB1.cell (i := 1) rfl
    have gf := hB1.free
    have gl := hB1.lt
    go_wp2_with fail
    refine (numGc_ a n cap d _).mono ?_
    rintro e w6 ⟨rfl, hk6⟩
    clear g0 g1 gf gl
    replace hB1 := hB1.keep hk6
    replace hB2 := hB2.keep hk6
    replace hB3 := hB3.keep hk6
    replace hG := hG.keep gmS hk6
    replace hkw := Stab.Keeps.trans hkw hk6
    clear hk6
    by_cases hlt : k < n
    · have hd1 : decide ((k : Int) < (n : Int)) = true := by simp; omega
      obtain ⟨b, off, cc, ha, hb, _, _, hc6, hcc, hx⟩ := (hR.kf (KF.keeps hkw) (fun _ _ h => geoS.kf h (KF.keeps hkw))).elem hlt
      have hkk : k < kids.length := by have := HLK.out; omega
      have htk : kids.take (k + 1) = kids.take k ++ [kids[k]] := List.take_succ_eq_append_getElem hkk
      have hPk := HALL.out kids[k] (List.getElem_mem _)
      generalize hke : kids[k]'hkk = kid at *
      have HTK := Lib.hid htk
      clear htk hke
      obtain ⟨kq, tq, bq, rfl⟩ := hx.two
      subst ha
      have e0 : w6.cell? ⟨b, off + k * 2, none⟩ = some (.int .i64 kq) := by have := hcc 0 _ rfl; simpa using this
      have e1 : w6.cell? ⟨b, off + k * 2 + 1, none⟩ = some (.iface tq (.pointer (some ⟨bq, 0, none⟩))) := hcc 1 _ rfl
      have hP := fun w' (hk' : Stab.Keeps w6 w') => hPk _ [.int .i64 kq, .iface tq (.pointer (some ⟨bq, 0, none⟩))] w' (geoS.kf hx (KF.keeps hk'))
      clear hcc hx
      generalize hyse : kids.take k = ys at *
      have hown : ∀ g, (Value.slice al k c).ownBlock = some g → B ≤ g ∧ g < w6.heap.size := fun g hg => hG.own hg
      have hgl : B ≤ w6.heap.size := hG.size
      have hNth := fun w' (hk' : Stab.Keeps w6 w') => geometryN_ b off n cap d k kq tq bq w' hlt hle (by omega) (Nat.lt_of_lt_of_le hb hk'.size) (by rw [(Stab.own_cell hk' b hb).1]; exact e0) (by rw [(Stab.own_cell hk' b hb).1]; exact e1)
      have hlb := hb
      have t0 := hB1.cell (i := 0) rfl
      have t1 := hB1.cell (i := 1) rfl
      have tf := hB1.free
      have tl := hB1.lt
      have y0 := hB3.cell (i := 0) rfl
      have y1 := hB3.cell (i := 1) rfl
      have y2 := hB3.cell (i := 2) rfl
      have y3 := hB3.cell (i := 3) rfl
      have yf := hB3.free
      have yl := hB3.lt
      go_upto_region 5 with (fail)
      refine Stab.keep_tail 7 (GmF w6.heap.size 5 kid) (fun k => k == 5 || k == 6) (fun k => k == 4) (gmPre _ _ _) (by kernel_rfl) (by kernel_rfl) fun hcx => ?_
      simp only [List.take_succ_cons, List.take_zero, List.drop_succ_cons, List.drop_zero]
      repeat (first
        | (refine Stab.quiet rfl rfl rfl (fun K hK => ?_); go_big_quiet_op; refine hK _ ?_; clear hK K)
        | (refine Stab.one rfl rfl rfl ?_
           apply Exists.intro
           refine ⟨fun w1 hw1 => ?_, fun K hK => ?_⟩
           · go_simp
             first | (go_at_call 162; exact hNth _ (by with_reducible (repeat first | exact Kx.r _ | assumption | refine Kx.a ?_ _ | refine Kx.d ?_ | refine Kx.e ?_ _ | refine Kx.s (by simp <;> omega) ?_ _ | refine Kx.t ?_ (by assumption))))
           go_simp
           refine hK _ ?_
           clear hK K)
        | (refine Stab.skip rfl (fun K hK => ?_); go_simp; refine hK _ ?_; clear hK K))
      refine Stab.made rfl rfl (fun w1 hk1 => ?_) (fun v hv K hK => ?_)
      · go_simp
        have hk1' : Stab.Keeps w6 w1 := hk1.1
        refine (hP _ (hk1')).mono ?_
        rintro e w2 ⟨cs2, rfl, hk2, hx2⟩
        obtain ⟨zk, zd, zna, znn, znc, zka, zkn, zkc, rfl⟩ := hx2.four
        have hsz := hk1'.size
        exact ⟨_, rfl, hk2, fun _ => ⟨zk, zd, zna, znn, znc, zka, zkn, zkc, rfl, gmS.mono hx2 (fun b _ hb => hb.elim (fun h => h.elim) (fun h => by omega))⟩, fun e => by omega⟩
      obtain ⟨wv, _, _, hv⟩ := hv
      obtain ⟨zk, zd, zna, znn, znc, zka, zkn, zkc, rfl, _⟩ := hv.f5 rfl
      go_simp
      refine hK _ ?_
      clear hK hv
      refine Stab.made rfl rfl (fun w1 hk1 => ?_) (fun v hv K hK => ?_)
      · go_simp
        have hk1' : Stab.Keeps w6 w1 := hk1.1
        have hf := Stab.setF_new (hk1.2 5 (by rfl))
        obtain ⟨yk, yd, yna, ynn, ync, yka, ykn, ykc, he, hx5⟩ := hf.f5 rfl
        injection he with he
        injection he with he
        simp only [List.cons.injEq, Value.int.injEq, Value.slice.injEq, true_and, and_true] at he
        obtain ⟨e0, e1, ⟨e2, e3, e4⟩, e5, e6, e7⟩ := he
        have f0 : yk = zk := by omega
        have f1 : yd = zd := by omega
        subst f0 f1 e2 e3 e4 e5 e6 e7
        refine ⟨by with_reducible (repeat first | exact Kx.r _ | assumption | refine Kx.a ?_ _ | refine Kx.d ?_ | refine Kx.e ?_ _ | refine Kx.s (by simp <;> omega) ?_ _ | refine Kx.t ?_ (by assumption)), fun e => by omega, fun _ => ⟨w1.heap.size, yk, yd, zna, znn, znc, zka, zkn, zkc, rfl, hk1'.size, by with_reducible (repeat first | assumption | (refine Bx.n ⟨?_, ?_⟩ <;> focus (first | rfl | (simp; done) | omega)) | refine Bx.a ?_ _ | refine Bx.d ?_ | refine Bx.e ?_ _ | refine Bx.p (by first | omega | simp <;> omega) ?_), ?_⟩⟩
        exact gmS.mono (gmS.kf (gmS.mono (G := fun b => w6.heap.size ≤ b ∧ b < w1.heap.size) hx5 (fun b hbl hb => ⟨hb, hbl⟩)) ((KF.refl _ _).alloc _)) (fun b _ hb => ⟨hb.1, by simp; omega⟩)
      obtain ⟨wv, _, _, hv⟩ := hv
      obtain ⟨g, _, _, _, _, _, _, _, _, rfl, _⟩ := hv.f6 rfl
      go_simp
      refine hK _ ?_
      clear hK hv
      refine Stab.nil fun w5 hw5 hfs => ?_
      obtain ⟨g', yk, yd, yna, ynn, ync, yka, ykn, ykc, he, hge, hBg, hx5⟩ := (Stab.setF_new (hfs 6)).f6 rfl
      cases he
      have hG5 := hG.keep gmS hw5
      have hB15 := hB1.keep hw5
      have hB25 := hB2.keep hw5
      have hB35 := hB3.keep hw5
      have hkw5 := Stab.Keeps.trans hkw hw5
      have hone : ∀ u ∈ ([.int .i64 (yk : Nat), .int .i64 (yd : Nat), .slice yna ynn ync, .slice yka ykn ykc] : List Value), u.oneCell' = true := hx5.ones
      have hnc : ∀ (j : Nat) (u : Value), ([.int .i64 (yk : Nat), .int .i64 (yd : Nat), .slice yna ynn ync, .slice yka ykn ykc] : List Value)[j]? = some u → w5.cell? ((⟨g, 0, none⟩ : Addr).add j) = some u := fun j u hj => by rw [add_none]; simpa using hBg.cell (i := j) hj
      have hs5 := hw5.size
      have hx6 := gmS.mono (G := fun b => w6.heap.size ≤ b ∧ b < w5.heap.size) hx5 (fun b _ hb => hb)
      have HG5 := Lib.hid hG5
      have hB3l := hB35.lt
      clear hcx hfs hG hG5 hB1 hB2 hB3 hkw hw5 hx5 hNth hP t0 t1 tf tl y0 y1 y2 y3 yf yl
      refine append_growB (B := B) gmS rfl _ _ 23 rfl 25 i0 _ 4 64 Tryz.underlying23 HI.out HZ0.out HZ1.out HZ2.out rfl (by decide) _ k ys rfl HG5.out ⟨g, 0, none⟩ 1 [.int .i64 (yk : Nat), .int .i64 (yd : Nat), .slice yna ynn ync, .slice yka ykn ykc] rfl rfl hnc hone ?c2 ?c3 _ _ hx6 ?c4 ?c5 ?_
      case c2 => unfold maxLen; omega
      case c3 => omega
      case c4 => exact fun b hb => ⟨by omega, hb.2⟩
      case c5 => exact fun q hq hb => by have := hown q hq; omega
      intro al' c' w7 hG7 hB7 hgr
      have hB17 := hB15.below hB7 (by omega)
      have hB27 := hB25.below hB7 (by omega)
      have hB37 := hB35.below hB7 (by omega)
      have hk7 : Stab.Keeps w w7 := Below.trans hkw5 (Below.mono hB7 (by omega))
      clear HG5 hown hgr hB7 hkw5 hx6 hB15 hB25 hB35 hnc hone hBg
      rw [← HTK.out] at hG7
      have y0 := hB37.cell (i := 0) rfl
      have y1 := hB37.cell (i := 1) rfl
      have y2 := hB37.cell (i := 2) rfl
      have y3 := hB37.cell (i := 3) rfl
      have yf := hB37.free
      have yl := hB37.lt
      have hB38 := hB37.set 3 (.slice al' (k + 1) c')
      simp only [List.set] at hB38
      have hB18 : Blk (w7.setCell ⟨b3, 3, none⟩ (.slice al' (k + 1) c')) w.heap.size 150 [.slice (some ⟨b, off, none⟩) n cap, .int .u8 d] := by with_reducible (repeat first | assumption | (refine Bx.n ⟨?_, ?_⟩ <;> focus (first | rfl | (simp; done) | omega)) | refine Bx.a ?_ _ | refine Bx.d ?_ | refine Bx.e ?_ _ | refine Bx.p (by first | omega | simp <;> omega) ?_)
      have hB28 : Blk (w7.setCell ⟨b3, 3, none⟩ (.slice al' (k + 1) c')) (w.heap.size + 1) 25 [.int .i64 0, .int .i64 0, .slice none 0 0, .slice none 0 0] := by with_reducible (repeat first | assumption | (refine Bx.n ⟨?_, ?_⟩ <;> focus (first | rfl | (simp; done) | omega)) | refine Bx.a ?_ _ | refine Bx.d ?_ | refine Bx.e ?_ _ | refine Bx.p (by first | omega | simp <;> omega) ?_)
      have hk8 : Stab.Keeps w (w7.setCell ⟨b3, 3, none⟩ (.slice al' (k + 1) c')) := Stab.Keeps.setCell (by simp; omega) hk7 _
      have hG8 := hG7.kf gmS (w4 := w7.setCell ⟨b3, 3, none⟩ (.slice al' (k + 1) c')) ((KF.refl _ _).set (fun h => by simp at h; omega))
      clear hB17 hB27 hB37 hG7 hk7
      go_wp2_with fail
      exact ⟨⟨k + 1, al', c', by omega, by simp, hk8, hB18, hB28, hB38, hG8⟩, by simp [intOf]; omega⟩
    · obtain rfl : k = n := by omega
      have hd1 : decide ((k : Int) < (k : Int)) = false := by simp
      rw [List.take_of_length_le (by rw [HLK.out]; exact Nat.le_refl _)] at hG
      obtain ⟨css', hRw⟩ := hG.toRows gmS
      have t0 := hB3.cell (i := 0) rfl
      have t1 := hB3.cell (i := 1) rfl
      have t2 := hB3.cell (i := 2) rfl
      have t3 := hB3.cell (i := 3) rfl
      have tf := hB3.free
      have tl := hB3.lt
      have g0 := hB2.cell (i := 0) rfl
      have g1 := hB2.cell (i := 1) rfl
      have g2 := hB2.cell (i := 2) rfl
      have g3 := hB2.cell (i := 3) rfl
      have gf := hB2.free
      have gl := hB2.lt
      have hBn := (((hB2.set 0 (.int .i64 0)).set 1 (.int .i64 d)).set 2 (.slice none 0 0)).set 3 (.slice al k c)
      simp only [List.set] at hBn
      have hkz : Stab.Keeps w ((((w6.setCell ⟨w.heap.size + 1, 0, none⟩ (.int .i64 0)).setCell ⟨w.heap.size + 1, 1, none⟩ (.int .i64 d)).setCell ⟨w.heap.size + 1, 2, none⟩ (.slice none 0 0)).setCell ⟨w.heap.size + 1, 3, none⟩ (.slice al k c)) := by with_reducible (repeat first | exact Kx.r _ | assumption | refine Kx.a ?_ _ | refine Kx.d ?_ | refine Kx.e ?_ _ | refine Kx.s (by simp <;> omega) ?_ _ | refine Kx.t ?_ (by assumption))
      have hkf : KF (fun b => B ≤ b) w6 ((((w6.setCell ⟨w.heap.size + 1, 0, none⟩ (.int .i64 0)).setCell ⟨w.heap.size + 1, 1, none⟩ (.int .i64 d)).setCell ⟨w.heap.size + 1, 2, none⟩ (.slice none 0 0)).setCell ⟨w.heap.size + 1, 3, none⟩ (.slice al k c)) := ((((KF.refl _ _).set (fun h => by simp at h; omega)).set (fun h => by simp at h; omega)).set (fun h => by simp at h; omega)).set (fun h => by simp at h; omega)
      have hRz := hRw.kf hkf (fun _ _ h => gmS.kf h hkf)
      clear hRw hG hkf
      go_wp2_with fail
      generalize ((((w6.setCell ⟨w.heap.size + 1, 0, none⟩ (.int .i64 0)).setCell ⟨w.heap.size + 1, 1, none⟩ (.int .i64 d)).setCell ⟨w.heap.size + 1, 2, none⟩ (.slice none 0 0)).setCell ⟨w.heap.size + 1, 3, none⟩ (.slice al k c)) = Wz at *
      clear hB1 hB2 hB3 t0 t1 t2 t3 tf tl g0 g1 g2 g3 gf gl hkw
      have y0 := hBn.cell (i := 0) rfl
      have y1 := hBn.cell (i := 1) rfl
      have y2 := hBn.cell (i := 2) rfl
      have y3 := hBn.cell (i := 3) rfl
      have yf := hBn.free
      have yl := hBn.lt
      refine bodyPost_ret (v := .agg #[.int .i64 0, .int .i64 d, .slice none 0 0, .slice al k c]) (by simp [results, Tryz.results108, go_sem, *]) rfl ⟨[.int .i64 (0 : Nat), .int .i64 (d : Nat), .slice none 0 0, .slice al k c], rfl, hkz, ?_⟩
      exact .mk 0 d _ _ none al _ _ _ _ css' rfl (SzF.nil _ _ _) hRz.lc hRz.lx hRz.each (hRz.sz.mono (fun b _ hb => .inr (by omega))) (fun i h1 h2 => gmS.mono (hRz.is i h1 h2) (fun b _ hb => .inr (by omega)))
set_option maxRecDepth 100000 in
set_option maxHeartbeats 4000000 in
theorem plainGeoPt_ {F : Nat → Prop} (b : Nat) (cs : List Value) (p : Pg) (w : World) (hB : Blk w b 141 cs) (h : PtR w F cs p) : Calls Tryz.prog 53 #[.agg #[.int .i64 1, .iface 204 (.pointer (some ⟨b, 0, none⟩))]] w (RetR w no GmR p) := by
  have h2 := h.six
  obtain ⟨xq, yq, zq, mq, dq, fq, rfl⟩ := h2
  have hMu := fun w' (hk : Stab.Keeps w w') => mustPt_ xq yq zq mq dq fq b w' (hB.keep hk)
  have hPl := fun w' (hk : Stab.Keeps w w') => plainPoint_ [.float .f64 xq, .float .f64 yq, .float .f64 zq, .float .f64 mq, .int .u8 dq, .bool fq] p w' (ptS.kf h (KF.keeps hk))
  clear hB h
  have hkA : Stab.Keeps w ((w.alloc (.cells #[.int .i64 1, .iface 204 (.pointer (some ⟨b, 0, none⟩))] 78)).alloc (.cells #[.int .i64 0, .int .i64 0, .slice none 0 0, .slice none 0 0] 25)) := by with_reducible (repeat first | exact Kx.r _ | assumption | refine Kx.a ?_ _ | refine Kx.d ?_ | refine Kx.e ?_ _ | refine Kx.s (by simp <;> omega) ?_ _ | refine Kx.t ?_ (by assumption))
  have hBA : Blk ((w.alloc (.cells #[.int .i64 1, .iface 204 (.pointer (some ⟨b, 0, none⟩))] 78)).alloc (.cells #[.int .i64 0, .int .i64 0, .slice none 0 0, .slice none 0 0] 25)) w.heap.size 78 [.int .i64 1, .iface 204 (.pointer (some ⟨b, 0, none⟩))] := by with_reducible (repeat first | assumption | (refine Bx.n ⟨?_, ?_⟩ <;> focus (first | rfl | (simp; done) | omega)) | refine Bx.a ?_ _ | refine Bx.d ?_ | refine Bx.e ?_ _ | refine Bx.p (by first | omega | simp <;> omega) ?_)
  have hCA : Blk ((w.alloc (.cells #[.int .i64 1, .iface 204 (.pointer (some ⟨b, 0, none⟩))] 78)).alloc (.cells #[.int .i64 0, .int .i64 0, .slice none 0 0, .slice none 0 0] 25)) (w.heap.size + 1) 25 [.int .i64 0, .int .i64 0, .slice none 0 0, .slice none 0 0] := by with_reducible (repeat first | assumption | (refine Bx.n ⟨?_, ?_⟩ <;> focus (first | rfl | (simp; done) | omega)) | refine Bx.a ?_ _ | refine Bx.d ?_ | refine Bx.e ?_ _ | refine Bx.p (by first | omega | simp <;> omega) ?_)
  go_enter Tryz.func53, Tryz.ntmps53
  go_upto_region 1 with (fail)
  generalize ((w.alloc (.cells #[.int .i64 1, .iface 204 (.pointer (some ⟨b, 0, none⟩))] 78)).alloc (.cells #[.int .i64 0, .int .i64 0, .slice none 0 0, .slice none 0 0] 25)) = W1 at *
  have t0 := hBA.cell (i := 0) rfl
  have t1 := hBA.cell (i := 1) rfl
  have tf := hBA.free
  have tl := hBA.lt
  go_wp2_with fail
  refine (geoType_ 1 _ b _).mono ?_
  rintro e W2 ⟨rfl, hk2⟩
  have hk12 := Stab.Keeps.trans hkA hk2
  have hBG := hBA.keep hk2
  have hCG := hCA.keep hk2
  clear t0 t1 tf tl hBA hkA hk2 hCA
  have t0 := hBG.cell (i := 0) rfl
  have t1 := hBG.cell (i := 1) rfl
  have tf := hBG.free
  have tl := hBG.lt
  go_wp2_with fail
  refine (hMu _ hk12).mono ?_
  rintro e W3 ⟨rfl, hk3⟩
  have hk13 := Stab.Keeps.trans hk12 hk3
  have hCH := hCG.keep hk3
  have hs3 : w.heap.size + 2 ≤ W3.heap.size := by have := hCH.lt; omega
  clear t0 t1 tf tl hBG hk12 hk3 hCG hMu
  go_wp2_with fail
  refine (hPl _ hk13).mono ?_
  rintro e W4 ⟨cs4, rfl, hk4, hx⟩
  obtain ⟨zk, zd, zna, znn, znc, zka, zkn, zkc, rfl⟩ := hx.four
  have hk14 := Stab.Keeps.trans hk13 hk4
  have hCI := hCH.keep hk4
  clear hk13 hk4 hCH hPl
  have g0 := hCI.cell (i := 0) rfl
  have g1 := hCI.cell (i := 1) rfl
  have g2 := hCI.cell (i := 2) rfl
  have g3 := hCI.cell (i := 3) rfl
  have gf := hCI.free
  have gl := hCI.lt
  have hBn := (((hCI.set 0 (.int .i64 zk)).set 1 (.int .i64 zd)).set 2 (.slice zna znn znc)).set 3 (.slice zka zkn zkc)
  simp only [List.set] at hBn
  have hkz : Stab.Keeps w ((((W4.setCell ⟨w.heap.size + 1, 0, none⟩ (.int .i64 zk)).setCell ⟨w.heap.size + 1, 1, none⟩ (.int .i64 zd)).setCell ⟨w.heap.size + 1, 2, none⟩ (.slice zna znn znc)).setCell ⟨w.heap.size + 1, 3, none⟩ (.slice zka zkn zkc)) := by with_reducible (repeat first | exact Kx.r _ | assumption | refine Kx.a ?_ _ | refine Kx.d ?_ | refine Kx.e ?_ _ | refine Kx.s (by simp <;> omega) ?_ _ | refine Kx.t ?_ (by assumption))
  have hxn := gmS.kf (gmS.mono (G := fun b => w.heap.size + 2 ≤ b) hx (fun b hbl hb => by exact hb.elim (fun h => h.elim) (fun h => by omega))) (w' := ((((W4.setCell ⟨w.heap.size + 1, 0, none⟩ (.int .i64 zk)).setCell ⟨w.heap.size + 1, 1, none⟩ (.int .i64 zd)).setCell ⟨w.heap.size + 1, 2, none⟩ (.slice zna znn znc)).setCell ⟨w.heap.size + 1, 3, none⟩ (.slice zka zkn zkc))) (((((KF.refl _ _).set (fun h => by simp at h)).set (fun h => by simp at h)).set (fun h => by simp at h)).set (fun h => by simp at h))
  clear hx
  go_wp2_with fail
  generalize ((((W4.setCell ⟨w.heap.size + 1, 0, none⟩ (.int .i64 zk)).setCell ⟨w.heap.size + 1, 1, none⟩ (.int .i64 zd)).setCell ⟨w.heap.size + 1, 2, none⟩ (.slice zna znn znc)).setCell ⟨w.heap.size + 1, 3, none⟩ (.slice zka zkn zkc)) = Wz at *
  clear hCI g0 g1 g2 g3 gf gl
  have y0 := hBn.cell (i := 0) rfl
  have y1 := hBn.cell (i := 1) rfl
  have y2 := hBn.cell (i := 2) rfl
  have y3 := hBn.cell (i := 3) rfl
  have yf := hBn.free
  have yl := hBn.lt
  refine bodyPost_ret (v := .agg #[.int .i64 zk, .int .i64 zd, .slice zna znn znc, .slice zka zkn zkc]) (by simp [results, Tryz.results53, go_sem, *]) rfl ⟨[.int .i64 zk, .int .i64 zd, .slice zna znn znc, .slice zka zkn zkc], rfl, hkz, ?_⟩
  exact gmS.mono hxn (fun b _ hb => .inr (by omega))
set_option maxRecDepth 100000 in
set_option maxHeartbeats 4000000 in
theorem plainGeoLs_ {F : Nat → Prop} (b : Nat) (cs : List Value) (p : Pg) (w : World) (hB : Blk w b 99 cs) (h : LsR w F cs p) : Calls Tryz.prog 53 #[.agg #[.int .i64 2, .iface 190 (.pointer (some ⟨b, 0, none⟩))]] w (RetR w no GmR p) := by
  have h2 := h.two
  obtain ⟨dq, aq, nq, cq, rfl⟩ := h2
  have hMu := fun w' (hk : Stab.Keeps w w') => mustLs_ aq nq cq dq b w' (hB.keep hk)
  have hPl := fun w' (hk : Stab.Keeps w w') => plainLine_ [.int .u8 dq, .slice aq nq cq] p w' (lsS.kf h (KF.keeps hk))
  clear hB h
  have hkA : Stab.Keeps w ((w.alloc (.cells #[.int .i64 2, .iface 190 (.pointer (some ⟨b, 0, none⟩))] 78)).alloc (.cells #[.int .i64 0, .int .i64 0, .slice none 0 0, .slice none 0 0] 25)) := by with_reducible (repeat first | exact Kx.r _ | assumption | refine Kx.a ?_ _ | refine Kx.d ?_ | refine Kx.e ?_ _ | refine Kx.s (by simp <;> omega) ?_ _ | refine Kx.t ?_ (by assumption))
  have hBA : Blk ((w.alloc (.cells #[.int .i64 2, .iface 190 (.pointer (some ⟨b, 0, none⟩))] 78)).alloc (.cells #[.int .i64 0, .int .i64 0, .slice none 0 0, .slice none 0 0] 25)) w.heap.size 78 [.int .i64 2, .iface 190 (.pointer (some ⟨b, 0, none⟩))] := by with_reducible (repeat first | assumption | (refine Bx.n ⟨?_, ?_⟩ <;> focus (first | rfl | (simp; done) | omega)) | refine Bx.a ?_ _ | refine Bx.d ?_ | refine Bx.e ?_ _ | refine Bx.p (by first | omega | simp <;> omega) ?_)
  have hCA : Blk ((w.alloc (.cells #[.int .i64 2, .iface 190 (.pointer (some ⟨b, 0, none⟩))] 78)).alloc (.cells #[.int .i64 0, .int .i64 0, .slice none 0 0, .slice none 0 0] 25)) (w.heap.size + 1) 25 [.int .i64 0, .int .i64 0, .slice none 0 0, .slice none 0 0] := by with_reducible (repeat first | assumption | (refine Bx.n ⟨?_, ?_⟩ <;> focus (first | rfl | (simp; done) | omega)) | refine Bx.a ?_ _ | refine Bx.d ?_ | refine Bx.e ?_ _ | refine Bx.p (by first | omega | simp <;> omega) ?_)
  go_enter Tryz.func53, Tryz.ntmps53
  go_upto_region 1 with (fail)
  generalize ((w.alloc (.cells #[.int .i64 2, .iface 190 (.pointer (some ⟨b, 0, none⟩))] 78)).alloc (.cells #[.int .i64 0, .int .i64 0, .slice none 0 0, .slice none 0 0] 25)) = W1 at *
  have t0 := hBA.cell (i := 0) rfl
  have t1 := hBA.cell (i := 1) rfl
  have tf := hBA.free
  have tl := hBA.lt
  go_wp2_with fail
  refine (geoType_ 2 _ b _).mono ?_
  rintro e W2 ⟨rfl, hk2⟩
  have hk12 := Stab.Keeps.trans hkA hk2
  have hBG := hBA.keep hk2
  have hCG := hCA.keep hk2
  clear t0 t1 tf tl hBA hkA hk2 hCA
  have t0 := hBG.cell (i := 0) rfl
  have t1 := hBG.cell (i := 1) rfl
  have tf := hBG.free
  have tl := hBG.lt
  go_wp2_with fail
  refine (hMu _ hk12).mono ?_
  rintro e W3 ⟨rfl, hk3⟩
  have hk13 := Stab.Keeps.trans hk12 hk3
  have hCH := hCG.keep hk3
  have hs3 : w.heap.size + 2 ≤ W3.heap.size := by have := hCH.lt; omega
  clear t0 t1 tf tl hBG hk12 hk3 hCG hMu
  go_wp2_with fail
  refine (hPl _ hk13).mono ?_
  rintro e W4 ⟨cs4, rfl, hk4, hx⟩
  obtain ⟨zk, zd, zna, znn, znc, zka, zkn, zkc, rfl⟩ := hx.four
  have hk14 := Stab.Keeps.trans hk13 hk4
  have hCI := hCH.keep hk4
  clear hk13 hk4 hCH hPl
  have g0 := hCI.cell (i := 0) rfl
  have g1 := hCI.cell (i := 1) rfl
  have g2 := hCI.cell (i := 2) rfl
  have g3 := hCI.cell (i := 3) rfl
  have gf := hCI.free
  have gl := hCI.lt
  have hBn := (((hCI.set 0 (.int .i64 zk)).set 1 (.int .i64 zd)).set 2 (.slice zna znn znc)).set 3 (.slice zka zkn zkc)
  simp only [List.set] at hBn
  have hkz : Stab.Keeps w ((((W4.setCell ⟨w.heap.size + 1, 0, none⟩ (.int .i64 zk)).setCell ⟨w.heap.size + 1, 1, none⟩ (.int .i64 zd)).setCell ⟨w.heap.size + 1, 2, none⟩ (.slice zna znn znc)).setCell ⟨w.heap.size + 1, 3, none⟩ (.slice zka zkn zkc)) := by with_reducible (repeat first | exact Kx.r _ | assumption | refine Kx.a ?_ _ | refine Kx.d ?_ | refine Kx.e ?_ _ | refine Kx.s (by simp <;> omega) ?_ _ | refine Kx.t ?_ (by assumption))
  have hxn := gmS.kf (gmS.mono (G := fun b => w.heap.size + 2 ≤ b) hx (fun b hbl hb => by exact hb.elim (fun h => h.elim) (fun h => by omega))) (w' := ((((W4.setCell ⟨w.heap.size + 1, 0, none⟩ (.int .i64 zk)).setCell ⟨w.heap.size + 1, 1, none⟩ (.int .i64 zd)).setCell ⟨w.heap.size + 1, 2, none⟩ (.slice zna znn znc)).setCell ⟨w.heap.size + 1, 3, none⟩ (.slice zka zkn zkc))) (((((KF.refl _ _).set (fun h => by simp at h)).set (fun h => by simp at h)).set (fun h => by simp at h)).set (fun h => by simp at h))
  clear hx
  go_wp2_with fail
  generalize ((((W4.setCell ⟨w.heap.size + 1, 0, none⟩ (.int .i64 zk)).setCell ⟨w.heap.size + 1, 1, none⟩ (.int .i64 zd)).setCell ⟨w.heap.size + 1, 2, none⟩ (.slice zna znn znc)).setCell ⟨w.heap.size + 1, 3, none⟩ (.slice zka zkn zkc)) = Wz at *
  clear hCI g0 g1 g2 g3 gf gl
  have y0 := hBn.cell (i := 0) rfl
  have y1 := hBn.cell (i := 1) rfl
  have y2 := hBn.cell (i := 2) rfl
  have y3 := hBn.cell (i := 3) rfl
  have yf := hBn.free
  have yl := hBn.lt
  refine bodyPost_ret (v := .agg #[.int .i64 zk, .int .i64 zd, .slice zna znn znc, .slice zka zkn zkc]) (by simp [results, Tryz.results53, go_sem, *]) rfl ⟨[.int .i64 zk, .int .i64 zd, .slice zna znn znc, .slice zka zkn zkc], rfl, hkz, ?_⟩
  exact gmS.mono hxn (fun b _ hb => .inr (by omega))
set_option maxRecDepth 100000 in
set_option maxHeartbeats 4000000 in
theorem plainGeoPy_ {F : Nat → Prop} (b : Nat) (cs : List Value) (p : Pg) (w : World) (hB : Blk w b 121 cs) (h : PyR w F cs p) : Calls Tryz.prog 53 #[.agg #[.int .i64 3, .iface 191 (.pointer (some ⟨b, 0, none⟩))]] w (RetR w no GmR p) := by
  have h2 := h.two
  obtain ⟨aq, nq, cq, dq, rfl⟩ := h2
  have hMu := fun w' (hk : Stab.Keeps w w') => mustPy_ aq nq cq dq b w' (hB.keep hk)
  have hPl := fun w' (hk : Stab.Keeps w w') => plainPy_ [.slice aq nq cq, .int .u8 dq] p w' (pyS.kf h (KF.keeps hk))
  clear hB h
  have hkA : Stab.Keeps w ((w.alloc (.cells #[.int .i64 3, .iface 191 (.pointer (some ⟨b, 0, none⟩))] 78)).alloc (.cells #[.int .i64 0, .int .i64 0, .slice none 0 0, .slice none 0 0] 25)) := by with_reducible (repeat first | exact Kx.r _ | assumption | refine Kx.a ?_ _ | refine Kx.d ?_ | refine Kx.e ?_ _ | refine Kx.s (by simp <;> omega) ?_ _ | refine Kx.t ?_ (by assumption))
  have hBA : Blk ((w.alloc (.cells #[.int .i64 3, .iface 191 (.pointer (some ⟨b, 0, none⟩))] 78)).alloc (.cells #[.int .i64 0, .int .i64 0, .slice none 0 0, .slice none 0 0] 25)) w.heap.size 78 [.int .i64 3, .iface 191 (.pointer (some ⟨b, 0, none⟩))] := by with_reducible (repeat first | assumption | (refine Bx.n ⟨?_, ?_⟩ <;> focus (first | rfl | (simp; done) | omega)) | refine Bx.a ?_ _ | refine Bx.d ?_ | refine Bx.e ?_ _ | refine Bx.p (by first | omega | simp <;> omega) ?_)
  have hCA : Blk ((w.alloc (.cells #[.int .i64 3, .iface 191 (.pointer (some ⟨b, 0, none⟩))] 78)).alloc (.cells #[.int .i64 0, .int .i64 0, .slice none 0 0, .slice none 0 0] 25)) (w.heap.size + 1) 25 [.int .i64 0, .int .i64 0, .slice none 0 0, .slice none 0 0] := by with_reducible (repeat first | assumption | (refine Bx.n ⟨?_, ?_⟩ <;> focus (first | rfl | (simp; done) | omega)) | refine Bx.a ?_ _ | refine Bx.d ?_ | refine Bx.e ?_ _ | refine Bx.p (by first | omega | simp <;> omega) ?_)
  go_enter Tryz.func53, Tryz.ntmps53
  go_upto_region 1 with (fail)
  generalize ((w.alloc (.cells #[.int .i64 3, .iface 191 (.pointer (some ⟨b, 0, none⟩))] 78)).alloc (.cells #[.int .i64 0, .int .i64 0, .slice none 0 0, .slice none 0 0] 25)) = W1 at *
  have t0 := hBA.cell (i := 0) rfl
  have t1 := hBA.cell (i := 1) rfl
  have tf := hBA.free
  have tl := hBA.lt
  go_wp2_with fail
  refine (geoType_ 3 _ b _).mono ?_
  rintro e W2 ⟨rfl, hk2⟩
  have hk12 := Stab.Keeps.trans hkA hk2
  have hBG := hBA.keep hk2
  have hCG := hCA.keep hk2
  clear t0 t1 tf tl hBA hkA hk2 hCA
  have t0 := hBG.cell (i := 0) rfl
  have t1 := hBG.cell (i := 1) rfl
  have tf := hBG.free
  have tl := hBG.lt
  go_wp2_with fail
  refine (hMu _ hk12).mono ?_
  rintro e W3 ⟨rfl, hk3⟩
  have hk13 := Stab.Keeps.trans hk12 hk3
  have hCH := hCG.keep hk3
  have hs3 : w.heap.size + 2 ≤ W3.heap.size := by have := hCH.lt; omega
  clear t0 t1 tf tl hBG hk12 hk3 hCG hMu
  go_wp2_with fail
  refine (hPl _ hk13).mono ?_
  rintro e W4 ⟨cs4, rfl, hk4, hx⟩
  obtain ⟨zk, zd, zna, znn, znc, zka, zkn, zkc, rfl⟩ := hx.four
  have hk14 := Stab.Keeps.trans hk13 hk4
  have hCI := hCH.keep hk4
  clear hk13 hk4 hCH hPl
  have g0 := hCI.cell (i := 0) rfl
  have g1 := hCI.cell (i := 1) rfl
  have g2 := hCI.cell (i := 2) rfl
  have g3 := hCI.cell (i := 3) rfl
  have gf := hCI.free
  have gl := hCI.lt
  have hBn := (((hCI.set 0 (.int .i64 zk)).set 1 (.int .i64 zd)).set 2 (.slice zna znn znc)).set 3 (.slice zka zkn zkc)
  simp only [List.set] at hBn
  have hkz : Stab.Keeps w ((((W4.setCell ⟨w.heap.size + 1, 0, none⟩ (.int .i64 zk)).setCell ⟨w.heap.size + 1, 1, none⟩ (.int .i64 zd)).setCell ⟨w.heap.size + 1, 2, none⟩ (.slice zna znn znc)).setCell ⟨w.heap.size + 1, 3, none⟩ (.slice zka zkn zkc)) := by with_reducible (repeat first | exact Kx.r _ | assumption | refine Kx.a ?_ _ | refine Kx.d ?_ | refine Kx.e ?_ _ | refine Kx.s (by simp <;> omega) ?_ _ | refine Kx.t ?_ (by assumption))
  have hxn := gmS.kf (gmS.mono (G := fun b => w.heap.size + 2 ≤ b) hx (fun b hbl hb => by exact hb.elim (fun h => h.elim) (fun h => by omega))) (w' := ((((W4.setCell ⟨w.heap.size + 1, 0, none⟩ (.int .i64 zk)).setCell ⟨w.heap.size + 1, 1, none⟩ (.int .i64 zd)).setCell ⟨w.heap.size + 1, 2, none⟩ (.slice zna znn znc)).setCell ⟨w.heap.size + 1, 3, none⟩ (.slice zka zkn zkc))) (((((KF.refl _ _).set (fun h => by simp at h)).set (fun h => by simp at h)).set (fun h => by simp at h)).set (fun h => by simp at h))
  clear hx
  go_wp2_with fail
  generalize ((((W4.setCell ⟨w.heap.size + 1, 0, none⟩ (.int .i64 zk)).setCell ⟨w.heap.size + 1, 1, none⟩ (.int .i64 zd)).setCell ⟨w.heap.size + 1, 2, none⟩ (.slice zna znn znc)).setCell ⟨w.heap.size + 1, 3, none⟩ (.slice zka zkn zkc)) = Wz at *
  clear hCI g0 g1 g2 g3 gf gl
  have y0 := hBn.cell (i := 0) rfl
  have y1 := hBn.cell (i := 1) rfl
  have y2 := hBn.cell (i := 2) rfl
  have y3 := hBn.cell (i := 3) rfl
  have yf := hBn.free
  have yl := hBn.lt
  refine bodyPost_ret (v := .agg #[.int .i64 zk, .int .i64 zd, .slice zna znn znc, .slice zka zkn zkc]) (by simp [results, Tryz.results53, go_sem, *]) rfl ⟨[.int .i64 zk, .int .i64 zd, .slice zna znn znc, .slice zka zkn zkc], rfl, hkz, ?_⟩
  exact gmS.mono hxn (fun b _ hb => .inr (by omega))
set_option maxRecDepth 100000 in
set_option maxHeartbeats 4000000 in
theorem plainGeoMp_ {F : Nat → Prop} (b : Nat) (cs : List Value) (p : Pg) (w : World) (hB : Blk w b 126 cs) (h : MpR w F cs p) : Calls Tryz.prog 53 #[.agg #[.int .i64 4, .iface 192 (.pointer (some ⟨b, 0, none⟩))]] w (RetR w no GmR p) := by
  have h2 := h.two
  obtain ⟨aq, nq, cq, dq, rfl⟩ := h2
  have hMu := fun w' (hk : Stab.Keeps w w') => mustMp_ aq nq cq dq b w' (hB.keep hk)
  have hPl := fun w' (hk : Stab.Keeps w w') => plainMp_ [.slice aq nq cq, .int .u8 dq] p w' (mpS.kf h (KF.keeps hk))
  clear hB h
  have hkA : Stab.Keeps w ((w.alloc (.cells #[.int .i64 4, .iface 192 (.pointer (some ⟨b, 0, none⟩))] 78)).alloc (.cells #[.int .i64 0, .int .i64 0, .slice none 0 0, .slice none 0 0] 25)) := by with_reducible (repeat first | exact Kx.r _ | assumption | refine Kx.a ?_ _ | refine Kx.d ?_ | refine Kx.e ?_ _ | refine Kx.s (by simp <;> omega) ?_ _ | refine Kx.t ?_ (by assumption))
  have hBA : Blk ((w.alloc (.cells #[.int .i64 4, .iface 192 (.pointer (some ⟨b, 0, none⟩))] 78)).alloc (.cells #[.int .i64 0, .int .i64 0, .slice none 0 0, .slice none 0 0] 25)) w.heap.size 78 [.int .i64 4, .iface 192 (.pointer (some ⟨b, 0, none⟩))] := by with_reducible (repeat first | assumption | (refine Bx.n ⟨?_, ?_⟩ <;> focus (first | rfl | (simp; done) | omega)) | refine Bx.a ?_ _ | refine Bx.d ?_ | refine Bx.e ?_ _ | refine Bx.p (by first | omega | simp <;> omega) ?_)
  have hCA : Blk ((w.alloc (.cells #[.int .i64 4, .iface 192 (.pointer (some ⟨b, 0, none⟩))] 78)).alloc (.cells #[.int .i64 0, .int .i64 0, .slice none 0 0, .slice none 0 0] 25)) (w.heap.size + 1) 25 [.int .i64 0, .int .i64 0, .slice none 0 0, .slice none 0 0] := by with_reducible (repeat first | assumption | (refine Bx.n ⟨?_, ?_⟩ <;> focus (first | rfl | (simp; done) | omega)) | refine Bx.a ?_ _ | refine Bx.d ?_ | refine Bx.e ?_ _ | refine Bx.p (by first | omega | simp <;> omega) ?_)
  go_enter Tryz.func53, Tryz.ntmps53
  go_upto_region 1 with (fail)
  generalize ((w.alloc (.cells #[.int .i64 4, .iface 192 (.pointer (some ⟨b, 0, none⟩))] 78)).alloc (.cells #[.int .i64 0, .int .i64 0, .slice none 0 0, .slice none 0 0] 25)) = W1 at *
  have t0 := hBA.cell (i := 0) rfl
  have t1 := hBA.cell (i := 1) rfl
  have tf := hBA.free
  have tl := hBA.lt
  go_wp2_with fail
  refine (geoType_ 4 _ b _).mono ?_
  rintro e W2 ⟨rfl, hk2⟩
  have hk12 := Stab.Keeps.trans hkA hk2
  have hBG := hBA.keep hk2
  have hCG := hCA.keep hk2
  clear t0 t1 tf tl hBA hkA hk2 hCA
  have t0 := hBG.cell (i := 0) rfl
  have t1 := hBG.cell (i := 1) rfl
  have tf := hBG.free
  have tl := hBG.lt
  go_wp2_with fail
  refine (hMu _ hk12).mono ?_
  rintro e W3 ⟨rfl, hk3⟩
  have hk13 := Stab.Keeps.trans hk12 hk3
  have hCH := hCG.keep hk3
  have hs3 : w.heap.size + 2 ≤ W3.heap.size := by have := hCH.lt; omega
  clear t0 t1 tf tl hBG hk12 hk3 hCG hMu
  go_wp2_with fail
  refine (hPl _ hk13).mono ?_
  rintro e W4 ⟨cs4, rfl, hk4, hx⟩
  obtain ⟨zk, zd, zna, znn, znc, zka, zkn, zkc, rfl⟩ := hx.four
  have hk14 := Stab.Keeps.trans hk13 hk4
  have hCI := hCH.keep hk4
  clear hk13 hk4 hCH hPl
  have g0 := hCI.cell (i := 0) rfl
  have g1 := hCI.cell (i := 1) rfl
  have g2 := hCI.cell (i := 2) rfl
  have g3 := hCI.cell (i := 3) rfl
  have gf := hCI.free
  have gl := hCI.lt
  have hBn := (((hCI.set 0 (.int .i64 zk)).set 1 (.int .i64 zd)).set 2 (.slice zna znn znc)).set 3 (.slice zka zkn zkc)
  simp only [List.set] at hBn
  have hkz : Stab.Keeps w ((((W4.setCell ⟨w.heap.size + 1, 0, none⟩ (.int .i64 zk)).setCell ⟨w.heap.size + 1, 1, none⟩ (.int .i64 zd)).setCell ⟨w.heap.size + 1, 2, none⟩ (.slice zna znn znc)).setCell ⟨w.heap.size + 1, 3, none⟩ (.slice zka zkn zkc)) := by with_reducible (repeat first | exact Kx.r _ | assumption | refine Kx.a ?_ _ | refine Kx.d ?_ | refine Kx.e ?_ _ | refine Kx.s (by simp <;> omega) ?_ _ | refine Kx.t ?_ (by assumption))
  have hxn := gmS.kf (gmS.mono (G := fun b => w.heap.size + 2 ≤ b) hx (fun b hbl hb => by exact hb.elim (fun h => h.elim) (fun h => by omega))) (w' := ((((W4.setCell ⟨w.heap.size + 1, 0, none⟩ (.int .i64 zk)).setCell ⟨w.heap.size + 1, 1, none⟩ (.int .i64 zd)).setCell ⟨w.heap.size + 1, 2, none⟩ (.slice zna znn znc)).setCell ⟨w.heap.size + 1, 3, none⟩ (.slice zka zkn zkc))) (((((KF.refl _ _).set (fun h => by simp at h)).set (fun h => by simp at h)).set (fun h => by simp at h)).set (fun h => by simp at h))
  clear hx
  go_wp2_with fail
  generalize ((((W4.setCell ⟨w.heap.size + 1, 0, none⟩ (.int .i64 zk)).setCell ⟨w.heap.size + 1, 1, none⟩ (.int .i64 zd)).setCell ⟨w.heap.size + 1, 2, none⟩ (.slice zna znn znc)).setCell ⟨w.heap.size + 1, 3, none⟩ (.slice zka zkn zkc)) = Wz at *
  clear hCI g0 g1 g2 g3 gf gl
  have y0 := hBn.cell (i := 0) rfl
  have y1 := hBn.cell (i := 1) rfl
  have y2 := hBn.cell (i := 2) rfl
  have y3 := hBn.cell (i := 3) rfl
  have yf := hBn.free
  have yl := hBn.lt
  refine bodyPost_ret (v := .agg #[.int .i64 zk, .int .i64 zd, .slice zna znn znc, .slice zka zkn zkc]) (by simp [results, Tryz.results53, go_sem, *]) rfl ⟨[.int .i64 zk, .int .i64 zd, .slice zna znn znc, .slice zka zkn zkc], rfl, hkz, ?_⟩
  exact gmS.mono hxn (fun b _ hb => .inr (by omega))
set_option maxRecDepth 100000 in
set_option maxHeartbeats 4000000 in
theorem plainGeoMl_ {F : Nat → Prop} (b : Nat) (cs : List Value) (p : Pg) (w : World) (hB : Blk w b 129 cs) (h : MlR w F cs p) : Calls Tryz.prog 53 #[.agg #[.int .i64 5, .iface 197 (.pointer (some ⟨b, 0, none⟩))]] w (RetR w no GmR p) := by
  have h2 := h.two
  obtain ⟨aq, nq, cq, dq, rfl⟩ := h2
  have hMu := fun w' (hk : Stab.Keeps w w') => mustMl_ aq nq cq dq b w' (hB.keep hk)
  have hPl := fun w' (hk : Stab.Keeps w w') => plainMl_ [.slice aq nq cq, .int .u8 dq] p w' (mlS.kf h (KF.keeps hk))
  clear hB h
  have hkA : Stab.Keeps w ((w.alloc (.cells #[.int .i64 5, .iface 197 (.pointer (some ⟨b, 0, none⟩))] 78)).alloc (.cells #[.int .i64 0, .int .i64 0, .slice none 0 0, .slice none 0 0] 25)) := by with_reducible (repeat first | exact Kx.r _ | assumption | refine Kx.a ?_ _ | refine Kx.d ?_ | refine Kx.e ?_ _ | refine Kx.s (by simp <;> omega) ?_ _ | refine Kx.t ?_ (by assumption))
  have hBA : Blk ((w.alloc (.cells #[.int .i64 5, .iface 197 (.pointer (some ⟨b, 0, none⟩))] 78)).alloc (.cells #[.int .i64 0, .int .i64 0, .slice none 0 0, .slice none 0 0] 25)) w.heap.size 78 [.int .i64 5, .iface 197 (.pointer (some ⟨b, 0, none⟩))] := by with_reducible (repeat first | assumption | (refine Bx.n ⟨?_, ?_⟩ <;> focus (first | rfl | (simp; done) | omega)) | refine Bx.a ?_ _ | refine Bx.d ?_ | refine Bx.e ?_ _ | refine Bx.p (by first | omega | simp <;> omega) ?_)
  have hCA : Blk ((w.alloc (.cells #[.int .i64 5, .iface 197 (.pointer (some ⟨b, 0, none⟩))] 78)).alloc (.cells #[.int .i64 0, .int .i64 0, .slice none 0 0, .slice none 0 0] 25)) (w.heap.size + 1) 25 [.int .i64 0, .int .i64 0, .slice none 0 0, .slice none 0 0] := by with_reducible (repeat first | assumption | (refine Bx.n ⟨?_, ?_⟩ <;> focus (first | rfl | (simp; done) | omega)) | refine Bx.a ?_ _ | refine Bx.d ?_ | refine Bx.e ?_ _ | refine Bx.p (by first | omega | simp <;> omega) ?_)
  go_enter Tryz.func53, Tryz.ntmps53
  go_upto_region 1 with (fail)
  generalize ((w.alloc (.cells #[.int .i64 5, .iface 197 (.pointer (some ⟨b, 0, none⟩))] 78)).alloc (.cells #[.int .i64 0, .int .i64 0, .slice none 0 0, .slice none 0 0] 25)) = W1 at *
  have t0 := hBA.cell (i := 0) rfl
  have t1 := hBA.cell (i := 1) rfl
  have tf := hBA.free
  have tl := hBA.lt
  go_wp2_with fail
  refine (geoType_ 5 _ b _).mono ?_
  rintro e W2 ⟨rfl, hk2⟩
  have hk12 := Stab.Keeps.trans hkA hk2
  have hBG := hBA.keep hk2
  have hCG := hCA.keep hk2
  clear t0 t1 tf tl hBA hkA hk2 hCA
  have t0 := hBG.cell (i := 0) rfl
  have t1 := hBG.cell (i := 1) rfl
  have tf := hBG.free
  have tl := hBG.lt
  go_wp2_with fail
  refine (hMu _ hk12).mono ?_
  rintro e W3 ⟨rfl, hk3⟩
  have hk13 := Stab.Keeps.trans hk12 hk3
  have hCH := hCG.keep hk3
  have hs3 : w.heap.size + 2 ≤ W3.heap.size := by have := hCH.lt; omega
  clear t0 t1 tf tl hBG hk12 hk3 hCG hMu
  go_wp2_with fail
  refine (hPl _ hk13).mono ?_
  rintro e W4 ⟨cs4, rfl, hk4, hx⟩
  obtain ⟨zk, zd, zna, znn, znc, zka, zkn, zkc, rfl⟩ := hx.four
  have hk14 := Stab.Keeps.trans hk13 hk4
  have hCI := hCH.keep hk4
  clear hk13 hk4 hCH hPl
  have g0 := hCI.cell (i := 0) rfl
  have g1 := hCI.cell (i := 1) rfl
  have g2 := hCI.cell (i := 2) rfl
  have g3 := hCI.cell (i := 3) rfl
  have gf := hCI.free
  have gl := hCI.lt
  have hBn := (((hCI.set 0 (.int .i64 zk)).set 1 (.int .i64 zd)).set 2 (.slice zna znn znc)).set 3 (.slice zka zkn zkc)
  simp only [List.set] at hBn
  have hkz : Stab.Keeps w ((((W4.setCell ⟨w.heap.size + 1, 0, none⟩ (.int .i64 zk)).setCell ⟨w.heap.size + 1, 1, none⟩ (.int .i64 zd)).setCell ⟨w.heap.size + 1, 2, none⟩ (.slice zna znn znc)).setCell ⟨w.heap.size + 1, 3, none⟩ (.slice zka zkn zkc)) := by with_reducible (repeat first | exact Kx.r _ | assumption | refine Kx.a ?_ _ | refine Kx.d ?_ | refine Kx.e ?_ _ | refine Kx.s (by simp <;> omega) ?_ _ | refine Kx.t ?_ (by assumption))
  have hxn := gmS.kf (gmS.mono (G := fun b => w.heap.size + 2 ≤ b) hx (fun b hbl hb => by exact hb.elim (fun h => h.elim) (fun h => by omega))) (w' := ((((W4.setCell ⟨w.heap.size + 1, 0, none⟩ (.int .i64 zk)).setCell ⟨w.heap.size + 1, 1, none⟩ (.int .i64 zd)).setCell ⟨w.heap.size + 1, 2, none⟩ (.slice zna znn znc)).setCell ⟨w.heap.size + 1, 3, none⟩ (.slice zka zkn zkc))) (((((KF.refl _ _).set (fun h => by simp at h)).set (fun h => by simp at h)).set (fun h => by simp at h)).set (fun h => by simp at h))
  clear hx
  go_wp2_with fail
  generalize ((((W4.setCell ⟨w.heap.size + 1, 0, none⟩ (.int .i64 zk)).setCell ⟨w.heap.size + 1, 1, none⟩ (.int .i64 zd)).setCell ⟨w.heap.size + 1, 2, none⟩ (.slice zna znn znc)).setCell ⟨w.heap.size + 1, 3, none⟩ (.slice zka zkn zkc)) = Wz at *
  clear hCI g0 g1 g2 g3 gf gl
  have y0 := hBn.cell (i := 0) rfl
  have y1 := hBn.cell (i := 1) rfl
  have y2 := hBn.cell (i := 2) rfl
  have y3 := hBn.cell (i := 3) rfl
  have yf := hBn.free
  have yl := hBn.lt
  refine bodyPost_ret (v := .agg #[.int .i64 zk, .int .i64 zd, .slice zna znn znc, .slice zka zkn zkc]) (by simp [results, Tryz.results53, go_sem, *]) rfl ⟨[.int .i64 zk, .int .i64 zd, .slice zna znn znc, .slice zka zkn zkc], rfl, hkz, ?_⟩
  exact gmS.mono hxn (fun b _ hb => .inr (by omega))
set_option maxRecDepth 100000 in
set_option maxHeartbeats 4000000 in
theorem plainGeoMy_ {F : Nat → Prop} (b : Nat) (cs : List Value) (p : Pg) (w : World) (hB : Blk w b 134 cs) (h : MyR w F cs p) : Calls Tryz.prog 53 #[.agg #[.int .i64 6, .iface 199 (.pointer (some ⟨b, 0, none⟩))]] w (RetR w no GmR p) := by
  have h2 := h.two
  obtain ⟨aq, nq, cq, dq, rfl⟩ := h2
  have hMu := fun w' (hk : Stab.Keeps w w') => mustMy_ aq nq cq dq b w' (hB.keep hk)
  have hPl := fun w' (hk : Stab.Keeps w w') => plainMy_ [.slice aq nq cq, .int .u8 dq] p w' (myS.kf h (KF.keeps hk))
  clear hB h
  have hkA : Stab.Keeps w ((w.alloc (.cells #[.int .i64 6, .iface 199 (.pointer (some ⟨b, 0, none⟩))] 78)).alloc (.cells #[.int .i64 0, .int .i64 0, .slice none 0 0, .slice none 0 0] 25)) := by with_reducible (repeat first | exact Kx.r _ | assumption | refine Kx.a ?_ _ | refine Kx.d ?_ | refine Kx.e ?_ _ | refine Kx.s (by simp <;> omega) ?_ _ | refine Kx.t ?_ (by assumption))
  have hBA : Blk ((w.alloc (.cells #[.int .i64 6, .iface 199 (.pointer (some ⟨b, 0, none⟩))] 78)).alloc (.cells #[.int .i64 0, .int .i64 0, .slice none 0 0, .slice none 0 0] 25)) w.heap.size 78 [.int .i64 6, .iface 199 (.pointer (some ⟨b, 0, none⟩))] := by with_reducible (repeat first | assumption | (refine Bx.n ⟨?_, ?_⟩ <;> focus (first | rfl | (simp; done) | omega)) | refine Bx.a ?_ _ | refine Bx.d ?_ | refine Bx.e ?_ _ | refine Bx.p (by first | omega | simp <;> omega) ?_)
  have hCA : Blk ((w.alloc (.cells #[.int .i64 6, .iface 199 (.pointer (some ⟨b, 0, none⟩))] 78)).alloc (.cells #[.int .i64 0, .int .i64 0, .slice none 0 0, .slice none 0 0] 25)) (w.heap.size + 1) 25 [.int .i64 0, .int .i64 0, .slice none 0 0, .slice none 0 0] := by with_reducible (repeat first | assumption | (refine Bx.n ⟨?_, ?_⟩ <;> focus (first | rfl | (simp; done) | omega)) | refine Bx.a ?_ _ | refine Bx.d ?_ | refine Bx.e ?_ _ | refine Bx.p (by first | omega | simp <;> omega) ?_)
  go_enter Tryz.func53, Tryz.ntmps53
  go_upto_region 1 with (fail)
  generalize ((w.alloc (.cells #[.int .i64 6, .iface 199 (.pointer (some ⟨b, 0, none⟩))] 78)).alloc (.cells #[.int .i64 0, .int .i64 0, .slice none 0 0, .slice none 0 0] 25)) = W1 at *
  have t0 := hBA.cell (i := 0) rfl
  have t1 := hBA.cell (i := 1) rfl
  have tf := hBA.free
  have tl := hBA.lt
  go_wp2_with fail
  refine (geoType_ 6 _ b _).mono ?_
  rintro e W2 ⟨rfl, hk2⟩
  have hk12 := Stab.Keeps.trans hkA hk2
  have hBG := hBA.keep hk2
  have hCG := hCA.keep hk2
  clear t0 t1 tf tl hBA hkA hk2 hCA
  have t0 := hBG.cell (i := 0) rfl
  have t1 := hBG.cell (i := 1) rfl
  have tf := hBG.free
  have tl := hBG.lt
  go_wp2_with fail
  refine (hMu _ hk12).mono ?_
  rintro e W3 ⟨rfl, hk3⟩
  have hk13 := Stab.Keeps.trans hk12 hk3
  have hCH := hCG.keep hk3
  have hs3 : w.heap.size + 2 ≤ W3.heap.size := by have := hCH.lt; omega
  clear t0 t1 tf tl hBG hk12 hk3 hCG hMu
  go_wp2_with fail
  refine (hPl _ hk13).mono ?_
  rintro e W4 ⟨cs4, rfl, hk4, hx⟩
  obtain ⟨zk, zd, zna, znn, znc, zka, zkn, zkc, rfl⟩ := hx.four
  have hk14 := Stab.Keeps.trans hk13 hk4
  have hCI := hCH.keep hk4
  clear hk13 hk4 hCH hPl
  have g0 := hCI.cell (i := 0) rfl
  have g1 := hCI.cell (i := 1) rfl
  have g2 := hCI.cell (i := 2) rfl
  have g3 := hCI.cell (i := 3) rfl
  have gf := hCI.free
  have gl := hCI.lt
  have hBn := (((hCI.set 0 (.int .i64 zk)).set 1 (.int .i64 zd)).set 2 (.slice zna znn znc)).set 3 (.slice zka zkn zkc)
  simp only [List.set] at hBn
  have hkz : Stab.Keeps w ((((W4.setCell ⟨w.heap.size + 1, 0, none⟩ (.int .i64 zk)).setCell ⟨w.heap.size + 1, 1, none⟩ (.int .i64 zd)).setCell ⟨w.heap.size + 1, 2, none⟩ (.slice zna znn znc)).setCell ⟨w.heap.size + 1, 3, none⟩ (.slice zka zkn zkc)) := by with_reducible (repeat first | exact Kx.r _ | assumption | refine Kx.a ?_ _ | refine Kx.d ?_ | refine Kx.e ?_ _ | refine Kx.s (by simp <;> omega) ?_ _ | refine Kx.t ?_ (by assumption))
  have hxn := gmS.kf (gmS.mono (G := fun b => w.heap.size + 2 ≤ b) hx (fun b hbl hb => by exact hb.elim (fun h => h.elim) (fun h => by omega))) (w' := ((((W4.setCell ⟨w.heap.size + 1, 0, none⟩ (.int .i64 zk)).setCell ⟨w.heap.size + 1, 1, none⟩ (.int .i64 zd)).setCell ⟨w.heap.size + 1, 2, none⟩ (.slice zna znn znc)).setCell ⟨w.heap.size + 1, 3, none⟩ (.slice zka zkn zkc))) (((((KF.refl _ _).set (fun h => by simp at h)).set (fun h => by simp at h)).set (fun h => by simp at h)).set (fun h => by simp at h))
  clear hx
  go_wp2_with fail
  generalize ((((W4.setCell ⟨w.heap.size + 1, 0, none⟩ (.int .i64 zk)).setCell ⟨w.heap.size + 1, 1, none⟩ (.int .i64 zd)).setCell ⟨w.heap.size + 1, 2, none⟩ (.slice zna znn znc)).setCell ⟨w.heap.size + 1, 3, none⟩ (.slice zka zkn zkc)) = Wz at *
  clear hCI g0 g1 g2 g3 gf gl
  have y0 := hBn.cell (i := 0) rfl
  have y1 := hBn.cell (i := 1) rfl
  have y2 := hBn.cell (i := 2) rfl
  have y3 := hBn.cell (i := 3) rfl
  have yf := hBn.free
  have yl := hBn.lt
  refine bodyPost_ret (v := .agg #[.int .i64 zk, .int .i64 zd, .slice zna znn znc, .slice zka zkn zkc]) (by simp [results, Tryz.results53, go_sem, *]) rfl ⟨[.int .i64 zk, .int .i64 zd, .slice zna znn znc, .slice zka zkn zkc], rfl, hkz, ?_⟩
  exact gmS.mono hxn (fun b _ hb => .inr (by omega))
set_option maxRecDepth 100000 in
set_option maxHeartbeats 4000000 in
theorem plainGeoGc_ {F : Nat → Prop} (b : Nat) (cs : List Value) (p : Pg) (w : World) (hB : Blk w b 150 cs) (h : GcR w F cs p) (hall : ∀ c ∈ p.kids, PlainOk c) : Calls Tryz.prog 53 #[.agg #[.int .i64 0, .iface 210 (.pointer (some ⟨b, 0, none⟩))]] w (RetR w no GmR p) := by
  have h2 := h.two
  obtain ⟨aq, nq, cq, dq, rfl⟩ := h2
  have hMu := fun w' (hk : Stab.Keeps w w') => mustGc_ aq nq cq dq b w' (hB.keep hk)
  have hPl := fun w' (hk : Stab.Keeps w w') => plainGc_ [.slice aq nq cq, .int .u8 dq] p w' (gcS.kf h (KF.keeps hk)) hall
  clear hB h
  have hkA : Stab.Keeps w ((w.alloc (.cells #[.int .i64 0, .iface 210 (.pointer (some ⟨b, 0, none⟩))] 78)).alloc (.cells #[.int .i64 0, .int .i64 0, .slice none 0 0, .slice none 0 0] 25)) := by with_reducible (repeat first | exact Kx.r _ | assumption | refine Kx.a ?_ _ | refine Kx.d ?_ | refine Kx.e ?_ _ | refine Kx.s (by simp <;> omega) ?_ _ | refine Kx.t ?_ (by assumption))
  have hBA : Blk ((w.alloc (.cells #[.int .i64 0, .iface 210 (.pointer (some ⟨b, 0, none⟩))] 78)).alloc (.cells #[.int .i64 0, .int .i64 0, .slice none 0 0, .slice none 0 0] 25)) w.heap.size 78 [.int .i64 0, .iface 210 (.pointer (some ⟨b, 0, none⟩))] := by with_reducible (repeat first | assumption | (refine Bx.n ⟨?_, ?_⟩ <;> focus (first | rfl | (simp; done) | omega)) | refine Bx.a ?_ _ | refine Bx.d ?_ | refine Bx.e ?_ _ | refine Bx.p (by first | omega | simp <;> omega) ?_)
  have hCA : Blk ((w.alloc (.cells #[.int .i64 0, .iface 210 (.pointer (some ⟨b, 0, none⟩))] 78)).alloc (.cells #[.int .i64 0, .int .i64 0, .slice none 0 0, .slice none 0 0] 25)) (w.heap.size + 1) 25 [.int .i64 0, .int .i64 0, .slice none 0 0, .slice none 0 0] := by with_reducible (repeat first | assumption | (refine Bx.n ⟨?_, ?_⟩ <;> focus (first | rfl | (simp; done) | omega)) | refine Bx.a ?_ _ | refine Bx.d ?_ | refine Bx.e ?_ _ | refine Bx.p (by first | omega | simp <;> omega) ?_)
  go_enter Tryz.func53, Tryz.ntmps53
  go_upto_region 1 with (fail)
  generalize ((w.alloc (.cells #[.int .i64 0, .iface 210 (.pointer (some ⟨b, 0, none⟩))] 78)).alloc (.cells #[.int .i64 0, .int .i64 0, .slice none 0 0, .slice none 0 0] 25)) = W1 at *
  have t0 := hBA.cell (i := 0) rfl
  have t1 := hBA.cell (i := 1) rfl
  have tf := hBA.free
  have tl := hBA.lt
  go_wp2_with fail
  refine (geoType_ 0 _ b _).mono ?_
  rintro e W2 ⟨rfl, hk2⟩
  have hk12 := Stab.Keeps.trans hkA hk2
  have hBG := hBA.keep hk2
  have hCG := hCA.keep hk2
  clear t0 t1 tf tl hBA hkA hk2 hCA
  have t0 := hBG.cell (i := 0) rfl
  have t1 := hBG.cell (i := 1) rfl
  have tf := hBG.free
  have tl := hBG.lt
  go_wp2_with fail
  refine (hMu _ hk12).mono ?_
  rintro e W3 ⟨rfl, hk3⟩
  have hk13 := Stab.Keeps.trans hk12 hk3
  have hCH := hCG.keep hk3
  have hs3 : w.heap.size + 2 ≤ W3.heap.size := by have := hCH.lt; omega
  clear t0 t1 tf tl hBG hk12 hk3 hCG hMu
  go_wp2_with fail
  refine (hPl _ hk13).mono ?_
  rintro e W4 ⟨cs4, rfl, hk4, hx⟩
  obtain ⟨zk, zd, zna, znn, znc, zka, zkn, zkc, rfl⟩ := hx.four
  have hk14 := Stab.Keeps.trans hk13 hk4
  have hCI := hCH.keep hk4
  clear hk13 hk4 hCH hPl
  have g0 := hCI.cell (i := 0) rfl
  have g1 := hCI.cell (i := 1) rfl
  have g2 := hCI.cell (i := 2) rfl
  have g3 := hCI.cell (i := 3) rfl
  have gf := hCI.free
  have gl := hCI.lt
  have hBn := (((hCI.set 0 (.int .i64 zk)).set 1 (.int .i64 zd)).set 2 (.slice zna znn znc)).set 3 (.slice zka zkn zkc)
  simp only [List.set] at hBn
  have hkz : Stab.Keeps w ((((W4.setCell ⟨w.heap.size + 1, 0, none⟩ (.int .i64 zk)).setCell ⟨w.heap.size + 1, 1, none⟩ (.int .i64 zd)).setCell ⟨w.heap.size + 1, 2, none⟩ (.slice zna znn znc)).setCell ⟨w.heap.size + 1, 3, none⟩ (.slice zka zkn zkc)) := by with_reducible (repeat first | exact Kx.r _ | assumption | refine Kx.a ?_ _ | refine Kx.d ?_ | refine Kx.e ?_ _ | refine Kx.s (by simp <;> omega) ?_ _ | refine Kx.t ?_ (by assumption))
  have hxn := gmS.kf (gmS.mono (G := fun b => w.heap.size + 2 ≤ b) hx (fun b hbl hb => by exact hb.elim (fun h => h.elim) (fun h => by omega))) (w' := ((((W4.setCell ⟨w.heap.size + 1, 0, none⟩ (.int .i64 zk)).setCell ⟨w.heap.size + 1, 1, none⟩ (.int .i64 zd)).setCell ⟨w.heap.size + 1, 2, none⟩ (.slice zna znn znc)).setCell ⟨w.heap.size + 1, 3, none⟩ (.slice zka zkn zkc))) (((((KF.refl _ _).set (fun h => by simp at h)).set (fun h => by simp at h)).set (fun h => by simp at h)).set (fun h => by simp at h))
  clear hx
  go_wp2_with fail
  generalize ((((W4.setCell ⟨w.heap.size + 1, 0, none⟩ (.int .i64 zk)).setCell ⟨w.heap.size + 1, 1, none⟩ (.int .i64 zd)).setCell ⟨w.heap.size + 1, 2, none⟩ (.slice zna znn znc)).setCell ⟨w.heap.size + 1, 3, none⟩ (.slice zka zkn zkc)) = Wz at *
  clear hCI g0 g1 g2 g3 gf gl
  have y0 := hBn.cell (i := 0) rfl
  have y1 := hBn.cell (i := 1) rfl
  have y2 := hBn.cell (i := 2) rfl
  have y3 := hBn.cell (i := 3) rfl
  have yf := hBn.free
  have yl := hBn.lt
  refine bodyPost_ret (v := .agg #[.int .i64 zk, .int .i64 zd, .slice zna znn znc, .slice zka zkn zkc]) (by simp [results, Tryz.results53, go_sem, *]) rfl ⟨[.int .i64 zk, .int .i64 zd, .slice zna znn znc, .slice zka zkn zkc], rfl, hkz, ?_⟩
  exact gmS.mono hxn (fun b _ hb => .inr (by omega))
theorem plainGeo_ : ∀ p, PlainOk p := Pg.ind fun k d ps kids ih G cs w h => by
  cases h with
  | pt b cs p hF hB h => exact plainGeoPt_ b cs _ w hB h
  | ls b cs p hF hB h => exact plainGeoLs_ b cs _ w hB h
  | py b cs p hF hB h => exact plainGeoPy_ b cs _ w hB h
  | mp b cs p hF hB h => exact plainGeoMp_ b cs _ w hB h
  | ml b cs p hF hB h => exact plainGeoMl_ b cs _ w hB h
  | my b cs p hF hB h => exact plainGeoMy_ b cs _ w hB h
  | gc b d a n cap css kids hF hB hd hn lc lx each sz is hdim => exact plainGeoGc_ (F := G) b _ _ w hB ⟨d, a, n, cap, css, kids, rfl, rfl, hd, hn, ⟨lc, lx, each, sz, is⟩, hdim⟩ ih
end Go.Proofs.YtbakhldjfplbfaaGreat
