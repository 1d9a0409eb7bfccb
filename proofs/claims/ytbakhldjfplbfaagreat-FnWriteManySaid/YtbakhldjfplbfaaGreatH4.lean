/-
  Polygons and multis made of plain data. No condition.
-/
import Derived.Test.YtbakhldjfplbfaaGreatNp
set_option linter.unusedVariables false
set_option linter.unusedSimpArgs false
namespace Go.Proofs.YtbakhldjfplbfaaGreat
open Go.RowKit Go.Fl Go.Sl Go.Pg Go.Ch Go.Kf
set_option maxRecDepth 100000 in
set_option maxHeartbeats 2000000 in
theorem makePy_ (t : GT) (w : World) (hA : t.At w) (hs : t.Small) (hk : t.hd.kind = 3) : Calls Tryz.prog 81 #[t.hd.val] w (RetR w no PyR (newP t)) := by
  obtain ⟨i0, hi, hz0, hz1, hz2⟩ := info_parts infoLs
  cases hA with
  | mk h nums kids hn hkn h1 h2 h3 =>
  obtain ⟨kind, dim, na, nn, nc, ka, kn, kc⟩ := h
  simp only [GT.hd] at hk hkn h2
  subst hk
  have hfew := hs.few
  have hkid := hs.kid
  have hle := h2.le
  have hmx := h2.max
  unfold maxLen at hmx
  rw [newP_whole _ _ _ (by simp [kindN]) (by simp [kindN])]
  simp only [show kindN 3 = 3 from rfl]
  have hO := fun w' => dimOfA_ dim w'
  have hM := fun i (hi : i < kids.length) w' (hk : Stab.Keeps w w') (hkd : kids[i].hd.kind = 2) => makeLs_ kids[i] w' ((h3 _ (List.getElem_mem hi)).keep hk) (hkid _ (List.getElem_mem hi)) hkd
  have hE := fun w' => forcePy_ (F := no) (dim4 dim) (dim4_lt dim) [.slice none 0 0, .int .u8 (0 : Nat)] (.node 3 0 [] []) w' ⟨0, none, 0, 0, [], [], rfl, rfl, by omega, by omega, Go.Kf.Rows.nil _ _ _ _, fun c hc => by simp at hc⟩
  have HI := Lib.hid hi
  have HZ0 := Lib.hid hz0
  have HZ1 := Lib.hid hz1
  have HZ2 := Lib.hid hz2
  have HKN := Lib.hid hkn
  have HM := Lib.hid hM
  have HE := Lib.hid hE
  have hd4 := dim4_lt dim
  have hkb : kn ≤ 1000 := by omega
  clear h1 h3 hn hi hz0 hz1 hz2 hs hM hkid hkn hfew hE
  simp only [GT.hd, Gm.val]
  generalize hde : dim4 dim = D at *
  clear hde
  go_enter Tryz.func81, Tryz.ntmps81
  go_wp2_with fail
  have hkw : Stab.Keeps w ((w.alloc (.cells #[.int .i64 3, .int .i64 dim, .slice na nn nc, .slice ka kn kc] 25)).alloc (.cells #[.slice none 0 0, .int .u8 0] 121)) := by with_reducible (repeat (first | exact Kx.r _ | assumption | refine Kx.a ?_ _ | refine Kx.d ?_ | refine Kx.e ?_ _ | (refine Kx.s ?_ ?_ _; focus (first | (simp; done) | (simp; omega))) | refine Kx.t ?_ (by assumption)))
  have hB0 : Blk ((w.alloc (.cells #[.int .i64 3, .int .i64 dim, .slice na nn nc, .slice ka kn kc] 25)).alloc (.cells #[.slice none 0 0, .int .u8 0] 121)) w.heap.size 25 [.int .i64 3, .int .i64 dim, .slice na nn nc, .slice ka kn kc] := by with_reducible (repeat (first | assumption | ((refine Bx.n ⟨?_, ?_⟩) <;> focus (first | rfl | (simp; done) | omega)) | refine Bx.a ?_ _ | refine Bx.d ?_ | refine Bx.e ?_ _ | (refine Bx.p ?_ ?_; focus (first | (simp; done) | (simp; omega) | omega))))
  have hB1 : Blk ((w.alloc (.cells #[.int .i64 3, .int .i64 dim, .slice na nn nc, .slice ka kn kc] 25)).alloc (.cells #[.slice none 0 0, .int .u8 0] 121)) (w.heap.size + 1) 121 [.slice none 0 0, .int .u8 0] := by with_reducible (repeat (first | assumption | ((refine Bx.n ⟨?_, ?_⟩) <;> focus (first | rfl | (simp; done) | omega)) | refine Bx.a ?_ _ | refine Bx.d ?_ | refine Bx.e ?_ _ | (refine Bx.p ?_ ?_; focus (first | (simp; done) | (simp; omega) | omega))))
  have hs1 : ((w.alloc (.cells #[.int .i64 3, .int .i64 dim, .slice na nn nc, .slice ka kn kc] 25)).alloc (.cells #[.slice none 0 0, .int .u8 0] 121)).heap.size = w.heap.size + 1 + 1 := by simp
  generalize hw1 : ((w.alloc (.cells #[.int .i64 3, .int .i64 dim, .slice na nn nc, .slice ka kn kc] 25)).alloc (.cells #[.slice none 0 0, .int .u8 0] 121)) = w1 at *
  clear hw1
  have HS1 := Lib.hid hs1
  clear hs1
  go_loopw [3, 9] (fun v iv wr => ∃ k m : Nat, k ≤ kn ∧ m ≤ k ∧ iv = .int .i64 k ∧ Grow w1 wr LsR 99 2 m v (((kids.take k).map newP).filter (takes 3))) (fun _ iv _ => kn - (intOf iv).toNat)
  case atStart => exact ⟨0, 0, by omega, by omega, rfl, by simpa using Grow.nil w1 w1 LsR 99 2 (Stab.Keeps.refl _)⟩
  case round =>
    obtain ⟨k, m, k2, hmk, rfl, hG⟩ := hrel
    obtain ⟨al, c0, rfl, hmc, hcm⟩ := hG.shape
    have hk := hG.keeps
    have hB0r := hB0.keep hk
    unfold maxLen at hcm
    by_cases hlt : k < kn
    · obtain ⟨b, off, ha, hb, hc⟩ := (h2.keep (Stab.Keeps.trans hkw hk)).elem hlt
      subst ha
      have hki : k < kids.length := by have := HKN.out; omega
      have e0 : wr.cell? ⟨b, off + k * 4, none⟩ = some (.int .i64 kids[k].hd.kind) := hc 0 _ (by omega) (by rw [flat_get GT.cells 4 GT.cells_len kids k 0 hki (by omega)]; rfl)
      have e1 : wr.cell? ⟨b, off + k * 4 + 1, none⟩ = some (.int .i64 kids[k].hd.dim) := hc 1 _ (by omega) (by rw [flat_get GT.cells 4 GT.cells_len kids k 1 hki (by omega)]; rfl)
      have e2 : wr.cell? ⟨b, off + k * 4 + 2, none⟩ = some (.slice kids[k].hd.na kids[k].hd.nn kids[k].hd.nc) := hc 2 _ (by omega) (by rw [flat_get GT.cells 4 GT.cells_len kids k 2 hki (by omega)]; rfl)
      have e3 : wr.cell? ⟨b, off + k * 4 + 3, none⟩ = some (.slice kids[k].hd.ka kids[k].hd.kn kids[k].hd.kc) := hc 3 _ (by omega) (by rw [flat_get GT.cells 4 GT.cells_len kids k 3 hki (by omega)]; rfl)
      have hsn : ((kids.take (k + 1)).map newP).filter (takes 3) = if takes 3 (newP kids[k]) then ((kids.take k).map newP).filter (takes 3) ++ [newP kids[k]] else ((kids.take k).map newP).filter (takes 3) := by
        rw [List.take_succ_eq_append_getElem hki, List.map_append, List.map_cons, List.map_nil, filter_snoc]
      have htk : takes 3 (newP kids[k]) = (kindN kids[k].hd.kind == 2) := by simp [takes, newP_kind]
      have hmk1 := HM.out k hki
      generalize ((kids.take k).map newP).filter (takes 3) = ys at *
      have HSN := Lib.hid hsn
      have HTK := Lib.hid htk
      clear hc hsn htk
      generalize kids[k] = x at *
      by_cases hkd : x.hd.kind = 2
      · have hok : takes 3 (newP x) = true := by rw [HTK.out, hkd]; rfl
        have hy2 : ((kids.take (k + 1)).map newP).filter (takes 3) = ys ++ [newP x] := by rw [HSN.out, hok]; rfl
        have HY := Lib.hid hy2
        replace hmk1 := fun w' hk => hmk1 w' hk hkd
        clear hok hy2 HSN HTK
        obtain ⟨⟨xk, xd, xna, xnn, xnc, xka, xkn, xkc⟩, xnums, xkids⟩ := x
        simp only [GT.hd] at hkd e0 e1 e2 e3
        subst hkd
        simp only [GT.hd, Gm.val] at hmk1
        have g0 := hB0r.cell (i := 0) rfl
        have gf := hB0r.free
        have gl := hB0r.lt
        go_wp2_with fail
        have hkx : Stab.Keeps w (wr.alloc (.cells #[.int .i64 2, .int .i64 xd, .slice xna xnn xnc, .slice xka xkn xkc] 25)) := by have := Stab.Keeps.trans hkw hk; with_reducible (repeat (first | exact Kx.r _ | assumption | refine Kx.a ?_ _ | refine Kx.d ?_ | refine Kx.e ?_ _ | (refine Kx.s ?_ ?_ _; focus (first | (simp; done) | (simp; omega))) | refine Kx.t ?_ (by assumption)))
        refine (hmk1 _ hkx).mono ?_
        clear hmk1
        rintro e w4 ⟨cs4, rfl, hk4, hx4⟩
        have hone := hx4.ones
        obtain ⟨dz, az, nz, cz, rfl⟩ := hx4.two
        have hk5 : Stab.Keeps wr w4 := by with_reducible (repeat (first | exact Kx.r _ | assumption | refine Kx.a ?_ _ | refine Kx.d ?_ | refine Kx.e ?_ _ | (refine Kx.s ?_ ?_ _; focus (first | (simp; done) | (simp; omega))) | refine Kx.t ?_ (by assumption)))
        have hG4 := hG.keep lsS hk5
        have hG5 := hG4.keep lsS ((Stab.Keeps.refl w4).alloc (.cells #[.int .u8 dz, .slice az nz cz] 99))
        have hge : w1.heap.size ≤ wr.heap.size := hk.size
        have hown : ∀ g, (Value.slice al m c0).ownBlock = some g → g < wr.heap.size := fun g hg => (hG.own hg).2
        have hx5 : LsR (w4.alloc (.cells #[.int .u8 dz, .slice az nz cz] 99)) (fun b => wr.heap.size + 1 ≤ b ∧ b < w4.heap.size) [.int .u8 dz, .slice az nz cz] _ := lsS.kf (lsS.mono hx4 (fun b hb hf => hf.elim (fun h => h.elim) (fun h => ⟨by simpa using h, hb⟩))) ((KF.refl _ _).alloc _)
        clear e0 e1 e2 e3 hk4 hG hG4 hkx hx4 hk
        have HG5 := Lib.hid hG5
        clear hG5
        go_wp2_with (at_builtin; (refine append_grow (w0 := w1) lsS rfl _ _ 119 rfl 99 i0 _ 2 32 Tryz.underlying119 HI.out HZ0.out HZ1.out HZ2.out rfl (by decide) _ m ys rfl HG5.out ⟨w4.heap.size, 0, none⟩ 1 [.int .u8 dz, .slice az nz cz] rfl rfl ?c1 hone ?c2 ?c3 _ _ hx5 ?c4 ?c5 ?_))
        case c1 => exact new_cells _ _ _ _ rfl
        case c2 => unfold maxLen; omega
        case c3 => omega
        case c4 => exact fun b hb => ⟨by omega, by simp; omega⟩
        case c5 => exact fun g hg hb => by have := hown g hg; omega
        intro al' c' w5 hG6 hsz5
        rw [← HY.out] at hG6
        clear hx5 HG5 hown
        go_wp2_with fail
        go_roundw
        case rel => exact ⟨k + 1, m + 1, by omega, by omega, by go_num, hG6⟩
        case measure => simp [intOf]; omega
      · have hno : takes 3 (newP x) = false := by
          rw [HTK.out]
          simp only [kindN, beq_eq_false_iff_ne, ne_eq]
          split <;> omega
        have hy2 : ((kids.take (k + 1)).map newP).filter (takes 3) = ys := by rw [HSN.out, hno]; rfl
        have HY := Lib.hid hy2
        have hkd2 : (x.hd.kind == 2) = false := by simpa using hkd
        clear hno hy2 HSN HTK hmk1 hkd
        have g0 := hB0r.cell (i := 0) rfl
        have gf := hB0r.free
        have gl := hB0r.lt
        have hG4 := hG.keep lsS ((Stab.Keeps.refl wr).alloc (.cells #[.int .i64 x.hd.kind, .int .i64 x.hd.dim, .slice x.hd.na x.hd.nn x.hd.nc, .slice x.hd.ka x.hd.kn x.hd.kc] 25))
        rw [← HY.out] at hG4
        clear HY hG hk
        go_wp2_with fail
        go_roundw
        case rel => exact ⟨k + 1, m, by omega, by omega, by go_num, hG4⟩
        case measure => simp [intOf]; omega
    · obtain rfl : kn = k := by omega
      have hfull : kids.take kn = kids := List.take_of_length_le (by rw [HKN.out]; exact Nat.le_refl _)
      rw [hfull] at hG
      generalize (kids.map newP).filter (takes 3) = ys at *
      have hyl := hG.len
      have hkk := Stab.Keeps.trans hkw hk
      have hsz := hk.size
      rcases Nat.eq_zero_or_pos m with h0 | h0
      · subst h0
        have hy0 : ys = [] := List.length_eq_zero_iff.1 hyl
        subst hy0
        have g0 := hB0r.cell (i := 0) rfl
        have g1 := hB0r.cell (i := 1) rfl
        have gf := hB0r.free
        have gl := hB0r.lt
        clear hG hfull hyl
        go_wp2_with fail
        refine (hO _).mono ?_
        clear hO
        rintro e w4 ⟨rfl, hk4⟩
        go_wp2_with fail
        have hE1 := HE.out w4
        simp only [Int.natCast_zero] at hE1
        refine hE1.mono ?_
        clear hE1
        rintro e w5 ⟨cs5, rfl, hk5, hx5⟩
        obtain ⟨az, nz, cz, dz, rfl⟩ := hx5.two
        have hB2 := ((hB1.keep hk).keep hk4).keep hk5
        have hkf : Stab.Keeps w w5 := by with_reducible (repeat (first | exact Kx.r _ | assumption | refine Kx.a ?_ _ | refine Kx.d ?_ | refine Kx.e ?_ _ | (refine Kx.s ?_ ?_ _; focus (first | (simp; done) | (simp; omega))) | refine Kx.t ?_ (by assumption)))
        have hsz4 := hk4.size
        have hs1 := HS1.out
        clear hk hk4 hk5 g0 g1 gf gl
        have r0 := hB2.cell (i := 0) rfl
        have r1 := hB2.cell (i := 1) rfl
        have rf := hB2.free
        have rl := hB2.lt
        go_wp2_with fail
        refine bodyPost_ret (v := .agg #[.slice az nz cz, .int .u8 dz]) (by simp [results, Tryz.results81, go_sem, *]) rfl ⟨[.slice az nz cz, .int .u8 dz], rfl, ?_, ?_⟩
        · with_reducible (repeat (first | exact Kx.r _ | assumption | refine Kx.a ?_ _ | refine Kx.d ?_ | refine Kx.e ?_ _ | (refine Kx.s ?_ ?_ _; focus (first | (simp; done) | (simp; omega))) | refine Kx.t ?_ (by assumption)))
        · have : wholeP 3 D ([] : List Pg) = forceP D (.node 3 0 [] []) := by rw [forceP_eq]; rfl
          rw [this]
          refine pyS.mono (pyS.kf hx5 (w' := _) ?_) (fun b _ hb => hb.elim (fun h => h.elim) (fun h => .inr (by omega)))
          have hnf : ¬ orNew no w4.heap.size (w.heap.size + 1) := by intro h; rcases h with h | h; exact h.elim; omega
          repeat (first | (with_reducible exact KF.refl _ _) | (with_reducible assumption) | (with_reducible refine KF.alloc ?_ _) | (with_reducible refine KF.drew ?_) | (with_reducible refine KF.drewN ?_ _) | ((with_reducible refine KF.set ?_ ?_); focus (first | assumption | (simp [orNew, old]; done) | (simp [orNew, old]; omega) | (simp [orNew, old] at *; omega))) | (with_reducible refine KF.trans ?_ (KF.keeps (by with_reducible assumption))))
      · have hne : ((m : Int) == 0) = false := by simp; omega
        have hne2 : (m == 0) = false := by simp; omega
        obtain ⟨css, hR⟩ := hG.toRows lsS
        have hN := newPyN_ al m c0 css ys wr h0 (by omega) hR
        have hwe : wholeP 3 D ys = wholeP 3 0 ys := by unfold wholeP; rw [if_neg (by simp; intro h; rw [h] at hyl; simp at hyl; omega), if_neg (by simp; intro h; rw [h] at hyl; simp at hyl; omega)]
        have HWE := Lib.hid hwe
        clear hG hfull hyl hR hwe
        go_wp2_with fail
        refine hN.mono ?_
        clear hN
        rintro e w5 ⟨cs5, rfl, hk5, hx5⟩
        obtain ⟨az, nz, cz, dz, rfl⟩ := hx5.two
        have hB2 := (hB1.keep hk).keep hk5
        have hkf : Stab.Keeps w w5 := by with_reducible (repeat (first | exact Kx.r _ | assumption | refine Kx.a ?_ _ | refine Kx.d ?_ | refine Kx.e ?_ _ | (refine Kx.s ?_ ?_ _; focus (first | (simp; done) | (simp; omega))) | refine Kx.t ?_ (by assumption)))
        have hs1 := HS1.out
        clear hk hk5
        have r0 := hB2.cell (i := 0) rfl
        have r1 := hB2.cell (i := 1) rfl
        have rf := hB2.free
        have rl := hB2.lt
        go_wp2_with fail
        refine bodyPost_ret (v := .agg #[.slice az nz cz, .int .u8 dz]) (by simp [results, Tryz.results81, go_sem, *]) rfl ⟨[.slice az nz cz, .int .u8 dz], rfl, ?_, ?_⟩
        · with_reducible (repeat (first | exact Kx.r _ | assumption | refine Kx.a ?_ _ | refine Kx.d ?_ | refine Kx.e ?_ _ | (refine Kx.s ?_ ?_ _; focus (first | (simp; done) | (simp; omega))) | refine Kx.t ?_ (by assumption)))
        · rw [← HWE.out] at hx5
          refine pyS.mono (pyS.kf hx5 (w' := _) ?_) (fun b _ hb => .inr (by rcases hb with h | h <;> omega))
          have hnf : ¬ orNew (fun b => w1.heap.size ≤ b) wr.heap.size (w.heap.size + 1) := by intro h; rcases h with h | h <;> omega
          repeat (first | (with_reducible exact KF.refl _ _) | (with_reducible assumption) | (with_reducible refine KF.alloc ?_ _) | (with_reducible refine KF.drew ?_) | (with_reducible refine KF.drewN ?_ _) | ((with_reducible refine KF.set ?_ ?_); focus (first | assumption | (simp [orNew, old]; done) | (simp [orNew, old]; omega) | (simp [orNew, old] at *; omega))) | (with_reducible refine KF.trans ?_ (KF.keeps (by with_reducible assumption))))
set_option maxRecDepth 100000 in
set_option maxHeartbeats 2000000 in
theorem makeMp_ (t : GT) (w : World) (hA : t.At w) (hs : t.Small) (hk : t.hd.kind = 4) : Calls Tryz.prog 83 #[t.hd.val] w (RetR w no MpR (newP t)) := by
  obtain ⟨i0, hi, hz0, hz1, hz2⟩ := info_parts infoPt
  cases hA with
  | mk h nums kids hn hkn h1 h2 h3 =>
  obtain ⟨kind, dim, na, nn, nc, ka, kn, kc⟩ := h
  simp only [GT.hd] at hk hkn h2
  subst hk
  have hfew := hs.few
  have hkid := hs.kid
  have hle := h2.le
  have hmx := h2.max
  unfold maxLen at hmx
  rw [newP_whole _ _ _ (by simp [kindN]) (by simp [kindN])]
  simp only [show kindN 4 = 4 from rfl]
  have hO := fun w' => dimOfA_ dim w'
  have hM := fun i (hi : i < kids.length) w' (hk : Stab.Keeps w w') (hkd : kids[i].hd.kind = 1) => makePt_ kids[i] w' ((h3 _ (List.getElem_mem hi)).keep hk) (hkid _ (List.getElem_mem hi)) hkd
  have hE := fun w' => forceMp_ (F := no) (dim4 dim) (dim4_lt dim) [.slice none 0 0, .int .u8 (0 : Nat)] (.node 4 0 [] []) w' ⟨0, none, 0, 0, [], [], rfl, rfl, by omega, by omega, Go.Kf.Rows.nil _ _ _ _, fun c hc => by simp at hc⟩
  have HI := Lib.hid hi
  have HZ0 := Lib.hid hz0
  have HZ1 := Lib.hid hz1
  have HZ2 := Lib.hid hz2
  have HKN := Lib.hid hkn
  have HM := Lib.hid hM
  have HE := Lib.hid hE
  have hd4 := dim4_lt dim
  have hkb : kn ≤ 1000 := by omega
  clear h1 h3 hn hi hz0 hz1 hz2 hs hM hkid hkn hfew hE
  simp only [GT.hd, Gm.val]
  generalize hde : dim4 dim = D at *
  clear hde
  go_enter Tryz.func83, Tryz.ntmps83
  go_wp2_with fail
  have hkw : Stab.Keeps w ((w.alloc (.cells #[.int .i64 4, .int .i64 dim, .slice na nn nc, .slice ka kn kc] 25)).alloc (.cells #[.slice none 0 0, .int .u8 0] 126)) := by with_reducible (repeat (first | exact Kx.r _ | assumption | refine Kx.a ?_ _ | refine Kx.d ?_ | refine Kx.e ?_ _ | (refine Kx.s ?_ ?_ _; focus (first | (simp; done) | (simp; omega))) | refine Kx.t ?_ (by assumption)))
  have hB0 : Blk ((w.alloc (.cells #[.int .i64 4, .int .i64 dim, .slice na nn nc, .slice ka kn kc] 25)).alloc (.cells #[.slice none 0 0, .int .u8 0] 126)) w.heap.size 25 [.int .i64 4, .int .i64 dim, .slice na nn nc, .slice ka kn kc] := by with_reducible (repeat (first | assumption | ((refine Bx.n ⟨?_, ?_⟩) <;> focus (first | rfl | (simp; done) | omega)) | refine Bx.a ?_ _ | refine Bx.d ?_ | refine Bx.e ?_ _ | (refine Bx.p ?_ ?_; focus (first | (simp; done) | (simp; omega) | omega))))
  have hB1 : Blk ((w.alloc (.cells #[.int .i64 4, .int .i64 dim, .slice na nn nc, .slice ka kn kc] 25)).alloc (.cells #[.slice none 0 0, .int .u8 0] 126)) (w.heap.size + 1) 126 [.slice none 0 0, .int .u8 0] := by with_reducible (repeat (first | assumption | ((refine Bx.n ⟨?_, ?_⟩) <;> focus (first | rfl | (simp; done) | omega)) | refine Bx.a ?_ _ | refine Bx.d ?_ | refine Bx.e ?_ _ | (refine Bx.p ?_ ?_; focus (first | (simp; done) | (simp; omega) | omega))))
  have hs1 : ((w.alloc (.cells #[.int .i64 4, .int .i64 dim, .slice na nn nc, .slice ka kn kc] 25)).alloc (.cells #[.slice none 0 0, .int .u8 0] 126)).heap.size = w.heap.size + 1 + 1 := by simp
  generalize hw1 : ((w.alloc (.cells #[.int .i64 4, .int .i64 dim, .slice na nn nc, .slice ka kn kc] 25)).alloc (.cells #[.slice none 0 0, .int .u8 0] 126)) = w1 at *
  clear hw1
  have HS1 := Lib.hid hs1
  clear hs1
  go_loopw [3, 9] (fun v iv wr => ∃ k m : Nat, k ≤ kn ∧ m ≤ k ∧ iv = .int .i64 k ∧ Grow w1 wr PtR 141 6 m v (((kids.take k).map newP).filter (takes 4))) (fun _ iv _ => kn - (intOf iv).toNat)
  case atStart => exact ⟨0, 0, by omega, by omega, rfl, by simpa using Grow.nil w1 w1 PtR 141 6 (Stab.Keeps.refl _)⟩
  case round =>
    obtain ⟨k, m, k2, hmk, rfl, hG⟩ := hrel
    obtain ⟨al, c0, rfl, hmc, hcm⟩ := hG.shape
    have hk := hG.keeps
    have hB0r := hB0.keep hk
    unfold maxLen at hcm
    by_cases hlt : k < kn
    · obtain ⟨b, off, ha, hb, hc⟩ := (h2.keep (Stab.Keeps.trans hkw hk)).elem hlt
      subst ha
      have hki : k < kids.length := by have := HKN.out; omega
      have e0 : wr.cell? ⟨b, off + k * 4, none⟩ = some (.int .i64 kids[k].hd.kind) := hc 0 _ (by omega) (by rw [flat_get GT.cells 4 GT.cells_len kids k 0 hki (by omega)]; rfl)
      have e1 : wr.cell? ⟨b, off + k * 4 + 1, none⟩ = some (.int .i64 kids[k].hd.dim) := hc 1 _ (by omega) (by rw [flat_get GT.cells 4 GT.cells_len kids k 1 hki (by omega)]; rfl)
      have e2 : wr.cell? ⟨b, off + k * 4 + 2, none⟩ = some (.slice kids[k].hd.na kids[k].hd.nn kids[k].hd.nc) := hc 2 _ (by omega) (by rw [flat_get GT.cells 4 GT.cells_len kids k 2 hki (by omega)]; rfl)
      have e3 : wr.cell? ⟨b, off + k * 4 + 3, none⟩ = some (.slice kids[k].hd.ka kids[k].hd.kn kids[k].hd.kc) := hc 3 _ (by omega) (by rw [flat_get GT.cells 4 GT.cells_len kids k 3 hki (by omega)]; rfl)
      have hsn : ((kids.take (k + 1)).map newP).filter (takes 4) = if takes 4 (newP kids[k]) then ((kids.take k).map newP).filter (takes 4) ++ [newP kids[k]] else ((kids.take k).map newP).filter (takes 4) := by
        rw [List.take_succ_eq_append_getElem hki, List.map_append, List.map_cons, List.map_nil, filter_snoc]
      have htk : takes 4 (newP kids[k]) = (kindN kids[k].hd.kind == 1) := by simp [takes, newP_kind]
      have hmk1 := HM.out k hki
      generalize ((kids.take k).map newP).filter (takes 4) = ys at *
      have HSN := Lib.hid hsn
      have HTK := Lib.hid htk
      clear hc hsn htk
      generalize kids[k] = x at *
      by_cases hkd : x.hd.kind = 1
      · have hok : takes 4 (newP x) = true := by rw [HTK.out, hkd]; rfl
        have hy2 : ((kids.take (k + 1)).map newP).filter (takes 4) = ys ++ [newP x] := by rw [HSN.out, hok]; rfl
        have HY := Lib.hid hy2
        replace hmk1 := fun w' hk => hmk1 w' hk hkd
        clear hok hy2 HSN HTK
        obtain ⟨⟨xk, xd, xna, xnn, xnc, xka, xkn, xkc⟩, xnums, xkids⟩ := x
        simp only [GT.hd] at hkd e0 e1 e2 e3
        subst hkd
        simp only [GT.hd, Gm.val] at hmk1
        have g0 := hB0r.cell (i := 0) rfl
        have gf := hB0r.free
        have gl := hB0r.lt
        go_wp2_with fail
        have hkx : Stab.Keeps w (wr.alloc (.cells #[.int .i64 1, .int .i64 xd, .slice xna xnn xnc, .slice xka xkn xkc] 25)) := by have := Stab.Keeps.trans hkw hk; with_reducible (repeat (first | exact Kx.r _ | assumption | refine Kx.a ?_ _ | refine Kx.d ?_ | refine Kx.e ?_ _ | (refine Kx.s ?_ ?_ _; focus (first | (simp; done) | (simp; omega))) | refine Kx.t ?_ (by assumption)))
        refine (hmk1 _ hkx).mono ?_
        clear hmk1
        rintro e w4 ⟨cs4, rfl, hk4, hx4⟩
        have hone := hx4.ones
        obtain ⟨xz, yz, zz, mz, dz, fz, rfl⟩ := hx4.six
        have hk5 : Stab.Keeps wr w4 := by with_reducible (repeat (first | exact Kx.r _ | assumption | refine Kx.a ?_ _ | refine Kx.d ?_ | refine Kx.e ?_ _ | (refine Kx.s ?_ ?_ _; focus (first | (simp; done) | (simp; omega))) | refine Kx.t ?_ (by assumption)))
        have hG4 := hG.keep ptS hk5
        have hG5 := hG4.keep ptS ((Stab.Keeps.refl w4).alloc (.cells #[.float .f64 xz, .float .f64 yz, .float .f64 zz, .float .f64 mz, .int .u8 dz, .bool fz] 141))
        have hge : w1.heap.size ≤ wr.heap.size := hk.size
        have hown : ∀ g, (Value.slice al m c0).ownBlock = some g → g < wr.heap.size := fun g hg => (hG.own hg).2
        have hx5 : PtR (w4.alloc (.cells #[.float .f64 xz, .float .f64 yz, .float .f64 zz, .float .f64 mz, .int .u8 dz, .bool fz] 141)) (fun b => wr.heap.size + 1 ≤ b ∧ b < w4.heap.size) [.float .f64 xz, .float .f64 yz, .float .f64 zz, .float .f64 mz, .int .u8 dz, .bool fz] _ := ptS.kf (ptS.mono hx4 (fun b hb hf => hf.elim (fun h => h.elim) (fun h => ⟨by simpa using h, hb⟩))) ((KF.refl _ _).alloc _)
        clear e0 e1 e2 e3 hk4 hG hG4 hkx hx4 hk
        have HG5 := Lib.hid hG5
        clear hG5
        go_wp2_with (at_builtin; (refine append_grow (w0 := w1) ptS rfl _ _ 124 rfl 141 i0 _ 6 48 Tryz.underlying124 HI.out HZ0.out HZ1.out HZ2.out rfl (by decide) _ m ys rfl HG5.out ⟨w4.heap.size, 0, none⟩ 1 [.float .f64 xz, .float .f64 yz, .float .f64 zz, .float .f64 mz, .int .u8 dz, .bool fz] rfl rfl ?c1 hone ?c2 ?c3 _ _ hx5 ?c4 ?c5 ?_))
        case c1 => exact new_cells _ _ _ _ rfl
        case c2 => unfold maxLen; omega
        case c3 => omega
        case c4 => exact fun b hb => ⟨by omega, by simp; omega⟩
        case c5 => exact fun g hg hb => by have := hown g hg; omega
        intro al' c' w5 hG6 hsz5
        rw [← HY.out] at hG6
        clear hx5 HG5 hown
        go_wp2_with fail
        go_roundw
        case rel => exact ⟨k + 1, m + 1, by omega, by omega, by go_num, hG6⟩
        case measure => simp [intOf]; omega
      · have hno : takes 4 (newP x) = false := by
          rw [HTK.out]
          simp only [kindN, beq_eq_false_iff_ne, ne_eq]
          split <;> omega
        have hy2 : ((kids.take (k + 1)).map newP).filter (takes 4) = ys := by rw [HSN.out, hno]; rfl
        have HY := Lib.hid hy2
        have hkd2 : (x.hd.kind == 1) = false := by simpa using hkd
        clear hno hy2 HSN HTK hmk1 hkd
        have g0 := hB0r.cell (i := 0) rfl
        have gf := hB0r.free
        have gl := hB0r.lt
        have hG4 := hG.keep ptS ((Stab.Keeps.refl wr).alloc (.cells #[.int .i64 x.hd.kind, .int .i64 x.hd.dim, .slice x.hd.na x.hd.nn x.hd.nc, .slice x.hd.ka x.hd.kn x.hd.kc] 25))
        rw [← HY.out] at hG4
        clear HY hG hk
        go_wp2_with fail
        go_roundw
        case rel => exact ⟨k + 1, m, by omega, by omega, by go_num, hG4⟩
        case measure => simp [intOf]; omega
    · obtain rfl : kn = k := by omega
      have hfull : kids.take kn = kids := List.take_of_length_le (by rw [HKN.out]; exact Nat.le_refl _)
      rw [hfull] at hG
      generalize (kids.map newP).filter (takes 4) = ys at *
      have hyl := hG.len
      have hkk := Stab.Keeps.trans hkw hk
      have hsz := hk.size
      rcases Nat.eq_zero_or_pos m with h0 | h0
      · subst h0
        have hy0 : ys = [] := List.length_eq_zero_iff.1 hyl
        subst hy0
        have g0 := hB0r.cell (i := 0) rfl
        have g1 := hB0r.cell (i := 1) rfl
        have gf := hB0r.free
        have gl := hB0r.lt
        clear hG hfull hyl
        go_wp2_with fail
        refine (hO _).mono ?_
        clear hO
        rintro e w4 ⟨rfl, hk4⟩
        go_wp2_with fail
        have hE1 := HE.out w4
        simp only [Int.natCast_zero] at hE1
        refine hE1.mono ?_
        clear hE1
        rintro e w5 ⟨cs5, rfl, hk5, hx5⟩
        obtain ⟨az, nz, cz, dz, rfl⟩ := hx5.two
        have hB2 := ((hB1.keep hk).keep hk4).keep hk5
        have hkf : Stab.Keeps w w5 := by with_reducible (repeat (first | exact Kx.r _ | assumption | refine Kx.a ?_ _ | refine Kx.d ?_ | refine Kx.e ?_ _ | (refine Kx.s ?_ ?_ _; focus (first | (simp; done) | (simp; omega))) | refine Kx.t ?_ (by assumption)))
        have hsz4 := hk4.size
        have hs1 := HS1.out
        clear hk hk4 hk5 g0 g1 gf gl
        have r0 := hB2.cell (i := 0) rfl
        have r1 := hB2.cell (i := 1) rfl
        have rf := hB2.free
        have rl := hB2.lt
        go_wp2_with fail
        refine bodyPost_ret (v := .agg #[.slice az nz cz, .int .u8 dz]) (by simp [results, Tryz.results83, go_sem, *]) rfl ⟨[.slice az nz cz, .int .u8 dz], rfl, ?_, ?_⟩
        · with_reducible (repeat (first | exact Kx.r _ | assumption | refine Kx.a ?_ _ | refine Kx.d ?_ | refine Kx.e ?_ _ | (refine Kx.s ?_ ?_ _; focus (first | (simp; done) | (simp; omega))) | refine Kx.t ?_ (by assumption)))
        · have : wholeP 4 D ([] : List Pg) = forceP D (.node 4 0 [] []) := by rw [forceP_eq]; rfl
          rw [this]
          refine mpS.mono (mpS.kf hx5 (w' := _) ?_) (fun b _ hb => hb.elim (fun h => h.elim) (fun h => .inr (by omega)))
          have hnf : ¬ orNew no w4.heap.size (w.heap.size + 1) := by intro h; rcases h with h | h; exact h.elim; omega
          repeat (first | (with_reducible exact KF.refl _ _) | (with_reducible assumption) | (with_reducible refine KF.alloc ?_ _) | (with_reducible refine KF.drew ?_) | (with_reducible refine KF.drewN ?_ _) | ((with_reducible refine KF.set ?_ ?_); focus (first | assumption | (simp [orNew, old]; done) | (simp [orNew, old]; omega) | (simp [orNew, old] at *; omega))) | (with_reducible refine KF.trans ?_ (KF.keeps (by with_reducible assumption))))
      · have hne : ((m : Int) == 0) = false := by simp; omega
        have hne2 : (m == 0) = false := by simp; omega
        obtain ⟨css, hR⟩ := hG.toRows ptS
        have hN := newMpN_ al m c0 css ys wr h0 (by omega) hR
        have hwe : wholeP 4 D ys = wholeP 4 0 ys := by unfold wholeP; rw [if_neg (by simp; intro h; rw [h] at hyl; simp at hyl; omega), if_neg (by simp; intro h; rw [h] at hyl; simp at hyl; omega)]
        have HWE := Lib.hid hwe
        clear hG hfull hyl hR hwe
        go_wp2_with fail
        refine hN.mono ?_
        clear hN
        rintro e w5 ⟨cs5, rfl, hk5, hx5⟩
        obtain ⟨az, nz, cz, dz, rfl⟩ := hx5.two
        have hB2 := (hB1.keep hk).keep hk5
        have hkf : Stab.Keeps w w5 := by with_reducible (repeat (first | exact Kx.r _ | assumption | refine Kx.a ?_ _ | refine Kx.d ?_ | refine Kx.e ?_ _ | (refine Kx.s ?_ ?_ _; focus (first | (simp; done) | (simp; omega))) | refine Kx.t ?_ (by assumption)))
        have hs1 := HS1.out
        clear hk hk5
        have r0 := hB2.cell (i := 0) rfl
        have r1 := hB2.cell (i := 1) rfl
        have rf := hB2.free
        have rl := hB2.lt
        go_wp2_with fail
        refine bodyPost_ret (v := .agg #[.slice az nz cz, .int .u8 dz]) (by simp [results, Tryz.results83, go_sem, *]) rfl ⟨[.slice az nz cz, .int .u8 dz], rfl, ?_, ?_⟩
        · with_reducible (repeat (first | exact Kx.r _ | assumption | refine Kx.a ?_ _ | refine Kx.d ?_ | refine Kx.e ?_ _ | (refine Kx.s ?_ ?_ _; focus (first | (simp; done) | (simp; omega))) | refine Kx.t ?_ (by assumption)))
        · rw [← HWE.out] at hx5
          refine mpS.mono (mpS.kf hx5 (w' := _) ?_) (fun b _ hb => .inr (by rcases hb with h | h <;> omega))
          have hnf : ¬ orNew (fun b => w1.heap.size ≤ b) wr.heap.size (w.heap.size + 1) := by intro h; rcases h with h | h <;> omega
          repeat (first | (with_reducible exact KF.refl _ _) | (with_reducible assumption) | (with_reducible refine KF.alloc ?_ _) | (with_reducible refine KF.drew ?_) | (with_reducible refine KF.drewN ?_ _) | ((with_reducible refine KF.set ?_ ?_); focus (first | assumption | (simp [orNew, old]; done) | (simp [orNew, old]; omega) | (simp [orNew, old] at *; omega))) | (with_reducible refine KF.trans ?_ (KF.keeps (by with_reducible assumption))))
set_option maxRecDepth 100000 in
set_option maxHeartbeats 2000000 in
theorem makeMl_ (t : GT) (w : World) (hA : t.At w) (hs : t.Small) (hk : t.hd.kind = 5) : Calls Tryz.prog 85 #[t.hd.val] w (RetR w no MlR (newP t)) := by
  obtain ⟨i0, hi, hz0, hz1, hz2⟩ := info_parts infoLs
  cases hA with
  | mk h nums kids hn hkn h1 h2 h3 =>
  obtain ⟨kind, dim, na, nn, nc, ka, kn, kc⟩ := h
  simp only [GT.hd] at hk hkn h2
  subst hk
  have hfew := hs.few
  have hkid := hs.kid
  have hle := h2.le
  have hmx := h2.max
  unfold maxLen at hmx
  rw [newP_whole _ _ _ (by simp [kindN]) (by simp [kindN])]
  simp only [show kindN 5 = 5 from rfl]
  have hO := fun w' => dimOfA_ dim w'
  have hM := fun i (hi : i < kids.length) w' (hk : Stab.Keeps w w') (hkd : kids[i].hd.kind = 2) => makeLs_ kids[i] w' ((h3 _ (List.getElem_mem hi)).keep hk) (hkid _ (List.getElem_mem hi)) hkd
  have hE := fun w' => forceMl_ (F := no) (dim4 dim) (dim4_lt dim) [.slice none 0 0, .int .u8 (0 : Nat)] (.node 5 0 [] []) w' ⟨0, none, 0, 0, [], [], rfl, rfl, by omega, by omega, Go.Kf.Rows.nil _ _ _ _, fun c hc => by simp at hc⟩
  have HI := Lib.hid hi
  have HZ0 := Lib.hid hz0
  have HZ1 := Lib.hid hz1
  have HZ2 := Lib.hid hz2
  have HKN := Lib.hid hkn
  have HM := Lib.hid hM
  have HE := Lib.hid hE
  have hd4 := dim4_lt dim
  have hkb : kn ≤ 1000 := by omega
  clear h1 h3 hn hi hz0 hz1 hz2 hs hM hkid hkn hfew hE
  simp only [GT.hd, Gm.val]
  generalize hde : dim4 dim = D at *
  clear hde
  go_enter Tryz.func85, Tryz.ntmps85
  go_wp2_with fail
  have hkw : Stab.Keeps w ((w.alloc (.cells #[.int .i64 5, .int .i64 dim, .slice na nn nc, .slice ka kn kc] 25)).alloc (.cells #[.slice none 0 0, .int .u8 0] 129)) := by with_reducible (repeat (first | exact Kx.r _ | assumption | refine Kx.a ?_ _ | refine Kx.d ?_ | refine Kx.e ?_ _ | (refine Kx.s ?_ ?_ _; focus (first | (simp; done) | (simp; omega))) | refine Kx.t ?_ (by assumption)))
  have hB0 : Blk ((w.alloc (.cells #[.int .i64 5, .int .i64 dim, .slice na nn nc, .slice ka kn kc] 25)).alloc (.cells #[.slice none 0 0, .int .u8 0] 129)) w.heap.size 25 [.int .i64 5, .int .i64 dim, .slice na nn nc, .slice ka kn kc] := by with_reducible (repeat (first | assumption | ((refine Bx.n ⟨?_, ?_⟩) <;> focus (first | rfl | (simp; done) | omega)) | refine Bx.a ?_ _ | refine Bx.d ?_ | refine Bx.e ?_ _ | (refine Bx.p ?_ ?_; focus (first | (simp; done) | (simp; omega) | omega))))
  have hB1 : Blk ((w.alloc (.cells #[.int .i64 5, .int .i64 dim, .slice na nn nc, .slice ka kn kc] 25)).alloc (.cells #[.slice none 0 0, .int .u8 0] 129)) (w.heap.size + 1) 129 [.slice none 0 0, .int .u8 0] := by with_reducible (repeat (first | assumption | ((refine Bx.n ⟨?_, ?_⟩) <;> focus (first | rfl | (simp; done) | omega)) | refine Bx.a ?_ _ | refine Bx.d ?_ | refine Bx.e ?_ _ | (refine Bx.p ?_ ?_; focus (first | (simp; done) | (simp; omega) | omega))))
  have hs1 : ((w.alloc (.cells #[.int .i64 5, .int .i64 dim, .slice na nn nc, .slice ka kn kc] 25)).alloc (.cells #[.slice none 0 0, .int .u8 0] 129)).heap.size = w.heap.size + 1 + 1 := by simp
  generalize hw1 : ((w.alloc (.cells #[.int .i64 5, .int .i64 dim, .slice na nn nc, .slice ka kn kc] 25)).alloc (.cells #[.slice none 0 0, .int .u8 0] 129)) = w1 at *
  clear hw1
  have HS1 := Lib.hid hs1
  clear hs1
  go_loopw [3, 9] (fun v iv wr => ∃ k m : Nat, k ≤ kn ∧ m ≤ k ∧ iv = .int .i64 k ∧ Grow w1 wr LsR 99 2 m v (((kids.take k).map newP).filter (takes 5))) (fun _ iv _ => kn - (intOf iv).toNat)
  case atStart => exact ⟨0, 0, by omega, by omega, rfl, by simpa using Grow.nil w1 w1 LsR 99 2 (Stab.Keeps.refl _)⟩
  case round =>
    obtain ⟨k, m, k2, hmk, rfl, hG⟩ := hrel
    obtain ⟨al, c0, rfl, hmc, hcm⟩ := hG.shape
    have hk := hG.keeps
    have hB0r := hB0.keep hk
    unfold maxLen at hcm
    by_cases hlt : k < kn
    · obtain ⟨b, off, ha, hb, hc⟩ := (h2.keep (Stab.Keeps.trans hkw hk)).elem hlt
      subst ha
      have hki : k < kids.length := by have := HKN.out; omega
      have e0 : wr.cell? ⟨b, off + k * 4, none⟩ = some (.int .i64 kids[k].hd.kind) := hc 0 _ (by omega) (by rw [flat_get GT.cells 4 GT.cells_len kids k 0 hki (by omega)]; rfl)
      have e1 : wr.cell? ⟨b, off + k * 4 + 1, none⟩ = some (.int .i64 kids[k].hd.dim) := hc 1 _ (by omega) (by rw [flat_get GT.cells 4 GT.cells_len kids k 1 hki (by omega)]; rfl)
      have e2 : wr.cell? ⟨b, off + k * 4 + 2, none⟩ = some (.slice kids[k].hd.na kids[k].hd.nn kids[k].hd.nc) := hc 2 _ (by omega) (by rw [flat_get GT.cells 4 GT.cells_len kids k 2 hki (by omega)]; rfl)
      have e3 : wr.cell? ⟨b, off + k * 4 + 3, none⟩ = some (.slice kids[k].hd.ka kids[k].hd.kn kids[k].hd.kc) := hc 3 _ (by omega) (by rw [flat_get GT.cells 4 GT.cells_len kids k 3 hki (by omega)]; rfl)
      have hsn : ((kids.take (k + 1)).map newP).filter (takes 5) = if takes 5 (newP kids[k]) then ((kids.take k).map newP).filter (takes 5) ++ [newP kids[k]] else ((kids.take k).map newP).filter (takes 5) := by
        rw [List.take_succ_eq_append_getElem hki, List.map_append, List.map_cons, List.map_nil, filter_snoc]
      have htk : takes 5 (newP kids[k]) = (kindN kids[k].hd.kind == 2) := by simp [takes, newP_kind]
      have hmk1 := HM.out k hki
      generalize ((kids.take k).map newP).filter (takes 5) = ys at *
      have HSN := Lib.hid hsn
      have HTK := Lib.hid htk
      clear hc hsn htk
      generalize kids[k] = x at *
      by_cases hkd : x.hd.kind = 2
      · have hok : takes 5 (newP x) = true := by rw [HTK.out, hkd]; rfl
        have hy2 : ((kids.take (k + 1)).map newP).filter (takes 5) = ys ++ [newP x] := by rw [HSN.out, hok]; rfl
        have HY := Lib.hid hy2
        replace hmk1 := fun w' hk => hmk1 w' hk hkd
        clear hok hy2 HSN HTK
        obtain ⟨⟨xk, xd, xna, xnn, xnc, xka, xkn, xkc⟩, xnums, xkids⟩ := x
        simp only [GT.hd] at hkd e0 e1 e2 e3
        subst hkd
        simp only [GT.hd, Gm.val] at hmk1
        have g0 := hB0r.cell (i := 0) rfl
        have gf := hB0r.free
        have gl := hB0r.lt
        go_wp2_with fail
        have hkx : Stab.Keeps w (wr.alloc (.cells #[.int .i64 2, .int .i64 xd, .slice xna xnn xnc, .slice xka xkn xkc] 25)) := by have := Stab.Keeps.trans hkw hk; with_reducible (repeat (first | exact Kx.r _ | assumption | refine Kx.a ?_ _ | refine Kx.d ?_ | refine Kx.e ?_ _ | (refine Kx.s ?_ ?_ _; focus (first | (simp; done) | (simp; omega))) | refine Kx.t ?_ (by assumption)))
        refine (hmk1 _ hkx).mono ?_
        clear hmk1
        rintro e w4 ⟨cs4, rfl, hk4, hx4⟩
        have hone := hx4.ones
        obtain ⟨dz, az, nz, cz, rfl⟩ := hx4.two
        have hk5 : Stab.Keeps wr w4 := by with_reducible (repeat (first | exact Kx.r _ | assumption | refine Kx.a ?_ _ | refine Kx.d ?_ | refine Kx.e ?_ _ | (refine Kx.s ?_ ?_ _; focus (first | (simp; done) | (simp; omega))) | refine Kx.t ?_ (by assumption)))
        have hG4 := hG.keep lsS hk5
        have hG5 := hG4.keep lsS ((Stab.Keeps.refl w4).alloc (.cells #[.int .u8 dz, .slice az nz cz] 99))
        have hge : w1.heap.size ≤ wr.heap.size := hk.size
        have hown : ∀ g, (Value.slice al m c0).ownBlock = some g → g < wr.heap.size := fun g hg => (hG.own hg).2
        have hx5 : LsR (w4.alloc (.cells #[.int .u8 dz, .slice az nz cz] 99)) (fun b => wr.heap.size + 1 ≤ b ∧ b < w4.heap.size) [.int .u8 dz, .slice az nz cz] _ := lsS.kf (lsS.mono hx4 (fun b hb hf => hf.elim (fun h => h.elim) (fun h => ⟨by simpa using h, hb⟩))) ((KF.refl _ _).alloc _)
        clear e0 e1 e2 e3 hk4 hG hG4 hkx hx4 hk
        have HG5 := Lib.hid hG5
        clear hG5
        go_wp2_with (at_builtin; (refine append_grow (w0 := w1) lsS rfl _ _ 119 rfl 99 i0 _ 2 32 Tryz.underlying119 HI.out HZ0.out HZ1.out HZ2.out rfl (by decide) _ m ys rfl HG5.out ⟨w4.heap.size, 0, none⟩ 1 [.int .u8 dz, .slice az nz cz] rfl rfl ?c1 hone ?c2 ?c3 _ _ hx5 ?c4 ?c5 ?_))
        case c1 => exact new_cells _ _ _ _ rfl
        case c2 => unfold maxLen; omega
        case c3 => omega
        case c4 => exact fun b hb => ⟨by omega, by simp; omega⟩
        case c5 => exact fun g hg hb => by have := hown g hg; omega
        intro al' c' w5 hG6 hsz5
        rw [← HY.out] at hG6
        clear hx5 HG5 hown
        go_wp2_with fail
        go_roundw
        case rel => exact ⟨k + 1, m + 1, by omega, by omega, by go_num, hG6⟩
        case measure => simp [intOf]; omega
      · have hno : takes 5 (newP x) = false := by
          rw [HTK.out]
          simp only [kindN, beq_eq_false_iff_ne, ne_eq]
          split <;> omega
        have hy2 : ((kids.take (k + 1)).map newP).filter (takes 5) = ys := by rw [HSN.out, hno]; rfl
        have HY := Lib.hid hy2
        have hkd2 : (x.hd.kind == 2) = false := by simpa using hkd
        clear hno hy2 HSN HTK hmk1 hkd
        have g0 := hB0r.cell (i := 0) rfl
        have gf := hB0r.free
        have gl := hB0r.lt
        have hG4 := hG.keep lsS ((Stab.Keeps.refl wr).alloc (.cells #[.int .i64 x.hd.kind, .int .i64 x.hd.dim, .slice x.hd.na x.hd.nn x.hd.nc, .slice x.hd.ka x.hd.kn x.hd.kc] 25))
        rw [← HY.out] at hG4
        clear HY hG hk
        go_wp2_with fail
        go_roundw
        case rel => exact ⟨k + 1, m, by omega, by omega, by go_num, hG4⟩
        case measure => simp [intOf]; omega
    · obtain rfl : kn = k := by omega
      have hfull : kids.take kn = kids := List.take_of_length_le (by rw [HKN.out]; exact Nat.le_refl _)
      rw [hfull] at hG
      generalize (kids.map newP).filter (takes 5) = ys at *
      have hyl := hG.len
      have hkk := Stab.Keeps.trans hkw hk
      have hsz := hk.size
      rcases Nat.eq_zero_or_pos m with h0 | h0
      · subst h0
        have hy0 : ys = [] := List.length_eq_zero_iff.1 hyl
        subst hy0
        have g0 := hB0r.cell (i := 0) rfl
        have g1 := hB0r.cell (i := 1) rfl
        have gf := hB0r.free
        have gl := hB0r.lt
        clear hG hfull hyl
        go_wp2_with fail
        refine (hO _).mono ?_
        clear hO
        rintro e w4 ⟨rfl, hk4⟩
        go_wp2_with fail
        have hE1 := HE.out w4
        simp only [Int.natCast_zero] at hE1
        refine hE1.mono ?_
        clear hE1
        rintro e w5 ⟨cs5, rfl, hk5, hx5⟩
        obtain ⟨az, nz, cz, dz, rfl⟩ := hx5.two
        have hB2 := ((hB1.keep hk).keep hk4).keep hk5
        have hkf : Stab.Keeps w w5 := by with_reducible (repeat (first | exact Kx.r _ | assumption | refine Kx.a ?_ _ | refine Kx.d ?_ | refine Kx.e ?_ _ | (refine Kx.s ?_ ?_ _; focus (first | (simp; done) | (simp; omega))) | refine Kx.t ?_ (by assumption)))
        have hsz4 := hk4.size
        have hs1 := HS1.out
        clear hk hk4 hk5 g0 g1 gf gl
        have r0 := hB2.cell (i := 0) rfl
        have r1 := hB2.cell (i := 1) rfl
        have rf := hB2.free
        have rl := hB2.lt
        go_wp2_with fail
        refine bodyPost_ret (v := .agg #[.slice az nz cz, .int .u8 dz]) (by simp [results, Tryz.results85, go_sem, *]) rfl ⟨[.slice az nz cz, .int .u8 dz], rfl, ?_, ?_⟩
        · with_reducible (repeat (first | exact Kx.r _ | assumption | refine Kx.a ?_ _ | refine Kx.d ?_ | refine Kx.e ?_ _ | (refine Kx.s ?_ ?_ _; focus (first | (simp; done) | (simp; omega))) | refine Kx.t ?_ (by assumption)))
        · have : wholeP 5 D ([] : List Pg) = forceP D (.node 5 0 [] []) := by rw [forceP_eq]; rfl
          rw [this]
          refine mlS.mono (mlS.kf hx5 (w' := _) ?_) (fun b _ hb => hb.elim (fun h => h.elim) (fun h => .inr (by omega)))
          have hnf : ¬ orNew no w4.heap.size (w.heap.size + 1) := by intro h; rcases h with h | h; exact h.elim; omega
          repeat (first | (with_reducible exact KF.refl _ _) | (with_reducible assumption) | (with_reducible refine KF.alloc ?_ _) | (with_reducible refine KF.drew ?_) | (with_reducible refine KF.drewN ?_ _) | ((with_reducible refine KF.set ?_ ?_); focus (first | assumption | (simp [orNew, old]; done) | (simp [orNew, old]; omega) | (simp [orNew, old] at *; omega))) | (with_reducible refine KF.trans ?_ (KF.keeps (by with_reducible assumption))))
      · have hne : ((m : Int) == 0) = false := by simp; omega
        have hne2 : (m == 0) = false := by simp; omega
        obtain ⟨css, hR⟩ := hG.toRows lsS
        have hN := newMlN_ al m c0 css ys wr h0 (by omega) hR
        have hwe : wholeP 5 D ys = wholeP 5 0 ys := by unfold wholeP; rw [if_neg (by simp; intro h; rw [h] at hyl; simp at hyl; omega), if_neg (by simp; intro h; rw [h] at hyl; simp at hyl; omega)]
        have HWE := Lib.hid hwe
        clear hG hfull hyl hR hwe
        go_wp2_with fail
        refine hN.mono ?_
        clear hN
        rintro e w5 ⟨cs5, rfl, hk5, hx5⟩
        obtain ⟨az, nz, cz, dz, rfl⟩ := hx5.two
        have hB2 := (hB1.keep hk).keep hk5
        have hkf : Stab.Keeps w w5 := by with_reducible (repeat (first | exact Kx.r _ | assumption | refine Kx.a ?_ _ | refine Kx.d ?_ | refine Kx.e ?_ _ | (refine Kx.s ?_ ?_ _; focus (first | (simp; done) | (simp; omega))) | refine Kx.t ?_ (by assumption)))
        have hs1 := HS1.out
        clear hk hk5
        have r0 := hB2.cell (i := 0) rfl
        have r1 := hB2.cell (i := 1) rfl
        have rf := hB2.free
        have rl := hB2.lt
        go_wp2_with fail
        refine bodyPost_ret (v := .agg #[.slice az nz cz, .int .u8 dz]) (by simp [results, Tryz.results85, go_sem, *]) rfl ⟨[.slice az nz cz, .int .u8 dz], rfl, ?_, ?_⟩
        · with_reducible (repeat (first | exact Kx.r _ | assumption | refine Kx.a ?_ _ | refine Kx.d ?_ | refine Kx.e ?_ _ | (refine Kx.s ?_ ?_ _; focus (first | (simp; done) | (simp; omega))) | refine Kx.t ?_ (by assumption)))
        · rw [← HWE.out] at hx5
          refine mlS.mono (mlS.kf hx5 (w' := _) ?_) (fun b _ hb => .inr (by rcases hb with h | h <;> omega))
          have hnf : ¬ orNew (fun b => w1.heap.size ≤ b) wr.heap.size (w.heap.size + 1) := by intro h; rcases h with h | h <;> omega
          repeat (first | (with_reducible exact KF.refl _ _) | (with_reducible assumption) | (with_reducible refine KF.alloc ?_ _) | (with_reducible refine KF.drew ?_) | (with_reducible refine KF.drewN ?_ _) | ((with_reducible refine KF.set ?_ ?_); focus (first | assumption | (simp [orNew, old]; done) | (simp [orNew, old]; omega) | (simp [orNew, old] at *; omega))) | (with_reducible refine KF.trans ?_ (KF.keeps (by with_reducible assumption))))
set_option maxRecDepth 100000 in
set_option maxHeartbeats 2000000 in
theorem makeMy_ (t : GT) (w : World) (hA : t.At w) (hs : t.Small) (hk : t.hd.kind = 6) : Calls Tryz.prog 87 #[t.hd.val] w (RetR w no MyR (newP t)) := by
  obtain ⟨i0, hi, hz0, hz1, hz2⟩ := info_parts infoPy
  cases hA with
  | mk h nums kids hn hkn h1 h2 h3 =>
  obtain ⟨kind, dim, na, nn, nc, ka, kn, kc⟩ := h
  simp only [GT.hd] at hk hkn h2
  subst hk
  have hfew := hs.few
  have hkid := hs.kid
  have hle := h2.le
  have hmx := h2.max
  unfold maxLen at hmx
  rw [newP_whole _ _ _ (by simp [kindN]) (by simp [kindN])]
  simp only [show kindN 6 = 6 from rfl]
  have hO := fun w' => dimOfA_ dim w'
  have hM := fun i (hi : i < kids.length) w' (hk : Stab.Keeps w w') (hkd : kids[i].hd.kind = 3) => makePy_ kids[i] w' ((h3 _ (List.getElem_mem hi)).keep hk) (hkid _ (List.getElem_mem hi)) hkd
  have hE := fun w' => forceMy_ (F := no) (dim4 dim) (dim4_lt dim) [.slice none 0 0, .int .u8 (0 : Nat)] (.node 6 0 [] []) w' ⟨0, none, 0, 0, [], [], rfl, rfl, by omega, by omega, Go.Kf.Rows.nil _ _ _ _, fun c hc => by simp at hc⟩
  have HI := Lib.hid hi
  have HZ0 := Lib.hid hz0
  have HZ1 := Lib.hid hz1
  have HZ2 := Lib.hid hz2
  have HKN := Lib.hid hkn
  have HM := Lib.hid hM
  have HE := Lib.hid hE
  have hd4 := dim4_lt dim
  have hkb : kn ≤ 1000 := by omega
  clear h1 h3 hn hi hz0 hz1 hz2 hs hM hkid hkn hfew hE
  simp only [GT.hd, Gm.val]
  generalize hde : dim4 dim = D at *
  clear hde
  go_enter Tryz.func87, Tryz.ntmps87
  go_wp2_with fail
  have hkw : Stab.Keeps w ((w.alloc (.cells #[.int .i64 6, .int .i64 dim, .slice na nn nc, .slice ka kn kc] 25)).alloc (.cells #[.slice none 0 0, .int .u8 0] 134)) := by with_reducible (repeat (first | exact Kx.r _ | assumption | refine Kx.a ?_ _ | refine Kx.d ?_ | refine Kx.e ?_ _ | (refine Kx.s ?_ ?_ _; focus (first | (simp; done) | (simp; omega))) | refine Kx.t ?_ (by assumption)))
  have hB0 : Blk ((w.alloc (.cells #[.int .i64 6, .int .i64 dim, .slice na nn nc, .slice ka kn kc] 25)).alloc (.cells #[.slice none 0 0, .int .u8 0] 134)) w.heap.size 25 [.int .i64 6, .int .i64 dim, .slice na nn nc, .slice ka kn kc] := by with_reducible (repeat (first | assumption | ((refine Bx.n ⟨?_, ?_⟩) <;> focus (first | rfl | (simp; done) | omega)) | refine Bx.a ?_ _ | refine Bx.d ?_ | refine Bx.e ?_ _ | (refine Bx.p ?_ ?_; focus (first | (simp; done) | (simp; omega) | omega))))
  have hB1 : Blk ((w.alloc (.cells #[.int .i64 6, .int .i64 dim, .slice na nn nc, .slice ka kn kc] 25)).alloc (.cells #[.slice none 0 0, .int .u8 0] 134)) (w.heap.size + 1) 134 [.slice none 0 0, .int .u8 0] := by with_reducible (repeat (first | assumption | ((refine Bx.n ⟨?_, ?_⟩) <;> focus (first | rfl | (simp; done) | omega)) | refine Bx.a ?_ _ | refine Bx.d ?_ | refine Bx.e ?_ _ | (refine Bx.p ?_ ?_; focus (first | (simp; done) | (simp; omega) | omega))))
  have hs1 : ((w.alloc (.cells #[.int .i64 6, .int .i64 dim, .slice na nn nc, .slice ka kn kc] 25)).alloc (.cells #[.slice none 0 0, .int .u8 0] 134)).heap.size = w.heap.size + 1 + 1 := by simp
  generalize hw1 : ((w.alloc (.cells #[.int .i64 6, .int .i64 dim, .slice na nn nc, .slice ka kn kc] 25)).alloc (.cells #[.slice none 0 0, .int .u8 0] 134)) = w1 at *
  clear hw1
  have HS1 := Lib.hid hs1
  clear hs1
  go_loopw [3, 9] (fun v iv wr => ∃ k m : Nat, k ≤ kn ∧ m ≤ k ∧ iv = .int .i64 k ∧ Grow w1 wr PyR 121 2 m v (((kids.take k).map newP).filter (takes 6))) (fun _ iv _ => kn - (intOf iv).toNat)
  case atStart => exact ⟨0, 0, by omega, by omega, rfl, by simpa using Grow.nil w1 w1 PyR 121 2 (Stab.Keeps.refl _)⟩
  case round =>
    obtain ⟨k, m, k2, hmk, rfl, hG⟩ := hrel
    obtain ⟨al, c0, rfl, hmc, hcm⟩ := hG.shape
    have hk := hG.keeps
    have hB0r := hB0.keep hk
    unfold maxLen at hcm
    by_cases hlt : k < kn
    · obtain ⟨b, off, ha, hb, hc⟩ := (h2.keep (Stab.Keeps.trans hkw hk)).elem hlt
      subst ha
      have hki : k < kids.length := by have := HKN.out; omega
      have e0 : wr.cell? ⟨b, off + k * 4, none⟩ = some (.int .i64 kids[k].hd.kind) := hc 0 _ (by omega) (by rw [flat_get GT.cells 4 GT.cells_len kids k 0 hki (by omega)]; rfl)
      have e1 : wr.cell? ⟨b, off + k * 4 + 1, none⟩ = some (.int .i64 kids[k].hd.dim) := hc 1 _ (by omega) (by rw [flat_get GT.cells 4 GT.cells_len kids k 1 hki (by omega)]; rfl)
      have e2 : wr.cell? ⟨b, off + k * 4 + 2, none⟩ = some (.slice kids[k].hd.na kids[k].hd.nn kids[k].hd.nc) := hc 2 _ (by omega) (by rw [flat_get GT.cells 4 GT.cells_len kids k 2 hki (by omega)]; rfl)
      have e3 : wr.cell? ⟨b, off + k * 4 + 3, none⟩ = some (.slice kids[k].hd.ka kids[k].hd.kn kids[k].hd.kc) := hc 3 _ (by omega) (by rw [flat_get GT.cells 4 GT.cells_len kids k 3 hki (by omega)]; rfl)
      have hsn : ((kids.take (k + 1)).map newP).filter (takes 6) = if takes 6 (newP kids[k]) then ((kids.take k).map newP).filter (takes 6) ++ [newP kids[k]] else ((kids.take k).map newP).filter (takes 6) := by
        rw [List.take_succ_eq_append_getElem hki, List.map_append, List.map_cons, List.map_nil, filter_snoc]
      have htk : takes 6 (newP kids[k]) = (kindN kids[k].hd.kind == 3) := by simp [takes, newP_kind]
      have hmk1 := HM.out k hki
      generalize ((kids.take k).map newP).filter (takes 6) = ys at *
      have HSN := Lib.hid hsn
      have HTK := Lib.hid htk
      clear hc hsn htk
      generalize kids[k] = x at *
      by_cases hkd : x.hd.kind = 3
      · have hok : takes 6 (newP x) = true := by rw [HTK.out, hkd]; rfl
        have hy2 : ((kids.take (k + 1)).map newP).filter (takes 6) = ys ++ [newP x] := by rw [HSN.out, hok]; rfl
        have HY := Lib.hid hy2
        replace hmk1 := fun w' hk => hmk1 w' hk hkd
        clear hok hy2 HSN HTK
        obtain ⟨⟨xk, xd, xna, xnn, xnc, xka, xkn, xkc⟩, xnums, xkids⟩ := x
        simp only [GT.hd] at hkd e0 e1 e2 e3
        subst hkd
        simp only [GT.hd, Gm.val] at hmk1
        have g0 := hB0r.cell (i := 0) rfl
        have gf := hB0r.free
        have gl := hB0r.lt
        go_wp2_with fail
        have hkx : Stab.Keeps w (wr.alloc (.cells #[.int .i64 3, .int .i64 xd, .slice xna xnn xnc, .slice xka xkn xkc] 25)) := by have := Stab.Keeps.trans hkw hk; with_reducible (repeat (first | exact Kx.r _ | assumption | refine Kx.a ?_ _ | refine Kx.d ?_ | refine Kx.e ?_ _ | (refine Kx.s ?_ ?_ _; focus (first | (simp; done) | (simp; omega))) | refine Kx.t ?_ (by assumption)))
        refine (hmk1 _ hkx).mono ?_
        clear hmk1
        rintro e w4 ⟨cs4, rfl, hk4, hx4⟩
        have hone := hx4.ones
        obtain ⟨az, nz, cz, dz, rfl⟩ := hx4.two
        have hk5 : Stab.Keeps wr w4 := by with_reducible (repeat (first | exact Kx.r _ | assumption | refine Kx.a ?_ _ | refine Kx.d ?_ | refine Kx.e ?_ _ | (refine Kx.s ?_ ?_ _; focus (first | (simp; done) | (simp; omega))) | refine Kx.t ?_ (by assumption)))
        have hG4 := hG.keep pyS hk5
        have hG5 := hG4.keep pyS ((Stab.Keeps.refl w4).alloc (.cells #[.slice az nz cz, .int .u8 dz] 121))
        have hge : w1.heap.size ≤ wr.heap.size := hk.size
        have hown : ∀ g, (Value.slice al m c0).ownBlock = some g → g < wr.heap.size := fun g hg => (hG.own hg).2
        have hx5 : PyR (w4.alloc (.cells #[.slice az nz cz, .int .u8 dz] 121)) (fun b => wr.heap.size + 1 ≤ b ∧ b < w4.heap.size) [.slice az nz cz, .int .u8 dz] _ := pyS.kf (pyS.mono hx4 (fun b hb hf => hf.elim (fun h => h.elim) (fun h => ⟨by simpa using h, hb⟩))) ((KF.refl _ _).alloc _)
        clear e0 e1 e2 e3 hk4 hG hG4 hkx hx4 hk
        have HG5 := Lib.hid hG5
        clear hG5
        go_wp2_with (at_builtin; (refine append_grow (w0 := w1) pyS rfl _ _ 132 rfl 121 i0 _ 2 32 Tryz.underlying132 HI.out HZ0.out HZ1.out HZ2.out rfl (by decide) _ m ys rfl HG5.out ⟨w4.heap.size, 0, none⟩ 1 [.slice az nz cz, .int .u8 dz] rfl rfl ?c1 hone ?c2 ?c3 _ _ hx5 ?c4 ?c5 ?_))
        case c1 => exact new_cells _ _ _ _ rfl
        case c2 => unfold maxLen; omega
        case c3 => omega
        case c4 => exact fun b hb => ⟨by omega, by simp; omega⟩
        case c5 => exact fun g hg hb => by have := hown g hg; omega
        intro al' c' w5 hG6 hsz5
        rw [← HY.out] at hG6
        clear hx5 HG5 hown
        go_wp2_with fail
        go_roundw
        case rel => exact ⟨k + 1, m + 1, by omega, by omega, by go_num, hG6⟩
        case measure => simp [intOf]; omega
      · have hno : takes 6 (newP x) = false := by
          rw [HTK.out]
          simp only [kindN, beq_eq_false_iff_ne, ne_eq]
          split <;> omega
        have hy2 : ((kids.take (k + 1)).map newP).filter (takes 6) = ys := by rw [HSN.out, hno]; rfl
        have HY := Lib.hid hy2
        have hkd2 : (x.hd.kind == 3) = false := by simpa using hkd
        clear hno hy2 HSN HTK hmk1 hkd
        have g0 := hB0r.cell (i := 0) rfl
        have gf := hB0r.free
        have gl := hB0r.lt
        have hG4 := hG.keep pyS ((Stab.Keeps.refl wr).alloc (.cells #[.int .i64 x.hd.kind, .int .i64 x.hd.dim, .slice x.hd.na x.hd.nn x.hd.nc, .slice x.hd.ka x.hd.kn x.hd.kc] 25))
        rw [← HY.out] at hG4
        clear HY hG hk
        go_wp2_with fail
        go_roundw
        case rel => exact ⟨k + 1, m, by omega, by omega, by go_num, hG4⟩
        case measure => simp [intOf]; omega
    · obtain rfl : kn = k := by omega
      have hfull : kids.take kn = kids := List.take_of_length_le (by rw [HKN.out]; exact Nat.le_refl _)
      rw [hfull] at hG
      generalize (kids.map newP).filter (takes 6) = ys at *
      have hyl := hG.len
      have hkk := Stab.Keeps.trans hkw hk
      have hsz := hk.size
      rcases Nat.eq_zero_or_pos m with h0 | h0
      · subst h0
        have hy0 : ys = [] := List.length_eq_zero_iff.1 hyl
        subst hy0
        have g0 := hB0r.cell (i := 0) rfl
        have g1 := hB0r.cell (i := 1) rfl
        have gf := hB0r.free
        have gl := hB0r.lt
        clear hG hfull hyl
        go_wp2_with fail
        refine (hO _).mono ?_
        clear hO
        rintro e w4 ⟨rfl, hk4⟩
        go_wp2_with fail
        have hE1 := HE.out w4
        simp only [Int.natCast_zero] at hE1
        refine hE1.mono ?_
        clear hE1
        rintro e w5 ⟨cs5, rfl, hk5, hx5⟩
        obtain ⟨az, nz, cz, dz, rfl⟩ := hx5.two
        have hB2 := ((hB1.keep hk).keep hk4).keep hk5
        have hkf : Stab.Keeps w w5 := by with_reducible (repeat (first | exact Kx.r _ | assumption | refine Kx.a ?_ _ | refine Kx.d ?_ | refine Kx.e ?_ _ | (refine Kx.s ?_ ?_ _; focus (first | (simp; done) | (simp; omega))) | refine Kx.t ?_ (by assumption)))
        have hsz4 := hk4.size
        have hs1 := HS1.out
        clear hk hk4 hk5 g0 g1 gf gl
        have r0 := hB2.cell (i := 0) rfl
        have r1 := hB2.cell (i := 1) rfl
        have rf := hB2.free
        have rl := hB2.lt
        go_wp2_with fail
        refine bodyPost_ret (v := .agg #[.slice az nz cz, .int .u8 dz]) (by simp [results, Tryz.results87, go_sem, *]) rfl ⟨[.slice az nz cz, .int .u8 dz], rfl, ?_, ?_⟩
        · with_reducible (repeat (first | exact Kx.r _ | assumption | refine Kx.a ?_ _ | refine Kx.d ?_ | refine Kx.e ?_ _ | (refine Kx.s ?_ ?_ _; focus (first | (simp; done) | (simp; omega))) | refine Kx.t ?_ (by assumption)))
        · have : wholeP 6 D ([] : List Pg) = forceP D (.node 6 0 [] []) := by rw [forceP_eq]; rfl
          rw [this]
          refine myS.mono (myS.kf hx5 (w' := _) ?_) (fun b _ hb => hb.elim (fun h => h.elim) (fun h => .inr (by omega)))
          have hnf : ¬ orNew no w4.heap.size (w.heap.size + 1) := by intro h; rcases h with h | h; exact h.elim; omega
          repeat (first | (with_reducible exact KF.refl _ _) | (with_reducible assumption) | (with_reducible refine KF.alloc ?_ _) | (with_reducible refine KF.drew ?_) | (with_reducible refine KF.drewN ?_ _) | ((with_reducible refine KF.set ?_ ?_); focus (first | assumption | (simp [orNew, old]; done) | (simp [orNew, old]; omega) | (simp [orNew, old] at *; omega))) | (with_reducible refine KF.trans ?_ (KF.keeps (by with_reducible assumption))))
      · have hne : ((m : Int) == 0) = false := by simp; omega
        have hne2 : (m == 0) = false := by simp; omega
        obtain ⟨css, hR⟩ := hG.toRows pyS
        have hN := newMyN_ al m c0 css ys wr h0 (by omega) hR
        have hwe : wholeP 6 D ys = wholeP 6 0 ys := by unfold wholeP; rw [if_neg (by simp; intro h; rw [h] at hyl; simp at hyl; omega), if_neg (by simp; intro h; rw [h] at hyl; simp at hyl; omega)]
        have HWE := Lib.hid hwe
        clear hG hfull hyl hR hwe
        go_wp2_with fail
        refine hN.mono ?_
        clear hN
        rintro e w5 ⟨cs5, rfl, hk5, hx5⟩
        obtain ⟨az, nz, cz, dz, rfl⟩ := hx5.two
        have hB2 := (hB1.keep hk).keep hk5
        have hkf : Stab.Keeps w w5 := by with_reducible (repeat (first | exact Kx.r _ | assumption | refine Kx.a ?_ _ | refine Kx.d ?_ | refine Kx.e ?_ _ | (refine Kx.s ?_ ?_ _; focus (first | (simp; done) | (simp; omega))) | refine Kx.t ?_ (by assumption)))
        have hs1 := HS1.out
        clear hk hk5
        have r0 := hB2.cell (i := 0) rfl
        have r1 := hB2.cell (i := 1) rfl
        have rf := hB2.free
        have rl := hB2.lt
        go_wp2_with fail
        refine bodyPost_ret (v := .agg #[.slice az nz cz, .int .u8 dz]) (by simp [results, Tryz.results87, go_sem, *]) rfl ⟨[.slice az nz cz, .int .u8 dz], rfl, ?_, ?_⟩
        · with_reducible (repeat (first | exact Kx.r _ | assumption | refine Kx.a ?_ _ | refine Kx.d ?_ | refine Kx.e ?_ _ | (refine Kx.s ?_ ?_ _; focus (first | (simp; done) | (simp; omega))) | refine Kx.t ?_ (by assumption)))
        · rw [← HWE.out] at hx5
          refine myS.mono (myS.kf hx5 (w' := _) ?_) (fun b _ hb => .inr (by rcases hb with h | h <;> omega))
          have hnf : ¬ orNew (fun b => w1.heap.size ≤ b) wr.heap.size (w.heap.size + 1) := by intro h; rcases h with h | h <;> omega
          repeat (first | (with_reducible exact KF.refl _ _) | (with_reducible assumption) | (with_reducible refine KF.alloc ?_ _) | (with_reducible refine KF.drew ?_) | (with_reducible refine KF.drewN ?_ _) | ((with_reducible refine KF.set ?_ ?_); focus (first | assumption | (simp [orNew, old]; done) | (simp [orNew, old]; omega) | (simp [orNew, old] at *; omega))) | (with_reducible refine KF.trans ?_ (KF.keeps (by with_reducible assumption))))
end Go.Proofs.YtbakhldjfplbfaaGreat
