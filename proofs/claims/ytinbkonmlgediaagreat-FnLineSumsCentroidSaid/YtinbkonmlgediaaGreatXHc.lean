/-
  Polygons and multis made of plain data. No condition.
  Geometries taken as what they are; their types of coordinates. No condition.
  Geometries and collections brought to another type of coordinates; collections made of parts. No condition.
  Geometries and collections made of plain data. No condition.
-/
import Derived.Test.YtinbkonmlgediaaGreatXNp
set_option linter.unusedVariables false
set_option linter.unusedSimpArgs false
namespace Go.Proofs.YtinbkonmlgediaaGreat
open Go.RowKit Go.Fl Go.Sl Go.Pg Go.Ch Go.Kf
set_option maxRecDepth 100000 in
set_option maxHeartbeats 2000000 in
theorem makePy_ (t : GT) (w : World) (hA : t.At w) (hs : t.Small) (hk : t.hd.kind = 3) : Calls Tryz.prog 34 #[t.hd.val] w (RetR w no PyR (newP t)) := by
  obtain ⟨i0, hi, hz0, hz1, hz2⟩ := info_parts infoLs
  cases hA with
  | mk h nums kids hn hkn h1 h2 h3 =>
  obtain ⟨kind, dim, na, nn, nc, ka, kn, kc⟩ := h
  simp only [GT.hd] at hk hkn h2
  subst hk
  have hfew := hs.few
  have hkid := hs.kid
  have hle := h2.le
  have hmx := h2.max
  unfold maxLen at hmx
  rw [newP_whole _ _ _ (by simp [kindN]) (by simp [kindN])]
  simp only [show kindN 3 = 3 from rfl]
  have hO := fun w' => dimOfA_ dim w'
  have hM := fun i (hi : i < kids.length) w' (hk : Stab.Keeps w w') (hkd : kids[i].hd.kind = 2) => makeLs_ kids[i] w' ((h3 _ (List.getElem_mem hi)).keep hk) (hkid _ (List.getElem_mem hi)) hkd
  have hE := fun w' => forcePy_ (F := no) (dim4 dim) (dim4_lt dim) [.slice none 0 0, .int .u8 (0 : Nat)] (.node 3 0 [] []) w' ⟨0, none, 0, 0, [], [], rfl, rfl, by omega, by omega, Go.Kf.Rows.nil _ _ _ _, fun c hc => by simp at hc⟩
  have HI := Lib.hid hi
  have HZ0 := Lib.hid hz0
  have HZ1 := Lib.hid hz1
  have HZ2 := Lib.hid hz2
  have HKN := Lib.hid hkn
  have HM := Lib.hid hM
  have HE := Lib.hid hE
  have hd4 := dim4_lt dim
  have hkb : kn ≤ 1000 := by omega
  clear h1 h3 hn hi hz0 hz1 hz2 hs hM hkid hkn hfew hE
  simp only [GT.hd, Gm.val]
  generalize hde : dim4 dim = D at *
  clear hde
  go_enter Tryz.func34, Tryz.ntmps34
  go_wp2_with fail
  have hkw : Stab.Keeps w ((w.alloc (.cells #[.int .i64 3, .int .i64 dim, .slice na nn nc, .slice ka kn kc] 35)).alloc (.cells #[.slice none 0 0, .int .u8 0] 78)) := by with_reducible (repeat first | exact Kx.r _ | assumption | refine Kx.a ?_ _ | refine Kx.d ?_ | refine Kx.e ?_ _ | refine Kx.s (by simp <;> omega) ?_ _ | refine Kx.t ?_ (by assumption))
  have hB0 : Blk ((w.alloc (.cells #[.int .i64 3, .int .i64 dim, .slice na nn nc, .slice ka kn kc] 35)).alloc (.cells #[.slice none 0 0, .int .u8 0] 78)) w.heap.size 35 [.int .i64 3, .int .i64 dim, .slice na nn nc, .slice ka kn kc] := by with_reducible (repeat first | assumption | (refine Bx.n ⟨?_, ?_⟩ <;> focus (first | rfl | (simp; done) | omega)) | refine Bx.a ?_ _ | refine Bx.d ?_ | refine Bx.e ?_ _ | refine Bx.p (by first | omega | simp <;> omega) ?_)
  have hB1 : Blk ((w.alloc (.cells #[.int .i64 3, .int .i64 dim, .slice na nn nc, .slice ka kn kc] 35)).alloc (.cells #[.slice none 0 0, .int .u8 0] 78)) (w.heap.size + 1) 78 [.slice none 0 0, .int .u8 0] := by with_reducible (repeat first | assumption | (refine Bx.n ⟨?_, ?_⟩ <;> focus (first | rfl | (simp; done) | omega)) | refine Bx.a ?_ _ | refine Bx.d ?_ | refine Bx.e ?_ _ | refine Bx.p (by first | omega | simp <;> omega) ?_)
  have hs1 : ((w.alloc (.cells #[.int .i64 3, .int .i64 dim, .slice na nn nc, .slice ka kn kc] 35)).alloc (.cells #[.slice none 0 0, .int .u8 0] 78)).heap.size = w.heap.size + 1 + 1 := by simp
  generalize hw1 : ((w.alloc (.cells #[.int .i64 3, .int .i64 dim, .slice na nn nc, .slice ka kn kc] 35)).alloc (.cells #[.slice none 0 0, .int .u8 0] 78)) = w1 at *
  clear hw1
  have HS1 := Lib.hid hs1
  clear hs1
  go_loopw [3, 9] (fun v iv wr => ∃ k m : Nat, k ≤ kn ∧ m ≤ k ∧ iv = .int .i64 k ∧ Grow w1 wr LsR 51 2 m v (((kids.take k).map newP).filter (takes 3))) (fun _ iv _ => kn - (intOf iv).toNat)
  case atStart => exact ⟨0, 0, by omega, by omega, rfl, by simpa using Grow.nil w1 w1 LsR 51 2 (Stab.Keeps.refl _)⟩
  case round =>
    obtain ⟨k, m, k2, hmk, rfl, hG⟩ := hrel
    obtain ⟨al, c0, rfl, hmc, hcm⟩ := hG.shape
    have hk := hG.keeps
    have hB0r := hB0.keep hk
    unfold maxLen at hcm
    by_cases hlt : k < kn
    · obtain ⟨b, off, ha, hb, hc⟩ := (h2.keep (Stab.Keeps.trans hkw hk)).elem hlt
      subst ha
      have hki : k < kids.length := by have := HKN.out; omega
      have e0 : wr.cell? ⟨b, off + k * 4, none⟩ = some (.int .i64 kids[k].hd.kind) := hc 0 _ (by omega) (by rw [flat_get GT.cells 4 GT.cells_len kids k 0 hki (by omega)]; rfl)
      have e1 : wr.cell? ⟨b, off + k * 4 + 1, none⟩ = some (.int .i64 kids[k].hd.dim) := hc 1 _ (by omega) (by rw [flat_get GT.cells 4 GT.cells_len kids k 1 hki (by omega)]; rfl)
      have e2 : wr.cell? ⟨b, off + k * 4 + 2, none⟩ = some (.slice kids[k].hd.na kids[k].hd.nn kids[k].hd.nc) := hc 2 _ (by omega) (by rw [flat_get GT.cells 4 GT.cells_len kids k 2 hki (by omega)]; rfl)
      have e3 : wr.cell? ⟨b, off + k * 4 + 3, none⟩ = some (.slice kids[k].hd.ka kids[k].hd.kn kids[k].hd.kc) := hc 3 _ (by omega) (by rw [flat_get GT.cells 4 GT.cells_len kids k 3 hki (by omega)]; rfl)
      have hsn : ((kids.take (k + 1)).map newP).filter (takes 3) = if takes 3 (newP kids[k]) then ((kids.take k).map newP).filter (takes 3) ++ [newP kids[k]] else ((kids.take k).map newP).filter (takes 3) := by
        rw [List.take_succ_eq_append_getElem hki, List.map_append, List.map_cons, List.map_nil, filter_snoc]
      have htk : takes 3 (newP kids[k]) = (kindN kids[k].hd.kind == 2) := by simp [takes, newP_kind]
      have hmk1 := HM.out k hki
      generalize ((kids.take k).map newP).filter (takes 3) = ys at *
      have HSN := Lib.hid hsn
      have HTK := Lib.hid htk
      clear hc hsn htk
      generalize kids[k] = x at *
      by_cases hkd : x.hd.kind = 2
      · have hok : takes 3 (newP x) = true := by rw [HTK.out, hkd]; rfl
        have hy2 : ((kids.take (k + 1)).map newP).filter (takes 3) = ys ++ [newP x] := by rw [HSN.out, hok]; rfl
        have HY := Lib.hid hy2
        replace hmk1 := fun w' hk => hmk1 w' hk hkd
        clear hok hy2 HSN HTK
        obtain ⟨⟨xk, xd, xna, xnn, xnc, xka, xkn, xkc⟩, xnums, xkids⟩ := x
        simp only [GT.hd] at hkd e0 e1 e2 e3
        subst hkd
        simp only [GT.hd, Gm.val] at hmk1
        have g0 := hB0r.cell (i := 0) rfl
        have gf := hB0r.free
        have gl := hB0r.lt
        go_wp2_with fail
        have hkx : Stab.Keeps w (wr.alloc (.cells #[.int .i64 2, .int .i64 xd, .slice xna xnn xnc, .slice xka xkn xkc] 35)) := by have := Stab.Keeps.trans hkw hk; with_reducible (repeat first | exact Kx.r _ | assumption | refine Kx.a ?_ _ | refine Kx.d ?_ | refine Kx.e ?_ _ | refine Kx.s (by simp <;> omega) ?_ _ | refine Kx.t ?_ (by assumption))
        refine (hmk1 _ hkx).mono ?_
        clear hmk1
        rintro e w4 ⟨cs4, rfl, hk4, hx4⟩
        have hone := hx4.ones
        obtain ⟨dz, az, nz, cz, rfl⟩ := hx4.two
        have hk5 : Stab.Keeps wr w4 := by with_reducible (repeat first | exact Kx.r _ | assumption | refine Kx.a ?_ _ | refine Kx.d ?_ | refine Kx.e ?_ _ | refine Kx.s (by simp <;> omega) ?_ _ | refine Kx.t ?_ (by assumption))
        have hG4 := hG.keep lsS hk5
        have hG5 := hG4.keep lsS ((Stab.Keeps.refl w4).alloc (.cells #[.int .u8 dz, .slice az nz cz] 51))
        have hge : w1.heap.size ≤ wr.heap.size := hk.size
        have hown : ∀ g, (Value.slice al m c0).ownBlock = some g → g < wr.heap.size := fun g hg => (hG.own hg).2
        have hx5 : LsR (w4.alloc (.cells #[.int .u8 dz, .slice az nz cz] 51)) (fun b => wr.heap.size + 1 ≤ b ∧ b < w4.heap.size) [.int .u8 dz, .slice az nz cz] _ := lsS.kf (lsS.mono hx4 (fun b hb hf => hf.elim (fun h => h.elim) (fun h => ⟨by simpa using h, hb⟩))) ((KF.refl _ _).alloc _)
        clear e0 e1 e2 e3 hk4 hG hG4 hkx hx4 hk
        have HG5 := Lib.hid hG5
        clear hG5
        go_wp2_with (at_builtin; (refine append_grow (w0 := w1) lsS rfl _ _ 76 rfl 51 i0 _ 2 32 Tryz.underlying76 HI.out HZ0.out HZ1.out HZ2.out rfl (by decide) _ m ys rfl HG5.out ⟨w4.heap.size, 0, none⟩ 1 [.int .u8 dz, .slice az nz cz] rfl rfl ?c1 hone ?c2 ?c3 _ _ hx5 ?c4 ?c5 ?_))
        case c1 => exact new_cells _ _ _ _ rfl
        case c2 => unfold maxLen; omega
        case c3 => omega
        case c4 => exact fun b hb => ⟨by omega, by simp; omega⟩
        case c5 => exact fun g hg hb => by have := hown g hg; omega
        intro al' c' w5 hG6 hsz5
        rw [← HY.out] at hG6
        clear hx5 HG5 hown
        go_wp2_with fail
        go_roundw
        case rel => exact ⟨k + 1, m + 1, by omega, by omega, by go_num, hG6⟩
        case measure => simp [intOf]; omega
      · have hno : takes 3 (newP x) = false := by
          rw [HTK.out]
          simp only [kindN, beq_eq_false_iff_ne, ne_eq]
          split <;> omega
        have hy2 : ((kids.take (k + 1)).map newP).filter (takes 3) = ys := by rw [HSN.out, hno]; rfl
        have HY := Lib.hid hy2
        have hkd2 : (x.hd.kind == 2) = false := by simpa using hkd
        clear hno hy2 HSN HTK hmk1 hkd
        have g0 := hB0r.cell (i := 0) rfl
        have gf := hB0r.free
        have gl := hB0r.lt
        have hG4 := hG.keep lsS ((Stab.Keeps.refl wr).alloc (.cells #[.int .i64 x.hd.kind, .int .i64 x.hd.dim, .slice x.hd.na x.hd.nn x.hd.nc, .slice x.hd.ka x.hd.kn x.hd.kc] 35))
        rw [← HY.out] at hG4
        clear HY hG hk
        go_wp2_with fail
        go_roundw
        case rel => exact ⟨k + 1, m, by omega, by omega, by go_num, hG4⟩
        case measure => simp [intOf]; omega
    · obtain rfl : kn = k := by omega
      have hfull : kids.take kn = kids := List.take_of_length_le (by rw [HKN.out]; exact Nat.le_refl _)
      rw [hfull] at hG
      generalize (kids.map newP).filter (takes 3) = ys at *
      have hyl := hG.len
      have hkk := Stab.Keeps.trans hkw hk
      have hsz := hk.size
      rcases Nat.eq_zero_or_pos m with h0 | h0
      · subst h0
        have hy0 : ys = [] := List.length_eq_zero_iff.1 hyl
        subst hy0
        have g0 := hB0r.cell (i := 0) rfl
        have g1 := hB0r.cell (i := 1) rfl
        have gf := hB0r.free
        have gl := hB0r.lt
        clear hG hfull hyl
        go_wp2_with fail
        refine (hO _).mono ?_
        clear hO
        rintro e w4 ⟨rfl, hk4⟩
        go_wp2_with fail
        have hE1 := HE.out w4
        simp only [Int.natCast_zero] at hE1
        refine hE1.mono ?_
        clear hE1
        rintro e w5 ⟨cs5, rfl, hk5, hx5⟩
        obtain ⟨az, nz, cz, dz, rfl⟩ := hx5.two
        have hB2 := ((hB1.keep hk).keep hk4).keep hk5
        have hkf : Stab.Keeps w w5 := by with_reducible (repeat first | exact Kx.r _ | assumption | refine Kx.a ?_ _ | refine Kx.d ?_ | refine Kx.e ?_ _ | refine Kx.s (by simp <;> omega) ?_ _ | refine Kx.t ?_ (by assumption))
        have hsz4 := hk4.size
        have hs1 := HS1.out
        clear hk hk4 hk5 g0 g1 gf gl
        have r0 := hB2.cell (i := 0) rfl
        have r1 := hB2.cell (i := 1) rfl
        have rf := hB2.free
        have rl := hB2.lt
        go_wp2_with fail
        refine bodyPost_ret (v := .agg #[.slice az nz cz, .int .u8 dz]) (by simp [results, Tryz.results34, go_sem, *]) rfl ⟨[.slice az nz cz, .int .u8 dz], rfl, ?_, ?_⟩
        · with_reducible (repeat first | exact Kx.r _ | assumption | refine Kx.a ?_ _ | refine Kx.d ?_ | refine Kx.e ?_ _ | refine Kx.s (by simp <;> omega) ?_ _ | refine Kx.t ?_ (by assumption))
        · have : wholeP 3 D ([] : List Pg) = forceP D (.node 3 0 [] []) := by rw [forceP_eq]; rfl
          rw [this]
          refine pyS.mono (pyS.kf hx5 (w' := _) ?_) (fun b _ hb => hb.elim (fun h => h.elim) (fun h => .inr (by omega)))
          have hnf : ¬ orNew no w4.heap.size (w.heap.size + 1) := by intro h; rcases h with h | h; exact h.elim; omega
          repeat (first | (with_reducible exact KF.refl _ _) | (with_reducible assumption) | (with_reducible refine KF.alloc ?_ _) | (with_reducible refine KF.drew ?_) | (with_reducible refine KF.drewN ?_ _) | ((with_reducible refine KF.set ?_ ?_); focus (first | assumption | (simp [orNew, old]; done) | (simp [orNew, old]; omega) | (simp [orNew, old] at *; omega))) | (with_reducible refine KF.trans ?_ (KF.keeps (by with_reducible assumption))))
      · have hne : ((m : Int) == 0) = false := by simp; omega
        have hne2 : (m == 0) = false := by simp; omega
        obtain ⟨css, hR⟩ := hG.toRows lsS
        have hN := newPyN_ al m c0 css ys wr h0 (by omega) hR
        have hwe : wholeP 3 D ys = wholeP 3 0 ys := by unfold wholeP; rw [if_neg (by simp; intro h; rw [h] at hyl; simp at hyl; omega), if_neg (by simp; intro h; rw [h] at hyl; simp at hyl; omega)]
        have HWE := Lib.hid hwe
        clear hG hfull hyl hR hwe
        go_wp2_with fail
        refine hN.mono ?_
        clear hN
        rintro e w5 ⟨cs5, rfl, hk5, hx5⟩
        obtain ⟨az, nz, cz, dz, rfl⟩ := hx5.two
        have hB2 := (hB1.keep hk).keep hk5
        have hkf : Stab.Keeps w w5 := by with_reducible (repeat first | exact Kx.r _ | assumption | refine Kx.a ?_ _ | refine Kx.d ?_ | refine Kx.e ?_ _ | refine Kx.s (by simp <;> omega) ?_ _ | refine Kx.t ?_ (by assumption))
        have hs1 := HS1.out
        clear hk hk5
        have r0 := hB2.cell (i := 0) rfl
        have r1 := hB2.cell (i := 1) rfl
        have rf := hB2.free
        have rl := hB2.lt
        go_wp2_with fail
        refine bodyPost_ret (v := .agg #[.slice az nz cz, .int .u8 dz]) (by simp [results, Tryz.results34, go_sem, *]) rfl ⟨[.slice az nz cz, .int .u8 dz], rfl, ?_, ?_⟩
        · with_reducible (repeat first | exact Kx.r _ | assumption | refine Kx.a ?_ _ | refine Kx.d ?_ | refine Kx.e ?_ _ | refine Kx.s (by simp <;> omega) ?_ _ | refine Kx.t ?_ (by assumption))
        · rw [← HWE.out] at hx5
          refine pyS.mono (pyS.kf hx5 (w' := _) ?_) (fun b _ hb => .inr (by rcases hb with h | h <;> omega))
          have hnf : ¬ orNew (fun b => w1.heap.size ≤ b) wr.heap.size (w.heap.size + 1) := by intro h; rcases h with h | h <;> omega
          repeat (first | (with_reducible exact KF.refl _ _) | (with_reducible assumption) | (with_reducible refine KF.alloc ?_ _) | (with_reducible refine KF.drew ?_) | (with_reducible refine KF.drewN ?_ _) | ((with_reducible refine KF.set ?_ ?_); focus (first | assumption | (simp [orNew, old]; done) | (simp [orNew, old]; omega) | (simp [orNew, old] at *; omega))) | (with_reducible refine KF.trans ?_ (KF.keeps (by with_reducible assumption))))
set_option maxRecDepth 100000 in
set_option maxHeartbeats 2000000 in
theorem makeMp_ (t : GT) (w : World) (hA : t.At w) (hs : t.Small) (hk : t.hd.kind = 4) : Calls Tryz.prog 36 #[t.hd.val] w (RetR w no MpR (newP t)) := by
  obtain ⟨i0, hi, hz0, hz1, hz2⟩ := info_parts infoPt
  cases hA with
  | mk h nums kids hn hkn h1 h2 h3 =>
  obtain ⟨kind, dim, na, nn, nc, ka, kn, kc⟩ := h
  simp only [GT.hd] at hk hkn h2
  subst hk
  have hfew := hs.few
  have hkid := hs.kid
  have hle := h2.le
  have hmx := h2.max
  unfold maxLen at hmx
  rw [newP_whole _ _ _ (by simp [kindN]) (by simp [kindN])]
  simp only [show kindN 4 = 4 from rfl]
  have hO := fun w' => dimOfA_ dim w'
  have hM := fun i (hi : i < kids.length) w' (hk : Stab.Keeps w w') (hkd : kids[i].hd.kind = 1) => makePt_ kids[i] w' ((h3 _ (List.getElem_mem hi)).keep hk) (hkid _ (List.getElem_mem hi)) hkd
  have hE := fun w' => forceMp_ (F := no) (dim4 dim) (dim4_lt dim) [.slice none 0 0, .int .u8 (0 : Nat)] (.node 4 0 [] []) w' ⟨0, none, 0, 0, [], [], rfl, rfl, by omega, by omega, Go.Kf.Rows.nil _ _ _ _, fun c hc => by simp at hc⟩
  have HI := Lib.hid hi
  have HZ0 := Lib.hid hz0
  have HZ1 := Lib.hid hz1
  have HZ2 := Lib.hid hz2
  have HKN := Lib.hid hkn
  have HM := Lib.hid hM
  have HE := Lib.hid hE
  have hd4 := dim4_lt dim
  have hkb : kn ≤ 1000 := by omega
  clear h1 h3 hn hi hz0 hz1 hz2 hs hM hkid hkn hfew hE
  simp only [GT.hd, Gm.val]
  generalize hde : dim4 dim = D at *
  clear hde
  go_enter Tryz.func36, Tryz.ntmps36
  go_wp2_with fail
  have hkw : Stab.Keeps w ((w.alloc (.cells #[.int .i64 4, .int .i64 dim, .slice na nn nc, .slice ka kn kc] 35)).alloc (.cells #[.slice none 0 0, .int .u8 0] 82)) := by with_reducible (repeat first | exact Kx.r _ | assumption | refine Kx.a ?_ _ | refine Kx.d ?_ | refine Kx.e ?_ _ | refine Kx.s (by simp <;> omega) ?_ _ | refine Kx.t ?_ (by assumption))
  have hB0 : Blk ((w.alloc (.cells #[.int .i64 4, .int .i64 dim, .slice na nn nc, .slice ka kn kc] 35)).alloc (.cells #[.slice none 0 0, .int .u8 0] 82)) w.heap.size 35 [.int .i64 4, .int .i64 dim, .slice na nn nc, .slice ka kn kc] := by with_reducible (repeat first | assumption | (refine Bx.n ⟨?_, ?_⟩ <;> focus (first | rfl | (simp; done) | omega)) | refine Bx.a ?_ _ | refine Bx.d ?_ | refine Bx.e ?_ _ | refine Bx.p (by first | omega | simp <;> omega) ?_)
  have hB1 : Blk ((w.alloc (.cells #[.int .i64 4, .int .i64 dim, .slice na nn nc, .slice ka kn kc] 35)).alloc (.cells #[.slice none 0 0, .int .u8 0] 82)) (w.heap.size + 1) 82 [.slice none 0 0, .int .u8 0] := by with_reducible (repeat first | assumption | (refine Bx.n ⟨?_, ?_⟩ <;> focus (first | rfl | (simp; done) | omega)) | refine Bx.a ?_ _ | refine Bx.d ?_ | refine Bx.e ?_ _ | refine Bx.p (by first | omega | simp <;> omega) ?_)
  have hs1 : ((w.alloc (.cells #[.int .i64 4, .int .i64 dim, .slice na nn nc, .slice ka kn kc] 35)).alloc (.cells #[.slice none 0 0, .int .u8 0] 82)).heap.size = w.heap.size + 1 + 1 := by simp
  generalize hw1 : ((w.alloc (.cells #[.int .i64 4, .int .i64 dim, .slice na nn nc, .slice ka kn kc] 35)).alloc (.cells #[.slice none 0 0, .int .u8 0] 82)) = w1 at *
  clear hw1
  have HS1 := Lib.hid hs1
  clear hs1
  go_loopw [3, 9] (fun v iv wr => ∃ k m : Nat, k ≤ kn ∧ m ≤ k ∧ iv = .int .i64 k ∧ Grow w1 wr PtR 60 6 m v (((kids.take k).map newP).filter (takes 4))) (fun _ iv _ => kn - (intOf iv).toNat)
  case atStart => exact ⟨0, 0, by omega, by omega, rfl, by simpa using Grow.nil w1 w1 PtR 60 6 (Stab.Keeps.refl _)⟩
  case round =>
    obtain ⟨k, m, k2, hmk, rfl, hG⟩ := hrel
    obtain ⟨al, c0, rfl, hmc, hcm⟩ := hG.shape
    have hk := hG.keeps
    have hB0r := hB0.keep hk
    unfold maxLen at hcm
    by_cases hlt : k < kn
    · obtain ⟨b, off, ha, hb, hc⟩ := (h2.keep (Stab.Keeps.trans hkw hk)).elem hlt
      subst ha
      have hki : k < kids.length := by have := HKN.out; omega
      have e0 : wr.cell? ⟨b, off + k * 4, none⟩ = some (.int .i64 kids[k].hd.kind) := hc 0 _ (by omega) (by rw [flat_get GT.cells 4 GT.cells_len kids k 0 hki (by omega)]; rfl)
      have e1 : wr.cell? ⟨b, off + k * 4 + 1, none⟩ = some (.int .i64 kids[k].hd.dim) := hc 1 _ (by omega) (by rw [flat_get GT.cells 4 GT.cells_len kids k 1 hki (by omega)]; rfl)
      have e2 : wr.cell? ⟨b, off + k * 4 + 2, none⟩ = some (.slice kids[k].hd.na kids[k].hd.nn kids[k].hd.nc) := hc 2 _ (by omega) (by rw [flat_get GT.cells 4 GT.cells_len kids k 2 hki (by omega)]; rfl)
      have e3 : wr.cell? ⟨b, off + k * 4 + 3, none⟩ = some (.slice kids[k].hd.ka kids[k].hd.kn kids[k].hd.kc) := hc 3 _ (by omega) (by rw [flat_get GT.cells 4 GT.cells_len kids k 3 hki (by omega)]; rfl)
      have hsn : ((kids.take (k + 1)).map newP).filter (takes 4) = if takes 4 (newP kids[k]) then ((kids.take k).map newP).filter (takes 4) ++ [newP kids[k]] else ((kids.take k).map newP).filter (takes 4) := by
        rw [List.take_succ_eq_append_getElem hki, List.map_append, List.map_cons, List.map_nil, filter_snoc]
      have htk : takes 4 (newP kids[k]) = (kindN kids[k].hd.kind == 1) := by simp [takes, newP_kind]
      have hmk1 := HM.out k hki
      generalize ((kids.take k).map newP).filter (takes 4) = ys at *
      have HSN := Lib.hid hsn
      have HTK := Lib.hid htk
      clear hc hsn htk
      generalize kids[k] = x at *
      by_cases hkd : x.hd.kind = 1
      · have hok : takes 4 (newP x) = true := by rw [HTK.out, hkd]; rfl
        have hy2 : ((kids.take (k + 1)).map newP).filter (takes 4) = ys ++ [newP x] := by rw [HSN.out, hok]; rfl
        have HY := Lib.hid hy2
        replace hmk1 := fun w' hk => hmk1 w' hk hkd
        clear hok hy2 HSN HTK
        obtain ⟨⟨xk, xd, xna, xnn, xnc, xka, xkn, xkc⟩, xnums, xkids⟩ := x
        simp only [GT.hd] at hkd e0 e1 e2 e3
        subst hkd
        simp only [GT.hd, Gm.val] at hmk1
        have g0 := hB0r.cell (i := 0) rfl
        have gf := hB0r.free
        have gl := hB0r.lt
        go_wp2_with fail
        have hkx : Stab.Keeps w (wr.alloc (.cells #[.int .i64 1, .int .i64 xd, .slice xna xnn xnc, .slice xka xkn xkc] 35)) := by have := Stab.Keeps.trans hkw hk; with_reducible (repeat first | exact Kx.r _ | assumption | refine Kx.a ?_ _ | refine Kx.d ?_ | refine Kx.e ?_ _ | refine Kx.s (by simp <;> omega) ?_ _ | refine Kx.t ?_ (by assumption))
        refine (hmk1 _ hkx).mono ?_
        clear hmk1
        rintro e w4 ⟨cs4, rfl, hk4, hx4⟩
        have hone := hx4.ones
        obtain ⟨xz, yz, zz, mz, dz, fz, rfl⟩ := hx4.six
        have hk5 : Stab.Keeps wr w4 := by with_reducible (repeat first | exact Kx.r _ | assumption | refine Kx.a ?_ _ | refine Kx.d ?_ | refine Kx.e ?_ _ | refine Kx.s (by simp <;> omega) ?_ _ | refine Kx.t ?_ (by assumption))
        have hG4 := hG.keep ptS hk5
        have hG5 := hG4.keep ptS ((Stab.Keeps.refl w4).alloc (.cells #[.float .f64 xz, .float .f64 yz, .float .f64 zz, .float .f64 mz, .int .u8 dz, .bool fz] 60))
        have hge : w1.heap.size ≤ wr.heap.size := hk.size
        have hown : ∀ g, (Value.slice al m c0).ownBlock = some g → g < wr.heap.size := fun g hg => (hG.own hg).2
        have hx5 : PtR (w4.alloc (.cells #[.float .f64 xz, .float .f64 yz, .float .f64 zz, .float .f64 mz, .int .u8 dz, .bool fz] 60)) (fun b => wr.heap.size + 1 ≤ b ∧ b < w4.heap.size) [.float .f64 xz, .float .f64 yz, .float .f64 zz, .float .f64 mz, .int .u8 dz, .bool fz] _ := ptS.kf (ptS.mono hx4 (fun b hb hf => hf.elim (fun h => h.elim) (fun h => ⟨by simpa using h, hb⟩))) ((KF.refl _ _).alloc _)
        clear e0 e1 e2 e3 hk4 hG hG4 hkx hx4 hk
        have HG5 := Lib.hid hG5
        clear hG5
        go_wp2_with (at_builtin; (refine append_grow (w0 := w1) ptS rfl _ _ 80 rfl 60 i0 _ 6 48 Tryz.underlying80 HI.out HZ0.out HZ1.out HZ2.out rfl (by decide) _ m ys rfl HG5.out ⟨w4.heap.size, 0, none⟩ 1 [.float .f64 xz, .float .f64 yz, .float .f64 zz, .float .f64 mz, .int .u8 dz, .bool fz] rfl rfl ?c1 hone ?c2 ?c3 _ _ hx5 ?c4 ?c5 ?_))
        case c1 => exact new_cells _ _ _ _ rfl
        case c2 => unfold maxLen; omega
        case c3 => omega
        case c4 => exact fun b hb => ⟨by omega, by simp; omega⟩
        case c5 => exact fun g hg hb => by have := hown g hg; omega
        intro al' c' w5 hG6 hsz5
        rw [← HY.out] at hG6
        clear hx5 HG5 hown
        go_wp2_with fail
        go_roundw
        case rel => exact ⟨k + 1, m + 1, by omega, by omega, by go_num, hG6⟩
        case measure => simp [intOf]; omega
      · have hno : takes 4 (newP x) = false := by
          rw [HTK.out]
          simp only [kindN, beq_eq_false_iff_ne, ne_eq]
          split <;> omega
        have hy2 : ((kids.take (k + 1)).map newP).filter (takes 4) = ys := by rw [HSN.out, hno]; rfl
        have HY := Lib.hid hy2
        have hkd2 : (x.hd.kind == 1) = false := by simpa using hkd
        clear hno hy2 HSN HTK hmk1 hkd
        have g0 := hB0r.cell (i := 0) rfl
        have gf := hB0r.free
        have gl := hB0r.lt
        have hG4 := hG.keep ptS ((Stab.Keeps.refl wr).alloc (.cells #[.int .i64 x.hd.kind, .int .i64 x.hd.dim, .slice x.hd.na x.hd.nn x.hd.nc, .slice x.hd.ka x.hd.kn x.hd.kc] 35))
        rw [← HY.out] at hG4
        clear HY hG hk
        go_wp2_with fail
        go_roundw
        case rel => exact ⟨k + 1, m, by omega, by omega, by go_num, hG4⟩
        case measure => simp [intOf]; omega
    · obtain rfl : kn = k := by omega
      have hfull : kids.take kn = kids := List.take_of_length_le (by rw [HKN.out]; exact Nat.le_refl _)
      rw [hfull] at hG
      generalize (kids.map newP).filter (takes 4) = ys at *
      have hyl := hG.len
      have hkk := Stab.Keeps.trans hkw hk
      have hsz := hk.size
      rcases Nat.eq_zero_or_pos m with h0 | h0
      · subst h0
        have hy0 : ys = [] := List.length_eq_zero_iff.1 hyl
        subst hy0
        have g0 := hB0r.cell (i := 0) rfl
        have g1 := hB0r.cell (i := 1) rfl
        have gf := hB0r.free
        have gl := hB0r.lt
        clear hG hfull hyl
        go_wp2_with fail
        refine (hO _).mono ?_
        clear hO
        rintro e w4 ⟨rfl, hk4⟩
        go_wp2_with fail
        have hE1 := HE.out w4
        simp only [Int.natCast_zero] at hE1
        refine hE1.mono ?_
        clear hE1
        rintro e w5 ⟨cs5, rfl, hk5, hx5⟩
        obtain ⟨az, nz, cz, dz, rfl⟩ := hx5.two
        have hB2 := ((hB1.keep hk).keep hk4).keep hk5
        have hkf : Stab.Keeps w w5 := by with_reducible (repeat first | exact Kx.r _ | assumption | refine Kx.a ?_ _ | refine Kx.d ?_ | refine Kx.e ?_ _ | refine Kx.s (by simp <;> omega) ?_ _ | refine Kx.t ?_ (by assumption))
        have hsz4 := hk4.size
        have hs1 := HS1.out
        clear hk hk4 hk5 g0 g1 gf gl
        have r0 := hB2.cell (i := 0) rfl
        have r1 := hB2.cell (i := 1) rfl
        have rf := hB2.free
        have rl := hB2.lt
        go_wp2_with fail
        refine bodyPost_ret (v := .agg #[.slice az nz cz, .int .u8 dz]) (by simp [results, Tryz.results36, go_sem, *]) rfl ⟨[.slice az nz cz, .int .u8 dz], rfl, ?_, ?_⟩
        · with_reducible (repeat first | exact Kx.r _ | assumption | refine Kx.a ?_ _ | refine Kx.d ?_ | refine Kx.e ?_ _ | refine Kx.s (by simp <;> omega) ?_ _ | refine Kx.t ?_ (by assumption))
        · have : wholeP 4 D ([] : List Pg) = forceP D (.node 4 0 [] []) := by rw [forceP_eq]; rfl
          rw [this]
          refine mpS.mono (mpS.kf hx5 (w' := _) ?_) (fun b _ hb => hb.elim (fun h => h.elim) (fun h => .inr (by omega)))
          have hnf : ¬ orNew no w4.heap.size (w.heap.size + 1) := by intro h; rcases h with h | h; exact h.elim; omega
          repeat (first | (with_reducible exact KF.refl _ _) | (with_reducible assumption) | (with_reducible refine KF.alloc ?_ _) | (with_reducible refine KF.drew ?_) | (with_reducible refine KF.drewN ?_ _) | ((with_reducible refine KF.set ?_ ?_); focus (first | assumption | (simp [orNew, old]; done) | (simp [orNew, old]; omega) | (simp [orNew, old] at *; omega))) | (with_reducible refine KF.trans ?_ (KF.keeps (by with_reducible assumption))))
      · have hne : ((m : Int) == 0) = false := by simp; omega
        have hne2 : (m == 0) = false := by simp; omega
        obtain ⟨css, hR⟩ := hG.toRows ptS
        have hN := newMpN_ al m c0 css ys wr h0 (by omega) hR
        have hwe : wholeP 4 D ys = wholeP 4 0 ys := by unfold wholeP; rw [if_neg (by simp; intro h; rw [h] at hyl; simp at hyl; omega), if_neg (by simp; intro h; rw [h] at hyl; simp at hyl; omega)]
        have HWE := Lib.hid hwe
        clear hG hfull hyl hR hwe
        go_wp2_with fail
        refine hN.mono ?_
        clear hN
        rintro e w5 ⟨cs5, rfl, hk5, hx5⟩
        obtain ⟨az, nz, cz, dz, rfl⟩ := hx5.two
        have hB2 := (hB1.keep hk).keep hk5
        have hkf : Stab.Keeps w w5 := by with_reducible (repeat first | exact Kx.r _ | assumption | refine Kx.a ?_ _ | refine Kx.d ?_ | refine Kx.e ?_ _ | refine Kx.s (by simp <;> omega) ?_ _ | refine Kx.t ?_ (by assumption))
        have hs1 := HS1.out
        clear hk hk5
        have r0 := hB2.cell (i := 0) rfl
        have r1 := hB2.cell (i := 1) rfl
        have rf := hB2.free
        have rl := hB2.lt
        go_wp2_with fail
        refine bodyPost_ret (v := .agg #[.slice az nz cz, .int .u8 dz]) (by simp [results, Tryz.results36, go_sem, *]) rfl ⟨[.slice az nz cz, .int .u8 dz], rfl, ?_, ?_⟩
        · with_reducible (repeat first | exact Kx.r _ | assumption | refine Kx.a ?_ _ | refine Kx.d ?_ | refine Kx.e ?_ _ | refine Kx.s (by simp <;> omega) ?_ _ | refine Kx.t ?_ (by assumption))
        · rw [← HWE.out] at hx5
          refine mpS.mono (mpS.kf hx5 (w' := _) ?_) (fun b _ hb => .inr (by rcases hb with h | h <;> omega))
          have hnf : ¬ orNew (fun b => w1.heap.size ≤ b) wr.heap.size (w.heap.size + 1) := by intro h; rcases h with h | h <;> omega
          repeat (first | (with_reducible exact KF.refl _ _) | (with_reducible assumption) | (with_reducible refine KF.alloc ?_ _) | (with_reducible refine KF.drew ?_) | (with_reducible refine KF.drewN ?_ _) | ((with_reducible refine KF.set ?_ ?_); focus (first | assumption | (simp [orNew, old]; done) | (simp [orNew, old]; omega) | (simp [orNew, old] at *; omega))) | (with_reducible refine KF.trans ?_ (KF.keeps (by with_reducible assumption))))
set_option maxRecDepth 100000 in
set_option maxHeartbeats 2000000 in
theorem makeMl_ (t : GT) (w : World) (hA : t.At w) (hs : t.Small) (hk : t.hd.kind = 5) : Calls Tryz.prog 38 #[t.hd.val] w (RetR w no MlR (newP t)) := by
  obtain ⟨i0, hi, hz0, hz1, hz2⟩ := info_parts infoLs
  cases hA with
  | mk h nums kids hn hkn h1 h2 h3 =>
  obtain ⟨kind, dim, na, nn, nc, ka, kn, kc⟩ := h
  simp only [GT.hd] at hk hkn h2
  subst hk
  have hfew := hs.few
  have hkid := hs.kid
  have hle := h2.le
  have hmx := h2.max
  unfold maxLen at hmx
  rw [newP_whole _ _ _ (by simp [kindN]) (by simp [kindN])]
  simp only [show kindN 5 = 5 from rfl]
  have hO := fun w' => dimOfA_ dim w'
  have hM := fun i (hi : i < kids.length) w' (hk : Stab.Keeps w w') (hkd : kids[i].hd.kind = 2) => makeLs_ kids[i] w' ((h3 _ (List.getElem_mem hi)).keep hk) (hkid _ (List.getElem_mem hi)) hkd
  have hE := fun w' => forceMl_ (F := no) (dim4 dim) (dim4_lt dim) [.slice none 0 0, .int .u8 (0 : Nat)] (.node 5 0 [] []) w' ⟨0, none, 0, 0, [], [], rfl, rfl, by omega, by omega, Go.Kf.Rows.nil _ _ _ _, fun c hc => by simp at hc⟩
  have HI := Lib.hid hi
  have HZ0 := Lib.hid hz0
  have HZ1 := Lib.hid hz1
  have HZ2 := Lib.hid hz2
  have HKN := Lib.hid hkn
  have HM := Lib.hid hM
  have HE := Lib.hid hE
  have hd4 := dim4_lt dim
  have hkb : kn ≤ 1000 := by omega
  clear h1 h3 hn hi hz0 hz1 hz2 hs hM hkid hkn hfew hE
  simp only [GT.hd, Gm.val]
  generalize hde : dim4 dim = D at *
  clear hde
  go_enter Tryz.func38, Tryz.ntmps38
  go_wp2_with fail
  have hkw : Stab.Keeps w ((w.alloc (.cells #[.int .i64 5, .int .i64 dim, .slice na nn nc, .slice ka kn kc] 35)).alloc (.cells #[.slice none 0 0, .int .u8 0] 85)) := by with_reducible (repeat first | exact Kx.r _ | assumption | refine Kx.a ?_ _ | refine Kx.d ?_ | refine Kx.e ?_ _ | refine Kx.s (by simp <;> omega) ?_ _ | refine Kx.t ?_ (by assumption))
  have hB0 : Blk ((w.alloc (.cells #[.int .i64 5, .int .i64 dim, .slice na nn nc, .slice ka kn kc] 35)).alloc (.cells #[.slice none 0 0, .int .u8 0] 85)) w.heap.size 35 [.int .i64 5, .int .i64 dim, .slice na nn nc, .slice ka kn kc] := by with_reducible (repeat first | assumption | (refine Bx.n ⟨?_, ?_⟩ <;> focus (first | rfl | (simp; done) | omega)) | refine Bx.a ?_ _ | refine Bx.d ?_ | refine Bx.e ?_ _ | refine Bx.p (by first | omega | simp <;> omega) ?_)
  have hB1 : Blk ((w.alloc (.cells #[.int .i64 5, .int .i64 dim, .slice na nn nc, .slice ka kn kc] 35)).alloc (.cells #[.slice none 0 0, .int .u8 0] 85)) (w.heap.size + 1) 85 [.slice none 0 0, .int .u8 0] := by with_reducible (repeat first | assumption | (refine Bx.n ⟨?_, ?_⟩ <;> focus (first | rfl | (simp; done) | omega)) | refine Bx.a ?_ _ | refine Bx.d ?_ | refine Bx.e ?_ _ | refine Bx.p (by first | omega | simp <;> omega) ?_)
  have hs1 : ((w.alloc (.cells #[.int .i64 5, .int .i64 dim, .slice na nn nc, .slice ka kn kc] 35)).alloc (.cells #[.slice none 0 0, .int .u8 0] 85)).heap.size = w.heap.size + 1 + 1 := by simp
  generalize hw1 : ((w.alloc (.cells #[.int .i64 5, .int .i64 dim, .slice na nn nc, .slice ka kn kc] 35)).alloc (.cells #[.slice none 0 0, .int .u8 0] 85)) = w1 at *
  clear hw1
  have HS1 := Lib.hid hs1
  clear hs1
  go_loopw [3, 9] (fun v iv wr => ∃ k m : Nat, k ≤ kn ∧ m ≤ k ∧ iv = .int .i64 k ∧ Grow w1 wr LsR 51 2 m v (((kids.take k).map newP).filter (takes 5))) (fun _ iv _ => kn - (intOf iv).toNat)
  case atStart => exact ⟨0, 0, by omega, by omega, rfl, by simpa using Grow.nil w1 w1 LsR 51 2 (Stab.Keeps.refl _)⟩
  case round =>
    obtain ⟨k, m, k2, hmk, rfl, hG⟩ := hrel
    obtain ⟨al, c0, rfl, hmc, hcm⟩ := hG.shape
    have hk := hG.keeps
    have hB0r := hB0.keep hk
    unfold maxLen at hcm
    by_cases hlt : k < kn
    · obtain ⟨b, off, ha, hb, hc⟩ := (h2.keep (Stab.Keeps.trans hkw hk)).elem hlt
      subst ha
      have hki : k < kids.length := by have := HKN.out; omega
      have e0 : wr.cell? ⟨b, off + k * 4, none⟩ = some (.int .i64 kids[k].hd.kind) := hc 0 _ (by omega) (by rw [flat_get GT.cells 4 GT.cells_len kids k 0 hki (by omega)]; rfl)
      have e1 : wr.cell? ⟨b, off + k * 4 + 1, none⟩ = some (.int .i64 kids[k].hd.dim) := hc 1 _ (by omega) (by rw [flat_get GT.cells 4 GT.cells_len kids k 1 hki (by omega)]; rfl)
      have e2 : wr.cell? ⟨b, off + k * 4 + 2, none⟩ = some (.slice kids[k].hd.na kids[k].hd.nn kids[k].hd.nc) := hc 2 _ (by omega) (by rw [flat_get GT.cells 4 GT.cells_len kids k 2 hki (by omega)]; rfl)
      have e3 : wr.cell? ⟨b, off + k * 4 + 3, none⟩ = some (.slice kids[k].hd.ka kids[k].hd.kn kids[k].hd.kc) := hc 3 _ (by omega) (by rw [flat_get GT.cells 4 GT.cells_len kids k 3 hki (by omega)]; rfl)
      have hsn : ((kids.take (k + 1)).map newP).filter (takes 5) = if takes 5 (newP kids[k]) then ((kids.take k).map newP).filter (takes 5) ++ [newP kids[k]] else ((kids.take k).map newP).filter (takes 5) := by
        rw [List.take_succ_eq_append_getElem hki, List.map_append, List.map_cons, List.map_nil, filter_snoc]
      have htk : takes 5 (newP kids[k]) = (kindN kids[k].hd.kind == 2) := by simp [takes, newP_kind]
      have hmk1 := HM.out k hki
      generalize ((kids.take k).map newP).filter (takes 5) = ys at *
      have HSN := Lib.hid hsn
      have HTK := Lib.hid htk
      clear hc hsn htk
      generalize kids[k] = x at *
      by_cases hkd : x.hd.kind = 2
      · have hok : takes 5 (newP x) = true := by rw [HTK.out, hkd]; rfl
        have hy2 : ((kids.take (k + 1)).map newP).filter (takes 5) = ys ++ [newP x] := by rw [HSN.out, hok]; rfl
        have HY := Lib.hid hy2
        replace hmk1 := fun w' hk => hmk1 w' hk hkd
        clear hok hy2 HSN HTK
        obtain ⟨⟨xk, xd, xna, xnn, xnc, xka, xkn, xkc⟩, xnums, xkids⟩ := x
        simp only [GT.hd] at hkd e0 e1 e2 e3
        subst hkd
        simp only [GT.hd, Gm.val] at hmk1
        have g0 := hB0r.cell (i := 0) rfl
        have gf := hB0r.free
        have gl := hB0r.lt
        go_wp2_with fail
        have hkx : Stab.Keeps w (wr.alloc (.cells #[.int .i64 2, .int .i64 xd, .slice xna xnn xnc, .slice xka xkn xkc] 35)) := by have := Stab.Keeps.trans hkw hk; with_reducible (repeat first | exact Kx.r _ | assumption | refine Kx.a ?_ _ | refine Kx.d ?_ | refine Kx.e ?_ _ | refine Kx.s (by simp <;> omega) ?_ _ | refine Kx.t ?_ (by assumption))
        refine (hmk1 _ hkx).mono ?_
        clear hmk1
        rintro e w4 ⟨cs4, rfl, hk4, hx4⟩
        have hone := hx4.ones
        obtain ⟨dz, az, nz, cz, rfl⟩ := hx4.two
        have hk5 : Stab.Keeps wr w4 := by with_reducible (repeat first | exact Kx.r _ | assumption | refine Kx.a ?_ _ | refine Kx.d ?_ | refine Kx.e ?_ _ | refine Kx.s (by simp <;> omega) ?_ _ | refine Kx.t ?_ (by assumption))
        have hG4 := hG.keep lsS hk5
        have hG5 := hG4.keep lsS ((Stab.Keeps.refl w4).alloc (.cells #[.int .u8 dz, .slice az nz cz] 51))
        have hge : w1.heap.size ≤ wr.heap.size := hk.size
        have hown : ∀ g, (Value.slice al m c0).ownBlock = some g → g < wr.heap.size := fun g hg => (hG.own hg).2
        have hx5 : LsR (w4.alloc (.cells #[.int .u8 dz, .slice az nz cz] 51)) (fun b => wr.heap.size + 1 ≤ b ∧ b < w4.heap.size) [.int .u8 dz, .slice az nz cz] _ := lsS.kf (lsS.mono hx4 (fun b hb hf => hf.elim (fun h => h.elim) (fun h => ⟨by simpa using h, hb⟩))) ((KF.refl _ _).alloc _)
        clear e0 e1 e2 e3 hk4 hG hG4 hkx hx4 hk
        have HG5 := Lib.hid hG5
        clear hG5
        go_wp2_with (at_builtin; (refine append_grow (w0 := w1) lsS rfl _ _ 76 rfl 51 i0 _ 2 32 Tryz.underlying76 HI.out HZ0.out HZ1.out HZ2.out rfl (by decide) _ m ys rfl HG5.out ⟨w4.heap.size, 0, none⟩ 1 [.int .u8 dz, .slice az nz cz] rfl rfl ?c1 hone ?c2 ?c3 _ _ hx5 ?c4 ?c5 ?_))
        case c1 => exact new_cells _ _ _ _ rfl
        case c2 => unfold maxLen; omega
        case c3 => omega
        case c4 => exact fun b hb => ⟨by omega, by simp; omega⟩
        case c5 => exact fun g hg hb => by have := hown g hg; omega
        intro al' c' w5 hG6 hsz5
        rw [← HY.out] at hG6
        clear hx5 HG5 hown
        go_wp2_with fail
        go_roundw
        case rel => exact ⟨k + 1, m + 1, by omega, by omega, by go_num, hG6⟩
        case measure => simp [intOf]; omega
      · have hno : takes 5 (newP x) = false := by
          rw [HTK.out]
          simp only [kindN, beq_eq_false_iff_ne, ne_eq]
          split <;> omega
        have hy2 : ((kids.take (k + 1)).map newP).filter (takes 5) = ys := by rw [HSN.out, hno]; rfl
        have HY := Lib.hid hy2
        have hkd2 : (x.hd.kind == 2) = false := by simpa using hkd
        clear hno hy2 HSN HTK hmk1 hkd
        have g0 := hB0r.cell (i := 0) rfl
        have gf := hB0r.free
        have gl := hB0r.lt
        have hG4 := hG.keep lsS ((Stab.Keeps.refl wr).alloc (.cells #[.int .i64 x.hd.kind, .int .i64 x.hd.dim, .slice x.hd.na x.hd.nn x.hd.nc, .slice x.hd.ka x.hd.kn x.hd.kc] 35))
        rw [← HY.out] at hG4
        clear HY hG hk
        go_wp2_with fail
        go_roundw
        case rel => exact ⟨k + 1, m, by omega, by omega, by go_num, hG4⟩
        case measure => simp [intOf]; omega
    · obtain rfl : kn = k := by omega
      have hfull : kids.take kn = kids := List.take_of_length_le (by rw [HKN.out]; exact Nat.le_refl _)
      rw [hfull] at hG
      generalize (kids.map newP).filter (takes 5) = ys at *
      have hyl := hG.len
      have hkk := Stab.Keeps.trans hkw hk
      have hsz := hk.size
      rcases Nat.eq_zero_or_pos m with h0 | h0
      · subst h0
        have hy0 : ys = [] := List.length_eq_zero_iff.1 hyl
        subst hy0
        have g0 := hB0r.cell (i := 0) rfl
        have g1 := hB0r.cell (i := 1) rfl
        have gf := hB0r.free
        have gl := hB0r.lt
        clear hG hfull hyl
        go_wp2_with fail
        refine (hO _).mono ?_
        clear hO
        rintro e w4 ⟨rfl, hk4⟩
        go_wp2_with fail
        have hE1 := HE.out w4
        simp only [Int.natCast_zero] at hE1
        refine hE1.mono ?_
        clear hE1
        rintro e w5 ⟨cs5, rfl, hk5, hx5⟩
        obtain ⟨az, nz, cz, dz, rfl⟩ := hx5.two
        have hB2 := ((hB1.keep hk).keep hk4).keep hk5
        have hkf : Stab.Keeps w w5 := by with_reducible (repeat first | exact Kx.r _ | assumption | refine Kx.a ?_ _ | refine Kx.d ?_ | refine Kx.e ?_ _ | refine Kx.s (by simp <;> omega) ?_ _ | refine Kx.t ?_ (by assumption))
        have hsz4 := hk4.size
        have hs1 := HS1.out
        clear hk hk4 hk5 g0 g1 gf gl
        have r0 := hB2.cell (i := 0) rfl
        have r1 := hB2.cell (i := 1) rfl
        have rf := hB2.free
        have rl := hB2.lt
        go_wp2_with fail
        refine bodyPost_ret (v := .agg #[.slice az nz cz, .int .u8 dz]) (by simp [results, Tryz.results38, go_sem, *]) rfl ⟨[.slice az nz cz, .int .u8 dz], rfl, ?_, ?_⟩
        · with_reducible (repeat first | exact Kx.r _ | assumption | refine Kx.a ?_ _ | refine Kx.d ?_ | refine Kx.e ?_ _ | refine Kx.s (by simp <;> omega) ?_ _ | refine Kx.t ?_ (by assumption))
        · have : wholeP 5 D ([] : List Pg) = forceP D (.node 5 0 [] []) := by rw [forceP_eq]; rfl
          rw [this]
          refine mlS.mono (mlS.kf hx5 (w' := _) ?_) (fun b _ hb => hb.elim (fun h => h.elim) (fun h => .inr (by omega)))
          have hnf : ¬ orNew no w4.heap.size (w.heap.size + 1) := by intro h; rcases h with h | h; exact h.elim; omega
          repeat (first | (with_reducible exact KF.refl _ _) | (with_reducible assumption) | (with_reducible refine KF.alloc ?_ _) | (with_reducible refine KF.drew ?_) | (with_reducible refine KF.drewN ?_ _) | ((with_reducible refine KF.set ?_ ?_); focus (first | assumption | (simp [orNew, old]; done) | (simp [orNew, old]; omega) | (simp [orNew, old] at *; omega))) | (with_reducible refine KF.trans ?_ (KF.keeps (by with_reducible assumption))))
      · have hne : ((m : Int) == 0) = false := by simp; omega
        have hne2 : (m == 0) = false := by simp; omega
        obtain ⟨css, hR⟩ := hG.toRows lsS
        have hN := newMlN_ al m c0 css ys wr h0 (by omega) hR
        have hwe : wholeP 5 D ys = wholeP 5 0 ys := by unfold wholeP; rw [if_neg (by simp; intro h; rw [h] at hyl; simp at hyl; omega), if_neg (by simp; intro h; rw [h] at hyl; simp at hyl; omega)]
        have HWE := Lib.hid hwe
        clear hG hfull hyl hR hwe
        go_wp2_with fail
        refine hN.mono ?_
        clear hN
        rintro e w5 ⟨cs5, rfl, hk5, hx5⟩
        obtain ⟨az, nz, cz, dz, rfl⟩ := hx5.two
        have hB2 := (hB1.keep hk).keep hk5
        have hkf : Stab.Keeps w w5 := by with_reducible (repeat first | exact Kx.r _ | assumption | refine Kx.a ?_ _ | refine Kx.d ?_ | refine Kx.e ?_ _ | refine Kx.s (by simp <;> omega) ?_ _ | refine Kx.t ?_ (by assumption))
        have hs1 := HS1.out
        clear hk hk5
        have r0 := hB2.cell (i := 0) rfl
        have r1 := hB2.cell (i := 1) rfl
        have rf := hB2.free
        have rl := hB2.lt
        go_wp2_with fail
        refine bodyPost_ret (v := .agg #[.slice az nz cz, .int .u8 dz]) (by simp [results, Tryz.results38, go_sem, *]) rfl ⟨[.slice az nz cz, .int .u8 dz], rfl, ?_, ?_⟩
        · with_reducible (repeat first | exact Kx.r _ | assumption | refine Kx.a ?_ _ | refine Kx.d ?_ | refine Kx.e ?_ _ | refine Kx.s (by simp <;> omega) ?_ _ | refine Kx.t ?_ (by assumption))
        · rw [← HWE.out] at hx5
          refine mlS.mono (mlS.kf hx5 (w' := _) ?_) (fun b _ hb => .inr (by rcases hb with h | h <;> omega))
          have hnf : ¬ orNew (fun b => w1.heap.size ≤ b) wr.heap.size (w.heap.size + 1) := by intro h; rcases h with h | h <;> omega
          repeat (first | (with_reducible exact KF.refl _ _) | (with_reducible assumption) | (with_reducible refine KF.alloc ?_ _) | (with_reducible refine KF.drew ?_) | (with_reducible refine KF.drewN ?_ _) | ((with_reducible refine KF.set ?_ ?_); focus (first | assumption | (simp [orNew, old]; done) | (simp [orNew, old]; omega) | (simp [orNew, old] at *; omega))) | (with_reducible refine KF.trans ?_ (KF.keeps (by with_reducible assumption))))
set_option maxRecDepth 100000 in
set_option maxHeartbeats 2000000 in
theorem makeMy_ (t : GT) (w : World) (hA : t.At w) (hs : t.Small) (hk : t.hd.kind = 6) : Calls Tryz.prog 40 #[t.hd.val] w (RetR w no MyR (newP t)) := by
  obtain ⟨i0, hi, hz0, hz1, hz2⟩ := info_parts infoPy
  cases hA with
  | mk h nums kids hn hkn h1 h2 h3 =>
  obtain ⟨kind, dim, na, nn, nc, ka, kn, kc⟩ := h
  simp only [GT.hd] at hk hkn h2
  subst hk
  have hfew := hs.few
  have hkid := hs.kid
  have hle := h2.le
  have hmx := h2.max
  unfold maxLen at hmx
  rw [newP_whole _ _ _ (by simp [kindN]) (by simp [kindN])]
  simp only [show kindN 6 = 6 from rfl]
  have hO := fun w' => dimOfA_ dim w'
  have hM := fun i (hi : i < kids.length) w' (hk : Stab.Keeps w w') (hkd : kids[i].hd.kind = 3) => makePy_ kids[i] w' ((h3 _ (List.getElem_mem hi)).keep hk) (hkid _ (List.getElem_mem hi)) hkd
  have hE := fun w' => forceMy_ (F := no) (dim4 dim) (dim4_lt dim) [.slice none 0 0, .int .u8 (0 : Nat)] (.node 6 0 [] []) w' ⟨0, none, 0, 0, [], [], rfl, rfl, by omega, by omega, Go.Kf.Rows.nil _ _ _ _, fun c hc => by simp at hc⟩
  have HI := Lib.hid hi
  have HZ0 := Lib.hid hz0
  have HZ1 := Lib.hid hz1
  have HZ2 := Lib.hid hz2
  have HKN := Lib.hid hkn
  have HM := Lib.hid hM
  have HE := Lib.hid hE
  have hd4 := dim4_lt dim
  have hkb : kn ≤ 1000 := by omega
  clear h1 h3 hn hi hz0 hz1 hz2 hs hM hkid hkn hfew hE
  simp only [GT.hd, Gm.val]
  generalize hde : dim4 dim = D at *
  clear hde
  go_enter Tryz.func40, Tryz.ntmps40
  go_wp2_with fail
  have hkw : Stab.Keeps w ((w.alloc (.cells #[.int .i64 6, .int .i64 dim, .slice na nn nc, .slice ka kn kc] 35)).alloc (.cells #[.slice none 0 0, .int .u8 0] 89)) := by with_reducible (repeat first | exact Kx.r _ | assumption | refine Kx.a ?_ _ | refine Kx.d ?_ | refine Kx.e ?_ _ | refine Kx.s (by simp <;> omega) ?_ _ | refine Kx.t ?_ (by assumption))
  have hB0 : Blk ((w.alloc (.cells #[.int .i64 6, .int .i64 dim, .slice na nn nc, .slice ka kn kc] 35)).alloc (.cells #[.slice none 0 0, .int .u8 0] 89)) w.heap.size 35 [.int .i64 6, .int .i64 dim, .slice na nn nc, .slice ka kn kc] := by with_reducible (repeat first | assumption | (refine Bx.n ⟨?_, ?_⟩ <;> focus (first | rfl | (simp; done) | omega)) | refine Bx.a ?_ _ | refine Bx.d ?_ | refine Bx.e ?_ _ | refine Bx.p (by first | omega | simp <;> omega) ?_)
  have hB1 : Blk ((w.alloc (.cells #[.int .i64 6, .int .i64 dim, .slice na nn nc, .slice ka kn kc] 35)).alloc (.cells #[.slice none 0 0, .int .u8 0] 89)) (w.heap.size + 1) 89 [.slice none 0 0, .int .u8 0] := by with_reducible (repeat first | assumption | (refine Bx.n ⟨?_, ?_⟩ <;> focus (first | rfl | (simp; done) | omega)) | refine Bx.a ?_ _ | refine Bx.d ?_ | refine Bx.e ?_ _ | refine Bx.p (by first | omega | simp <;> omega) ?_)
  have hs1 : ((w.alloc (.cells #[.int .i64 6, .int .i64 dim, .slice na nn nc, .slice ka kn kc] 35)).alloc (.cells #[.slice none 0 0, .int .u8 0] 89)).heap.size = w.heap.size + 1 + 1 := by simp
  generalize hw1 : ((w.alloc (.cells #[.int .i64 6, .int .i64 dim, .slice na nn nc, .slice ka kn kc] 35)).alloc (.cells #[.slice none 0 0, .int .u8 0] 89)) = w1 at *
  clear hw1
  have HS1 := Lib.hid hs1
  clear hs1
  go_loopw [3, 9] (fun v iv wr => ∃ k m : Nat, k ≤ kn ∧ m ≤ k ∧ iv = .int .i64 k ∧ Grow w1 wr PyR 78 2 m v (((kids.take k).map newP).filter (takes 6))) (fun _ iv _ => kn - (intOf iv).toNat)
  case atStart => exact ⟨0, 0, by omega, by omega, rfl, by simpa using Grow.nil w1 w1 PyR 78 2 (Stab.Keeps.refl _)⟩
  case round =>
    obtain ⟨k, m, k2, hmk, rfl, hG⟩ := hrel
    obtain ⟨al, c0, rfl, hmc, hcm⟩ := hG.shape
    have hk := hG.keeps
    have hB0r := hB0.keep hk
    unfold maxLen at hcm
    by_cases hlt : k < kn
    · obtain ⟨b, off, ha, hb, hc⟩ := (h2.keep (Stab.Keeps.trans hkw hk)).elem hlt
      subst ha
      have hki : k < kids.length := by have := HKN.out; omega
      have e0 : wr.cell? ⟨b, off + k * 4, none⟩ = some (.int .i64 kids[k].hd.kind) := hc 0 _ (by omega) (by rw [flat_get GT.cells 4 GT.cells_len kids k 0 hki (by omega)]; rfl)
      have e1 : wr.cell? ⟨b, off + k * 4 + 1, none⟩ = some (.int .i64 kids[k].hd.dim) := hc 1 _ (by omega) (by rw [flat_get GT.cells 4 GT.cells_len kids k 1 hki (by omega)]; rfl)
      have e2 : wr.cell? ⟨b, off + k * 4 + 2, none⟩ = some (.slice kids[k].hd.na kids[k].hd.nn kids[k].hd.nc) := hc 2 _ (by omega) (by rw [flat_get GT.cells 4 GT.cells_len kids k 2 hki (by omega)]; rfl)
      have e3 : wr.cell? ⟨b, off + k * 4 + 3, none⟩ = some (.slice kids[k].hd.ka kids[k].hd.kn kids[k].hd.kc) := hc 3 _ (by omega) (by rw [flat_get GT.cells 4 GT.cells_len kids k 3 hki (by omega)]; rfl)
      have hsn : ((kids.take (k + 1)).map newP).filter (takes 6) = if takes 6 (newP kids[k]) then ((kids.take k).map newP).filter (takes 6) ++ [newP kids[k]] else ((kids.take k).map newP).filter (takes 6) := by
        rw [List.take_succ_eq_append_getElem hki, List.map_append, List.map_cons, List.map_nil, filter_snoc]
      have htk : takes 6 (newP kids[k]) = (kindN kids[k].hd.kind == 3) := by simp [takes, newP_kind]
      have hmk1 := HM.out k hki
      generalize ((kids.take k).map newP).filter (takes 6) = ys at *
      have HSN := Lib.hid hsn
      have HTK := Lib.hid htk
      clear hc hsn htk
      generalize kids[k] = x at *
      by_cases hkd : x.hd.kind = 3
      · have hok : takes 6 (newP x) = true := by rw [HTK.out, hkd]; rfl
        have hy2 : ((kids.take (k + 1)).map newP).filter (takes 6) = ys ++ [newP x] := by rw [HSN.out, hok]; rfl
        have HY := Lib.hid hy2
        replace hmk1 := fun w' hk => hmk1 w' hk hkd
        clear hok hy2 HSN HTK
        obtain ⟨⟨xk, xd, xna, xnn, xnc, xka, xkn, xkc⟩, xnums, xkids⟩ := x
        simp only [GT.hd] at hkd e0 e1 e2 e3
        subst hkd
        simp only [GT.hd, Gm.val] at hmk1
        have g0 := hB0r.cell (i := 0) rfl
        have gf := hB0r.free
        have gl := hB0r.lt
        go_wp2_with fail
        have hkx : Stab.Keeps w (wr.alloc (.cells #[.int .i64 3, .int .i64 xd, .slice xna xnn xnc, .slice xka xkn xkc] 35)) := by have := Stab.Keeps.trans hkw hk; with_reducible (repeat first | exact Kx.r _ | assumption | refine Kx.a ?_ _ | refine Kx.d ?_ | refine Kx.e ?_ _ | refine Kx.s (by simp <;> omega) ?_ _ | refine Kx.t ?_ (by assumption))
        refine (hmk1 _ hkx).mono ?_
        clear hmk1
        rintro e w4 ⟨cs4, rfl, hk4, hx4⟩
        have hone := hx4.ones
        obtain ⟨az, nz, cz, dz, rfl⟩ := hx4.two
        have hk5 : Stab.Keeps wr w4 := by with_reducible (repeat first | exact Kx.r _ | assumption | refine Kx.a ?_ _ | refine Kx.d ?_ | refine Kx.e ?_ _ | refine Kx.s (by simp <;> omega) ?_ _ | refine Kx.t ?_ (by assumption))
        have hG4 := hG.keep pyS hk5
        have hG5 := hG4.keep pyS ((Stab.Keeps.refl w4).alloc (.cells #[.slice az nz cz, .int .u8 dz] 78))
        have hge : w1.heap.size ≤ wr.heap.size := hk.size
        have hown : ∀ g, (Value.slice al m c0).ownBlock = some g → g < wr.heap.size := fun g hg => (hG.own hg).2
        have hx5 : PyR (w4.alloc (.cells #[.slice az nz cz, .int .u8 dz] 78)) (fun b => wr.heap.size + 1 ≤ b ∧ b < w4.heap.size) [.slice az nz cz, .int .u8 dz] _ := pyS.kf (pyS.mono hx4 (fun b hb hf => hf.elim (fun h => h.elim) (fun h => ⟨by simpa using h, hb⟩))) ((KF.refl _ _).alloc _)
        clear e0 e1 e2 e3 hk4 hG hG4 hkx hx4 hk
        have HG5 := Lib.hid hG5
        clear hG5
        go_wp2_with (at_builtin; (refine append_grow (w0 := w1) pyS rfl _ _ 87 rfl 78 i0 _ 2 32 Tryz.underlying87 HI.out HZ0.out HZ1.out HZ2.out rfl (by decide) _ m ys rfl HG5.out ⟨w4.heap.size, 0, none⟩ 1 [.slice az nz cz, .int .u8 dz] rfl rfl ?c1 hone ?c2 ?c3 _ _ hx5 ?c4 ?c5 ?_))
        case c1 => exact new_cells _ _ _ _ rfl
        case c2 => unfold maxLen; omega
        case c3 => omega
        case c4 => exact fun b hb => ⟨by omega, by simp; omega⟩
        case c5 => exact fun g hg hb => by have := hown g hg; omega
        intro al' c' w5 hG6 hsz5
        rw [← HY.out] at hG6
        clear hx5 HG5 hown
        go_wp2_with fail
        go_roundw
        case rel => exact ⟨k + 1, m + 1, by omega, by omega, by go_num, hG6⟩
        case measure => simp [intOf]; omega
      · have hno : takes 6 (newP x) = false := by
          rw [HTK.out]
          simp only [kindN, beq_eq_false_iff_ne, ne_eq]
          split <;> omega
        have hy2 : ((kids.take (k + 1)).map newP).filter (takes 6) = ys := by rw [HSN.out, hno]; rfl
        have HY := Lib.hid hy2
        have hkd2 : (x.hd.kind == 3) = false := by simpa using hkd
        clear hno hy2 HSN HTK hmk1 hkd
        have g0 := hB0r.cell (i := 0) rfl
        have gf := hB0r.free
        have gl := hB0r.lt
        have hG4 := hG.keep pyS ((Stab.Keeps.refl wr).alloc (.cells #[.int .i64 x.hd.kind, .int .i64 x.hd.dim, .slice x.hd.na x.hd.nn x.hd.nc, .slice x.hd.ka x.hd.kn x.hd.kc] 35))
        rw [← HY.out] at hG4
        clear HY hG hk
        go_wp2_with fail
        go_roundw
        case rel => exact ⟨k + 1, m, by omega, by omega, by go_num, hG4⟩
        case measure => simp [intOf]; omega
    · obtain rfl : kn = k := by omega
      have hfull : kids.take kn = kids := List.take_of_length_le (by rw [HKN.out]; exact Nat.le_refl _)
      rw [hfull] at hG
      generalize (kids.map newP).filter (takes 6) = ys at *
      have hyl := hG.len
      have hkk := Stab.Keeps.trans hkw hk
      have hsz := hk.size
      rcases Nat.eq_zero_or_pos m with h0 | h0
      · subst h0
        have hy0 : ys = [] := List.length_eq_zero_iff.1 hyl
        subst hy0
        have g0 := hB0r.cell (i := 0) rfl
        have g1 := hB0r.cell (i := 1) rfl
        have gf := hB0r.free
        have gl := hB0r.lt
        clear hG hfull hyl
        go_wp2_with fail
        refine (hO _).mono ?_
        clear hO
        rintro e w4 ⟨rfl, hk4⟩
        go_wp2_with fail
        have hE1 := HE.out w4
        simp only [Int.natCast_zero] at hE1
        refine hE1.mono ?_
        clear hE1
        rintro e w5 ⟨cs5, rfl, hk5, hx5⟩
        obtain ⟨az, nz, cz, dz, rfl⟩ := hx5.two
        have hB2 := ((hB1.keep hk).keep hk4).keep hk5
        have hkf : Stab.Keeps w w5 := by with_reducible (repeat first | exact Kx.r _ | assumption | refine Kx.a ?_ _ | refine Kx.d ?_ | refine Kx.e ?_ _ | refine Kx.s (by simp <;> omega) ?_ _ | refine Kx.t ?_ (by assumption))
        have hsz4 := hk4.size
        have hs1 := HS1.out
        clear hk hk4 hk5 g0 g1 gf gl
        have r0 := hB2.cell (i := 0) rfl
        have r1 := hB2.cell (i := 1) rfl
        have rf := hB2.free
        have rl := hB2.lt
        go_wp2_with fail
        refine bodyPost_ret (v := .agg #[.slice az nz cz, .int .u8 dz]) (by simp [results, Tryz.results40, go_sem, *]) rfl ⟨[.slice az nz cz, .int .u8 dz], rfl, ?_, ?_⟩
        · with_reducible (repeat first | exact Kx.r _ | assumption | refine Kx.a ?_ _ | refine Kx.d ?_ | refine Kx.e ?_ _ | refine Kx.s (by simp <;> omega) ?_ _ | refine Kx.t ?_ (by assumption))
        · have : wholeP 6 D ([] : List Pg) = forceP D (.node 6 0 [] []) := by rw [forceP_eq]; rfl
          rw [this]
          refine myS.mono (myS.kf hx5 (w' := _) ?_) (fun b _ hb => hb.elim (fun h => h.elim) (fun h => .inr (by omega)))
          have hnf : ¬ orNew no w4.heap.size (w.heap.size + 1) := by intro h; rcases h with h | h; exact h.elim; omega
          repeat (first | (with_reducible exact KF.refl _ _) | (with_reducible assumption) | (with_reducible refine KF.alloc ?_ _) | (with_reducible refine KF.drew ?_) | (with_reducible refine KF.drewN ?_ _) | ((with_reducible refine KF.set ?_ ?_); focus (first | assumption | (simp [orNew, old]; done) | (simp [orNew, old]; omega) | (simp [orNew, old] at *; omega))) | (with_reducible refine KF.trans ?_ (KF.keeps (by with_reducible assumption))))
      · have hne : ((m : Int) == 0) = false := by simp; omega
        have hne2 : (m == 0) = false := by simp; omega
        obtain ⟨css, hR⟩ := hG.toRows pyS
        have hN := newMyN_ al m c0 css ys wr h0 (by omega) hR
        have hwe : wholeP 6 D ys = wholeP 6 0 ys := by unfold wholeP; rw [if_neg (by simp; intro h; rw [h] at hyl; simp at hyl; omega), if_neg (by simp; intro h; rw [h] at hyl; simp at hyl; omega)]
        have HWE := Lib.hid hwe
        clear hG hfull hyl hR hwe
        go_wp2_with fail
        refine hN.mono ?_
        clear hN
        rintro e w5 ⟨cs5, rfl, hk5, hx5⟩
        obtain ⟨az, nz, cz, dz, rfl⟩ := hx5.two
        have hB2 := (hB1.keep hk).keep hk5
        have hkf : Stab.Keeps w w5 := by with_reducible (repeat first | exact Kx.r _ | assumption | refine Kx.a ?_ _ | refine Kx.d ?_ | refine Kx.e ?_ _ | refine Kx.s (by simp <;> omega) ?_ _ | refine Kx.t ?_ (by assumption))
        have hs1 := HS1.out
        clear hk hk5
        have r0 := hB2.cell (i := 0) rfl
        have r1 := hB2.cell (i := 1) rfl
        have rf := hB2.free
        have rl := hB2.lt
        go_wp2_with fail
        refine bodyPost_ret (v := .agg #[.slice az nz cz, .int .u8 dz]) (by simp [results, Tryz.results40, go_sem, *]) rfl ⟨[.slice az nz cz, .int .u8 dz], rfl, ?_, ?_⟩
        · with_reducible (repeat first | exact Kx.r _ | assumption | refine Kx.a ?_ _ | refine Kx.d ?_ | refine Kx.e ?_ _ | refine Kx.s (by simp <;> omega) ?_ _ | refine Kx.t ?_ (by assumption))
        · rw [← HWE.out] at hx5
          refine myS.mono (myS.kf hx5 (w' := _) ?_) (fun b _ hb => .inr (by rcases hb with h | h <;> omega))
          have hnf : ¬ orNew (fun b => w1.heap.size ≤ b) wr.heap.size (w.heap.size + 1) := by intro h; rcases h with h | h <;> omega
          repeat (first | (with_reducible exact KF.refl _ _) | (with_reducible assumption) | (with_reducible refine KF.alloc ?_ _) | (with_reducible refine KF.drew ?_) | (with_reducible refine KF.drewN ?_ _) | ((with_reducible refine KF.set ?_ ?_); focus (first | assumption | (simp [orNew, old]; done) | (simp [orNew, old]; omega) | (simp [orNew, old] at *; omega))) | (with_reducible refine KF.trans ?_ (KF.keeps (by with_reducible assumption))))
end Go.Proofs.YtinbkonmlgediaaGreat
set_option linter.unusedVariables false
set_option linter.unusedSimpArgs false
namespace Go.Proofs.YtinbkonmlgediaaGreat
open Go.RowKit Go.Fl Go.Sl Go.Pg Go.Ch Go.Kf
set_option maxRecDepth 100000 in
theorem check_ (k : Int) (T : TypeId) (b : Nat) (w : World) : Calls Tryz.prog 90 #[.agg #[.int .i64 k, .iface T (.pointer (some ⟨b, 0, none⟩))], .int .i64 k] w (One w (.tuple #[])) := by
  go_enter Tryz.func90, Tryz.ntmps90
  go_wp2
  refine bodyPost_ret (v := .tuple #[]) (by simp [results, Tryz.results90, go_sem]) rfl ⟨rfl, ?_⟩
  with_reducible (repeat first | exact Kx.r _ | assumption | refine Kx.a ?_ _ | refine Kx.d ?_ | refine Kx.e ?_ _ | refine Kx.s (by simp <;> omega) ?_ _ | refine Kx.t ?_ (by assumption))
theorem eqGc_ (b : Nat) (w : World) : (binOp .eql 20 (.iface 141 (.pointer (some ⟨b, 0, none⟩))) .nilIface).run Tryz.prog w = .ok (.bool false) w := by kernel_rfl
theorem eqGcG_ (b : Nat) (w : World) (x y : Operand) : (eqGuard .eql 20 x y (.iface 141 (.pointer (some ⟨b, 0, none⟩))) .nilIface).run Tryz.prog w = .ok () w := by kernel_rfl
theorem assPt_ (b : Nat) (w : World) : (Instr.typeAssert (.iface 124 (.pointer (some ⟨b, 0, none⟩))) 20 124 false).run Tryz.prog w = .ok (.pointer (some ⟨b, 0, none⟩)) w := by kernel_rfl
set_option maxRecDepth 100000 in
theorem mustPt_ (x y z m d : Nat) (f : Bool) (b : Nat) (w : World) (hB : Blk w b 60 [.float .f64 x, .float .f64 y, .float .f64 z, .float .f64 m, .int .u8 d, .bool f]) : Calls Tryz.prog 46 #[.agg #[.int .i64 1, .iface 124 (.pointer (some ⟨b, 0, none⟩))]] w (One w (.agg #[.float .f64 x, .float .f64 y, .float .f64 z, .float .f64 m, .int .u8 d, .bool f])) := by
  have hA := fun w' => assPt_ b w'
  have hC := fun w' => check_ 1 124 b w'
  have hlt := hB.lt
  go_enter Tryz.func46, Tryz.ntmps46
  go_wp2_with fail
  refine (hC _).mono ?_
  clear hC
  rintro e w2 ⟨rfl, hk2⟩
  have hG : Blk w2 w.heap.size 63 [.int .i64 1, .iface 124 (.pointer (some ⟨b, 0, none⟩))] := Blk.keep (by with_reducible (repeat first | assumption | (refine Bx.n ⟨?_, ?_⟩ <;> focus (first | rfl | (simp; done) | omega)) | refine Bx.a ?_ _ | refine Bx.d ?_ | refine Bx.e ?_ _ | refine Bx.p (by first | omega | simp <;> omega) ?_)) hk2
  have hR : Blk w2 (w.heap.size + 1) 60 [.float .f64 0, .float .f64 0, .float .f64 0, .float .f64 0, .int .u8 0, .bool false] := Blk.keep (by with_reducible (repeat first | assumption | (refine Bx.n ⟨?_, ?_⟩ <;> focus (first | rfl | (simp; done) | omega)) | refine Bx.a ?_ _ | refine Bx.d ?_ | refine Bx.e ?_ _ | refine Bx.p (by first | omega | simp <;> omega) ?_)) hk2
  have hB2 : Blk w2 b 60 [.float .f64 x, .float .f64 y, .float .f64 z, .float .f64 m, .int .u8 d, .bool f] := Blk.keep (by with_reducible (repeat first | assumption | (refine Bx.n ⟨?_, ?_⟩ <;> focus (first | rfl | (simp; done) | omega)) | refine Bx.a ?_ _ | refine Bx.d ?_ | refine Bx.e ?_ _ | refine Bx.p (by first | omega | simp <;> omega) ?_)) hk2
  have hkk : Stab.Keeps w w2 := by with_reducible (repeat first | exact Kx.r _ | assumption | refine Kx.a ?_ _ | refine Kx.d ?_ | refine Kx.e ?_ _ | refine Kx.s (by simp <;> omega) ?_ _ | refine Kx.t ?_ (by assumption))
  clear hB hk2 hlt
  have g0 := hG.cell (i := 0) rfl
  have g1 := hG.cell (i := 1) rfl
  have gf := hG.free
  have gl := hG.lt
  have r0 := hR.cell (i := 0) rfl
  have r1 := hR.cell (i := 1) rfl
  have r2 := hR.cell (i := 2) rfl
  have r3 := hR.cell (i := 3) rfl
  have r4 := hR.cell (i := 4) rfl
  have r5 := hR.cell (i := 5) rfl
  have rf := hR.free
  have rl := hR.lt
  have b0 := hB2.cell (i := 0) rfl
  have b1 := hB2.cell (i := 1) rfl
  have b2 := hB2.cell (i := 2) rfl
  have b3 := hB2.cell (i := 3) rfl
  have b4 := hB2.cell (i := 4) rfl
  have b5 := hB2.cell (i := 5) rfl
  have bf := hB2.free
  have bl := hB2.lt
  go_wp2_with fail
  refine bodyPost_ret (v := .agg #[.float .f64 x, .float .f64 y, .float .f64 z, .float .f64 m, .int .u8 d, .bool f]) (by simp [results, Tryz.results46, go_sem, *]) rfl ⟨rfl, ?_⟩
  with_reducible (repeat first | exact Kx.r _ | assumption | refine Kx.a ?_ _ | refine Kx.d ?_ | refine Kx.e ?_ _ | refine Kx.s (by simp <;> omega) ?_ _ | refine Kx.t ?_ (by assumption))
theorem assLs_ (b : Nat) (w : World) : (Instr.typeAssert (.iface 125 (.pointer (some ⟨b, 0, none⟩))) 20 125 false).run Tryz.prog w = .ok (.pointer (some ⟨b, 0, none⟩)) w := by kernel_rfl
set_option maxRecDepth 100000 in
theorem mustLs_ (a : Option Addr) (n c d : Nat) (b : Nat) (w : World) (hB : Blk w b 51 [.int .u8 d, .slice a n c]) : Calls Tryz.prog 48 #[.agg #[.int .i64 2, .iface 125 (.pointer (some ⟨b, 0, none⟩))]] w (One w (.agg #[.int .u8 d, .slice a n c])) := by
  have hA := fun w' => assLs_ b w'
  have hC := fun w' => check_ 2 125 b w'
  have hlt := hB.lt
  go_enter Tryz.func48, Tryz.ntmps48
  go_wp2_with fail
  refine (hC _).mono ?_
  clear hC
  rintro e w2 ⟨rfl, hk2⟩
  have hG : Blk w2 w.heap.size 63 [.int .i64 2, .iface 125 (.pointer (some ⟨b, 0, none⟩))] := Blk.keep (by with_reducible (repeat first | assumption | (refine Bx.n ⟨?_, ?_⟩ <;> focus (first | rfl | (simp; done) | omega)) | refine Bx.a ?_ _ | refine Bx.d ?_ | refine Bx.e ?_ _ | refine Bx.p (by first | omega | simp <;> omega) ?_)) hk2
  have hR : Blk w2 (w.heap.size + 1) 51 [.int .u8 0, .slice none 0 0] := Blk.keep (by with_reducible (repeat first | assumption | (refine Bx.n ⟨?_, ?_⟩ <;> focus (first | rfl | (simp; done) | omega)) | refine Bx.a ?_ _ | refine Bx.d ?_ | refine Bx.e ?_ _ | refine Bx.p (by first | omega | simp <;> omega) ?_)) hk2
  have hB2 : Blk w2 b 51 [.int .u8 d, .slice a n c] := Blk.keep (by with_reducible (repeat first | assumption | (refine Bx.n ⟨?_, ?_⟩ <;> focus (first | rfl | (simp; done) | omega)) | refine Bx.a ?_ _ | refine Bx.d ?_ | refine Bx.e ?_ _ | refine Bx.p (by first | omega | simp <;> omega) ?_)) hk2
  have hkk : Stab.Keeps w w2 := by with_reducible (repeat first | exact Kx.r _ | assumption | refine Kx.a ?_ _ | refine Kx.d ?_ | refine Kx.e ?_ _ | refine Kx.s (by simp <;> omega) ?_ _ | refine Kx.t ?_ (by assumption))
  clear hB hk2 hlt
  have g0 := hG.cell (i := 0) rfl
  have g1 := hG.cell (i := 1) rfl
  have gf := hG.free
  have gl := hG.lt
  have r0 := hR.cell (i := 0) rfl
  have r1 := hR.cell (i := 1) rfl
  have rf := hR.free
  have rl := hR.lt
  have b0 := hB2.cell (i := 0) rfl
  have b1 := hB2.cell (i := 1) rfl
  have bf := hB2.free
  have bl := hB2.lt
  go_wp2_with fail
  refine bodyPost_ret (v := .agg #[.int .u8 d, .slice a n c]) (by simp [results, Tryz.results48, go_sem, *]) rfl ⟨rfl, ?_⟩
  with_reducible (repeat first | exact Kx.r _ | assumption | refine Kx.a ?_ _ | refine Kx.d ?_ | refine Kx.e ?_ _ | refine Kx.s (by simp <;> omega) ?_ _ | refine Kx.t ?_ (by assumption))
theorem assPy_ (b : Nat) (w : World) : (Instr.typeAssert (.iface 128 (.pointer (some ⟨b, 0, none⟩))) 20 128 false).run Tryz.prog w = .ok (.pointer (some ⟨b, 0, none⟩)) w := by kernel_rfl
set_option maxRecDepth 100000 in
theorem mustPy_ (a : Option Addr) (n c d : Nat) (b : Nat) (w : World) (hB : Blk w b 78 [.slice a n c, .int .u8 d]) : Calls Tryz.prog 50 #[.agg #[.int .i64 3, .iface 128 (.pointer (some ⟨b, 0, none⟩))]] w (One w (.agg #[.slice a n c, .int .u8 d])) := by
  have hA := fun w' => assPy_ b w'
  have hC := fun w' => check_ 3 128 b w'
  have hlt := hB.lt
  go_enter Tryz.func50, Tryz.ntmps50
  go_wp2_with fail
  refine (hC _).mono ?_
  clear hC
  rintro e w2 ⟨rfl, hk2⟩
  have hG : Blk w2 w.heap.size 63 [.int .i64 3, .iface 128 (.pointer (some ⟨b, 0, none⟩))] := Blk.keep (by with_reducible (repeat first | assumption | (refine Bx.n ⟨?_, ?_⟩ <;> focus (first | rfl | (simp; done) | omega)) | refine Bx.a ?_ _ | refine Bx.d ?_ | refine Bx.e ?_ _ | refine Bx.p (by first | omega | simp <;> omega) ?_)) hk2
  have hR : Blk w2 (w.heap.size + 1) 78 [.slice none 0 0, .int .u8 0] := Blk.keep (by with_reducible (repeat first | assumption | (refine Bx.n ⟨?_, ?_⟩ <;> focus (first | rfl | (simp; done) | omega)) | refine Bx.a ?_ _ | refine Bx.d ?_ | refine Bx.e ?_ _ | refine Bx.p (by first | omega | simp <;> omega) ?_)) hk2
  have hB2 : Blk w2 b 78 [.slice a n c, .int .u8 d] := Blk.keep (by with_reducible (repeat first | assumption | (refine Bx.n ⟨?_, ?_⟩ <;> focus (first | rfl | (simp; done) | omega)) | refine Bx.a ?_ _ | refine Bx.d ?_ | refine Bx.e ?_ _ | refine Bx.p (by first | omega | simp <;> omega) ?_)) hk2
  have hkk : Stab.Keeps w w2 := by with_reducible (repeat first | exact Kx.r _ | assumption | refine Kx.a ?_ _ | refine Kx.d ?_ | refine Kx.e ?_ _ | refine Kx.s (by simp <;> omega) ?_ _ | refine Kx.t ?_ (by assumption))
  clear hB hk2 hlt
  have g0 := hG.cell (i := 0) rfl
  have g1 := hG.cell (i := 1) rfl
  have gf := hG.free
  have gl := hG.lt
  have r0 := hR.cell (i := 0) rfl
  have r1 := hR.cell (i := 1) rfl
  have rf := hR.free
  have rl := hR.lt
  have b0 := hB2.cell (i := 0) rfl
  have b1 := hB2.cell (i := 1) rfl
  have bf := hB2.free
  have bl := hB2.lt
  go_wp2_with fail
  refine bodyPost_ret (v := .agg #[.slice a n c, .int .u8 d]) (by simp [results, Tryz.results50, go_sem, *]) rfl ⟨rfl, ?_⟩
  with_reducible (repeat first | exact Kx.r _ | assumption | refine Kx.a ?_ _ | refine Kx.d ?_ | refine Kx.e ?_ _ | refine Kx.s (by simp <;> omega) ?_ _ | refine Kx.t ?_ (by assumption))
theorem assMp_ (b : Nat) (w : World) : (Instr.typeAssert (.iface 131 (.pointer (some ⟨b, 0, none⟩))) 20 131 false).run Tryz.prog w = .ok (.pointer (some ⟨b, 0, none⟩)) w := by kernel_rfl
set_option maxRecDepth 100000 in
theorem mustMp_ (a : Option Addr) (n c d : Nat) (b : Nat) (w : World) (hB : Blk w b 82 [.slice a n c, .int .u8 d]) : Calls Tryz.prog 52 #[.agg #[.int .i64 4, .iface 131 (.pointer (some ⟨b, 0, none⟩))]] w (One w (.agg #[.slice a n c, .int .u8 d])) := by
  have hA := fun w' => assMp_ b w'
  have hC := fun w' => check_ 4 131 b w'
  have hlt := hB.lt
  go_enter Tryz.func52, Tryz.ntmps52
  go_wp2_with fail
  refine (hC _).mono ?_
  clear hC
  rintro e w2 ⟨rfl, hk2⟩
  have hG : Blk w2 w.heap.size 63 [.int .i64 4, .iface 131 (.pointer (some ⟨b, 0, none⟩))] := Blk.keep (by with_reducible (repeat first | assumption | (refine Bx.n ⟨?_, ?_⟩ <;> focus (first | rfl | (simp; done) | omega)) | refine Bx.a ?_ _ | refine Bx.d ?_ | refine Bx.e ?_ _ | refine Bx.p (by first | omega | simp <;> omega) ?_)) hk2
  have hR : Blk w2 (w.heap.size + 1) 82 [.slice none 0 0, .int .u8 0] := Blk.keep (by with_reducible (repeat first | assumption | (refine Bx.n ⟨?_, ?_⟩ <;> focus (first | rfl | (simp; done) | omega)) | refine Bx.a ?_ _ | refine Bx.d ?_ | refine Bx.e ?_ _ | refine Bx.p (by first | omega | simp <;> omega) ?_)) hk2
  have hB2 : Blk w2 b 82 [.slice a n c, .int .u8 d] := Blk.keep (by with_reducible (repeat first | assumption | (refine Bx.n ⟨?_, ?_⟩ <;> focus (first | rfl | (simp; done) | omega)) | refine Bx.a ?_ _ | refine Bx.d ?_ | refine Bx.e ?_ _ | refine Bx.p (by first | omega | simp <;> omega) ?_)) hk2
  have hkk : Stab.Keeps w w2 := by with_reducible (repeat first | exact Kx.r _ | assumption | refine Kx.a ?_ _ | refine Kx.d ?_ | refine Kx.e ?_ _ | refine Kx.s (by simp <;> omega) ?_ _ | refine Kx.t ?_ (by assumption))
  clear hB hk2 hlt
  have g0 := hG.cell (i := 0) rfl
  have g1 := hG.cell (i := 1) rfl
  have gf := hG.free
  have gl := hG.lt
  have r0 := hR.cell (i := 0) rfl
  have r1 := hR.cell (i := 1) rfl
  have rf := hR.free
  have rl := hR.lt
  have b0 := hB2.cell (i := 0) rfl
  have b1 := hB2.cell (i := 1) rfl
  have bf := hB2.free
  have bl := hB2.lt
  go_wp2_with fail
  refine bodyPost_ret (v := .agg #[.slice a n c, .int .u8 d]) (by simp [results, Tryz.results52, go_sem, *]) rfl ⟨rfl, ?_⟩
  with_reducible (repeat first | exact Kx.r _ | assumption | refine Kx.a ?_ _ | refine Kx.d ?_ | refine Kx.e ?_ _ | refine Kx.s (by simp <;> omega) ?_ _ | refine Kx.t ?_ (by assumption))
theorem assMl_ (b : Nat) (w : World) : (Instr.typeAssert (.iface 134 (.pointer (some ⟨b, 0, none⟩))) 20 134 false).run Tryz.prog w = .ok (.pointer (some ⟨b, 0, none⟩)) w := by kernel_rfl
set_option maxRecDepth 100000 in
theorem mustMl_ (a : Option Addr) (n c d : Nat) (b : Nat) (w : World) (hB : Blk w b 85 [.slice a n c, .int .u8 d]) : Calls Tryz.prog 54 #[.agg #[.int .i64 5, .iface 134 (.pointer (some ⟨b, 0, none⟩))]] w (One w (.agg #[.slice a n c, .int .u8 d])) := by
  have hA := fun w' => assMl_ b w'
  have hC := fun w' => check_ 5 134 b w'
  have hlt := hB.lt
  go_enter Tryz.func54, Tryz.ntmps54
  go_wp2_with fail
  refine (hC _).mono ?_
  clear hC
  rintro e w2 ⟨rfl, hk2⟩
  have hG : Blk w2 w.heap.size 63 [.int .i64 5, .iface 134 (.pointer (some ⟨b, 0, none⟩))] := Blk.keep (by with_reducible (repeat first | assumption | (refine Bx.n ⟨?_, ?_⟩ <;> focus (first | rfl | (simp; done) | omega)) | refine Bx.a ?_ _ | refine Bx.d ?_ | refine Bx.e ?_ _ | refine Bx.p (by first | omega | simp <;> omega) ?_)) hk2
  have hR : Blk w2 (w.heap.size + 1) 85 [.slice none 0 0, .int .u8 0] := Blk.keep (by with_reducible (repeat first | assumption | (refine Bx.n ⟨?_, ?_⟩ <;> focus (first | rfl | (simp; done) | omega)) | refine Bx.a ?_ _ | refine Bx.d ?_ | refine Bx.e ?_ _ | refine Bx.p (by first | omega | simp <;> omega) ?_)) hk2
  have hB2 : Blk w2 b 85 [.slice a n c, .int .u8 d] := Blk.keep (by with_reducible (repeat first | assumption | (refine Bx.n ⟨?_, ?_⟩ <;> focus (first | rfl | (simp; done) | omega)) | refine Bx.a ?_ _ | refine Bx.d ?_ | refine Bx.e ?_ _ | refine Bx.p (by first | omega | simp <;> omega) ?_)) hk2
  have hkk : Stab.Keeps w w2 := by with_reducible (repeat first | exact Kx.r _ | assumption | refine Kx.a ?_ _ | refine Kx.d ?_ | refine Kx.e ?_ _ | refine Kx.s (by simp <;> omega) ?_ _ | refine Kx.t ?_ (by assumption))
  clear hB hk2 hlt
  have g0 := hG.cell (i := 0) rfl
  have g1 := hG.cell (i := 1) rfl
  have gf := hG.free
  have gl := hG.lt
  have r0 := hR.cell (i := 0) rfl
  have r1 := hR.cell (i := 1) rfl
  have rf := hR.free
  have rl := hR.lt
  have b0 := hB2.cell (i := 0) rfl
  have b1 := hB2.cell (i := 1) rfl
  have bf := hB2.free
  have bl := hB2.lt
  go_wp2_with fail
  refine bodyPost_ret (v := .agg #[.slice a n c, .int .u8 d]) (by simp [results, Tryz.results54, go_sem, *]) rfl ⟨rfl, ?_⟩
  with_reducible (repeat first | exact Kx.r _ | assumption | refine Kx.a ?_ _ | refine Kx.d ?_ | refine Kx.e ?_ _ | refine Kx.s (by simp <;> omega) ?_ _ | refine Kx.t ?_ (by assumption))
theorem assMy_ (b : Nat) (w : World) : (Instr.typeAssert (.iface 137 (.pointer (some ⟨b, 0, none⟩))) 20 137 false).run Tryz.prog w = .ok (.pointer (some ⟨b, 0, none⟩)) w := by kernel_rfl
set_option maxRecDepth 100000 in
theorem mustMy_ (a : Option Addr) (n c d : Nat) (b : Nat) (w : World) (hB : Blk w b 89 [.slice a n c, .int .u8 d]) : Calls Tryz.prog 56 #[.agg #[.int .i64 6, .iface 137 (.pointer (some ⟨b, 0, none⟩))]] w (One w (.agg #[.slice a n c, .int .u8 d])) := by
  have hA := fun w' => assMy_ b w'
  have hC := fun w' => check_ 6 137 b w'
  have hlt := hB.lt
  go_enter Tryz.func56, Tryz.ntmps56
  go_wp2_with fail
  refine (hC _).mono ?_
  clear hC
  rintro e w2 ⟨rfl, hk2⟩
  have hG : Blk w2 w.heap.size 63 [.int .i64 6, .iface 137 (.pointer (some ⟨b, 0, none⟩))] := Blk.keep (by with_reducible (repeat first | assumption | (refine Bx.n ⟨?_, ?_⟩ <;> focus (first | rfl | (simp; done) | omega)) | refine Bx.a ?_ _ | refine Bx.d ?_ | refine Bx.e ?_ _ | refine Bx.p (by first | omega | simp <;> omega) ?_)) hk2
  have hR : Blk w2 (w.heap.size + 1) 89 [.slice none 0 0, .int .u8 0] := Blk.keep (by with_reducible (repeat first | assumption | (refine Bx.n ⟨?_, ?_⟩ <;> focus (first | rfl | (simp; done) | omega)) | refine Bx.a ?_ _ | refine Bx.d ?_ | refine Bx.e ?_ _ | refine Bx.p (by first | omega | simp <;> omega) ?_)) hk2
  have hB2 : Blk w2 b 89 [.slice a n c, .int .u8 d] := Blk.keep (by with_reducible (repeat first | assumption | (refine Bx.n ⟨?_, ?_⟩ <;> focus (first | rfl | (simp; done) | omega)) | refine Bx.a ?_ _ | refine Bx.d ?_ | refine Bx.e ?_ _ | refine Bx.p (by first | omega | simp <;> omega) ?_)) hk2
  have hkk : Stab.Keeps w w2 := by with_reducible (repeat first | exact Kx.r _ | assumption | refine Kx.a ?_ _ | refine Kx.d ?_ | refine Kx.e ?_ _ | refine Kx.s (by simp <;> omega) ?_ _ | refine Kx.t ?_ (by assumption))
  clear hB hk2 hlt
  have g0 := hG.cell (i := 0) rfl
  have g1 := hG.cell (i := 1) rfl
  have gf := hG.free
  have gl := hG.lt
  have r0 := hR.cell (i := 0) rfl
  have r1 := hR.cell (i := 1) rfl
  have rf := hR.free
  have rl := hR.lt
  have b0 := hB2.cell (i := 0) rfl
  have b1 := hB2.cell (i := 1) rfl
  have bf := hB2.free
  have bl := hB2.lt
  go_wp2_with fail
  refine bodyPost_ret (v := .agg #[.slice a n c, .int .u8 d]) (by simp [results, Tryz.results56, go_sem, *]) rfl ⟨rfl, ?_⟩
  with_reducible (repeat first | exact Kx.r _ | assumption | refine Kx.a ?_ _ | refine Kx.d ?_ | refine Kx.e ?_ _ | refine Kx.s (by simp <;> omega) ?_ _ | refine Kx.t ?_ (by assumption))
theorem assGc_ (b : Nat) (w : World) : (Instr.typeAssert (.iface 141 (.pointer (some ⟨b, 0, none⟩))) 20 141 false).run Tryz.prog w = .ok (.pointer (some ⟨b, 0, none⟩)) w := by kernel_rfl
set_option maxRecDepth 100000 in
theorem mustGc_ (a : Option Addr) (n c d : Nat) (b : Nat) (w : World) (hB : Blk w b 93 [.slice a n c, .int .u8 d]) : Calls Tryz.prog 44 #[.agg #[.int .i64 0, .iface 141 (.pointer (some ⟨b, 0, none⟩))]] w (One w (.agg #[.slice a n c, .int .u8 d])) := by
  have hA := fun w' => assGc_ b w'
  have hQ := fun w' => eqGc_ b w'
  have hQ2 := fun w' x y => eqGcG_ b w' x y
  have hC := fun w' => check_ 0 141 b w'
  have hlt := hB.lt
  go_enter Tryz.func44, Tryz.ntmps44
  go_wp2_with fail
  refine (hC _).mono ?_
  clear hC
  rintro e w2 ⟨rfl, hk2⟩
  have hG : Blk w2 w.heap.size 63 [.int .i64 0, .iface 141 (.pointer (some ⟨b, 0, none⟩))] := Blk.keep (by with_reducible (repeat first | assumption | (refine Bx.n ⟨?_, ?_⟩ <;> focus (first | rfl | (simp; done) | omega)) | refine Bx.a ?_ _ | refine Bx.d ?_ | refine Bx.e ?_ _ | refine Bx.p (by first | omega | simp <;> omega) ?_)) hk2
  have hR : Blk w2 (w.heap.size + 1) 93 [.slice none 0 0, .int .u8 0] := Blk.keep (by with_reducible (repeat first | assumption | (refine Bx.n ⟨?_, ?_⟩ <;> focus (first | rfl | (simp; done) | omega)) | refine Bx.a ?_ _ | refine Bx.d ?_ | refine Bx.e ?_ _ | refine Bx.p (by first | omega | simp <;> omega) ?_)) hk2
  have hB2 : Blk w2 b 93 [.slice a n c, .int .u8 d] := Blk.keep (by with_reducible (repeat first | assumption | (refine Bx.n ⟨?_, ?_⟩ <;> focus (first | rfl | (simp; done) | omega)) | refine Bx.a ?_ _ | refine Bx.d ?_ | refine Bx.e ?_ _ | refine Bx.p (by first | omega | simp <;> omega) ?_)) hk2
  have hkk : Stab.Keeps w w2 := by with_reducible (repeat first | exact Kx.r _ | assumption | refine Kx.a ?_ _ | refine Kx.d ?_ | refine Kx.e ?_ _ | refine Kx.s (by simp <;> omega) ?_ _ | refine Kx.t ?_ (by assumption))
  clear hB hk2 hlt
  have g0 := hG.cell (i := 0) rfl
  have g1 := hG.cell (i := 1) rfl
  have gf := hG.free
  have gl := hG.lt
  have r0 := hR.cell (i := 0) rfl
  have r1 := hR.cell (i := 1) rfl
  have rf := hR.free
  have rl := hR.lt
  have b0 := hB2.cell (i := 0) rfl
  have b1 := hB2.cell (i := 1) rfl
  have bf := hB2.free
  have bl := hB2.lt
  go_wp2_with fail
  refine bodyPost_ret (v := .agg #[.slice a n c, .int .u8 d]) (by simp [results, Tryz.results44, go_sem, *]) rfl ⟨rfl, ?_⟩
  with_reducible (repeat first | exact Kx.r _ | assumption | refine Kx.a ?_ _ | refine Kx.d ?_ | refine Kx.e ?_ _ | refine Kx.s (by simp <;> omega) ?_ _ | refine Kx.t ?_ (by assumption))
set_option maxRecDepth 100000 in
theorem typeMp_ {F : Nat → Prop} (cs : List Value) (p : Pg) (w w0 : World) (h : MpR w0 F cs p) : Calls Tryz.prog 168 #[.agg cs.toArray] w (One w (.int .u8 p.dim)) := by
  obtain ⟨d, a, n, cap, css, kids, rfl, rfl, h⟩ := h
  show Calls _ _ _ _ (One w (.int .u8 d))
  go_enter Tryz.func168, Tryz.ntmps168
  go_wp2
  go_ret
  refine ⟨rfl, ?_⟩
  with_reducible (repeat first | exact Kx.r _ | assumption | refine Kx.a ?_ _ | refine Kx.d ?_ | refine Kx.e ?_ _ | refine Kx.s (by simp <;> omega) ?_ _ | refine Kx.t ?_ (by assumption))
set_option maxRecDepth 100000 in
theorem typeMl_ {F : Nat → Prop} (cs : List Value) (p : Pg) (w w0 : World) (h : MlR w0 F cs p) : Calls Tryz.prog 169 #[.agg cs.toArray] w (One w (.int .u8 p.dim)) := by
  obtain ⟨d, a, n, cap, css, kids, rfl, rfl, h⟩ := h
  show Calls _ _ _ _ (One w (.int .u8 d))
  go_enter Tryz.func169, Tryz.ntmps169
  go_wp2
  go_ret
  refine ⟨rfl, ?_⟩
  with_reducible (repeat first | exact Kx.r _ | assumption | refine Kx.a ?_ _ | refine Kx.d ?_ | refine Kx.e ?_ _ | refine Kx.s (by simp <;> omega) ?_ _ | refine Kx.t ?_ (by assumption))
set_option maxRecDepth 100000 in
theorem typeMy_ {F : Nat → Prop} (cs : List Value) (p : Pg) (w w0 : World) (h : MyR w0 F cs p) : Calls Tryz.prog 170 #[.agg cs.toArray] w (One w (.int .u8 p.dim)) := by
  obtain ⟨d, a, n, cap, css, kids, rfl, rfl, h⟩ := h
  show Calls _ _ _ _ (One w (.int .u8 d))
  go_enter Tryz.func170, Tryz.ntmps170
  go_wp2
  go_ret
  refine ⟨rfl, ?_⟩
  with_reducible (repeat first | exact Kx.r _ | assumption | refine Kx.a ?_ _ | refine Kx.d ?_ | refine Kx.e ?_ _ | refine Kx.s (by simp <;> omega) ?_ _ | refine Kx.t ?_ (by assumption))
set_option maxRecDepth 100000 in
theorem typeGc_ {F : Nat → Prop} (cs : List Value) (p : Pg) (w w0 : World) (h : GcR w0 F cs p) : Calls Tryz.prog 167 #[.agg cs.toArray] w (One w (.int .u8 p.dim)) := by
  obtain ⟨d, a, n, cap, css, kids, rfl, rfl, h⟩ := h
  show Calls _ _ _ _ (One w (.int .u8 d))
  go_enter Tryz.func167, Tryz.ntmps167
  go_wp2
  go_ret
  refine ⟨rfl, ?_⟩
  with_reducible (repeat first | exact Kx.r _ | assumption | refine Kx.a ?_ _ | refine Kx.d ?_ | refine Kx.e ?_ _ | refine Kx.s (by simp <;> omega) ?_ _ | refine Kx.t ?_ (by assumption))
set_option maxRecDepth 100000 in
set_option maxHeartbeats 2000000 in
theorem typeGeo_ {F : Nat → Prop} (cs : List Value) (p : Pg) (w w0 : World) (hk : Stab.Keeps w0 w) (h : GeoR w0 F cs p) : Calls Tryz.prog 128 #[.agg cs.toArray] w (One w (.int .u8 p.dim)) := by
  cases h with
  | pt b cs p hF hB h =>
    obtain ⟨x, y, z, m, d, f, rfl⟩ := h.six
    have hM := fun w' (hk' : Stab.Keeps w w') => mustPt_ x y z m d f b w' (Blk.keep (Blk.keep hB hk) hk')
    have hT := fun w' => typePt_ [.float .f64 x, .float .f64 y, .float .f64 z, .float .f64 m, .int .u8 d, .bool f] _ w' w0 h
    generalize Pg.dim _ = D at *
    clear hB h
    go_enter Tryz.func128, Tryz.ntmps128
    go_wp2_with fail
    refine (hM _ (by with_reducible (repeat first | exact Kx.r _ | assumption | refine Kx.a ?_ _ | refine Kx.d ?_ | refine Kx.e ?_ _ | refine Kx.s (by simp <;> omega) ?_ _ | refine Kx.t ?_ (by assumption)))).mono ?_
    clear hM
    rintro e w2 ⟨rfl, hk2⟩
    go_wp2_with fail
    refine (hT _).mono ?_
    clear hT
    rintro e w3 ⟨rfl, hk3⟩
    go_wp2_with fail
    go_ret
    refine ⟨rfl, ?_⟩
    with_reducible (repeat first | exact Kx.r _ | assumption | refine Kx.a ?_ _ | refine Kx.d ?_ | refine Kx.e ?_ _ | refine Kx.s (by simp <;> omega) ?_ _ | refine Kx.t ?_ (by assumption))
  | ls b cs p hF hB h =>
    obtain ⟨d, a, n, c, rfl⟩ := h.two
    have hM := fun w' (hk' : Stab.Keeps w w') => mustLs_ a n c d b w' (Blk.keep (Blk.keep hB hk) hk')
    have hT := fun w' => typeLs_ [.int .u8 d, .slice a n c] _ w' w0 h
    generalize Pg.dim _ = D at *
    clear hB h
    go_enter Tryz.func128, Tryz.ntmps128
    go_wp2_with fail
    refine (hM _ (by with_reducible (repeat first | exact Kx.r _ | assumption | refine Kx.a ?_ _ | refine Kx.d ?_ | refine Kx.e ?_ _ | refine Kx.s (by simp <;> omega) ?_ _ | refine Kx.t ?_ (by assumption)))).mono ?_
    clear hM
    rintro e w2 ⟨rfl, hk2⟩
    go_wp2_with fail
    refine (hT _).mono ?_
    clear hT
    rintro e w3 ⟨rfl, hk3⟩
    go_wp2_with fail
    go_ret
    refine ⟨rfl, ?_⟩
    with_reducible (repeat first | exact Kx.r _ | assumption | refine Kx.a ?_ _ | refine Kx.d ?_ | refine Kx.e ?_ _ | refine Kx.s (by simp <;> omega) ?_ _ | refine Kx.t ?_ (by assumption))
  | py b cs p hF hB h =>
    obtain ⟨a, n, c, d, rfl⟩ := h.two
    have hM := fun w' (hk' : Stab.Keeps w w') => mustPy_ a n c d b w' (Blk.keep (Blk.keep hB hk) hk')
    have hT := fun w' => typePy_ [.slice a n c, .int .u8 d] _ w' w0 h
    generalize Pg.dim _ = D at *
    clear hB h
    go_enter Tryz.func128, Tryz.ntmps128
    go_wp2_with fail
    refine (hM _ (by with_reducible (repeat first | exact Kx.r _ | assumption | refine Kx.a ?_ _ | refine Kx.d ?_ | refine Kx.e ?_ _ | refine Kx.s (by simp <;> omega) ?_ _ | refine Kx.t ?_ (by assumption)))).mono ?_
    clear hM
    rintro e w2 ⟨rfl, hk2⟩
    go_wp2_with fail
    refine (hT _).mono ?_
    clear hT
    rintro e w3 ⟨rfl, hk3⟩
    go_wp2_with fail
    go_ret
    refine ⟨rfl, ?_⟩
    with_reducible (repeat first | exact Kx.r _ | assumption | refine Kx.a ?_ _ | refine Kx.d ?_ | refine Kx.e ?_ _ | refine Kx.s (by simp <;> omega) ?_ _ | refine Kx.t ?_ (by assumption))
  | mp b cs p hF hB h =>
    obtain ⟨a, n, c, d, rfl⟩ := h.two
    have hM := fun w' (hk' : Stab.Keeps w w') => mustMp_ a n c d b w' (Blk.keep (Blk.keep hB hk) hk')
    have hT := fun w' => typeMp_ [.slice a n c, .int .u8 d] _ w' w0 h
    generalize Pg.dim _ = D at *
    clear hB h
    go_enter Tryz.func128, Tryz.ntmps128
    go_wp2_with fail
    refine (hM _ (by with_reducible (repeat first | exact Kx.r _ | assumption | refine Kx.a ?_ _ | refine Kx.d ?_ | refine Kx.e ?_ _ | refine Kx.s (by simp <;> omega) ?_ _ | refine Kx.t ?_ (by assumption)))).mono ?_
    clear hM
    rintro e w2 ⟨rfl, hk2⟩
    go_wp2_with fail
    refine (hT _).mono ?_
    clear hT
    rintro e w3 ⟨rfl, hk3⟩
    go_wp2_with fail
    go_ret
    refine ⟨rfl, ?_⟩
    with_reducible (repeat first | exact Kx.r _ | assumption | refine Kx.a ?_ _ | refine Kx.d ?_ | refine Kx.e ?_ _ | refine Kx.s (by simp <;> omega) ?_ _ | refine Kx.t ?_ (by assumption))
  | ml b cs p hF hB h =>
    obtain ⟨a, n, c, d, rfl⟩ := h.two
    have hM := fun w' (hk' : Stab.Keeps w w') => mustMl_ a n c d b w' (Blk.keep (Blk.keep hB hk) hk')
    have hT := fun w' => typeMl_ [.slice a n c, .int .u8 d] _ w' w0 h
    generalize Pg.dim _ = D at *
    clear hB h
    go_enter Tryz.func128, Tryz.ntmps128
    go_wp2_with fail
    refine (hM _ (by with_reducible (repeat first | exact Kx.r _ | assumption | refine Kx.a ?_ _ | refine Kx.d ?_ | refine Kx.e ?_ _ | refine Kx.s (by simp <;> omega) ?_ _ | refine Kx.t ?_ (by assumption)))).mono ?_
    clear hM
    rintro e w2 ⟨rfl, hk2⟩
    go_wp2_with fail
    refine (hT _).mono ?_
    clear hT
    rintro e w3 ⟨rfl, hk3⟩
    go_wp2_with fail
    go_ret
    refine ⟨rfl, ?_⟩
    with_reducible (repeat first | exact Kx.r _ | assumption | refine Kx.a ?_ _ | refine Kx.d ?_ | refine Kx.e ?_ _ | refine Kx.s (by simp <;> omega) ?_ _ | refine Kx.t ?_ (by assumption))
  | my b cs p hF hB h =>
    obtain ⟨a, n, c, d, rfl⟩ := h.two
    have hM := fun w' (hk' : Stab.Keeps w w') => mustMy_ a n c d b w' (Blk.keep (Blk.keep hB hk) hk')
    have hT := fun w' => typeMy_ [.slice a n c, .int .u8 d] _ w' w0 h
    generalize Pg.dim _ = D at *
    clear hB h
    go_enter Tryz.func128, Tryz.ntmps128
    go_wp2_with fail
    refine (hM _ (by with_reducible (repeat first | exact Kx.r _ | assumption | refine Kx.a ?_ _ | refine Kx.d ?_ | refine Kx.e ?_ _ | refine Kx.s (by simp <;> omega) ?_ _ | refine Kx.t ?_ (by assumption)))).mono ?_
    clear hM
    rintro e w2 ⟨rfl, hk2⟩
    go_wp2_with fail
    refine (hT _).mono ?_
    clear hT
    rintro e w3 ⟨rfl, hk3⟩
    go_wp2_with fail
    go_ret
    refine ⟨rfl, ?_⟩
    with_reducible (repeat first | exact Kx.r _ | assumption | refine Kx.a ?_ _ | refine Kx.d ?_ | refine Kx.e ?_ _ | refine Kx.s (by simp <;> omega) ?_ _ | refine Kx.t ?_ (by assumption))
  | gc b d a n cap css kids hF hB hd hn lc lx each sz is hdim =>
    have hM := fun w' (hk' : Stab.Keeps w w') => mustGc_ a n cap d b w' (Blk.keep (Blk.keep hB hk) hk')
    have hT := fun w' => typeGc_ (F := F) [.slice a n cap, .int .u8 (d : Nat)] (.node 0 d [] kids) w' w0 ⟨d, a, n, cap, css, kids, rfl, rfl, hd, hn, ⟨lc, lx, each, sz, is⟩, hdim⟩
    show Calls _ _ _ _ (One w (.int .u8 d))
    simp only [Pg.dim] at hT
    clear hB sz is hdim each
    go_enter Tryz.func128, Tryz.ntmps128
    go_wp2_with fail
    refine (hM _ (by with_reducible (repeat first | exact Kx.r _ | assumption | refine Kx.a ?_ _ | refine Kx.d ?_ | refine Kx.e ?_ _ | refine Kx.s (by simp <;> omega) ?_ _ | refine Kx.t ?_ (by assumption)))).mono ?_
    clear hM
    rintro e w2 ⟨rfl, hk2⟩
    go_wp2_with fail
    refine (hT _).mono ?_
    clear hT
    rintro e w3 ⟨rfl, hk3⟩
    go_wp2_with fail
    go_ret
    refine ⟨rfl, ?_⟩
    with_reducible (repeat first | exact Kx.r _ | assumption | refine Kx.a ?_ _ | refine Kx.d ?_ | refine Kx.e ?_ _ | refine Kx.s (by simp <;> omega) ?_ _ | refine Kx.t ?_ (by assumption))
end Go.Proofs.YtinbkonmlgediaaGreat
set_option linter.unusedVariables false
set_option linter.unusedSimpArgs false
namespace Go.Proofs.YtinbkonmlgediaaGreat
open Go.RowKit Go.Fl Go.Sl Go.Pg Go.Ch Go.Kf
theorem Pg.ind {P : Pg → Prop} (h : ∀ k d ps kids, (∀ c ∈ kids, P c) → P (.node k d ps kids)) : ∀ p, P p
  | .node k d ps kids => h k d ps kids (fun c hc => Pg.ind h c)
termination_by p => SizeOf.sizeOf p
decreasing_by
  have := List.sizeOf_lt_of_mem hc
  simp
  omega
/-- what is asked of the parts -/
def ForceOk (d' : Nat) (c : Pg) : Prop := ∀ (G : Nat → Prop) (cs : List Value) (w : World), GeoR w G cs c → Calls Tryz.prog 127 #[.agg cs.toArray, .int .u8 d'] w (RetR w G GeoR (forceP d' c))
set_option maxRecDepth 100000 in
set_option maxHeartbeats 2000000 in
theorem forceGc_ {F : Nat → Prop} (d' : Nat) (hd' : d' < 4) (cs : List Value) (p : Pg) (w : World) (h : GcR w F cs p) (hFP : ∀ c ∈ p.kids, ForceOk d' c) : Calls Tryz.prog 87 #[.agg cs.toArray, .int .u8 d'] w (RetR w F GcR (forceP d' p)) := by
  obtain ⟨d, a, n, cap, css, kids, rfl, rfl, hd, hn, hR, hdim⟩ := h
  have hmk := fun w => run_makeN (P := Tryz.prog) 91 63 _ 2 24 n Tryz.underlying91 infoGeo (by omega) (by omega) w
  have hle := hR.sz.sz.le
  have hmx := hR.sz.sz.max
  unfold maxLen at hmx
  have hlk := hR.lx
  have hR0 := hR.mono (G := Go.Kf.old F w.heap.size) (fun b h1 h2 => ⟨h2, h1⟩) (fun c x hx => geoS.mono hx fun b h1 h2 => ⟨h2, h1⟩)
  have HLK := Lib.hid hlk
  have HDM := Lib.hid hdim
  replace hFP : ∀ c ∈ kids, ForceOk d' c := hFP
  have HFP := Lib.hid hFP
  clear hFP
  clear hR hlk hdim hd
  go_enter Tryz.func87, Tryz.ntmps87
  go_wp2_with fail
  have hB0 : Blk ((w.alloc (.cells #[.slice a n cap, .int .u8 d] 93)).alloc (.cells #[.slice none 0 0, .int .u8 0] 93)) w.heap.size 93 [.slice a n cap, .int .u8 d] := by with_reducible (repeat first | assumption | (refine Bx.n ⟨?_, ?_⟩ <;> focus (first | rfl | (simp; done) | omega)) | refine Bx.a ?_ _ | refine Bx.d ?_ | refine Bx.e ?_ _ | refine Bx.p (by first | omega | simp <;> omega) ?_)
  have hB1 : Blk ((w.alloc (.cells #[.slice a n cap, .int .u8 d] 93)).alloc (.cells #[.slice none 0 0, .int .u8 0] 93)) (w.heap.size + 1) 93 [.slice none 0 0, .int .u8 0] := by with_reducible (repeat first | assumption | (refine Bx.n ⟨?_, ?_⟩ <;> focus (first | rfl | (simp; done) | omega)) | refine Bx.a ?_ _ | refine Bx.d ?_ | refine Bx.e ?_ _ | refine Bx.p (by first | omega | simp <;> omega) ?_)
  have hkw : Stab.Keeps w ((w.alloc (.cells #[.slice a n cap, .int .u8 d] 93)).alloc (.cells #[.slice none 0 0, .int .u8 0] 93)) := by with_reducible (repeat first | exact Kx.r _ | assumption | refine Kx.a ?_ _ | refine Kx.d ?_ | refine Kx.e ?_ _ | refine Kx.s (by simp <;> omega) ?_ _ | refine Kx.t ?_ (by assumption))
  have hsz : ((w.alloc (.cells #[.slice a n cap, .int .u8 d] 93)).alloc (.cells #[.slice none 0 0, .int .u8 0] 93)).heap.size = w.heap.size + 1 + 1 := by simp
  have hFl := Fill.start w ((w.alloc (.cells #[.slice a n cap, .int .u8 d] 93)).alloc (.cells #[.slice none 0 0, .int .u8 0] 93)) (orNew (Go.Kf.old F w.heap.size) (w.heap.size + 1 + 1 + 1)) GeoR n 2 (madeCells (#[.int .i64 0, .nilIface]) (n * 2)) 63 (kids.map (forceP d')) hkw (size_madeCells _ _) (by simp [orNew, Go.Kf.old]; omega)
  rw [hsz] at hFl
  have hB0' := hB0.alloc (.cells (madeCells (#[.int .i64 0, .nilIface]) (n * 2)) 63)
  have hB1' := hB1.alloc (.cells (madeCells (#[.int .i64 0, .nilIface]) (n * 2)) 63)
  generalize ((w.alloc (.cells #[.slice a n cap, .int .u8 d] 93)).alloc (.cells #[.slice none 0 0, .int .u8 0] 93)).alloc (.cells (madeCells (#[.int .i64 0, .nilIface]) (n * 2)) 63) = W at hFl hB0' hB1' ⊢
  clear hB0 hB1 hkw hsz hmk
  have m0 := hB0'.cell (i := 0) rfl
  have ml := hB0'.lt
  go_wp2_with fail
  go_loopw [14] (fun iv wr => ∃ (k : Nat) (cs' : List (List Value)), k ≤ n ∧ iv = .int .i64 k ∧ Blk wr w.heap.size 93 [.slice a n cap, .int .u8 d] ∧ Blk wr (w.heap.size + 1) 93 [.slice none 0 0, .int .u8 0] ∧ Fill w wr (orNew (Go.Kf.old F w.heap.size) (w.heap.size + 1 + 1 + 1)) GeoR (w.heap.size + 1 + 1) n k 2 cs' (kids.map (forceP d'))) (fun iv _ => n - (intOf iv).toNat)
  case atStart => exact ⟨0, [], by omega, rfl, hB0', hB1', hFl⟩
  case round =>
    clear hFl hB0' hB1' m0 ml
    obtain ⟨k, cs', k2, rfl, hB0, hB1, hFl⟩ := hrel
    by_cases hlt : k < n
    · obtain ⟨b, off, c, ha, hb, _, _, hc2, hcc, hx⟩ := (hR0.kf (KF.keeps hFl.keeps) (fun c x hx => geoS.kf hx (KF.keeps hFl.keeps))).elem hlt
      obtain ⟨kq, tq, bq, rfl⟩ := hx.two
      subst ha
      have e0 : wr.cell? ⟨b, off + k * 2, none⟩ = some (.int .i64 kq) := by have := hcc 0 _ rfl; simpa using this
      have e1 : wr.cell? ⟨b, off + k * 2 + 1, none⟩ = some (.iface tq (.pointer (some ⟨bq, 0, none⟩))) := hcc 1 _ rfl
      have hF1 := fun w' (hk : Stab.Keeps wr w') => HFP.out _ (List.getElem_mem _) _ [.int .i64 kq, .iface tq (.pointer (some ⟨bq, 0, none⟩))] w' (geoS.kf hx (KF.keeps hk))
      have hkk : k < kids.length := by have := HLK.out; omega
      generalize hke : kids[k] = kid at *
      have HKE := Lib.hid hke
      clear hcc hx hke
      have m0 := hB0.cell (i := 0) rfl
      have ml := hB0.lt
      go_wp2_with fail
      refine (hF1 _ (Stab.Keeps.refl _)).mono ?_
      clear hF1
      rintro e w4 ⟨cs4, rfl, hk4, hx4⟩
      obtain ⟨kz, tz, bz, rfl⟩ := hx4.two
      have hlw : w.heap.size + 1 + 1 < wr.heap.size := hFl.lt
      have hFl4 := hFl.keep geoS hk4
      have hB04 := hB0.keep hk4
      have hB14 := hB1.keep hk4
      have hx5 := geoS.mono (G := orNew (Go.Kf.old F w.heap.size) (w.heap.size + 1 + 1 + 1)) hx4 (fun b _ hb => on_old (by omega) hb)
      have hkm : k < (kids.map (forceP d')).length := by simpa using hkk
      have hxe : (kids.map (forceP d'))[k] = forceP d' kid := by rw [List.getElem_map, HKE.out]
      rw [← hxe] at hx5
      have hFl5 := hFl4.put2 geoS hlt hkm hx5
      obtain ⟨x0, r0⟩ := hFl4.room.cell (k * 2) (by omega)
      obtain ⟨x1, r1⟩ := hFl4.room.cell (k * 2 + 1) (by omega)
      have rf := hFl4.room.free
      have hl4 := hFl4.lt
      clear hFl hFl4 hB0 hB1 hx4 hx5 hxe hkm e0 e1 m0 ml hk4 hlw
      go_wp2_with fail
      go_roundw
      case rel =>
        refine ⟨k + 1, _, by omega, by go_num, ?_, ?_, hFl5⟩
        · with_reducible (repeat first | assumption | (refine Bx.n ⟨?_, ?_⟩ <;> focus (first | rfl | (simp; done) | omega)) | refine Bx.a ?_ _ | refine Bx.d ?_ | refine Bx.e ?_ _ | refine Bx.p (by first | omega | simp <;> omega) ?_)
        · with_reducible (repeat first | assumption | (refine Bx.n ⟨?_, ?_⟩ <;> focus (first | rfl | (simp; done) | omega)) | refine Bx.a ?_ _ | refine Bx.d ?_ | refine Bx.e ?_ _ | refine Bx.p (by first | omega | simp <;> omega) ?_)
      case measure => simp [intOf]; omega
    · obtain rfl : n = k := by omega
      have r0 := hB1.cell (i := 0) rfl
      have r1 := hB1.cell (i := 1) rfl
      have rf := hB1.free
      have rl := hB1.lt
      go_wp2_with fail
      refine bodyPost_ret (v := .agg #[.slice (some ⟨w.heap.size + 1 + 1, 0, none⟩) n n, .int .u8 d']) (by simp [results, Tryz.results87, go_sem, *]) rfl ⟨[.slice (some ⟨w.heap.size + 1 + 1, 0, none⟩) n n, .int .u8 d'], rfl, ?_, d', _, n, n, cs', kids.map (forceP d'), rfl, by rw [forceP_eq]; rfl, hd', hn, ?_, fun c hc => ?_⟩
      · have := hFl.keeps
        with_reducible (repeat first | exact Kx.r _ | assumption | refine Kx.a ?_ _ | refine Kx.d ?_ | refine Kx.e ?_ _ | refine Kx.s (by simp <;> omega) ?_ _ | refine Kx.t ?_ (by assumption))
      · exact ((hFl.past geoS (by omega) (by simp [orNew, Go.Kf.old]; omega) (by omega) _).past geoS (by omega) (by simp [orNew, Go.Kf.old]; omega) (by omega) _).rows geoS (by rw [List.length_map]; exact HLK.out) (by unfold maxLen; omega) (fun b _ hb => on_mono (by omega) hb) (.inr (by omega))
      · obtain ⟨q, _, rfl⟩ := List.mem_map.1 hc
        exact forceP_dim d' q
set_option maxRecDepth 100000 in
set_option maxHeartbeats 4000000 in
theorem forceGeo_ (d' : Nat) (hd' : d' < 4) : ∀ p, ForceOk d' p := by
  refine Pg.ind fun k0 d0 ps0 kids0 ih => ?_
  intro F cs w hgeo
  have hgeo2 := geoS.mono (G := Go.Kf.old F w.heap.size) hgeo (fun b h1 h2 => ⟨h2, h1⟩)
  generalize hpe : Pg.node k0 d0 ps0 kids0 = p at *
  rcases hgeo2 with ⟨b, cs, _, hF, hB, h⟩ | ⟨b, cs, _, hF, hB, h⟩ | ⟨b, cs, _, hF, hB, h⟩ | ⟨b, cs, _, hF, hB, h⟩ | ⟨b, cs, _, hF, hB, h⟩ | ⟨b, cs, _, hF, hB, h⟩ | ⟨b, d, a, n, cap, css, kids, hF, hB, hd, hn, lc, lx, each, sz, is, hdim⟩
  · obtain ⟨x, y, z, m, d, f, rfl⟩ := h.six
    have hM := fun w' (hk' : Stab.Keeps w w') => mustPt_ x y z m d f b w' (hB.keep hk')
    have hF2 := fun w' (hk' : Stab.Keeps w w') => forcePt_ (F := Go.Kf.old F w.heap.size) d' hd' [.float .f64 x, .float .f64 y, .float .f64 z, .float .f64 m, .int .u8 d, .bool f] _ w' (ptS.kf h (KF.keeps hk'))
    have hG := fun d l w' => ptGeo_ d l w'
    clear hB h
    go_enter Tryz.func127, Tryz.ntmps127
    go_wp2_with fail
    refine (hM _ (by with_reducible (repeat first | exact Kx.r _ | assumption | refine Kx.a ?_ _ | refine Kx.d ?_ | refine Kx.e ?_ _ | refine Kx.s (by simp <;> omega) ?_ _ | refine Kx.t ?_ (by assumption)))).mono ?_
    clear hM
    rintro e w2 ⟨rfl, hk2⟩
    have hkf2 : Stab.Keeps w w2 := by with_reducible (repeat first | exact Kx.r _ | assumption | refine Kx.a ?_ _ | refine Kx.d ?_ | refine Kx.e ?_ _ | refine Kx.s (by simp <;> omega) ?_ _ | refine Kx.t ?_ (by assumption))
    have hsz2 : w.heap.size + 1 + 1 ≤ w2.heap.size := by have := hk2.size; simp at this; omega
    go_wp2_with fail
    refine (hF2 _ hkf2).mono ?_
    clear hF2
    rintro e w3 ⟨cs3, rfl, hk3, hx3⟩
    have hx3' := hx3
    obtain ⟨dd, l, rfl, hrest⟩ := hx3'
    go_wp2_with fail
    refine (hG dd l _).mono ?_
    clear hG
    rintro e w4 ⟨b4, rfl, hk4, hb4, hB4⟩
    have hR : Blk w4 (w.heap.size + 1) 63 [.int .i64 0, .nilIface] := Blk.keep (Blk.keep (Blk.keep (by with_reducible (repeat first | assumption | (refine Bx.n ⟨?_, ?_⟩ <;> focus (first | rfl | (simp; done) | omega)) | refine Bx.a ?_ _ | refine Bx.d ?_ | refine Bx.e ?_ _ | refine Bx.p (by first | omega | simp <;> omega) ?_)) hk2) hk3) hk4
    have hkf : Stab.Keeps w w4 := by with_reducible (repeat first | exact Kx.r _ | assumption | refine Kx.a ?_ _ | refine Kx.d ?_ | refine Kx.e ?_ _ | refine Kx.s (by simp <;> omega) ?_ _ | refine Kx.t ?_ (by assumption))
    have hsz3 := hk3.size
    have hx4 := ptS.kf hx3 (KF.keeps hk4)
    clear hk2 hk3 hk4
    have r0 := hR.cell (i := 0) rfl
    have r1 := hR.cell (i := 1) rfl
    have rf := hR.free
    have rl := hR.lt
    go_wp2_with fail
    refine bodyPost_ret (v := .agg #[.int .i64 1, .iface 124 (.pointer (some ⟨b4, 0, none⟩))]) (by simp [results, Tryz.results127, go_sem, *]) rfl ⟨[.int .i64 1, .iface 124 (.pointer (some ⟨b4, 0, none⟩))], rfl, ?_, ?_⟩
    · with_reducible (repeat first | exact Kx.r _ | assumption | refine Kx.a ?_ _ | refine Kx.d ?_ | refine Kx.e ?_ _ | refine Kx.s (by simp <;> omega) ?_ _ | refine Kx.t ?_ (by assumption))
    · have hnf : ¬ orNew (Go.Kf.old F w.heap.size) w2.heap.size (w.heap.size + 1) := by intro h; rcases h with h | h; exact absurd h.2 (by omega); omega
      have hx5 := ptS.mono (ptS.kf (w' := (w4.setCell ⟨w.heap.size + 1, 0, none⟩ (.int .i64 1)).setCell ⟨w.heap.size + 1, 1, none⟩ (.iface 124 (.pointer (some ⟨b4, 0, none⟩)))) hx4 (by repeat (first | (with_reducible exact KF.refl _ _) | (with_reducible assumption) | (with_reducible refine KF.alloc ?_ _) | (with_reducible refine KF.drew ?_) | (with_reducible refine KF.drewN ?_ _) | ((with_reducible refine KF.set ?_ ?_); focus (first | assumption | (simp [orNew, old]; done) | (simp [orNew, old]; omega) | (simp [orNew, old] at *; omega))) | (with_reducible refine KF.trans ?_ (KF.keeps (by with_reducible assumption)))))) (G := orNew F w.heap.size) (fun b _ hb => on_mono (by omega) hb)
      refine .pt b4 _ _ (.inr (by omega)) ?_ hx5
      · with_reducible (repeat first | assumption | (refine Bx.n ⟨?_, ?_⟩ <;> focus (first | rfl | (simp; done) | omega)) | refine Bx.a ?_ _ | refine Bx.d ?_ | refine Bx.e ?_ _ | refine Bx.p (by first | omega | simp <;> omega) ?_)
  · obtain ⟨d, a, n, c, rfl⟩ := h.two
    have hM := fun w' (hk' : Stab.Keeps w w') => mustLs_ a n c d b w' (hB.keep hk')
    have hF2 := fun w' (hk' : Stab.Keeps w w') => forceLs_ (F := Go.Kf.old F w.heap.size) d' hd' [.int .u8 d, .slice a n c] _ w' (lsS.kf h (KF.keeps hk'))
    have hG := fun d a n c w' => lineGeo_ d a n c w'
    clear hB h
    go_enter Tryz.func127, Tryz.ntmps127
    go_wp2_with fail
    refine (hM _ (by with_reducible (repeat first | exact Kx.r _ | assumption | refine Kx.a ?_ _ | refine Kx.d ?_ | refine Kx.e ?_ _ | refine Kx.s (by simp <;> omega) ?_ _ | refine Kx.t ?_ (by assumption)))).mono ?_
    clear hM
    rintro e w2 ⟨rfl, hk2⟩
    have hkf2 : Stab.Keeps w w2 := by with_reducible (repeat first | exact Kx.r _ | assumption | refine Kx.a ?_ _ | refine Kx.d ?_ | refine Kx.e ?_ _ | refine Kx.s (by simp <;> omega) ?_ _ | refine Kx.t ?_ (by assumption))
    have hsz2 : w.heap.size + 1 + 1 ≤ w2.heap.size := by have := hk2.size; simp at this; omega
    go_wp2_with fail
    refine (hF2 _ hkf2).mono ?_
    clear hF2
    rintro e w3 ⟨cs3, rfl, hk3, hx3⟩
    obtain ⟨d3, a3, n3, c3, rfl⟩ := hx3.two
    go_wp2_with fail
    refine (hG d3 a3 n3 c3 _).mono ?_
    clear hG
    rintro e w4 ⟨b4, rfl, hk4, hb4, hB4⟩
    have hR : Blk w4 (w.heap.size + 1) 63 [.int .i64 0, .nilIface] := Blk.keep (Blk.keep (Blk.keep (by with_reducible (repeat first | assumption | (refine Bx.n ⟨?_, ?_⟩ <;> focus (first | rfl | (simp; done) | omega)) | refine Bx.a ?_ _ | refine Bx.d ?_ | refine Bx.e ?_ _ | refine Bx.p (by first | omega | simp <;> omega) ?_)) hk2) hk3) hk4
    have hkf : Stab.Keeps w w4 := by with_reducible (repeat first | exact Kx.r _ | assumption | refine Kx.a ?_ _ | refine Kx.d ?_ | refine Kx.e ?_ _ | refine Kx.s (by simp <;> omega) ?_ _ | refine Kx.t ?_ (by assumption))
    have hsz3 := hk3.size
    have hx4 := lsS.kf hx3 (KF.keeps hk4)
    clear hk2 hk3 hk4
    have r0 := hR.cell (i := 0) rfl
    have r1 := hR.cell (i := 1) rfl
    have rf := hR.free
    have rl := hR.lt
    go_wp2_with fail
    refine bodyPost_ret (v := .agg #[.int .i64 2, .iface 125 (.pointer (some ⟨b4, 0, none⟩))]) (by simp [results, Tryz.results127, go_sem, *]) rfl ⟨[.int .i64 2, .iface 125 (.pointer (some ⟨b4, 0, none⟩))], rfl, ?_, ?_⟩
    · with_reducible (repeat first | exact Kx.r _ | assumption | refine Kx.a ?_ _ | refine Kx.d ?_ | refine Kx.e ?_ _ | refine Kx.s (by simp <;> omega) ?_ _ | refine Kx.t ?_ (by assumption))
    · have hnf : ¬ orNew (Go.Kf.old F w.heap.size) w2.heap.size (w.heap.size + 1) := by intro h; rcases h with h | h; exact absurd h.2 (by omega); omega
      have hx5 := lsS.mono (lsS.kf (w' := (w4.setCell ⟨w.heap.size + 1, 0, none⟩ (.int .i64 2)).setCell ⟨w.heap.size + 1, 1, none⟩ (.iface 125 (.pointer (some ⟨b4, 0, none⟩)))) hx4 (by repeat (first | (with_reducible exact KF.refl _ _) | (with_reducible assumption) | (with_reducible refine KF.alloc ?_ _) | (with_reducible refine KF.drew ?_) | (with_reducible refine KF.drewN ?_ _) | ((with_reducible refine KF.set ?_ ?_); focus (first | assumption | (simp [orNew, old]; done) | (simp [orNew, old]; omega) | (simp [orNew, old] at *; omega))) | (with_reducible refine KF.trans ?_ (KF.keeps (by with_reducible assumption)))))) (G := orNew F w.heap.size) (fun b _ hb => on_mono (by omega) hb)
      refine .ls b4 _ _ (.inr (by omega)) ?_ hx5
      · with_reducible (repeat first | assumption | (refine Bx.n ⟨?_, ?_⟩ <;> focus (first | rfl | (simp; done) | omega)) | refine Bx.a ?_ _ | refine Bx.d ?_ | refine Bx.e ?_ _ | refine Bx.p (by first | omega | simp <;> omega) ?_)
  · obtain ⟨a, n, c, d, rfl⟩ := h.two
    have hM := fun w' (hk' : Stab.Keeps w w') => mustPy_ a n c d b w' (hB.keep hk')
    have hF2 := fun w' (hk' : Stab.Keeps w w') => forcePy_ (F := Go.Kf.old F w.heap.size) d' hd' [.slice a n c, .int .u8 d] _ w' (pyS.kf h (KF.keeps hk'))
    have hG := fun a n c d w' => geoPy_ a n c d w'
    clear hB h
    go_enter Tryz.func127, Tryz.ntmps127
    go_wp2_with fail
    refine (hM _ (by with_reducible (repeat first | exact Kx.r _ | assumption | refine Kx.a ?_ _ | refine Kx.d ?_ | refine Kx.e ?_ _ | refine Kx.s (by simp <;> omega) ?_ _ | refine Kx.t ?_ (by assumption)))).mono ?_
    clear hM
    rintro e w2 ⟨rfl, hk2⟩
    have hkf2 : Stab.Keeps w w2 := by with_reducible (repeat first | exact Kx.r _ | assumption | refine Kx.a ?_ _ | refine Kx.d ?_ | refine Kx.e ?_ _ | refine Kx.s (by simp <;> omega) ?_ _ | refine Kx.t ?_ (by assumption))
    have hsz2 : w.heap.size + 1 + 1 ≤ w2.heap.size := by have := hk2.size; simp at this; omega
    go_wp2_with fail
    refine (hF2 _ hkf2).mono ?_
    clear hF2
    rintro e w3 ⟨cs3, rfl, hk3, hx3⟩
    obtain ⟨a3, n3, c3, d3, rfl⟩ := hx3.two
    go_wp2_with fail
    refine (hG a3 n3 c3 d3 _).mono ?_
    clear hG
    rintro e w4 ⟨b4, rfl, hk4, hb4, hB4⟩
    have hR : Blk w4 (w.heap.size + 1) 63 [.int .i64 0, .nilIface] := Blk.keep (Blk.keep (Blk.keep (by with_reducible (repeat first | assumption | (refine Bx.n ⟨?_, ?_⟩ <;> focus (first | rfl | (simp; done) | omega)) | refine Bx.a ?_ _ | refine Bx.d ?_ | refine Bx.e ?_ _ | refine Bx.p (by first | omega | simp <;> omega) ?_)) hk2) hk3) hk4
    have hkf : Stab.Keeps w w4 := by with_reducible (repeat first | exact Kx.r _ | assumption | refine Kx.a ?_ _ | refine Kx.d ?_ | refine Kx.e ?_ _ | refine Kx.s (by simp <;> omega) ?_ _ | refine Kx.t ?_ (by assumption))
    have hsz3 := hk3.size
    have hx4 := pyS.kf hx3 (KF.keeps hk4)
    clear hk2 hk3 hk4
    have r0 := hR.cell (i := 0) rfl
    have r1 := hR.cell (i := 1) rfl
    have rf := hR.free
    have rl := hR.lt
    go_wp2_with fail
    refine bodyPost_ret (v := .agg #[.int .i64 3, .iface 128 (.pointer (some ⟨b4, 0, none⟩))]) (by simp [results, Tryz.results127, go_sem, *]) rfl ⟨[.int .i64 3, .iface 128 (.pointer (some ⟨b4, 0, none⟩))], rfl, ?_, ?_⟩
    · with_reducible (repeat first | exact Kx.r _ | assumption | refine Kx.a ?_ _ | refine Kx.d ?_ | refine Kx.e ?_ _ | refine Kx.s (by simp <;> omega) ?_ _ | refine Kx.t ?_ (by assumption))
    · have hnf : ¬ orNew (Go.Kf.old F w.heap.size) w2.heap.size (w.heap.size + 1) := by intro h; rcases h with h | h; exact absurd h.2 (by omega); omega
      have hx5 := pyS.mono (pyS.kf (w' := (w4.setCell ⟨w.heap.size + 1, 0, none⟩ (.int .i64 3)).setCell ⟨w.heap.size + 1, 1, none⟩ (.iface 128 (.pointer (some ⟨b4, 0, none⟩)))) hx4 (by repeat (first | (with_reducible exact KF.refl _ _) | (with_reducible assumption) | (with_reducible refine KF.alloc ?_ _) | (with_reducible refine KF.drew ?_) | (with_reducible refine KF.drewN ?_ _) | ((with_reducible refine KF.set ?_ ?_); focus (first | assumption | (simp [orNew, old]; done) | (simp [orNew, old]; omega) | (simp [orNew, old] at *; omega))) | (with_reducible refine KF.trans ?_ (KF.keeps (by with_reducible assumption)))))) (G := orNew F w.heap.size) (fun b _ hb => on_mono (by omega) hb)
      refine .py b4 _ _ (.inr (by omega)) ?_ hx5
      · with_reducible (repeat first | assumption | (refine Bx.n ⟨?_, ?_⟩ <;> focus (first | rfl | (simp; done) | omega)) | refine Bx.a ?_ _ | refine Bx.d ?_ | refine Bx.e ?_ _ | refine Bx.p (by first | omega | simp <;> omega) ?_)
  · obtain ⟨a, n, c, d, rfl⟩ := h.two
    have hM := fun w' (hk' : Stab.Keeps w w') => mustMp_ a n c d b w' (hB.keep hk')
    have hF2 := fun w' (hk' : Stab.Keeps w w') => forceMp_ (F := Go.Kf.old F w.heap.size) d' hd' [.slice a n c, .int .u8 d] _ w' (mpS.kf h (KF.keeps hk'))
    have hG := fun a n c d w' => geoMp_ a n c d w'
    clear hB h
    go_enter Tryz.func127, Tryz.ntmps127
    go_wp2_with fail
    refine (hM _ (by with_reducible (repeat first | exact Kx.r _ | assumption | refine Kx.a ?_ _ | refine Kx.d ?_ | refine Kx.e ?_ _ | refine Kx.s (by simp <;> omega) ?_ _ | refine Kx.t ?_ (by assumption)))).mono ?_
    clear hM
    rintro e w2 ⟨rfl, hk2⟩
    have hkf2 : Stab.Keeps w w2 := by with_reducible (repeat first | exact Kx.r _ | assumption | refine Kx.a ?_ _ | refine Kx.d ?_ | refine Kx.e ?_ _ | refine Kx.s (by simp <;> omega) ?_ _ | refine Kx.t ?_ (by assumption))
    have hsz2 : w.heap.size + 1 + 1 ≤ w2.heap.size := by have := hk2.size; simp at this; omega
    go_wp2_with fail
    refine (hF2 _ hkf2).mono ?_
    clear hF2
    rintro e w3 ⟨cs3, rfl, hk3, hx3⟩
    obtain ⟨a3, n3, c3, d3, rfl⟩ := hx3.two
    go_wp2_with fail
    refine (hG a3 n3 c3 d3 _).mono ?_
    clear hG
    rintro e w4 ⟨b4, rfl, hk4, hb4, hB4⟩
    have hR : Blk w4 (w.heap.size + 1) 63 [.int .i64 0, .nilIface] := Blk.keep (Blk.keep (Blk.keep (by with_reducible (repeat first | assumption | (refine Bx.n ⟨?_, ?_⟩ <;> focus (first | rfl | (simp; done) | omega)) | refine Bx.a ?_ _ | refine Bx.d ?_ | refine Bx.e ?_ _ | refine Bx.p (by first | omega | simp <;> omega) ?_)) hk2) hk3) hk4
    have hkf : Stab.Keeps w w4 := by with_reducible (repeat first | exact Kx.r _ | assumption | refine Kx.a ?_ _ | refine Kx.d ?_ | refine Kx.e ?_ _ | refine Kx.s (by simp <;> omega) ?_ _ | refine Kx.t ?_ (by assumption))
    have hsz3 := hk3.size
    have hx4 := mpS.kf hx3 (KF.keeps hk4)
    clear hk2 hk3 hk4
    have r0 := hR.cell (i := 0) rfl
    have r1 := hR.cell (i := 1) rfl
    have rf := hR.free
    have rl := hR.lt
    go_wp2_with fail
    refine bodyPost_ret (v := .agg #[.int .i64 4, .iface 131 (.pointer (some ⟨b4, 0, none⟩))]) (by simp [results, Tryz.results127, go_sem, *]) rfl ⟨[.int .i64 4, .iface 131 (.pointer (some ⟨b4, 0, none⟩))], rfl, ?_, ?_⟩
    · with_reducible (repeat first | exact Kx.r _ | assumption | refine Kx.a ?_ _ | refine Kx.d ?_ | refine Kx.e ?_ _ | refine Kx.s (by simp <;> omega) ?_ _ | refine Kx.t ?_ (by assumption))
    · have hnf : ¬ orNew (Go.Kf.old F w.heap.size) w2.heap.size (w.heap.size + 1) := by intro h; rcases h with h | h; exact absurd h.2 (by omega); omega
      have hx5 := mpS.mono (mpS.kf (w' := (w4.setCell ⟨w.heap.size + 1, 0, none⟩ (.int .i64 4)).setCell ⟨w.heap.size + 1, 1, none⟩ (.iface 131 (.pointer (some ⟨b4, 0, none⟩)))) hx4 (by repeat (first | (with_reducible exact KF.refl _ _) | (with_reducible assumption) | (with_reducible refine KF.alloc ?_ _) | (with_reducible refine KF.drew ?_) | (with_reducible refine KF.drewN ?_ _) | ((with_reducible refine KF.set ?_ ?_); focus (first | assumption | (simp [orNew, old]; done) | (simp [orNew, old]; omega) | (simp [orNew, old] at *; omega))) | (with_reducible refine KF.trans ?_ (KF.keeps (by with_reducible assumption)))))) (G := orNew F w.heap.size) (fun b _ hb => on_mono (by omega) hb)
      refine .mp b4 _ _ (.inr (by omega)) ?_ hx5
      · with_reducible (repeat first | assumption | (refine Bx.n ⟨?_, ?_⟩ <;> focus (first | rfl | (simp; done) | omega)) | refine Bx.a ?_ _ | refine Bx.d ?_ | refine Bx.e ?_ _ | refine Bx.p (by first | omega | simp <;> omega) ?_)
  · obtain ⟨a, n, c, d, rfl⟩ := h.two
    have hM := fun w' (hk' : Stab.Keeps w w') => mustMl_ a n c d b w' (hB.keep hk')
    have hF2 := fun w' (hk' : Stab.Keeps w w') => forceMl_ (F := Go.Kf.old F w.heap.size) d' hd' [.slice a n c, .int .u8 d] _ w' (mlS.kf h (KF.keeps hk'))
    have hG := fun a n c d w' => geoMl_ a n c d w'
    clear hB h
    go_enter Tryz.func127, Tryz.ntmps127
    go_wp2_with fail
    refine (hM _ (by with_reducible (repeat first | exact Kx.r _ | assumption | refine Kx.a ?_ _ | refine Kx.d ?_ | refine Kx.e ?_ _ | refine Kx.s (by simp <;> omega) ?_ _ | refine Kx.t ?_ (by assumption)))).mono ?_
    clear hM
    rintro e w2 ⟨rfl, hk2⟩
    have hkf2 : Stab.Keeps w w2 := by with_reducible (repeat first | exact Kx.r _ | assumption | refine Kx.a ?_ _ | refine Kx.d ?_ | refine Kx.e ?_ _ | refine Kx.s (by simp <;> omega) ?_ _ | refine Kx.t ?_ (by assumption))
    have hsz2 : w.heap.size + 1 + 1 ≤ w2.heap.size := by have := hk2.size; simp at this; omega
    go_wp2_with fail
    refine (hF2 _ hkf2).mono ?_
    clear hF2
    rintro e w3 ⟨cs3, rfl, hk3, hx3⟩
    obtain ⟨a3, n3, c3, d3, rfl⟩ := hx3.two
    go_wp2_with fail
    refine (hG a3 n3 c3 d3 _).mono ?_
    clear hG
    rintro e w4 ⟨b4, rfl, hk4, hb4, hB4⟩
    have hR : Blk w4 (w.heap.size + 1) 63 [.int .i64 0, .nilIface] := Blk.keep (Blk.keep (Blk.keep (by with_reducible (repeat first | assumption | (refine Bx.n ⟨?_, ?_⟩ <;> focus (first | rfl | (simp; done) | omega)) | refine Bx.a ?_ _ | refine Bx.d ?_ | refine Bx.e ?_ _ | refine Bx.p (by first | omega | simp <;> omega) ?_)) hk2) hk3) hk4
    have hkf : Stab.Keeps w w4 := by with_reducible (repeat first | exact Kx.r _ | assumption | refine Kx.a ?_ _ | refine Kx.d ?_ | refine Kx.e ?_ _ | refine Kx.s (by simp <;> omega) ?_ _ | refine Kx.t ?_ (by assumption))
    have hsz3 := hk3.size
    have hx4 := mlS.kf hx3 (KF.keeps hk4)
    clear hk2 hk3 hk4
    have r0 := hR.cell (i := 0) rfl
    have r1 := hR.cell (i := 1) rfl
    have rf := hR.free
    have rl := hR.lt
    go_wp2_with fail
    refine bodyPost_ret (v := .agg #[.int .i64 5, .iface 134 (.pointer (some ⟨b4, 0, none⟩))]) (by simp [results, Tryz.results127, go_sem, *]) rfl ⟨[.int .i64 5, .iface 134 (.pointer (some ⟨b4, 0, none⟩))], rfl, ?_, ?_⟩
    · with_reducible (repeat first | exact Kx.r _ | assumption | refine Kx.a ?_ _ | refine Kx.d ?_ | refine Kx.e ?_ _ | refine Kx.s (by simp <;> omega) ?_ _ | refine Kx.t ?_ (by assumption))
    · have hnf : ¬ orNew (Go.Kf.old F w.heap.size) w2.heap.size (w.heap.size + 1) := by intro h; rcases h with h | h; exact absurd h.2 (by omega); omega
      have hx5 := mlS.mono (mlS.kf (w' := (w4.setCell ⟨w.heap.size + 1, 0, none⟩ (.int .i64 5)).setCell ⟨w.heap.size + 1, 1, none⟩ (.iface 134 (.pointer (some ⟨b4, 0, none⟩)))) hx4 (by repeat (first | (with_reducible exact KF.refl _ _) | (with_reducible assumption) | (with_reducible refine KF.alloc ?_ _) | (with_reducible refine KF.drew ?_) | (with_reducible refine KF.drewN ?_ _) | ((with_reducible refine KF.set ?_ ?_); focus (first | assumption | (simp [orNew, old]; done) | (simp [orNew, old]; omega) | (simp [orNew, old] at *; omega))) | (with_reducible refine KF.trans ?_ (KF.keeps (by with_reducible assumption)))))) (G := orNew F w.heap.size) (fun b _ hb => on_mono (by omega) hb)
      refine .ml b4 _ _ (.inr (by omega)) ?_ hx5
      · with_reducible (repeat first | assumption | (refine Bx.n ⟨?_, ?_⟩ <;> focus (first | rfl | (simp; done) | omega)) | refine Bx.a ?_ _ | refine Bx.d ?_ | refine Bx.e ?_ _ | refine Bx.p (by first | omega | simp <;> omega) ?_)
  · obtain ⟨a, n, c, d, rfl⟩ := h.two
    have hM := fun w' (hk' : Stab.Keeps w w') => mustMy_ a n c d b w' (hB.keep hk')
    have hF2 := fun w' (hk' : Stab.Keeps w w') => forceMy_ (F := Go.Kf.old F w.heap.size) d' hd' [.slice a n c, .int .u8 d] _ w' (myS.kf h (KF.keeps hk'))
    have hG := fun a n c d w' => geoMy_ a n c d w'
    clear hB h
    go_enter Tryz.func127, Tryz.ntmps127
    go_wp2_with fail
    refine (hM _ (by with_reducible (repeat first | exact Kx.r _ | assumption | refine Kx.a ?_ _ | refine Kx.d ?_ | refine Kx.e ?_ _ | refine Kx.s (by simp <;> omega) ?_ _ | refine Kx.t ?_ (by assumption)))).mono ?_
    clear hM
    rintro e w2 ⟨rfl, hk2⟩
    have hkf2 : Stab.Keeps w w2 := by with_reducible (repeat first | exact Kx.r _ | assumption | refine Kx.a ?_ _ | refine Kx.d ?_ | refine Kx.e ?_ _ | refine Kx.s (by simp <;> omega) ?_ _ | refine Kx.t ?_ (by assumption))
    have hsz2 : w.heap.size + 1 + 1 ≤ w2.heap.size := by have := hk2.size; simp at this; omega
    go_wp2_with fail
    refine (hF2 _ hkf2).mono ?_
    clear hF2
    rintro e w3 ⟨cs3, rfl, hk3, hx3⟩
    obtain ⟨a3, n3, c3, d3, rfl⟩ := hx3.two
    go_wp2_with fail
    refine (hG a3 n3 c3 d3 _).mono ?_
    clear hG
    rintro e w4 ⟨b4, rfl, hk4, hb4, hB4⟩
    have hR : Blk w4 (w.heap.size + 1) 63 [.int .i64 0, .nilIface] := Blk.keep (Blk.keep (Blk.keep (by with_reducible (repeat first | assumption | (refine Bx.n ⟨?_, ?_⟩ <;> focus (first | rfl | (simp; done) | omega)) | refine Bx.a ?_ _ | refine Bx.d ?_ | refine Bx.e ?_ _ | refine Bx.p (by first | omega | simp <;> omega) ?_)) hk2) hk3) hk4
    have hkf : Stab.Keeps w w4 := by with_reducible (repeat first | exact Kx.r _ | assumption | refine Kx.a ?_ _ | refine Kx.d ?_ | refine Kx.e ?_ _ | refine Kx.s (by simp <;> omega) ?_ _ | refine Kx.t ?_ (by assumption))
    have hsz3 := hk3.size
    have hx4 := myS.kf hx3 (KF.keeps hk4)
    clear hk2 hk3 hk4
    have r0 := hR.cell (i := 0) rfl
    have r1 := hR.cell (i := 1) rfl
    have rf := hR.free
    have rl := hR.lt
    go_wp2_with fail
    refine bodyPost_ret (v := .agg #[.int .i64 6, .iface 137 (.pointer (some ⟨b4, 0, none⟩))]) (by simp [results, Tryz.results127, go_sem, *]) rfl ⟨[.int .i64 6, .iface 137 (.pointer (some ⟨b4, 0, none⟩))], rfl, ?_, ?_⟩
    · with_reducible (repeat first | exact Kx.r _ | assumption | refine Kx.a ?_ _ | refine Kx.d ?_ | refine Kx.e ?_ _ | refine Kx.s (by simp <;> omega) ?_ _ | refine Kx.t ?_ (by assumption))
    · have hnf : ¬ orNew (Go.Kf.old F w.heap.size) w2.heap.size (w.heap.size + 1) := by intro h; rcases h with h | h; exact absurd h.2 (by omega); omega
      have hx5 := myS.mono (myS.kf (w' := (w4.setCell ⟨w.heap.size + 1, 0, none⟩ (.int .i64 6)).setCell ⟨w.heap.size + 1, 1, none⟩ (.iface 137 (.pointer (some ⟨b4, 0, none⟩)))) hx4 (by repeat (first | (with_reducible exact KF.refl _ _) | (with_reducible assumption) | (with_reducible refine KF.alloc ?_ _) | (with_reducible refine KF.drew ?_) | (with_reducible refine KF.drewN ?_ _) | ((with_reducible refine KF.set ?_ ?_); focus (first | assumption | (simp [orNew, old]; done) | (simp [orNew, old]; omega) | (simp [orNew, old] at *; omega))) | (with_reducible refine KF.trans ?_ (KF.keeps (by with_reducible assumption)))))) (G := orNew F w.heap.size) (fun b _ hb => on_mono (by omega) hb)
      refine .my b4 _ _ (.inr (by omega)) ?_ hx5
      · with_reducible (repeat first | assumption | (refine Bx.n ⟨?_, ?_⟩ <;> focus (first | rfl | (simp; done) | omega)) | refine Bx.a ?_ _ | refine Bx.d ?_ | refine Bx.e ?_ _ | refine Bx.p (by first | omega | simp <;> omega) ?_)
  · have h : GcR w (Go.Kf.old F w.heap.size) [.slice a n cap, .int .u8 (d : Nat)] (.node 0 d [] kids) := ⟨d, a, n, cap, css, kids, rfl, rfl, hd, hn, ⟨lc, lx, each, sz, is⟩, hdim⟩
    have hke : kids0 = kids := by injection hpe
    clear sz is each hdim lc lx hpe
    subst hke
    have IH := Lib.hid ih
    clear ih
    have hM := fun w' (hk' : Stab.Keeps w w') => mustGc_ a n cap d b w' (hB.keep hk')
    have hF2 := fun w' (hk' : Stab.Keeps w w') => forceGc_ (F := Go.Kf.old F w.heap.size) d' hd' [.slice a n cap, .int .u8 (d : Nat)] _ w' (gcS.kf h (KF.keeps hk')) IH.out
    have hG := fun a n c d w' => geoGc_ a n c d w'
    clear hB h
    go_enter Tryz.func127, Tryz.ntmps127
    go_wp2_with fail
    refine (hM _ (by with_reducible (repeat first | exact Kx.r _ | assumption | refine Kx.a ?_ _ | refine Kx.d ?_ | refine Kx.e ?_ _ | refine Kx.s (by simp <;> omega) ?_ _ | refine Kx.t ?_ (by assumption)))).mono ?_
    clear hM
    rintro e w2 ⟨rfl, hk2⟩
    have hkf2 : Stab.Keeps w w2 := by with_reducible (repeat first | exact Kx.r _ | assumption | refine Kx.a ?_ _ | refine Kx.d ?_ | refine Kx.e ?_ _ | refine Kx.s (by simp <;> omega) ?_ _ | refine Kx.t ?_ (by assumption))
    have hsz2 : w.heap.size + 1 + 1 ≤ w2.heap.size := by have := hk2.size; simp at this; omega
    go_wp2_with fail
    refine (hF2 _ hkf2).mono ?_
    clear hF2
    rintro e w3 ⟨cs3, rfl, hk3, hx3⟩
    obtain ⟨a3, n3, c3, d3, rfl⟩ := hx3.two
    go_wp2_with fail
    refine (hG a3 n3 c3 d3 _).mono ?_
    clear hG
    rintro e w4 ⟨b4, rfl, hk4, hb4, hB4⟩
    have hR : Blk w4 (w.heap.size + 1) 63 [.int .i64 0, .nilIface] := Blk.keep (Blk.keep (Blk.keep (by with_reducible (repeat first | assumption | (refine Bx.n ⟨?_, ?_⟩ <;> focus (first | rfl | (simp; done) | omega)) | refine Bx.a ?_ _ | refine Bx.d ?_ | refine Bx.e ?_ _ | refine Bx.p (by first | omega | simp <;> omega) ?_)) hk2) hk3) hk4
    have hkf : Stab.Keeps w w4 := by with_reducible (repeat first | exact Kx.r _ | assumption | refine Kx.a ?_ _ | refine Kx.d ?_ | refine Kx.e ?_ _ | refine Kx.s (by simp <;> omega) ?_ _ | refine Kx.t ?_ (by assumption))
    have hsz3 := hk3.size
    have hx4 := gcS.kf hx3 (KF.keeps hk4)
    clear hk2 hk3 hk4
    have r0 := hR.cell (i := 0) rfl
    have r1 := hR.cell (i := 1) rfl
    have rf := hR.free
    have rl := hR.lt
    go_wp2_with fail
    refine bodyPost_ret (v := .agg #[.int .i64 0, .iface 141 (.pointer (some ⟨b4, 0, none⟩))]) (by simp [results, Tryz.results127, go_sem, *]) rfl ⟨[.int .i64 0, .iface 141 (.pointer (some ⟨b4, 0, none⟩))], rfl, ?_, ?_⟩
    · with_reducible (repeat first | exact Kx.r _ | assumption | refine Kx.a ?_ _ | refine Kx.d ?_ | refine Kx.e ?_ _ | refine Kx.s (by simp <;> omega) ?_ _ | refine Kx.t ?_ (by assumption))
    · have hnf : ¬ orNew (Go.Kf.old F w.heap.size) w2.heap.size (w.heap.size + 1) := by intro h; rcases h with h | h; exact absurd h.2 (by omega); omega
      have hx5 := gcS.mono (gcS.kf (w' := (w4.setCell ⟨w.heap.size + 1, 0, none⟩ (.int .i64 0)).setCell ⟨w.heap.size + 1, 1, none⟩ (.iface 141 (.pointer (some ⟨b4, 0, none⟩)))) hx4 (by repeat (first | (with_reducible exact KF.refl _ _) | (with_reducible assumption) | (with_reducible refine KF.alloc ?_ _) | (with_reducible refine KF.drew ?_) | (with_reducible refine KF.drewN ?_ _) | ((with_reducible refine KF.set ?_ ?_); focus (first | assumption | (simp [orNew, old]; done) | (simp [orNew, old]; omega) | (simp [orNew, old] at *; omega))) | (with_reducible refine KF.trans ?_ (KF.keeps (by with_reducible assumption)))))) (G := orNew F w.heap.size) (fun b _ hb => on_mono (by omega) hb)
      refine GcR.geo hx5 (.inr (by omega)) ?_
      with_reducible (repeat first | assumption | (refine Bx.n ⟨?_, ?_⟩ <;> focus (first | rfl | (simp; done) | omega)) | refine Bx.a ?_ _ | refine Bx.d ?_ | refine Bx.e ?_ _ | refine Bx.p (by first | omega | simp <;> omega) ?_)
theorem GeoR.dim {w : World} {F : Nat → Prop} {cs : List Value} {p : Pg} (h : GeoR w F cs p) : p.dim < 4 := by
  cases h with
  | pt b cs p hF hB h => exact PtR.dim h
  | ls b cs p hF hB h => exact LsR.dim h
  | py b cs p hF hB h => exact WholeR.dim h
  | mp b cs p hF hB h => exact WholeR.dim h
  | ml b cs p hF hB h => exact WholeR.dim h
  | my b cs p hF hB h => exact WholeR.dim h
  | gc b d a n cap css kids hF hB hd hn lc lx each sz is hdim => exact hd
set_option maxRecDepth 100000 in
set_option maxHeartbeats 2000000 in
theorem newGcN_ {F : Nat → Prop} (a : Option Addr) (n cap : Nat) (css : List (List Value)) (kids : List Pg) (w : World) (hn0 : 0 < n) (hn : n ≤ 250000) (hR : Go.Kf.Rows w F GeoR a n cap 2 css kids) :
    Calls Tryz.prog 88 #[.slice a n cap] w (RetR w F GcR (wholeP 0 0 kids)) := by
  obtain ⟨i0, hi, hz0, hz1, hz2⟩ := info_parts infoGeo
  have hle := hR.sz.sz.le
  have hmx := hR.sz.sz.max
  unfold maxLen at hmx
  have hR0 := hR.mono (G := Go.Kf.old F w.heap.size) (fun b h1 h2 => ⟨h2, h1⟩) (fun c x hx => geoS.mono hx fun b h1 h2 => ⟨h2, h1⟩)
  have hone := rows_ones hR0 (fun h => h.ones)
  have HLK := Lib.hid hR.lx
  have HLC := Lib.hid hR.lc
  have hdk : ∀ i (hi : i < kids.length), kids[i].dim < 4 := fun i hi => GeoR.dim (hR.is i (by rw [hR.lc, ← hR.lx]; exact hi) hi)
  have HDK := Lib.hid hdk
  have hwh : wholeP 0 0 kids = .node 0 (andD kids) [] (kids.map (forceP (andD kids))) := by
    unfold wholeP
    have : kids ≠ [] := fun h => by have := hR.lx; rw [h] at this; simp at this; omega
    simp [this]
  rw [hwh]
  have g0 : decide (0 < n) = true := decide_eq_true hn0
  have g1 : decide ((n : Int) > 0) = true := decide_eq_true (by omega)
  have g2 : ((n : Int) == 0) = false := by simp; omega
  have g3 : (n == 0) = false := by simp; omega
  have HI := Lib.hid hi
  have HZ0 := Lib.hid hz0
  have HZ1 := Lib.hid hz1
  have HZ2 := Lib.hid hz2
  clear hR hdk hwh hi hz0 hz1 hz2
  go_enter Tryz.func88, Tryz.ntmps88
  go_wp2_with fail
  have hkw : Stab.Keeps w (w.alloc (.cells #[.slice none 0 0, .int .u8 0] 93)) := by with_reducible (repeat first | exact Kx.r _ | assumption | refine Kx.a ?_ _ | refine Kx.d ?_ | refine Kx.e ?_ _ | refine Kx.s (by simp <;> omega) ?_ _ | refine Kx.t ?_ (by assumption))
  have hB1 : Blk (w.alloc (.cells #[.slice none 0 0, .int .u8 0] 93)) w.heap.size 93 [.slice none 0 0, .int .u8 0] := by with_reducible (repeat first | assumption | (refine Bx.n ⟨?_, ?_⟩ <;> focus (first | rfl | (simp; done) | omega)) | refine Bx.a ?_ _ | refine Bx.d ?_ | refine Bx.e ?_ _ | refine Bx.p (by first | omega | simp <;> omega) ?_)
  have hs1 : (w.alloc (.cells #[.slice none 0 0, .int .u8 0] 93)).heap.size = w.heap.size + 1 := by simp
  generalize hw1 : (w.alloc (.cells #[.slice none 0 0, .int .u8 0] 93)) = w1 at *
  clear hw1
  have HS1 := Lib.hid hs1
  clear hs1 g0 g1 g2 g3
  go_loopw [3, 13] (fun cv iv wr => ∃ k : Nat, k ≤ n ∧ iv = .int .i64 k ∧ cv = .int .u8 (andD (kids.take k)) ∧ Stab.Keeps w1 wr) (fun _ iv _ => n - (intOf iv).toNat)
  case atStart => exact ⟨0, by omega, rfl, rfl, Stab.Keeps.refl _⟩
  case round =>
    obtain ⟨k, k2, rfl, rfl, hk⟩ := hrel
    by_cases hlt : k < n
    · have hkW := Stab.Keeps.trans hkw hk
      obtain ⟨b, off, c, ha, hb, _, _, hc2, hcc, hx⟩ := (hR0.kf (KF.keeps hkW) (fun c x hx => geoS.kf hx (KF.keeps hkW))).elem hlt
      obtain ⟨kq, tq, bq, rfl⟩ := hx.two
      subst ha
      have e0 : wr.cell? ⟨b, off + k * 2, none⟩ = some (.int .i64 kq) := by have := hcc 0 _ rfl; simpa using this
      have e1 : wr.cell? ⟨b, off + k * 2 + 1, none⟩ = some (.iface tq (.pointer (some ⟨bq, 0, none⟩))) := hcc 1 _ rfl
      have hkk : k < kids.length := by have := HLK.out; omega
      have hT := fun w' (hk' : Stab.Keeps wr w') => typeGeo_ [.int .i64 kq, .iface tq (.pointer (some ⟨bq, 0, none⟩))] _ w' wr hk' hx
      have hand := and_u8 (andD (kids.take k)) kids[k].dim (andD_lt _) (HDK.out k hkk)
      have hsn : andD (kids.take k) &&& kids[k].dim = andD (kids.take (k + 1)) := by rw [List.take_succ_eq_append_getElem hkk, andD_snoc]
      rw [hsn] at hand
      have hal := andD_lt (kids.take (k + 1))
      generalize kids[k] = kid at *
      generalize hD1 : andD (kids.take (k + 1)) = D1 at *
      have HD1 := Lib.hid hD1
      clear hD1
      generalize andD (kids.take k) = D0 at *
      have hm256 : ((D1 : Nat) : Int) % 256 = D1 := by omega
      clear hcc hx hsn
      go_wp2_with fail
      refine (hT _ (by with_reducible (repeat first | exact Kx.r _ | assumption | refine Kx.a ?_ _ | refine Kx.d ?_ | refine Kx.e ?_ _ | refine Kx.s (by simp <;> omega) ?_ _ | refine Kx.t ?_ (by assumption)))).mono ?_
      clear hT
      rintro e w4 ⟨rfl, hk4⟩
      have hk5 : Stab.Keeps w1 w4 := by with_reducible (repeat first | exact Kx.r _ | assumption | refine Kx.a ?_ _ | refine Kx.d ?_ | refine Kx.e ?_ _ | refine Kx.s (by simp <;> omega) ?_ _ | refine Kx.t ?_ (by assumption))
      clear e0 e1 hk4
      go_wp2_with fail
      go_roundw
      case rel => exact ⟨k + 1, by omega, by go_num, by rw [HD1.out], hk5⟩
      case measure => simp [intOf]; omega
    · obtain rfl : n = k := by omega
      rw [List.take_of_length_le (by rw [HLK.out]; exact Nat.le_refl _)]
      have hD4 := andD_lt kids
      generalize hDe : andD kids = D at *
      have HDE := Lib.hid hDe
      clear hDe
      have hkW := Stab.Keeps.trans hkw hk
      have hSz := (hR0.kf (KF.keeps hkW) (fun c x hx => geoS.kf hx (KF.keeps hkW))).sz.sz
      go_wp2_with (at_builtin; (refine append_sz (w0 := w1) rfl _ _ 91 rfl w1.heap.size 63 i0 _ 2 24 Tryz.underlying91 HI.out HZ0.out HZ1.out HZ2.out rfl (by decide) _ 0 [] rfl (World.ownsRow_nil _ _ _ _) a n cap _ rfl hSz hone (by unfold maxLen; omega) (by omega) hk.size hk ?_))
      intro al c5 w5 hown hk5 hsz5 hgr
      try simp only [Nat.zero_add, List.nil_append] at hown
      have hs1 := HS1.out
      obtain ⟨fb, rfl, hfb, hU, hnc, hcm⟩ := Upd.start (w := w1) (orNew (Go.Kf.old F w.heap.size) w5.heap.size) GeoR (kids.map (forceP D)) hk5 hown hn0 (Nat.le_refl _) HLC.out hR0.each (fun b h1 h2 => by simp [orNew, Go.Kf.old]; omega)
      have hfb5 := hU.lt
      clear hown hgr hSz hk hkW hsz5 hs1
      try simp only [Nat.zero_add]
      unfold maxLen at hcm
      go_wp2_with fail
      go_loopw [26] (fun iv wr => ∃ (k : Nat) (cs' : List (List Value)), k ≤ n ∧ iv = .int .i64 k ∧ w5.heap.size ≤ wr.heap.size ∧ Upd w1 wr (orNew (Go.Kf.old F w.heap.size) w5.heap.size) GeoR fb n k 2 cs' css (kids.map (forceP D))) (fun iv _ => n - (intOf iv).toNat)
      case atStart => exact ⟨0, [], by omega, rfl, Nat.le_refl _, hU⟩
      case round =>
        clear hU
        obtain ⟨k, cs', k2, rfl, hsz5, hU⟩ := hrel
        have hk := hU.keeps
        have hkW := Stab.Keeps.trans hkw hk
        by_cases hlt : k < n
        · have hkc : k < css.length := by have := HLC.out; omega
          have hkk : k < kids.length := by have := HLK.out; omega
          have hx := geoS.kf (hR0.is k hkc hkk) (KF.keeps hkW)
          have hcc := fun j v hv => hU.cell hlt (j := j) (v := v) hv
          generalize hce : css[k] = c at *
          obtain ⟨kq, tq, bq, rfl⟩ := hx.two
          have HCE := Lib.hid hce
          clear hce
          have e0 : wr.cell? ⟨fb, k * 2, none⟩ = some (.int .i64 kq) := by have := hcc 0 _ rfl; simpa using this
          have e1 : wr.cell? ⟨fb, k * 2 + 1, none⟩ = some (.iface tq (.pointer (some ⟨bq, 0, none⟩))) := hcc 1 _ rfl
          have hF1 := fun w' (hk : Stab.Keeps wr w') => forceGeo_ D hD4 _ _ [.int .i64 kq, .iface tq (.pointer (some ⟨bq, 0, none⟩))] w' (geoS.kf hx (KF.keeps hk))
          generalize hke : kids[k] = kid at *
          have HKE := Lib.hid hke
          have hfl := hU.lt
          clear hcc hx hke
          go_wp2_with fail
          refine (hF1 _ (Stab.Keeps.refl _)).mono ?_
          clear hF1
          rintro e w6 ⟨cs4, rfl, hk4, hx4⟩
          obtain ⟨kz, tz, bz, rfl⟩ := hx4.two
          have hU4 := hU.keep geoS hk4
          have hx5 := geoS.mono (G := orNew (Go.Kf.old F w.heap.size) w5.heap.size) hx4 (fun b _ hb => on_old hsz5 hb)
          have hkm : k < (kids.map (forceP D)).length := by simpa using hkk
          have hxe : (kids.map (forceP D))[k] = forceP D kid := by rw [List.getElem_map, HKE.out]
          rw [← hxe] at hx5
          have hU5 := hU4.put2 geoS hlt hkm hx5
          have hsz6 : w5.heap.size ≤ w6.heap.size := Nat.le_trans hsz5 hk4.size
          obtain ⟨x0, r0⟩ := hU4.room.cell (k * 2) (by omega)
          obtain ⟨x1, r1⟩ := hU4.room.cell (k * 2 + 1) (by omega)
          have rf := hU4.room.free
          have hl4 := hU4.lt
          clear hU hU4 hx4 hx5 hxe hkm e0 e1 hk4 hfl
          go_wp2_with fail
          go_roundw
          case rel => exact ⟨k + 1, _, by omega, by go_num, by simpa using hsz6, hU5⟩
          case measure => simp [intOf]; omega
        · obtain rfl : n = k := by omega
          have hB2 := hB1.keep hk
          have r0 := hB2.cell (i := 0) rfl
          have r1 := hB2.cell (i := 1) rfl
          have rf := hB2.free
          have rl := hB2.lt
          have hs1 := HS1.out
          go_wp2_with fail
          refine bodyPost_ret (v := .agg #[.slice (some ⟨fb, 0, none⟩) n c5, .int .u8 D]) (by simp [results, Tryz.results88, go_sem, *]) rfl ⟨[.slice (some ⟨fb, 0, none⟩) n c5, .int .u8 D], rfl, ?_, D, _, n, c5, cs', kids.map (forceP D), rfl, rfl, hD4, hn, ?_, fun c hc => ?_⟩
          · with_reducible (repeat first | exact Kx.r _ | assumption | refine Kx.a ?_ _ | refine Kx.d ?_ | refine Kx.e ?_ _ | refine Kx.s (by simp <;> omega) ?_ _ | refine Kx.t ?_ (by assumption))
          · have hnf : ¬ orNew (Go.Kf.old F w.heap.size) w5.heap.size w.heap.size := by simp [orNew, Go.Kf.old]; omega
            have hk2 : Stab.Keeps w wr := Stab.Keeps.trans hkw hk
            have hU2 : Upd w wr (orNew (Go.Kf.old F w.heap.size) w5.heap.size) GeoR fb n n 2 cs' css (kids.map (forceP D)) := ⟨hk2, hU.room, hU.filled, hU.lc, hU.each, hU.lo, hU.eacho, hU.is, hU.lt, by omega, hU.nin⟩
            exact ((hU2.past geoS (by omega) hnf (by omega) _).past geoS (by omega) hnf (by omega) _).rows geoS (by rw [List.length_map]; exact HLK.out) hnc (by unfold maxLen; omega) (fun b _ hb => on_mono (by omega) hb) (.inr (by omega))
          · obtain ⟨q, _, rfl⟩ := List.mem_map.1 hc
            exact forceP_dim D q
end Go.Proofs.YtinbkonmlgediaaGreat
set_option linter.unusedVariables false
set_option linter.unusedSimpArgs false
namespace Go.Proofs.YtinbkonmlgediaaGreat
open Go.RowKit Go.Fl Go.Sl Go.Pg Go.Ch Go.Kf
theorem GT.ind {P : GT → Prop} (h : ∀ g nums kids, (∀ c ∈ kids, P c) → P (.node g nums kids)) : ∀ p, P p
  | .node g nums kids => h g nums kids (fun c hc => GT.ind h c)
termination_by p => SizeOf.sizeOf p
decreasing_by
  have := List.sizeOf_lt_of_mem hc
  simp
  omega
/-- what is asked of the parts -/
def MakeOk (t : GT) : Prop := ∀ (w : World), t.At w → t.Small → Calls Tryz.prog 17 #[t.hd.val] w (RetR w no GeoR (newP t))
set_option maxRecDepth 100000 in
set_option maxHeartbeats 2000000 in
theorem geometries_ (ka : Option Addr) (kn kc : Nat) (kids : List GT) (w : World) (hkn : kids.length = kn) (hb : kn ≤ 1000) (h2 : Sz w ka kn kc 4 (kids.flatMap GT.cells)) (h3 : ∀ t ∈ kids, t.At w) (hs : ∀ t ∈ kids, t.Small) (hM : ∀ t ∈ kids, MakeOk t) :
    Calls Tryz.prog 89 #[.slice ka kn kc] w (RetS w no GeoR 2 kn (kids.map newP)) := by
  have hmk := fun w => run_makeN (P := Tryz.prog) 91 63 _ 2 24 kn Tryz.underlying91 infoGeo (by omega) (by omega) w
  have hle := h2.le
  have hmx := h2.max
  unfold maxLen at hmx
  have HKN := Lib.hid hkn
  have HM := Lib.hid hM
  clear hM hkn
  go_enter Tryz.func89, Tryz.ntmps89
  go_wp2_with fail
  have hFl := Fill.start w w (orNew no (w.heap.size + 1)) GeoR kn 2 (madeCells #[.int .i64 0, .nilIface] (kn * 2)) 63 (kids.map newP) (Stab.Keeps.refl w) (size_madeCells _ _) (by simp [orNew, no])
  generalize (w.alloc (.cells (madeCells #[.int .i64 0, .nilIface] (kn * 2)) 63)) = W at hFl ⊢
  clear hmk
  go_wp2_with fail
  go_loopw [11] (fun iv wr => ∃ (k : Nat) (cs' : List (List Value)), k ≤ kn ∧ iv = .int .i64 k ∧ Fill w wr (orNew no (w.heap.size + 1)) GeoR w.heap.size kn k 2 cs' (kids.map newP)) (fun iv _ => kn - (intOf iv).toNat)
  case atStart => exact ⟨0, [], by omega, rfl, hFl⟩
  case round =>
    clear hFl
    obtain ⟨k, cs', k2, rfl, hFl⟩ := hrel
    have hk := hFl.keeps
    by_cases hlt : k < kn
    · obtain ⟨b, off, ha, hb, hc⟩ := (h2.keep hk).elem hlt
      subst ha
      have hki : k < kids.length := by have := HKN.out; omega
      have e0 : wr.cell? ⟨b, off + k * 4, none⟩ = some (.int .i64 kids[k].hd.kind) := hc 0 _ (by omega) (by rw [flat_get GT.cells 4 GT.cells_len kids k 0 hki (by omega)]; rfl)
      have e1 : wr.cell? ⟨b, off + k * 4 + 1, none⟩ = some (.int .i64 kids[k].hd.dim) := hc 1 _ (by omega) (by rw [flat_get GT.cells 4 GT.cells_len kids k 1 hki (by omega)]; rfl)
      have e2 : wr.cell? ⟨b, off + k * 4 + 2, none⟩ = some (.slice kids[k].hd.na kids[k].hd.nn kids[k].hd.nc) := hc 2 _ (by omega) (by rw [flat_get GT.cells 4 GT.cells_len kids k 2 hki (by omega)]; rfl)
      have e3 : wr.cell? ⟨b, off + k * 4 + 3, none⟩ = some (.slice kids[k].hd.ka kids[k].hd.kn kids[k].hd.kc) := hc 3 _ (by omega) (by rw [flat_get GT.cells 4 GT.cells_len kids k 3 hki (by omega)]; rfl)
      have hM1 := fun w' (hk' : Stab.Keeps w w') => HM.out kids[k] (List.getElem_mem _) w' ((h3 _ (List.getElem_mem _)).keep hk') (hs _ (List.getElem_mem _))
      have hkm : k < (kids.map newP).length := by simpa using hki
      have hxe : (kids.map newP)[k] = newP kids[k] := by rw [List.getElem_map]
      have HXE := Lib.hid hxe
      clear hc hxe
      generalize kids[k] = x at *
      unfold Gm.val at hM1
      go_wp2_with fail
      refine (hM1 _ (by with_reducible (repeat first | exact Kx.r _ | assumption | refine Kx.a ?_ _ | refine Kx.d ?_ | refine Kx.e ?_ _ | refine Kx.s (by simp <;> omega) ?_ _ | refine Kx.t ?_ (by assumption)))).mono ?_
      clear hM1
      rintro e w4 ⟨cs4, rfl, hk4, hx4⟩
      obtain ⟨kz, tz, bz, rfl⟩ := hx4.two
      have hlw : w.heap.size < wr.heap.size := hFl.lt
      have hk5 : Stab.Keeps wr w4 := by with_reducible (repeat first | exact Kx.r _ | assumption | refine Kx.a ?_ _ | refine Kx.d ?_ | refine Kx.e ?_ _ | refine Kx.s (by simp <;> omega) ?_ _ | refine Kx.t ?_ (by assumption))
      have hFl4 := hFl.keep geoS hk5
      have hx5 := geoS.mono (G := orNew no (w.heap.size + 1)) hx4 (fun b _ hb => hb.elim (fun h => h.elim) (fun h => .inr (by simp at h; omega)))
      rw [← HXE.out] at hx5
      have hFl5 := hFl4.put2 geoS hlt hkm hx5
      obtain ⟨x0, r0⟩ := hFl4.room.cell (k * 2) (by omega)
      obtain ⟨x1, r1⟩ := hFl4.room.cell (k * 2 + 1) (by omega)
      have rf := hFl4.room.free
      have hl4 := hFl4.lt
      clear hFl hFl4 hx4 hx5 HXE hkm e0 e1 e2 e3 hk4 hk5 hlw hk
      go_wp2_with fail
      go_roundw
      case rel => exact ⟨k + 1, _, by omega, by go_num, hFl5⟩
      case measure => simp [intOf]; omega
    · obtain rfl : kn = k := by omega
      go_wp2_with fail
      go_ret
      exact ⟨_, kn, cs', rfl, hFl.keeps, hFl.rows geoS (by rw [List.length_map]; exact HKN.out) (by unfold maxLen; omega) (fun b _ hb => hb.elim (fun h => .inl h) (fun h => .inr (by omega))) (.inr (Nat.le_refl _))⟩
theorem filter_all (l : List Pg) : l.filter (takes 0) = l := List.filter_eq_self.2 fun _ _ => rfl
set_option maxRecDepth 100000 in
set_option maxHeartbeats 2000000 in
theorem collection_ (kind dim : Int) (na ka : Option Addr) (nn nc kn kc : Nat) (kids : List GT) (w : World) (hkn : kids.length = kn) (hb : kn ≤ 1000) (h2 : Sz w ka kn kc 4 (kids.flatMap GT.cells)) (h3 : ∀ t ∈ kids, t.At w) (hs : ∀ t ∈ kids, t.Small) (hM : ∀ t ∈ kids, MakeOk t) :
    Calls Tryz.prog 42 #[.agg #[.int .i64 kind, .int .i64 dim, .slice na nn nc, .slice ka kn kc]] w (RetR w no GcR (wholeP 0 (dim4 dim) (kids.map newP))) := by
  have hGs := fun w' (hk : Stab.Keeps w w') => geometries_ ka kn kc kids w' hkn hb (h2.keep hk) (fun t ht => (h3 t ht).keep hk) hs hM
  have hO := fun w' => dimOfA_ dim w'
  have hE := fun w' => forceGc_ (F := no) (dim4 dim) (dim4_lt dim) [.slice none 0 0, .int .u8 (0 : Nat)] (.node 0 0 [] []) w' ⟨0, none, 0, 0, [], [], rfl, rfl, by omega, by omega, Go.Kf.Rows.nil _ _ _ _, fun c hc => by simp at hc⟩ (fun c hc => by simp [Pg.kids] at hc)
  have hle := h2.le
  have hmx := h2.max
  unfold maxLen at hmx
  have hyl : (kids.map newP).length = kn := by simpa using hkn
  have HYL := Lib.hid hyl
  generalize kids.map newP = ys at *
  generalize hde : dim4 dim = D at *
  have hd4 : D < 4 := by rw [← hde]; exact dim4_lt dim
  clear hde h3 hs hM h2 hkn hyl
  have HE := Lib.hid hE
  clear hE
  have hs1 : ((w.alloc (.cells #[.int .i64 kind, .int .i64 dim, .slice na nn nc, .slice ka kn kc] 35)).alloc (.cells #[.slice none 0 0, .int .u8 0] 93)).heap.size = w.heap.size + 1 + 1 := by simp
  have HS1 := Lib.hid hs1
  clear hs1
  rcases Nat.eq_zero_or_pos kn with h0 | h0
  · subst h0
    have hy0 : ys = [] := List.length_eq_zero_iff.1 HYL.out
    subst hy0
    clear hGs
    go_enter Tryz.func42, Tryz.ntmps42
    go_wp2_with fail
    refine (hO _).mono ?_
    clear hO
    rintro e w4 ⟨rfl, hk4⟩
    have hB : Blk w4 (w.heap.size + 1) 93 [.slice none 0 0, .int .u8 0] := Blk.keep (by with_reducible (repeat first | assumption | (refine Bx.n ⟨?_, ?_⟩ <;> focus (first | rfl | (simp; done) | omega)) | refine Bx.a ?_ _ | refine Bx.d ?_ | refine Bx.e ?_ _ | refine Bx.p (by first | omega | simp <;> omega) ?_)) hk4
    have hkk : Stab.Keeps w w4 := by with_reducible (repeat first | exact Kx.r _ | assumption | refine Kx.a ?_ _ | refine Kx.d ?_ | refine Kx.e ?_ _ | refine Kx.s (by simp <;> omega) ?_ _ | refine Kx.t ?_ (by assumption))
    have hsz4 : w.heap.size + 1 + 1 ≤ w4.heap.size := by have := hk4.size; have := HS1.out; omega
    clear hk4
    go_wp2_with fail
    have hE1 := HE.out w4
    simp only [Int.natCast_zero] at hE1
    refine hE1.mono ?_
    clear hE1
    rintro e w5 ⟨cs5, rfl, hk5, hx5⟩
    obtain ⟨az, nz, cz, dz, rfl⟩ := hx5.two
    have hB2 := hB.keep hk5
    have hkf : Stab.Keeps w w5 := by with_reducible (repeat first | exact Kx.r _ | assumption | refine Kx.a ?_ _ | refine Kx.d ?_ | refine Kx.e ?_ _ | refine Kx.s (by simp <;> omega) ?_ _ | refine Kx.t ?_ (by assumption))
    clear hk5 hB
    have r0 := hB2.cell (i := 0) rfl
    have r1 := hB2.cell (i := 1) rfl
    have rf := hB2.free
    have rl := hB2.lt
    go_wp2_with fail
    refine bodyPost_ret (v := .agg #[.slice az nz cz, .int .u8 dz]) (by simp [results, Tryz.results42, go_sem, *]) rfl ⟨[.slice az nz cz, .int .u8 dz], rfl, ?_, ?_⟩
    · with_reducible (repeat first | exact Kx.r _ | assumption | refine Kx.a ?_ _ | refine Kx.d ?_ | refine Kx.e ?_ _ | refine Kx.s (by simp <;> omega) ?_ _ | refine Kx.t ?_ (by assumption))
    · have : wholeP 0 D ([] : List Pg) = forceP D (.node 0 0 [] []) := by rw [forceP_eq]; rfl
      rw [this]
      refine gcS.mono (gcS.kf hx5 (w' := _) ?_) (fun b _ hb => hb.elim (fun h => h.elim) (fun h => .inr (by omega)))
      have hnf : ¬ orNew no w4.heap.size (w.heap.size + 1) := by intro h; rcases h with h | h; exact h.elim; omega
      repeat (first | (with_reducible exact KF.refl _ _) | (with_reducible assumption) | (with_reducible refine KF.alloc ?_ _) | (with_reducible refine KF.drew ?_) | (with_reducible refine KF.drewN ?_ _) | ((with_reducible refine KF.set ?_ ?_); focus (first | assumption | (simp [orNew, old]; done) | (simp [orNew, old]; omega) | (simp [orNew, old] at *; omega))) | (with_reducible refine KF.trans ?_ (KF.keeps (by with_reducible assumption))))
  · have hne : ((kn : Int) == 0) = false := by simp; omega
    have hne2 : (kn == 0) = false := by simp; omega
    have hwe : wholeP 0 D ys = wholeP 0 0 ys := by
      have := HYL.out
      unfold wholeP; rw [if_neg (by simp; intro h; rw [h] at this; simp at this; omega), if_neg (by simp; intro h; rw [h] at this; simp at this; omega)]
    have HWE := Lib.hid hwe
    clear hwe hO
    go_enter Tryz.func42, Tryz.ntmps42
    go_wp2_with fail
    refine (hGs _ (by with_reducible (repeat first | exact Kx.r _ | assumption | refine Kx.a ?_ _ | refine Kx.d ?_ | refine Kx.e ?_ _ | refine Kx.s (by simp <;> omega) ?_ _ | refine Kx.t ?_ (by assumption)))).mono ?_
    clear hGs
    rintro e w4 ⟨a4, c4, css4, rfl, hk4, hR4⟩
    have hB : Blk w4 (w.heap.size + 1) 93 [.slice none 0 0, .int .u8 0] := Blk.keep (by with_reducible (repeat first | assumption | (refine Bx.n ⟨?_, ?_⟩ <;> focus (first | rfl | (simp; done) | omega)) | refine Bx.a ?_ _ | refine Bx.d ?_ | refine Bx.e ?_ _ | refine Bx.p (by first | omega | simp <;> omega) ?_)) hk4
    have hkk : Stab.Keeps w w4 := by with_reducible (repeat first | exact Kx.r _ | assumption | refine Kx.a ?_ _ | refine Kx.d ?_ | refine Kx.e ?_ _ | refine Kx.s (by simp <;> omega) ?_ _ | refine Kx.t ?_ (by assumption))
    have hsz4 : w.heap.size + 1 + 1 ≤ w4.heap.size := by have := hk4.size; have := HS1.out; omega
    rw [HS1.out] at hR4
    have hN := newGcN_ a4 kn c4 css4 ys w4 h0 (by omega) hR4
    clear hk4 hR4 hne hne2
    go_wp2_with fail
    refine hN.mono ?_
    clear hN
    rintro e w5 ⟨cs5, rfl, hk5, hx5⟩
    obtain ⟨az, nz, cz, dz, rfl⟩ := hx5.two
    have hB2 := hB.keep hk5
    have hkf : Stab.Keeps w w5 := by with_reducible (repeat first | exact Kx.r _ | assumption | refine Kx.a ?_ _ | refine Kx.d ?_ | refine Kx.e ?_ _ | refine Kx.s (by simp <;> omega) ?_ _ | refine Kx.t ?_ (by assumption))
    clear hk5 hB
    have r0 := hB2.cell (i := 0) rfl
    have r1 := hB2.cell (i := 1) rfl
    have rf := hB2.free
    have rl := hB2.lt
    go_wp2_with fail
    refine bodyPost_ret (v := .agg #[.slice az nz cz, .int .u8 dz]) (by simp [results, Tryz.results42, go_sem, *]) rfl ⟨[.slice az nz cz, .int .u8 dz], rfl, ?_, ?_⟩
    · with_reducible (repeat first | exact Kx.r _ | assumption | refine Kx.a ?_ _ | refine Kx.d ?_ | refine Kx.e ?_ _ | refine Kx.s (by simp <;> omega) ?_ _ | refine Kx.t ?_ (by assumption))
    · rw [← HWE.out] at hx5
      refine gcS.mono (gcS.kf hx5 (w' := _) ?_) (fun b _ hb => ?_)
      · have hnf : ¬ orNew (orNew no (w.heap.size + 1 + 1)) w4.heap.size (w.heap.size + 1) := by
          intro h
          rcases h with h | h
          · rcases h with h | h
            · exact h.elim
            · omega
          · omega
        repeat (first | (with_reducible exact KF.refl _ _) | (with_reducible assumption) | (with_reducible refine KF.alloc ?_ _) | (with_reducible refine KF.drew ?_) | (with_reducible refine KF.drewN ?_ _) | ((with_reducible refine KF.set ?_ ?_); focus (first | assumption | (simp [orNew, old]; done) | (simp [orNew, old]; omega) | (simp [orNew, old] at *; omega))) | (with_reducible refine KF.trans ?_ (KF.keeps (by with_reducible assumption))))
      · rcases hb with hb | hb
        · rcases hb with hb | hb
          · exact hb.elim
          · exact .inr (by omega)
        · exact .inr (by omega)
set_option maxRecDepth 100000 in
set_option maxHeartbeats 2000000 in
theorem geomPt_ (t : GT) (w : World) (hA : t.At w) (hs : t.Small) (hk : t.hd.kind = 1) : Calls Tryz.prog 17 #[t.hd.val] w (RetR w no GeoR (newP t)) := by
  have hM := fun w' (hk' : Stab.Keeps w w') => makePt_ t w' (hA.keep hk') hs hk
  have hG := fun d l w' => ptGeo_ d l w'
  clear hA hs
  generalize newP t = P at *
  obtain ⟨⟨kind, dim, na, nn, nc, ka, kn, kc⟩, nums, kids⟩ := t
  simp only [GT.hd] at hk
  subst hk
  simp only [GT.hd, Gm.val] at hM ⊢
  have hs1 : ((w.alloc (.cells #[.int .i64 1, .int .i64 dim, .slice na nn nc, .slice ka kn kc] 35)).alloc (.cells #[.int .i64 0, .nilIface] 63)).heap.size = w.heap.size + 1 + 1 := by simp
  have HS1 := Lib.hid hs1
  clear hs1
  go_enter Tryz.func17, Tryz.ntmps17
  go_wp2_with fail
  refine (hM _ (by with_reducible (repeat first | exact Kx.r _ | assumption | refine Kx.a ?_ _ | refine Kx.d ?_ | refine Kx.e ?_ _ | refine Kx.s (by simp <;> omega) ?_ _ | refine Kx.t ?_ (by assumption)))).mono ?_
  clear hM
  rintro e w3 ⟨cs3, rfl, hk3, hx3⟩
  have hx3' := hx3
  obtain ⟨dd, l, rfl, hrest⟩ := hx3'
  clear hrest
  rw [HS1.out] at hx3
  go_wp2_with fail
  refine (hG dd l _).mono ?_
  clear hG
  rintro e w4 ⟨b4, rfl, hk4, hb4, hB4⟩
  have hR : Blk w4 (w.heap.size + 1) 63 [.int .i64 0, .nilIface] := Blk.keep (Blk.keep (by with_reducible (repeat first | assumption | (refine Bx.n ⟨?_, ?_⟩ <;> focus (first | rfl | (simp; done) | omega)) | refine Bx.a ?_ _ | refine Bx.d ?_ | refine Bx.e ?_ _ | refine Bx.p (by first | omega | simp <;> omega) ?_)) hk3) hk4
  have hkf : Stab.Keeps w w4 := by with_reducible (repeat first | exact Kx.r _ | assumption | refine Kx.a ?_ _ | refine Kx.d ?_ | refine Kx.e ?_ _ | refine Kx.s (by simp <;> omega) ?_ _ | refine Kx.t ?_ (by assumption))
  have hsz3 : w.heap.size + 1 + 1 ≤ w3.heap.size := by have := hk3.size; have := HS1.out; omega
  have hx4 := ptS.kf hx3 (KF.keeps hk4)
  clear hk3 hk4
  have r0 := hR.cell (i := 0) rfl
  have r1 := hR.cell (i := 1) rfl
  have rf := hR.free
  have rl := hR.lt
  go_wp2_with fail
  refine bodyPost_ret (v := .agg #[.int .i64 1, .iface 124 (.pointer (some ⟨b4, 0, none⟩))]) (by simp [results, Tryz.results17, go_sem, *]) rfl ⟨[.int .i64 1, .iface 124 (.pointer (some ⟨b4, 0, none⟩))], rfl, ?_, ?_⟩
  · with_reducible (repeat first | exact Kx.r _ | assumption | refine Kx.a ?_ _ | refine Kx.d ?_ | refine Kx.e ?_ _ | refine Kx.s (by simp <;> omega) ?_ _ | refine Kx.t ?_ (by assumption))
  · have hnf : ¬ orNew no (w.heap.size + 1 + 1) (w.heap.size + 1) := by intro h; rcases h with h | h; exact h.elim; omega
    have hx5 := ptS.mono (ptS.kf (w' := (w4.setCell ⟨w.heap.size + 1, 0, none⟩ (.int .i64 1)).setCell ⟨w.heap.size + 1, 1, none⟩ (.iface 124 (.pointer (some ⟨b4, 0, none⟩)))) hx4 (by repeat (first | (with_reducible exact KF.refl _ _) | (with_reducible assumption) | (with_reducible refine KF.alloc ?_ _) | (with_reducible refine KF.drew ?_) | (with_reducible refine KF.drewN ?_ _) | ((with_reducible refine KF.set ?_ ?_); focus (first | assumption | (simp [orNew, old]; done) | (simp [orNew, old]; omega) | (simp [orNew, old] at *; omega))) | (with_reducible refine KF.trans ?_ (KF.keeps (by with_reducible assumption)))))) (G := orNew no w.heap.size) (fun b _ hb => hb.elim (fun h => h.elim) (fun h => .inr (by omega)))
    refine .pt b4 _ _ (.inr (by omega)) ?_ hx5
    with_reducible (repeat first | assumption | (refine Bx.n ⟨?_, ?_⟩ <;> focus (first | rfl | (simp; done) | omega)) | refine Bx.a ?_ _ | refine Bx.d ?_ | refine Bx.e ?_ _ | refine Bx.p (by first | omega | simp <;> omega) ?_)
set_option maxRecDepth 100000 in
set_option maxHeartbeats 2000000 in
theorem geomLs_ (t : GT) (w : World) (hA : t.At w) (hs : t.Small) (hk : t.hd.kind = 2) : Calls Tryz.prog 17 #[t.hd.val] w (RetR w no GeoR (newP t)) := by
  have hM := fun w' (hk' : Stab.Keeps w w') => makeLs_ t w' (hA.keep hk') hs hk
  have hG := fun d a n c w' => lineGeo_ d a n c w'
  clear hA hs
  generalize newP t = P at *
  obtain ⟨⟨kind, dim, na, nn, nc, ka, kn, kc⟩, nums, kids⟩ := t
  simp only [GT.hd] at hk
  subst hk
  simp only [GT.hd, Gm.val] at hM ⊢
  have hs1 : ((w.alloc (.cells #[.int .i64 2, .int .i64 dim, .slice na nn nc, .slice ka kn kc] 35)).alloc (.cells #[.int .i64 0, .nilIface] 63)).heap.size = w.heap.size + 1 + 1 := by simp
  have HS1 := Lib.hid hs1
  clear hs1
  go_enter Tryz.func17, Tryz.ntmps17
  go_wp2_with fail
  refine (hM _ (by with_reducible (repeat first | exact Kx.r _ | assumption | refine Kx.a ?_ _ | refine Kx.d ?_ | refine Kx.e ?_ _ | refine Kx.s (by simp <;> omega) ?_ _ | refine Kx.t ?_ (by assumption)))).mono ?_
  clear hM
  rintro e w3 ⟨cs3, rfl, hk3, hx3⟩
  obtain ⟨d3, a3, n3, c3, rfl⟩ := hx3.two
  rw [HS1.out] at hx3
  go_wp2_with fail
  refine (hG d3 a3 n3 c3 _).mono ?_
  clear hG
  rintro e w4 ⟨b4, rfl, hk4, hb4, hB4⟩
  have hR : Blk w4 (w.heap.size + 1) 63 [.int .i64 0, .nilIface] := Blk.keep (Blk.keep (by with_reducible (repeat first | assumption | (refine Bx.n ⟨?_, ?_⟩ <;> focus (first | rfl | (simp; done) | omega)) | refine Bx.a ?_ _ | refine Bx.d ?_ | refine Bx.e ?_ _ | refine Bx.p (by first | omega | simp <;> omega) ?_)) hk3) hk4
  have hkf : Stab.Keeps w w4 := by with_reducible (repeat first | exact Kx.r _ | assumption | refine Kx.a ?_ _ | refine Kx.d ?_ | refine Kx.e ?_ _ | refine Kx.s (by simp <;> omega) ?_ _ | refine Kx.t ?_ (by assumption))
  have hsz3 : w.heap.size + 1 + 1 ≤ w3.heap.size := by have := hk3.size; have := HS1.out; omega
  have hx4 := lsS.kf hx3 (KF.keeps hk4)
  clear hk3 hk4
  have r0 := hR.cell (i := 0) rfl
  have r1 := hR.cell (i := 1) rfl
  have rf := hR.free
  have rl := hR.lt
  go_wp2_with fail
  refine bodyPost_ret (v := .agg #[.int .i64 2, .iface 125 (.pointer (some ⟨b4, 0, none⟩))]) (by simp [results, Tryz.results17, go_sem, *]) rfl ⟨[.int .i64 2, .iface 125 (.pointer (some ⟨b4, 0, none⟩))], rfl, ?_, ?_⟩
  · with_reducible (repeat first | exact Kx.r _ | assumption | refine Kx.a ?_ _ | refine Kx.d ?_ | refine Kx.e ?_ _ | refine Kx.s (by simp <;> omega) ?_ _ | refine Kx.t ?_ (by assumption))
  · have hnf : ¬ orNew no (w.heap.size + 1 + 1) (w.heap.size + 1) := by intro h; rcases h with h | h; exact h.elim; omega
    have hx5 := lsS.mono (lsS.kf (w' := (w4.setCell ⟨w.heap.size + 1, 0, none⟩ (.int .i64 2)).setCell ⟨w.heap.size + 1, 1, none⟩ (.iface 125 (.pointer (some ⟨b4, 0, none⟩)))) hx4 (by repeat (first | (with_reducible exact KF.refl _ _) | (with_reducible assumption) | (with_reducible refine KF.alloc ?_ _) | (with_reducible refine KF.drew ?_) | (with_reducible refine KF.drewN ?_ _) | ((with_reducible refine KF.set ?_ ?_); focus (first | assumption | (simp [orNew, old]; done) | (simp [orNew, old]; omega) | (simp [orNew, old] at *; omega))) | (with_reducible refine KF.trans ?_ (KF.keeps (by with_reducible assumption)))))) (G := orNew no w.heap.size) (fun b _ hb => hb.elim (fun h => h.elim) (fun h => .inr (by omega)))
    refine .ls b4 _ _ (.inr (by omega)) ?_ hx5
    with_reducible (repeat first | assumption | (refine Bx.n ⟨?_, ?_⟩ <;> focus (first | rfl | (simp; done) | omega)) | refine Bx.a ?_ _ | refine Bx.d ?_ | refine Bx.e ?_ _ | refine Bx.p (by first | omega | simp <;> omega) ?_)
set_option maxRecDepth 100000 in
set_option maxHeartbeats 2000000 in
theorem geomPy_ (t : GT) (w : World) (hA : t.At w) (hs : t.Small) (hk : t.hd.kind = 3) : Calls Tryz.prog 17 #[t.hd.val] w (RetR w no GeoR (newP t)) := by
  have hM := fun w' (hk' : Stab.Keeps w w') => makePy_ t w' (hA.keep hk') hs hk
  have hG := fun a n c d w' => geoPy_ a n c d w'
  clear hA hs
  generalize newP t = P at *
  obtain ⟨⟨kind, dim, na, nn, nc, ka, kn, kc⟩, nums, kids⟩ := t
  simp only [GT.hd] at hk
  subst hk
  simp only [GT.hd, Gm.val] at hM ⊢
  have hs1 : ((w.alloc (.cells #[.int .i64 3, .int .i64 dim, .slice na nn nc, .slice ka kn kc] 35)).alloc (.cells #[.int .i64 0, .nilIface] 63)).heap.size = w.heap.size + 1 + 1 := by simp
  have HS1 := Lib.hid hs1
  clear hs1
  go_enter Tryz.func17, Tryz.ntmps17
  go_wp2_with fail
  refine (hM _ (by with_reducible (repeat first | exact Kx.r _ | assumption | refine Kx.a ?_ _ | refine Kx.d ?_ | refine Kx.e ?_ _ | refine Kx.s (by simp <;> omega) ?_ _ | refine Kx.t ?_ (by assumption)))).mono ?_
  clear hM
  rintro e w3 ⟨cs3, rfl, hk3, hx3⟩
  obtain ⟨a3, n3, c3, d3, rfl⟩ := hx3.two
  rw [HS1.out] at hx3
  go_wp2_with fail
  refine (hG a3 n3 c3 d3 _).mono ?_
  clear hG
  rintro e w4 ⟨b4, rfl, hk4, hb4, hB4⟩
  have hR : Blk w4 (w.heap.size + 1) 63 [.int .i64 0, .nilIface] := Blk.keep (Blk.keep (by with_reducible (repeat first | assumption | (refine Bx.n ⟨?_, ?_⟩ <;> focus (first | rfl | (simp; done) | omega)) | refine Bx.a ?_ _ | refine Bx.d ?_ | refine Bx.e ?_ _ | refine Bx.p (by first | omega | simp <;> omega) ?_)) hk3) hk4
  have hkf : Stab.Keeps w w4 := by with_reducible (repeat first | exact Kx.r _ | assumption | refine Kx.a ?_ _ | refine Kx.d ?_ | refine Kx.e ?_ _ | refine Kx.s (by simp <;> omega) ?_ _ | refine Kx.t ?_ (by assumption))
  have hsz3 : w.heap.size + 1 + 1 ≤ w3.heap.size := by have := hk3.size; have := HS1.out; omega
  have hx4 := pyS.kf hx3 (KF.keeps hk4)
  clear hk3 hk4
  have r0 := hR.cell (i := 0) rfl
  have r1 := hR.cell (i := 1) rfl
  have rf := hR.free
  have rl := hR.lt
  go_wp2_with fail
  refine bodyPost_ret (v := .agg #[.int .i64 3, .iface 128 (.pointer (some ⟨b4, 0, none⟩))]) (by simp [results, Tryz.results17, go_sem, *]) rfl ⟨[.int .i64 3, .iface 128 (.pointer (some ⟨b4, 0, none⟩))], rfl, ?_, ?_⟩
  · with_reducible (repeat first | exact Kx.r _ | assumption | refine Kx.a ?_ _ | refine Kx.d ?_ | refine Kx.e ?_ _ | refine Kx.s (by simp <;> omega) ?_ _ | refine Kx.t ?_ (by assumption))
  · have hnf : ¬ orNew no (w.heap.size + 1 + 1) (w.heap.size + 1) := by intro h; rcases h with h | h; exact h.elim; omega
    have hx5 := pyS.mono (pyS.kf (w' := (w4.setCell ⟨w.heap.size + 1, 0, none⟩ (.int .i64 3)).setCell ⟨w.heap.size + 1, 1, none⟩ (.iface 128 (.pointer (some ⟨b4, 0, none⟩)))) hx4 (by repeat (first | (with_reducible exact KF.refl _ _) | (with_reducible assumption) | (with_reducible refine KF.alloc ?_ _) | (with_reducible refine KF.drew ?_) | (with_reducible refine KF.drewN ?_ _) | ((with_reducible refine KF.set ?_ ?_); focus (first | assumption | (simp [orNew, old]; done) | (simp [orNew, old]; omega) | (simp [orNew, old] at *; omega))) | (with_reducible refine KF.trans ?_ (KF.keeps (by with_reducible assumption)))))) (G := orNew no w.heap.size) (fun b _ hb => hb.elim (fun h => h.elim) (fun h => .inr (by omega)))
    refine .py b4 _ _ (.inr (by omega)) ?_ hx5
    with_reducible (repeat first | assumption | (refine Bx.n ⟨?_, ?_⟩ <;> focus (first | rfl | (simp; done) | omega)) | refine Bx.a ?_ _ | refine Bx.d ?_ | refine Bx.e ?_ _ | refine Bx.p (by first | omega | simp <;> omega) ?_)
set_option maxRecDepth 100000 in
set_option maxHeartbeats 2000000 in
theorem geomMp_ (t : GT) (w : World) (hA : t.At w) (hs : t.Small) (hk : t.hd.kind = 4) : Calls Tryz.prog 17 #[t.hd.val] w (RetR w no GeoR (newP t)) := by
  have hM := fun w' (hk' : Stab.Keeps w w') => makeMp_ t w' (hA.keep hk') hs hk
  have hG := fun a n c d w' => geoMp_ a n c d w'
  clear hA hs
  generalize newP t = P at *
  obtain ⟨⟨kind, dim, na, nn, nc, ka, kn, kc⟩, nums, kids⟩ := t
  simp only [GT.hd] at hk
  subst hk
  simp only [GT.hd, Gm.val] at hM ⊢
  have hs1 : ((w.alloc (.cells #[.int .i64 4, .int .i64 dim, .slice na nn nc, .slice ka kn kc] 35)).alloc (.cells #[.int .i64 0, .nilIface] 63)).heap.size = w.heap.size + 1 + 1 := by simp
  have HS1 := Lib.hid hs1
  clear hs1
  go_enter Tryz.func17, Tryz.ntmps17
  go_wp2_with fail
  refine (hM _ (by with_reducible (repeat first | exact Kx.r _ | assumption | refine Kx.a ?_ _ | refine Kx.d ?_ | refine Kx.e ?_ _ | refine Kx.s (by simp <;> omega) ?_ _ | refine Kx.t ?_ (by assumption)))).mono ?_
  clear hM
  rintro e w3 ⟨cs3, rfl, hk3, hx3⟩
  obtain ⟨a3, n3, c3, d3, rfl⟩ := hx3.two
  rw [HS1.out] at hx3
  go_wp2_with fail
  refine (hG a3 n3 c3 d3 _).mono ?_
  clear hG
  rintro e w4 ⟨b4, rfl, hk4, hb4, hB4⟩
  have hR : Blk w4 (w.heap.size + 1) 63 [.int .i64 0, .nilIface] := Blk.keep (Blk.keep (by with_reducible (repeat first | assumption | (refine Bx.n ⟨?_, ?_⟩ <;> focus (first | rfl | (simp; done) | omega)) | refine Bx.a ?_ _ | refine Bx.d ?_ | refine Bx.e ?_ _ | refine Bx.p (by first | omega | simp <;> omega) ?_)) hk3) hk4
  have hkf : Stab.Keeps w w4 := by with_reducible (repeat first | exact Kx.r _ | assumption | refine Kx.a ?_ _ | refine Kx.d ?_ | refine Kx.e ?_ _ | refine Kx.s (by simp <;> omega) ?_ _ | refine Kx.t ?_ (by assumption))
  have hsz3 : w.heap.size + 1 + 1 ≤ w3.heap.size := by have := hk3.size; have := HS1.out; omega
  have hx4 := mpS.kf hx3 (KF.keeps hk4)
  clear hk3 hk4
  have r0 := hR.cell (i := 0) rfl
  have r1 := hR.cell (i := 1) rfl
  have rf := hR.free
  have rl := hR.lt
  go_wp2_with fail
  refine bodyPost_ret (v := .agg #[.int .i64 4, .iface 131 (.pointer (some ⟨b4, 0, none⟩))]) (by simp [results, Tryz.results17, go_sem, *]) rfl ⟨[.int .i64 4, .iface 131 (.pointer (some ⟨b4, 0, none⟩))], rfl, ?_, ?_⟩
  · with_reducible (repeat first | exact Kx.r _ | assumption | refine Kx.a ?_ _ | refine Kx.d ?_ | refine Kx.e ?_ _ | refine Kx.s (by simp <;> omega) ?_ _ | refine Kx.t ?_ (by assumption))
  · have hnf : ¬ orNew no (w.heap.size + 1 + 1) (w.heap.size + 1) := by intro h; rcases h with h | h; exact h.elim; omega
    have hx5 := mpS.mono (mpS.kf (w' := (w4.setCell ⟨w.heap.size + 1, 0, none⟩ (.int .i64 4)).setCell ⟨w.heap.size + 1, 1, none⟩ (.iface 131 (.pointer (some ⟨b4, 0, none⟩)))) hx4 (by repeat (first | (with_reducible exact KF.refl _ _) | (with_reducible assumption) | (with_reducible refine KF.alloc ?_ _) | (with_reducible refine KF.drew ?_) | (with_reducible refine KF.drewN ?_ _) | ((with_reducible refine KF.set ?_ ?_); focus (first | assumption | (simp [orNew, old]; done) | (simp [orNew, old]; omega) | (simp [orNew, old] at *; omega))) | (with_reducible refine KF.trans ?_ (KF.keeps (by with_reducible assumption)))))) (G := orNew no w.heap.size) (fun b _ hb => hb.elim (fun h => h.elim) (fun h => .inr (by omega)))
    refine .mp b4 _ _ (.inr (by omega)) ?_ hx5
    with_reducible (repeat first | assumption | (refine Bx.n ⟨?_, ?_⟩ <;> focus (first | rfl | (simp; done) | omega)) | refine Bx.a ?_ _ | refine Bx.d ?_ | refine Bx.e ?_ _ | refine Bx.p (by first | omega | simp <;> omega) ?_)
set_option maxRecDepth 100000 in
set_option maxHeartbeats 2000000 in
theorem geomMl_ (t : GT) (w : World) (hA : t.At w) (hs : t.Small) (hk : t.hd.kind = 5) : Calls Tryz.prog 17 #[t.hd.val] w (RetR w no GeoR (newP t)) := by
  have hM := fun w' (hk' : Stab.Keeps w w') => makeMl_ t w' (hA.keep hk') hs hk
  have hG := fun a n c d w' => geoMl_ a n c d w'
  clear hA hs
  generalize newP t = P at *
  obtain ⟨⟨kind, dim, na, nn, nc, ka, kn, kc⟩, nums, kids⟩ := t
  simp only [GT.hd] at hk
  subst hk
  simp only [GT.hd, Gm.val] at hM ⊢
  have hs1 : ((w.alloc (.cells #[.int .i64 5, .int .i64 dim, .slice na nn nc, .slice ka kn kc] 35)).alloc (.cells #[.int .i64 0, .nilIface] 63)).heap.size = w.heap.size + 1 + 1 := by simp
  have HS1 := Lib.hid hs1
  clear hs1
  go_enter Tryz.func17, Tryz.ntmps17
  go_wp2_with fail
  refine (hM _ (by with_reducible (repeat first | exact Kx.r _ | assumption | refine Kx.a ?_ _ | refine Kx.d ?_ | refine Kx.e ?_ _ | refine Kx.s (by simp <;> omega) ?_ _ | refine Kx.t ?_ (by assumption)))).mono ?_
  clear hM
  rintro e w3 ⟨cs3, rfl, hk3, hx3⟩
  obtain ⟨a3, n3, c3, d3, rfl⟩ := hx3.two
  rw [HS1.out] at hx3
  go_wp2_with fail
  refine (hG a3 n3 c3 d3 _).mono ?_
  clear hG
  rintro e w4 ⟨b4, rfl, hk4, hb4, hB4⟩
  have hR : Blk w4 (w.heap.size + 1) 63 [.int .i64 0, .nilIface] := Blk.keep (Blk.keep (by with_reducible (repeat first | assumption | (refine Bx.n ⟨?_, ?_⟩ <;> focus (first | rfl | (simp; done) | omega)) | refine Bx.a ?_ _ | refine Bx.d ?_ | refine Bx.e ?_ _ | refine Bx.p (by first | omega | simp <;> omega) ?_)) hk3) hk4
  have hkf : Stab.Keeps w w4 := by with_reducible (repeat first | exact Kx.r _ | assumption | refine Kx.a ?_ _ | refine Kx.d ?_ | refine Kx.e ?_ _ | refine Kx.s (by simp <;> omega) ?_ _ | refine Kx.t ?_ (by assumption))
  have hsz3 : w.heap.size + 1 + 1 ≤ w3.heap.size := by have := hk3.size; have := HS1.out; omega
  have hx4 := mlS.kf hx3 (KF.keeps hk4)
  clear hk3 hk4
  have r0 := hR.cell (i := 0) rfl
  have r1 := hR.cell (i := 1) rfl
  have rf := hR.free
  have rl := hR.lt
  go_wp2_with fail
  refine bodyPost_ret (v := .agg #[.int .i64 5, .iface 134 (.pointer (some ⟨b4, 0, none⟩))]) (by simp [results, Tryz.results17, go_sem, *]) rfl ⟨[.int .i64 5, .iface 134 (.pointer (some ⟨b4, 0, none⟩))], rfl, ?_, ?_⟩
  · with_reducible (repeat first | exact Kx.r _ | assumption | refine Kx.a ?_ _ | refine Kx.d ?_ | refine Kx.e ?_ _ | refine Kx.s (by simp <;> omega) ?_ _ | refine Kx.t ?_ (by assumption))
  · have hnf : ¬ orNew no (w.heap.size + 1 + 1) (w.heap.size + 1) := by intro h; rcases h with h | h; exact h.elim; omega
    have hx5 := mlS.mono (mlS.kf (w' := (w4.setCell ⟨w.heap.size + 1, 0, none⟩ (.int .i64 5)).setCell ⟨w.heap.size + 1, 1, none⟩ (.iface 134 (.pointer (some ⟨b4, 0, none⟩)))) hx4 (by repeat (first | (with_reducible exact KF.refl _ _) | (with_reducible assumption) | (with_reducible refine KF.alloc ?_ _) | (with_reducible refine KF.drew ?_) | (with_reducible refine KF.drewN ?_ _) | ((with_reducible refine KF.set ?_ ?_); focus (first | assumption | (simp [orNew, old]; done) | (simp [orNew, old]; omega) | (simp [orNew, old] at *; omega))) | (with_reducible refine KF.trans ?_ (KF.keeps (by with_reducible assumption)))))) (G := orNew no w.heap.size) (fun b _ hb => hb.elim (fun h => h.elim) (fun h => .inr (by omega)))
    refine .ml b4 _ _ (.inr (by omega)) ?_ hx5
    with_reducible (repeat first | assumption | (refine Bx.n ⟨?_, ?_⟩ <;> focus (first | rfl | (simp; done) | omega)) | refine Bx.a ?_ _ | refine Bx.d ?_ | refine Bx.e ?_ _ | refine Bx.p (by first | omega | simp <;> omega) ?_)
set_option maxRecDepth 100000 in
set_option maxHeartbeats 2000000 in
theorem geomMy_ (t : GT) (w : World) (hA : t.At w) (hs : t.Small) (hk : t.hd.kind = 6) : Calls Tryz.prog 17 #[t.hd.val] w (RetR w no GeoR (newP t)) := by
  have hM := fun w' (hk' : Stab.Keeps w w') => makeMy_ t w' (hA.keep hk') hs hk
  have hG := fun a n c d w' => geoMy_ a n c d w'
  clear hA hs
  generalize newP t = P at *
  obtain ⟨⟨kind, dim, na, nn, nc, ka, kn, kc⟩, nums, kids⟩ := t
  simp only [GT.hd] at hk
  subst hk
  simp only [GT.hd, Gm.val] at hM ⊢
  have hs1 : ((w.alloc (.cells #[.int .i64 6, .int .i64 dim, .slice na nn nc, .slice ka kn kc] 35)).alloc (.cells #[.int .i64 0, .nilIface] 63)).heap.size = w.heap.size + 1 + 1 := by simp
  have HS1 := Lib.hid hs1
  clear hs1
  go_enter Tryz.func17, Tryz.ntmps17
  go_wp2_with fail
  refine (hM _ (by with_reducible (repeat first | exact Kx.r _ | assumption | refine Kx.a ?_ _ | refine Kx.d ?_ | refine Kx.e ?_ _ | refine Kx.s (by simp <;> omega) ?_ _ | refine Kx.t ?_ (by assumption)))).mono ?_
  clear hM
  rintro e w3 ⟨cs3, rfl, hk3, hx3⟩
  obtain ⟨a3, n3, c3, d3, rfl⟩ := hx3.two
  rw [HS1.out] at hx3
  go_wp2_with fail
  refine (hG a3 n3 c3 d3 _).mono ?_
  clear hG
  rintro e w4 ⟨b4, rfl, hk4, hb4, hB4⟩
  have hR : Blk w4 (w.heap.size + 1) 63 [.int .i64 0, .nilIface] := Blk.keep (Blk.keep (by with_reducible (repeat first | assumption | (refine Bx.n ⟨?_, ?_⟩ <;> focus (first | rfl | (simp; done) | omega)) | refine Bx.a ?_ _ | refine Bx.d ?_ | refine Bx.e ?_ _ | refine Bx.p (by first | omega | simp <;> omega) ?_)) hk3) hk4
  have hkf : Stab.Keeps w w4 := by with_reducible (repeat first | exact Kx.r _ | assumption | refine Kx.a ?_ _ | refine Kx.d ?_ | refine Kx.e ?_ _ | refine Kx.s (by simp <;> omega) ?_ _ | refine Kx.t ?_ (by assumption))
  have hsz3 : w.heap.size + 1 + 1 ≤ w3.heap.size := by have := hk3.size; have := HS1.out; omega
  have hx4 := myS.kf hx3 (KF.keeps hk4)
  clear hk3 hk4
  have r0 := hR.cell (i := 0) rfl
  have r1 := hR.cell (i := 1) rfl
  have rf := hR.free
  have rl := hR.lt
  go_wp2_with fail
  refine bodyPost_ret (v := .agg #[.int .i64 6, .iface 137 (.pointer (some ⟨b4, 0, none⟩))]) (by simp [results, Tryz.results17, go_sem, *]) rfl ⟨[.int .i64 6, .iface 137 (.pointer (some ⟨b4, 0, none⟩))], rfl, ?_, ?_⟩
  · with_reducible (repeat first | exact Kx.r _ | assumption | refine Kx.a ?_ _ | refine Kx.d ?_ | refine Kx.e ?_ _ | refine Kx.s (by simp <;> omega) ?_ _ | refine Kx.t ?_ (by assumption))
  · have hnf : ¬ orNew no (w.heap.size + 1 + 1) (w.heap.size + 1) := by intro h; rcases h with h | h; exact h.elim; omega
    have hx5 := myS.mono (myS.kf (w' := (w4.setCell ⟨w.heap.size + 1, 0, none⟩ (.int .i64 6)).setCell ⟨w.heap.size + 1, 1, none⟩ (.iface 137 (.pointer (some ⟨b4, 0, none⟩)))) hx4 (by repeat (first | (with_reducible exact KF.refl _ _) | (with_reducible assumption) | (with_reducible refine KF.alloc ?_ _) | (with_reducible refine KF.drew ?_) | (with_reducible refine KF.drewN ?_ _) | ((with_reducible refine KF.set ?_ ?_); focus (first | assumption | (simp [orNew, old]; done) | (simp [orNew, old]; omega) | (simp [orNew, old] at *; omega))) | (with_reducible refine KF.trans ?_ (KF.keeps (by with_reducible assumption)))))) (G := orNew no w.heap.size) (fun b _ hb => hb.elim (fun h => h.elim) (fun h => .inr (by omega)))
    refine .my b4 _ _ (.inr (by omega)) ?_ hx5
    with_reducible (repeat first | assumption | (refine Bx.n ⟨?_, ?_⟩ <;> focus (first | rfl | (simp; done) | omega)) | refine Bx.a ?_ _ | refine Bx.d ?_ | refine Bx.e ?_ _ | refine Bx.p (by first | omega | simp <;> omega) ?_)
set_option maxRecDepth 100000 in
set_option maxHeartbeats 2000000 in
theorem geomGc_ (t : GT) (w : World) (hA : t.At w) (hs : t.Small) (hk : kindN t.hd.kind = 0) (hok : ∀ c ∈ t.kids, MakeOk c) : Calls Tryz.prog 17 #[t.hd.val] w (RetR w no GeoR (newP t)) := by
  cases hA with
  | mk h nums kids hn hkn h1 h2 h3 =>
  obtain ⟨kind, dim, na, nn, nc, ka, kn, kc⟩ := h
  simp only [GT.hd] at hk hkn h2
  have hM := fun w' (hk' : Stab.Keeps w w') => collection_ kind dim na ka nn nc kn kc kids w' hkn (by have := hs.few; omega) (h2.keep hk') (fun t ht => (h3 t ht).keep hk') hs.kid hok
  have hG := fun a n c d w' => geoGc_ a n c d w'
  have hP : newP (.node ⟨kind, dim, na, nn, nc, ka, kn, kc⟩ nums kids) = wholeP 0 (dim4 dim) (kids.map newP) := by
    rw [newP_whole _ _ _ (by rw [hk]; decide) (by rw [hk]; decide)]
    simp only [hk, filter_all]
  rw [hP]
  have k1 : (kind == 1) = false := by simp; intro h; subst h; revert hk; decide
  have k2 : (kind == 2) = false := by simp; intro h; subst h; revert hk; decide
  have k3 : (kind == 3) = false := by simp; intro h; subst h; revert hk; decide
  have k4 : (kind == 4) = false := by simp; intro h; subst h; revert hk; decide
  have k5 : (kind == 5) = false := by simp; intro h; subst h; revert hk; decide
  have k6 : (kind == 6) = false := by simp; intro h; subst h; revert hk; decide
  clear hs hn hkn h1 h2 h3 hk hok hP
  generalize wholeP 0 (dim4 dim) (kids.map newP) = P at *
  simp only [GT.hd, Gm.val]
  have hs1 : ((w.alloc (.cells #[.int .i64 kind, .int .i64 dim, .slice na nn nc, .slice ka kn kc] 35)).alloc (.cells #[.int .i64 0, .nilIface] 63)).heap.size = w.heap.size + 1 + 1 := by simp
  have HS1 := Lib.hid hs1
  clear hs1
  go_enter Tryz.func17, Tryz.ntmps17
  go_wp2_with fail
  refine (hM _ (by with_reducible (repeat first | exact Kx.r _ | assumption | refine Kx.a ?_ _ | refine Kx.d ?_ | refine Kx.e ?_ _ | refine Kx.s (by simp <;> omega) ?_ _ | refine Kx.t ?_ (by assumption)))).mono ?_
  clear hM
  rintro e w3 ⟨cs3, rfl, hk3, hx3⟩
  obtain ⟨a3, n3, c3, d3, rfl⟩ := hx3.two
  rw [HS1.out] at hx3
  go_wp2_with fail
  refine (hG a3 n3 c3 d3 _).mono ?_
  clear hG
  rintro e w4 ⟨b4, rfl, hk4, hb4, hB4⟩
  have hR : Blk w4 (w.heap.size + 1) 63 [.int .i64 0, .nilIface] := Blk.keep (Blk.keep (by with_reducible (repeat first | assumption | (refine Bx.n ⟨?_, ?_⟩ <;> focus (first | rfl | (simp; done) | omega)) | refine Bx.a ?_ _ | refine Bx.d ?_ | refine Bx.e ?_ _ | refine Bx.p (by first | omega | simp <;> omega) ?_)) hk3) hk4
  have hkf : Stab.Keeps w w4 := by with_reducible (repeat first | exact Kx.r _ | assumption | refine Kx.a ?_ _ | refine Kx.d ?_ | refine Kx.e ?_ _ | refine Kx.s (by simp <;> omega) ?_ _ | refine Kx.t ?_ (by assumption))
  have hsz3 : w.heap.size + 1 + 1 ≤ w3.heap.size := by have := hk3.size; have := HS1.out; omega
  have hx4 := gcS.kf hx3 (KF.keeps hk4)
  clear hk3 hk4
  have r0 := hR.cell (i := 0) rfl
  have r1 := hR.cell (i := 1) rfl
  have rf := hR.free
  have rl := hR.lt
  go_wp2_with fail
  refine bodyPost_ret (v := .agg #[.int .i64 0, .iface 141 (.pointer (some ⟨b4, 0, none⟩))]) (by simp [results, Tryz.results17, go_sem, *]) rfl ⟨[.int .i64 0, .iface 141 (.pointer (some ⟨b4, 0, none⟩))], rfl, ?_, ?_⟩
  · with_reducible (repeat first | exact Kx.r _ | assumption | refine Kx.a ?_ _ | refine Kx.d ?_ | refine Kx.e ?_ _ | refine Kx.s (by simp <;> omega) ?_ _ | refine Kx.t ?_ (by assumption))
  · have hnf : ¬ orNew no (w.heap.size + 1 + 1) (w.heap.size + 1) := by intro h; rcases h with h | h; exact h.elim; omega
    have hx5 := gcS.mono (gcS.kf (w' := (w4.setCell ⟨w.heap.size + 1, 0, none⟩ (.int .i64 0)).setCell ⟨w.heap.size + 1, 1, none⟩ (.iface 141 (.pointer (some ⟨b4, 0, none⟩)))) hx4 (by repeat (first | (with_reducible exact KF.refl _ _) | (with_reducible assumption) | (with_reducible refine KF.alloc ?_ _) | (with_reducible refine KF.drew ?_) | (with_reducible refine KF.drewN ?_ _) | ((with_reducible refine KF.set ?_ ?_); focus (first | assumption | (simp [orNew, old]; done) | (simp [orNew, old]; omega) | (simp [orNew, old] at *; omega))) | (with_reducible refine KF.trans ?_ (KF.keeps (by with_reducible assumption)))))) (G := orNew no w.heap.size) (fun b _ hb => hb.elim (fun h => h.elim) (fun h => .inr (by omega)))
    refine GcR.geo hx5 (.inr (by omega)) ?_
    with_reducible (repeat first | assumption | (refine Bx.n ⟨?_, ?_⟩ <;> focus (first | rfl | (simp; done) | omega)) | refine Bx.a ?_ _ | refine Bx.d ?_ | refine Bx.e ?_ _ | refine Bx.p (by first | omega | simp <;> omega) ?_)
theorem makeGeo_ : ∀ t, MakeOk t := by
  refine GT.ind fun g nums kids ih => ?_
  intro w hA hs
  by_cases h1 : g.kind = 1
  · exact geomPt_ _ w hA hs h1
  by_cases h2 : g.kind = 2
  · exact geomLs_ _ w hA hs h2
  by_cases h3 : g.kind = 3
  · exact geomPy_ _ w hA hs h3
  by_cases h4 : g.kind = 4
  · exact geomMp_ _ w hA hs h4
  by_cases h5 : g.kind = 5
  · exact geomMl_ _ w hA hs h5
  by_cases h6 : g.kind = 6
  · exact geomMy_ _ w hA hs h6
  refine geomGc_ _ w hA hs ?_ ih
  show kindN g.kind = 0
  unfold kindN
  split <;> omega
end Go.Proofs.YtinbkonmlgediaaGreat
