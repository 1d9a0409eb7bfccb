/-
  Geometries and collections made of plain data. No condition.
-/
import Derived.Test.YtbakhldjfplbfaaGreatH6
set_option linter.unusedVariables false
set_option linter.unusedSimpArgs false
namespace Go.Proofs.YtbakhldjfplbfaaGreat
open Go.RowKit Go.Fl Go.Sl Go.Pg Go.Ch Go.Kf
theorem GT.ind {P : GT → Prop} (h : ∀ g nums kids, (∀ c ∈ kids, P c) → P (.node g nums kids)) : ∀ p, P p
  | .node g nums kids => h g nums kids (fun c hc => GT.ind h c)
termination_by p => SizeOf.sizeOf p
decreasing_by
  have := List.sizeOf_lt_of_mem hc
  simp
  omega
/-- what is asked of the parts -/
def MakeOk (t : GT) : Prop := ∀ (w : World), t.At w → t.Small → Calls Tryz.prog 42 #[t.hd.val] w (RetR w no GeoR (newP t))
set_option maxRecDepth 100000 in
set_option maxHeartbeats 2000000 in
theorem geometries_ (ka : Option Addr) (kn kc : Nat) (kids : List GT) (w : World) (hkn : kids.length = kn) (hb : kn ≤ 1000) (h2 : Sz w ka kn kc 4 (kids.flatMap GT.cells)) (h3 : ∀ t ∈ kids, t.At w) (hs : ∀ t ∈ kids, t.Small) (hM : ∀ t ∈ kids, MakeOk t) :
    Calls Tryz.prog 96 #[.slice ka kn kc] w (RetS w no GeoR 2 kn (kids.map newP)) := by
  have hmk := fun w => run_makeN (P := Tryz.prog) 148 78 _ 2 24 kn Tryz.underlying148 infoGeo (by omega) (by omega) w
  have hle := h2.le
  have hmx := h2.max
  unfold maxLen at hmx
  have HKN := Lib.hid hkn
  have HM := Lib.hid hM
  clear hM hkn
  go_enter Tryz.func96, Tryz.ntmps96
  go_wp2_with fail
  have hFl := Fill.start w w (orNew no (w.heap.size + 1)) GeoR kn 2 (madeCells #[.int .i64 0, .nilIface] (kn * 2)) 78 (kids.map newP) (Stab.Keeps.refl w) (size_madeCells _ _) (by simp [orNew, no])
  generalize (w.alloc (.cells (madeCells #[.int .i64 0, .nilIface] (kn * 2)) 78)) = W at hFl ⊢
  clear hmk
  go_wp2_with fail
  go_loopw [11] (fun iv wr => ∃ (k : Nat) (cs' : List (List Value)), k ≤ kn ∧ iv = .int .i64 k ∧ Fill w wr (orNew no (w.heap.size + 1)) GeoR w.heap.size kn k 2 cs' (kids.map newP)) (fun iv _ => kn - (intOf iv).toNat)
  case atStart => exact ⟨0, [], by omega, rfl, hFl⟩
  case round =>
    clear hFl
    obtain ⟨k, cs', k2, rfl, hFl⟩ := hrel
    have hk := hFl.keeps
    by_cases hlt : k < kn
    · obtain ⟨b, off, ha, hb, hc⟩ := (h2.keep hk).elem hlt
      subst ha
      have hki : k < kids.length := by have := HKN.out; omega
      have e0 : wr.cell? ⟨b, off + k * 4, none⟩ = some (.int .i64 kids[k].hd.kind) := hc 0 _ (by omega) (by rw [flat_get GT.cells 4 GT.cells_len kids k 0 hki (by omega)]; rfl)
      have e1 : wr.cell? ⟨b, off + k * 4 + 1, none⟩ = some (.int .i64 kids[k].hd.dim) := hc 1 _ (by omega) (by rw [flat_get GT.cells 4 GT.cells_len kids k 1 hki (by omega)]; rfl)
      have e2 : wr.cell? ⟨b, off + k * 4 + 2, none⟩ = some (.slice kids[k].hd.na kids[k].hd.nn kids[k].hd.nc) := hc 2 _ (by omega) (by rw [flat_get GT.cells 4 GT.cells_len kids k 2 hki (by omega)]; rfl)
      have e3 : wr.cell? ⟨b, off + k * 4 + 3, none⟩ = some (.slice kids[k].hd.ka kids[k].hd.kn kids[k].hd.kc) := hc 3 _ (by omega) (by rw [flat_get GT.cells 4 GT.cells_len kids k 3 hki (by omega)]; rfl)
      have hM1 := fun w' (hk' : Stab.Keeps w w') => HM.out kids[k] (List.getElem_mem _) w' ((h3 _ (List.getElem_mem _)).keep hk') (hs _ (List.getElem_mem _))
      have hkm : k < (kids.map newP).length := by simpa using hki
      have hxe : (kids.map newP)[k] = newP kids[k] := by rw [List.getElem_map]
      have HXE := Lib.hid hxe
      clear hc hxe
      generalize kids[k] = x at *
      unfold Gm.val at hM1
      go_wp2_with fail
      refine (hM1 _ (by with_reducible (repeat (first | exact Kx.r _ | assumption | refine Kx.a ?_ _ | refine Kx.d ?_ | refine Kx.e ?_ _ | (refine Kx.s ?_ ?_ _; focus (first | (simp; done) | (simp; omega))) | refine Kx.t ?_ (by assumption))))).mono ?_
      clear hM1
      rintro e w4 ⟨cs4, rfl, hk4, hx4⟩
      obtain ⟨kz, tz, bz, rfl⟩ := hx4.two
      have hlw : w.heap.size < wr.heap.size := hFl.lt
      have hk5 : Stab.Keeps wr w4 := by with_reducible (repeat (first | exact Kx.r _ | assumption | refine Kx.a ?_ _ | refine Kx.d ?_ | refine Kx.e ?_ _ | (refine Kx.s ?_ ?_ _; focus (first | (simp; done) | (simp; omega))) | refine Kx.t ?_ (by assumption)))
      have hFl4 := hFl.keep geoS hk5
      have hx5 := geoS.mono (G := orNew no (w.heap.size + 1)) hx4 (fun b _ hb => hb.elim (fun h => h.elim) (fun h => .inr (by simp at h; omega)))
      rw [← HXE.out] at hx5
      have hFl5 := hFl4.put2 geoS hlt hkm hx5
      obtain ⟨x0, r0⟩ := hFl4.room.cell (k * 2) (by omega)
      obtain ⟨x1, r1⟩ := hFl4.room.cell (k * 2 + 1) (by omega)
      have rf := hFl4.room.free
      have hl4 := hFl4.lt
      clear hFl hFl4 hx4 hx5 HXE hkm e0 e1 e2 e3 hk4 hk5 hlw hk
      go_wp2_with fail
      go_roundw
      case rel => exact ⟨k + 1, _, by omega, by go_num, hFl5⟩
      case measure => simp [intOf]; omega
    · obtain rfl : kn = k := by omega
      go_wp2_with fail
      go_ret
      exact ⟨_, kn, cs', rfl, hFl.keeps, hFl.rows geoS (by rw [List.length_map]; exact HKN.out) (by unfold maxLen; omega) (fun b _ hb => hb.elim (fun h => .inl h) (fun h => .inr (by omega))) (.inr (Nat.le_refl _))⟩
theorem filter_all (l : List Pg) : l.filter (takes 0) = l := List.filter_eq_self.2 fun _ _ => rfl
set_option maxRecDepth 100000 in
set_option maxHeartbeats 2000000 in
theorem collection_ (kind dim : Int) (na ka : Option Addr) (nn nc kn kc : Nat) (kids : List GT) (w : World) (hkn : kids.length = kn) (hb : kn ≤ 1000) (h2 : Sz w ka kn kc 4 (kids.flatMap GT.cells)) (h3 : ∀ t ∈ kids, t.At w) (hs : ∀ t ∈ kids, t.Small) (hM : ∀ t ∈ kids, MakeOk t) :
    Calls Tryz.prog 89 #[.agg #[.int .i64 kind, .int .i64 dim, .slice na nn nc, .slice ka kn kc]] w (RetR w no GcR (wholeP 0 (dim4 dim) (kids.map newP))) := by
  have hGs := fun w' (hk : Stab.Keeps w w') => geometries_ ka kn kc kids w' hkn hb (h2.keep hk) (fun t ht => (h3 t ht).keep hk) hs hM
  have hO := fun w' => dimOfA_ dim w'
  have hE := fun w' => forceGc_ (F := no) (dim4 dim) (dim4_lt dim) [.slice none 0 0, .int .u8 (0 : Nat)] (.node 0 0 [] []) w' ⟨0, none, 0, 0, [], [], rfl, rfl, by omega, by omega, Go.Kf.Rows.nil _ _ _ _, fun c hc => by simp at hc⟩ (fun c hc => by simp [Pg.kids] at hc)
  have hle := h2.le
  have hmx := h2.max
  unfold maxLen at hmx
  have hyl : (kids.map newP).length = kn := by simpa using hkn
  have HYL := Lib.hid hyl
  generalize kids.map newP = ys at *
  generalize hde : dim4 dim = D at *
  have hd4 : D < 4 := by rw [← hde]; exact dim4_lt dim
  clear hde h3 hs hM h2 hkn hyl
  have HE := Lib.hid hE
  clear hE
  have hs1 : ((w.alloc (.cells #[.int .i64 kind, .int .i64 dim, .slice na nn nc, .slice ka kn kc] 25)).alloc (.cells #[.slice none 0 0, .int .u8 0] 150)).heap.size = w.heap.size + 1 + 1 := by simp
  have HS1 := Lib.hid hs1
  clear hs1
  rcases Nat.eq_zero_or_pos kn with h0 | h0
  · subst h0
    have hy0 : ys = [] := List.length_eq_zero_iff.1 HYL.out
    subst hy0
    clear hGs
    go_enter Tryz.func89, Tryz.ntmps89
    go_wp2_with fail
    refine (hO _).mono ?_
    clear hO
    rintro e w4 ⟨rfl, hk4⟩
    have hB : Blk w4 (w.heap.size + 1) 150 [.slice none 0 0, .int .u8 0] := Blk.keep (by with_reducible (repeat (first | assumption | ((refine Bx.n ⟨?_, ?_⟩) <;> focus (first | rfl | (simp; done) | omega)) | refine Bx.a ?_ _ | refine Bx.d ?_ | refine Bx.e ?_ _ | (refine Bx.p ?_ ?_; focus (first | (simp; done) | (simp; omega) | omega))))) hk4
    have hkk : Stab.Keeps w w4 := by with_reducible (repeat (first | exact Kx.r _ | assumption | refine Kx.a ?_ _ | refine Kx.d ?_ | refine Kx.e ?_ _ | (refine Kx.s ?_ ?_ _; focus (first | (simp; done) | (simp; omega))) | refine Kx.t ?_ (by assumption)))
    have hsz4 : w.heap.size + 1 + 1 ≤ w4.heap.size := by have := hk4.size; have := HS1.out; omega
    clear hk4
    go_wp2_with fail
    have hE1 := HE.out w4
    simp only [Int.natCast_zero] at hE1
    refine hE1.mono ?_
    clear hE1
    rintro e w5 ⟨cs5, rfl, hk5, hx5⟩
    obtain ⟨az, nz, cz, dz, rfl⟩ := hx5.two
    have hB2 := hB.keep hk5
    have hkf : Stab.Keeps w w5 := by with_reducible (repeat (first | exact Kx.r _ | assumption | refine Kx.a ?_ _ | refine Kx.d ?_ | refine Kx.e ?_ _ | (refine Kx.s ?_ ?_ _; focus (first | (simp; done) | (simp; omega))) | refine Kx.t ?_ (by assumption)))
    clear hk5 hB
    have r0 := hB2.cell (i := 0) rfl
    have r1 := hB2.cell (i := 1) rfl
    have rf := hB2.free
    have rl := hB2.lt
    go_wp2_with fail
    refine bodyPost_ret (v := .agg #[.slice az nz cz, .int .u8 dz]) (by simp [results, Tryz.results89, go_sem, *]) rfl ⟨[.slice az nz cz, .int .u8 dz], rfl, ?_, ?_⟩
    · with_reducible (repeat (first | exact Kx.r _ | assumption | refine Kx.a ?_ _ | refine Kx.d ?_ | refine Kx.e ?_ _ | (refine Kx.s ?_ ?_ _; focus (first | (simp; done) | (simp; omega))) | refine Kx.t ?_ (by assumption)))
    · have : wholeP 0 D ([] : List Pg) = forceP D (.node 0 0 [] []) := by rw [forceP_eq]; rfl
      rw [this]
      refine gcS.mono (gcS.kf hx5 (w' := _) ?_) (fun b _ hb => hb.elim (fun h => h.elim) (fun h => .inr (by omega)))
      have hnf : ¬ orNew no w4.heap.size (w.heap.size + 1) := by intro h; rcases h with h | h; exact h.elim; omega
      repeat (first | (with_reducible exact KF.refl _ _) | (with_reducible assumption) | (with_reducible refine KF.alloc ?_ _) | (with_reducible refine KF.drew ?_) | (with_reducible refine KF.drewN ?_ _) | ((with_reducible refine KF.set ?_ ?_); focus (first | assumption | (simp [orNew, old]; done) | (simp [orNew, old]; omega) | (simp [orNew, old] at *; omega))) | (with_reducible refine KF.trans ?_ (KF.keeps (by with_reducible assumption))))
  · have hne : ((kn : Int) == 0) = false := by simp; omega
    have hne2 : (kn == 0) = false := by simp; omega
    have hwe : wholeP 0 D ys = wholeP 0 0 ys := by
      have := HYL.out
      unfold wholeP; rw [if_neg (by simp; intro h; rw [h] at this; simp at this; omega), if_neg (by simp; intro h; rw [h] at this; simp at this; omega)]
    have HWE := Lib.hid hwe
    clear hwe hO
    go_enter Tryz.func89, Tryz.ntmps89
    go_wp2_with fail
    refine (hGs _ (by with_reducible (repeat (first | exact Kx.r _ | assumption | refine Kx.a ?_ _ | refine Kx.d ?_ | refine Kx.e ?_ _ | (refine Kx.s ?_ ?_ _; focus (first | (simp; done) | (simp; omega))) | refine Kx.t ?_ (by assumption))))).mono ?_
    clear hGs
    rintro e w4 ⟨a4, c4, css4, rfl, hk4, hR4⟩
    have hB : Blk w4 (w.heap.size + 1) 150 [.slice none 0 0, .int .u8 0] := Blk.keep (by with_reducible (repeat (first | assumption | ((refine Bx.n ⟨?_, ?_⟩) <;> focus (first | rfl | (simp; done) | omega)) | refine Bx.a ?_ _ | refine Bx.d ?_ | refine Bx.e ?_ _ | (refine Bx.p ?_ ?_; focus (first | (simp; done) | (simp; omega) | omega))))) hk4
    have hkk : Stab.Keeps w w4 := by with_reducible (repeat (first | exact Kx.r _ | assumption | refine Kx.a ?_ _ | refine Kx.d ?_ | refine Kx.e ?_ _ | (refine Kx.s ?_ ?_ _; focus (first | (simp; done) | (simp; omega))) | refine Kx.t ?_ (by assumption)))
    have hsz4 : w.heap.size + 1 + 1 ≤ w4.heap.size := by have := hk4.size; have := HS1.out; omega
    rw [HS1.out] at hR4
    have hN := newGcN_ a4 kn c4 css4 ys w4 h0 (by omega) hR4
    clear hk4 hR4 hne hne2
    go_wp2_with fail
    refine hN.mono ?_
    clear hN
    rintro e w5 ⟨cs5, rfl, hk5, hx5⟩
    obtain ⟨az, nz, cz, dz, rfl⟩ := hx5.two
    have hB2 := hB.keep hk5
    have hkf : Stab.Keeps w w5 := by with_reducible (repeat (first | exact Kx.r _ | assumption | refine Kx.a ?_ _ | refine Kx.d ?_ | refine Kx.e ?_ _ | (refine Kx.s ?_ ?_ _; focus (first | (simp; done) | (simp; omega))) | refine Kx.t ?_ (by assumption)))
    clear hk5 hB
    have r0 := hB2.cell (i := 0) rfl
    have r1 := hB2.cell (i := 1) rfl
    have rf := hB2.free
    have rl := hB2.lt
    go_wp2_with fail
    refine bodyPost_ret (v := .agg #[.slice az nz cz, .int .u8 dz]) (by simp [results, Tryz.results89, go_sem, *]) rfl ⟨[.slice az nz cz, .int .u8 dz], rfl, ?_, ?_⟩
    · with_reducible (repeat (first | exact Kx.r _ | assumption | refine Kx.a ?_ _ | refine Kx.d ?_ | refine Kx.e ?_ _ | (refine Kx.s ?_ ?_ _; focus (first | (simp; done) | (simp; omega))) | refine Kx.t ?_ (by assumption)))
    · rw [← HWE.out] at hx5
      refine gcS.mono (gcS.kf hx5 (w' := _) ?_) (fun b _ hb => ?_)
      · have hnf : ¬ orNew (orNew no (w.heap.size + 1 + 1)) w4.heap.size (w.heap.size + 1) := by
          intro h
          rcases h with h | h
          · rcases h with h | h
            · exact h.elim
            · omega
          · omega
        repeat (first | (with_reducible exact KF.refl _ _) | (with_reducible assumption) | (with_reducible refine KF.alloc ?_ _) | (with_reducible refine KF.drew ?_) | (with_reducible refine KF.drewN ?_ _) | ((with_reducible refine KF.set ?_ ?_); focus (first | assumption | (simp [orNew, old]; done) | (simp [orNew, old]; omega) | (simp [orNew, old] at *; omega))) | (with_reducible refine KF.trans ?_ (KF.keeps (by with_reducible assumption))))
      · rcases hb with hb | hb
        · rcases hb with hb | hb
          · exact hb.elim
          · exact .inr (by omega)
        · exact .inr (by omega)
set_option maxRecDepth 100000 in
set_option maxHeartbeats 2000000 in
theorem geomPt_ (t : GT) (w : World) (hA : t.At w) (hs : t.Small) (hk : t.hd.kind = 1) : Calls Tryz.prog 42 #[t.hd.val] w (RetR w no GeoR (newP t)) := by
  have hM := fun w' (hk' : Stab.Keeps w w') => makePt_ t w' (hA.keep hk') hs hk
  have hG := fun d l w' => ptGeo_ d l w'
  clear hA hs
  generalize newP t = P at *
  obtain ⟨⟨kind, dim, na, nn, nc, ka, kn, kc⟩, nums, kids⟩ := t
  simp only [GT.hd] at hk
  subst hk
  simp only [GT.hd, Gm.val] at hM ⊢
  have hs1 : ((w.alloc (.cells #[.int .i64 1, .int .i64 dim, .slice na nn nc, .slice ka kn kc] 25)).alloc (.cells #[.int .i64 0, .nilIface] 78)).heap.size = w.heap.size + 1 + 1 := by simp
  have HS1 := Lib.hid hs1
  clear hs1
  go_enter Tryz.func42, Tryz.ntmps42
  go_wp2_with fail
  refine (hM _ (by with_reducible (repeat (first | exact Kx.r _ | assumption | refine Kx.a ?_ _ | refine Kx.d ?_ | refine Kx.e ?_ _ | (refine Kx.s ?_ ?_ _; focus (first | (simp; done) | (simp; omega))) | refine Kx.t ?_ (by assumption))))).mono ?_
  clear hM
  rintro e w3 ⟨cs3, rfl, hk3, hx3⟩
  have hx3' := hx3
  obtain ⟨dd, l, rfl, hrest⟩ := hx3'
  clear hrest
  rw [HS1.out] at hx3
  go_wp2_with fail
  refine (hG dd l _).mono ?_
  clear hG
  rintro e w4 ⟨b4, rfl, hk4, hb4, hB4⟩
  have hR : Blk w4 (w.heap.size + 1) 78 [.int .i64 0, .nilIface] := Blk.keep (Blk.keep (by with_reducible (repeat (first | assumption | ((refine Bx.n ⟨?_, ?_⟩) <;> focus (first | rfl | (simp; done) | omega)) | refine Bx.a ?_ _ | refine Bx.d ?_ | refine Bx.e ?_ _ | (refine Bx.p ?_ ?_; focus (first | (simp; done) | (simp; omega) | omega))))) hk3) hk4
  have hkf : Stab.Keeps w w4 := by with_reducible (repeat (first | exact Kx.r _ | assumption | refine Kx.a ?_ _ | refine Kx.d ?_ | refine Kx.e ?_ _ | (refine Kx.s ?_ ?_ _; focus (first | (simp; done) | (simp; omega))) | refine Kx.t ?_ (by assumption)))
  have hsz3 : w.heap.size + 1 + 1 ≤ w3.heap.size := by have := hk3.size; have := HS1.out; omega
  have hx4 := ptS.kf hx3 (KF.keeps hk4)
  clear hk3 hk4
  have r0 := hR.cell (i := 0) rfl
  have r1 := hR.cell (i := 1) rfl
  have rf := hR.free
  have rl := hR.lt
  go_wp2_with fail
  refine bodyPost_ret (v := .agg #[.int .i64 1, .iface 204 (.pointer (some ⟨b4, 0, none⟩))]) (by simp [results, Tryz.results42, go_sem, *]) rfl ⟨[.int .i64 1, .iface 204 (.pointer (some ⟨b4, 0, none⟩))], rfl, ?_, ?_⟩
  · with_reducible (repeat (first | exact Kx.r _ | assumption | refine Kx.a ?_ _ | refine Kx.d ?_ | refine Kx.e ?_ _ | (refine Kx.s ?_ ?_ _; focus (first | (simp; done) | (simp; omega))) | refine Kx.t ?_ (by assumption)))
  · have hnf : ¬ orNew no (w.heap.size + 1 + 1) (w.heap.size + 1) := by intro h; rcases h with h | h; exact h.elim; omega
    have hx5 := ptS.mono (ptS.kf (w' := (w4.setCell ⟨w.heap.size + 1, 0, none⟩ (.int .i64 1)).setCell ⟨w.heap.size + 1, 1, none⟩ (.iface 204 (.pointer (some ⟨b4, 0, none⟩)))) hx4 (by repeat (first | (with_reducible exact KF.refl _ _) | (with_reducible assumption) | (with_reducible refine KF.alloc ?_ _) | (with_reducible refine KF.drew ?_) | (with_reducible refine KF.drewN ?_ _) | ((with_reducible refine KF.set ?_ ?_); focus (first | assumption | (simp [orNew, old]; done) | (simp [orNew, old]; omega) | (simp [orNew, old] at *; omega))) | (with_reducible refine KF.trans ?_ (KF.keeps (by with_reducible assumption)))))) (G := orNew no w.heap.size) (fun b _ hb => hb.elim (fun h => h.elim) (fun h => .inr (by omega)))
    refine .pt b4 _ _ (.inr (by omega)) ?_ hx5
    with_reducible (repeat (first | assumption | ((refine Bx.n ⟨?_, ?_⟩) <;> focus (first | rfl | (simp; done) | omega)) | refine Bx.a ?_ _ | refine Bx.d ?_ | refine Bx.e ?_ _ | (refine Bx.p ?_ ?_; focus (first | (simp; done) | (simp; omega) | omega))))
set_option maxRecDepth 100000 in
set_option maxHeartbeats 2000000 in
theorem geomLs_ (t : GT) (w : World) (hA : t.At w) (hs : t.Small) (hk : t.hd.kind = 2) : Calls Tryz.prog 42 #[t.hd.val] w (RetR w no GeoR (newP t)) := by
  have hM := fun w' (hk' : Stab.Keeps w w') => makeLs_ t w' (hA.keep hk') hs hk
  have hG := fun d a n c w' => lineGeo_ d a n c w'
  clear hA hs
  generalize newP t = P at *
  obtain ⟨⟨kind, dim, na, nn, nc, ka, kn, kc⟩, nums, kids⟩ := t
  simp only [GT.hd] at hk
  subst hk
  simp only [GT.hd, Gm.val] at hM ⊢
  have hs1 : ((w.alloc (.cells #[.int .i64 2, .int .i64 dim, .slice na nn nc, .slice ka kn kc] 25)).alloc (.cells #[.int .i64 0, .nilIface] 78)).heap.size = w.heap.size + 1 + 1 := by simp
  have HS1 := Lib.hid hs1
  clear hs1
  go_enter Tryz.func42, Tryz.ntmps42
  go_wp2_with fail
  refine (hM _ (by with_reducible (repeat (first | exact Kx.r _ | assumption | refine Kx.a ?_ _ | refine Kx.d ?_ | refine Kx.e ?_ _ | (refine Kx.s ?_ ?_ _; focus (first | (simp; done) | (simp; omega))) | refine Kx.t ?_ (by assumption))))).mono ?_
  clear hM
  rintro e w3 ⟨cs3, rfl, hk3, hx3⟩
  obtain ⟨d3, a3, n3, c3, rfl⟩ := hx3.two
  rw [HS1.out] at hx3
  go_wp2_with fail
  refine (hG d3 a3 n3 c3 _).mono ?_
  clear hG
  rintro e w4 ⟨b4, rfl, hk4, hb4, hB4⟩
  have hR : Blk w4 (w.heap.size + 1) 78 [.int .i64 0, .nilIface] := Blk.keep (Blk.keep (by with_reducible (repeat (first | assumption | ((refine Bx.n ⟨?_, ?_⟩) <;> focus (first | rfl | (simp; done) | omega)) | refine Bx.a ?_ _ | refine Bx.d ?_ | refine Bx.e ?_ _ | (refine Bx.p ?_ ?_; focus (first | (simp; done) | (simp; omega) | omega))))) hk3) hk4
  have hkf : Stab.Keeps w w4 := by with_reducible (repeat (first | exact Kx.r _ | assumption | refine Kx.a ?_ _ | refine Kx.d ?_ | refine Kx.e ?_ _ | (refine Kx.s ?_ ?_ _; focus (first | (simp; done) | (simp; omega))) | refine Kx.t ?_ (by assumption)))
  have hsz3 : w.heap.size + 1 + 1 ≤ w3.heap.size := by have := hk3.size; have := HS1.out; omega
  have hx4 := lsS.kf hx3 (KF.keeps hk4)
  clear hk3 hk4
  have r0 := hR.cell (i := 0) rfl
  have r1 := hR.cell (i := 1) rfl
  have rf := hR.free
  have rl := hR.lt
  go_wp2_with fail
  refine bodyPost_ret (v := .agg #[.int .i64 2, .iface 190 (.pointer (some ⟨b4, 0, none⟩))]) (by simp [results, Tryz.results42, go_sem, *]) rfl ⟨[.int .i64 2, .iface 190 (.pointer (some ⟨b4, 0, none⟩))], rfl, ?_, ?_⟩
  · with_reducible (repeat (first | exact Kx.r _ | assumption | refine Kx.a ?_ _ | refine Kx.d ?_ | refine Kx.e ?_ _ | (refine Kx.s ?_ ?_ _; focus (first | (simp; done) | (simp; omega))) | refine Kx.t ?_ (by assumption)))
  · have hnf : ¬ orNew no (w.heap.size + 1 + 1) (w.heap.size + 1) := by intro h; rcases h with h | h; exact h.elim; omega
    have hx5 := lsS.mono (lsS.kf (w' := (w4.setCell ⟨w.heap.size + 1, 0, none⟩ (.int .i64 2)).setCell ⟨w.heap.size + 1, 1, none⟩ (.iface 190 (.pointer (some ⟨b4, 0, none⟩)))) hx4 (by repeat (first | (with_reducible exact KF.refl _ _) | (with_reducible assumption) | (with_reducible refine KF.alloc ?_ _) | (with_reducible refine KF.drew ?_) | (with_reducible refine KF.drewN ?_ _) | ((with_reducible refine KF.set ?_ ?_); focus (first | assumption | (simp [orNew, old]; done) | (simp [orNew, old]; omega) | (simp [orNew, old] at *; omega))) | (with_reducible refine KF.trans ?_ (KF.keeps (by with_reducible assumption)))))) (G := orNew no w.heap.size) (fun b _ hb => hb.elim (fun h => h.elim) (fun h => .inr (by omega)))
    refine .ls b4 _ _ (.inr (by omega)) ?_ hx5
    with_reducible (repeat (first | assumption | ((refine Bx.n ⟨?_, ?_⟩) <;> focus (first | rfl | (simp; done) | omega)) | refine Bx.a ?_ _ | refine Bx.d ?_ | refine Bx.e ?_ _ | (refine Bx.p ?_ ?_; focus (first | (simp; done) | (simp; omega) | omega))))
set_option maxRecDepth 100000 in
set_option maxHeartbeats 2000000 in
theorem geomPy_ (t : GT) (w : World) (hA : t.At w) (hs : t.Small) (hk : t.hd.kind = 3) : Calls Tryz.prog 42 #[t.hd.val] w (RetR w no GeoR (newP t)) := by
  have hM := fun w' (hk' : Stab.Keeps w w') => makePy_ t w' (hA.keep hk') hs hk
  have hG := fun a n c d w' => geoPy_ a n c d w'
  clear hA hs
  generalize newP t = P at *
  obtain ⟨⟨kind, dim, na, nn, nc, ka, kn, kc⟩, nums, kids⟩ := t
  simp only [GT.hd] at hk
  subst hk
  simp only [GT.hd, Gm.val] at hM ⊢
  have hs1 : ((w.alloc (.cells #[.int .i64 3, .int .i64 dim, .slice na nn nc, .slice ka kn kc] 25)).alloc (.cells #[.int .i64 0, .nilIface] 78)).heap.size = w.heap.size + 1 + 1 := by simp
  have HS1 := Lib.hid hs1
  clear hs1
  go_enter Tryz.func42, Tryz.ntmps42
  go_wp2_with fail
  refine (hM _ (by with_reducible (repeat (first | exact Kx.r _ | assumption | refine Kx.a ?_ _ | refine Kx.d ?_ | refine Kx.e ?_ _ | (refine Kx.s ?_ ?_ _; focus (first | (simp; done) | (simp; omega))) | refine Kx.t ?_ (by assumption))))).mono ?_
  clear hM
  rintro e w3 ⟨cs3, rfl, hk3, hx3⟩
  obtain ⟨a3, n3, c3, d3, rfl⟩ := hx3.two
  rw [HS1.out] at hx3
  go_wp2_with fail
  refine (hG a3 n3 c3 d3 _).mono ?_
  clear hG
  rintro e w4 ⟨b4, rfl, hk4, hb4, hB4⟩
  have hR : Blk w4 (w.heap.size + 1) 78 [.int .i64 0, .nilIface] := Blk.keep (Blk.keep (by with_reducible (repeat (first | assumption | ((refine Bx.n ⟨?_, ?_⟩) <;> focus (first | rfl | (simp; done) | omega)) | refine Bx.a ?_ _ | refine Bx.d ?_ | refine Bx.e ?_ _ | (refine Bx.p ?_ ?_; focus (first | (simp; done) | (simp; omega) | omega))))) hk3) hk4
  have hkf : Stab.Keeps w w4 := by with_reducible (repeat (first | exact Kx.r _ | assumption | refine Kx.a ?_ _ | refine Kx.d ?_ | refine Kx.e ?_ _ | (refine Kx.s ?_ ?_ _; focus (first | (simp; done) | (simp; omega))) | refine Kx.t ?_ (by assumption)))
  have hsz3 : w.heap.size + 1 + 1 ≤ w3.heap.size := by have := hk3.size; have := HS1.out; omega
  have hx4 := pyS.kf hx3 (KF.keeps hk4)
  clear hk3 hk4
  have r0 := hR.cell (i := 0) rfl
  have r1 := hR.cell (i := 1) rfl
  have rf := hR.free
  have rl := hR.lt
  go_wp2_with fail
  refine bodyPost_ret (v := .agg #[.int .i64 3, .iface 191 (.pointer (some ⟨b4, 0, none⟩))]) (by simp [results, Tryz.results42, go_sem, *]) rfl ⟨[.int .i64 3, .iface 191 (.pointer (some ⟨b4, 0, none⟩))], rfl, ?_, ?_⟩
  · with_reducible (repeat (first | exact Kx.r _ | assumption | refine Kx.a ?_ _ | refine Kx.d ?_ | refine Kx.e ?_ _ | (refine Kx.s ?_ ?_ _; focus (first | (simp; done) | (simp; omega))) | refine Kx.t ?_ (by assumption)))
  · have hnf : ¬ orNew no (w.heap.size + 1 + 1) (w.heap.size + 1) := by intro h; rcases h with h | h; exact h.elim; omega
    have hx5 := pyS.mono (pyS.kf (w' := (w4.setCell ⟨w.heap.size + 1, 0, none⟩ (.int .i64 3)).setCell ⟨w.heap.size + 1, 1, none⟩ (.iface 191 (.pointer (some ⟨b4, 0, none⟩)))) hx4 (by repeat (first | (with_reducible exact KF.refl _ _) | (with_reducible assumption) | (with_reducible refine KF.alloc ?_ _) | (with_reducible refine KF.drew ?_) | (with_reducible refine KF.drewN ?_ _) | ((with_reducible refine KF.set ?_ ?_); focus (first | assumption | (simp [orNew, old]; done) | (simp [orNew, old]; omega) | (simp [orNew, old] at *; omega))) | (with_reducible refine KF.trans ?_ (KF.keeps (by with_reducible assumption)))))) (G := orNew no w.heap.size) (fun b _ hb => hb.elim (fun h => h.elim) (fun h => .inr (by omega)))
    refine .py b4 _ _ (.inr (by omega)) ?_ hx5
    with_reducible (repeat (first | assumption | ((refine Bx.n ⟨?_, ?_⟩) <;> focus (first | rfl | (simp; done) | omega)) | refine Bx.a ?_ _ | refine Bx.d ?_ | refine Bx.e ?_ _ | (refine Bx.p ?_ ?_; focus (first | (simp; done) | (simp; omega) | omega))))
set_option maxRecDepth 100000 in
set_option maxHeartbeats 2000000 in
theorem geomMp_ (t : GT) (w : World) (hA : t.At w) (hs : t.Small) (hk : t.hd.kind = 4) : Calls Tryz.prog 42 #[t.hd.val] w (RetR w no GeoR (newP t)) := by
  have hM := fun w' (hk' : Stab.Keeps w w') => makeMp_ t w' (hA.keep hk') hs hk
  have hG := fun a n c d w' => geoMp_ a n c d w'
  clear hA hs
  generalize newP t = P at *
  obtain ⟨⟨kind, dim, na, nn, nc, ka, kn, kc⟩, nums, kids⟩ := t
  simp only [GT.hd] at hk
  subst hk
  simp only [GT.hd, Gm.val] at hM ⊢
  have hs1 : ((w.alloc (.cells #[.int .i64 4, .int .i64 dim, .slice na nn nc, .slice ka kn kc] 25)).alloc (.cells #[.int .i64 0, .nilIface] 78)).heap.size = w.heap.size + 1 + 1 := by simp
  have HS1 := Lib.hid hs1
  clear hs1
  go_enter Tryz.func42, Tryz.ntmps42
  go_wp2_with fail
  refine (hM _ (by with_reducible (repeat (first | exact Kx.r _ | assumption | refine Kx.a ?_ _ | refine Kx.d ?_ | refine Kx.e ?_ _ | (refine Kx.s ?_ ?_ _; focus (first | (simp; done) | (simp; omega))) | refine Kx.t ?_ (by assumption))))).mono ?_
  clear hM
  rintro e w3 ⟨cs3, rfl, hk3, hx3⟩
  obtain ⟨a3, n3, c3, d3, rfl⟩ := hx3.two
  rw [HS1.out] at hx3
  go_wp2_with fail
  refine (hG a3 n3 c3 d3 _).mono ?_
  clear hG
  rintro e w4 ⟨b4, rfl, hk4, hb4, hB4⟩
  have hR : Blk w4 (w.heap.size + 1) 78 [.int .i64 0, .nilIface] := Blk.keep (Blk.keep (by with_reducible (repeat (first | assumption | ((refine Bx.n ⟨?_, ?_⟩) <;> focus (first | rfl | (simp; done) | omega)) | refine Bx.a ?_ _ | refine Bx.d ?_ | refine Bx.e ?_ _ | (refine Bx.p ?_ ?_; focus (first | (simp; done) | (simp; omega) | omega))))) hk3) hk4
  have hkf : Stab.Keeps w w4 := by with_reducible (repeat (first | exact Kx.r _ | assumption | refine Kx.a ?_ _ | refine Kx.d ?_ | refine Kx.e ?_ _ | (refine Kx.s ?_ ?_ _; focus (first | (simp; done) | (simp; omega))) | refine Kx.t ?_ (by assumption)))
  have hsz3 : w.heap.size + 1 + 1 ≤ w3.heap.size := by have := hk3.size; have := HS1.out; omega
  have hx4 := mpS.kf hx3 (KF.keeps hk4)
  clear hk3 hk4
  have r0 := hR.cell (i := 0) rfl
  have r1 := hR.cell (i := 1) rfl
  have rf := hR.free
  have rl := hR.lt
  go_wp2_with fail
  refine bodyPost_ret (v := .agg #[.int .i64 4, .iface 192 (.pointer (some ⟨b4, 0, none⟩))]) (by simp [results, Tryz.results42, go_sem, *]) rfl ⟨[.int .i64 4, .iface 192 (.pointer (some ⟨b4, 0, none⟩))], rfl, ?_, ?_⟩
  · with_reducible (repeat (first | exact Kx.r _ | assumption | refine Kx.a ?_ _ | refine Kx.d ?_ | refine Kx.e ?_ _ | (refine Kx.s ?_ ?_ _; focus (first | (simp; done) | (simp; omega))) | refine Kx.t ?_ (by assumption)))
  · have hnf : ¬ orNew no (w.heap.size + 1 + 1) (w.heap.size + 1) := by intro h; rcases h with h | h; exact h.elim; omega
    have hx5 := mpS.mono (mpS.kf (w' := (w4.setCell ⟨w.heap.size + 1, 0, none⟩ (.int .i64 4)).setCell ⟨w.heap.size + 1, 1, none⟩ (.iface 192 (.pointer (some ⟨b4, 0, none⟩)))) hx4 (by repeat (first | (with_reducible exact KF.refl _ _) | (with_reducible assumption) | (with_reducible refine KF.alloc ?_ _) | (with_reducible refine KF.drew ?_) | (with_reducible refine KF.drewN ?_ _) | ((with_reducible refine KF.set ?_ ?_); focus (first | assumption | (simp [orNew, old]; done) | (simp [orNew, old]; omega) | (simp [orNew, old] at *; omega))) | (with_reducible refine KF.trans ?_ (KF.keeps (by with_reducible assumption)))))) (G := orNew no w.heap.size) (fun b _ hb => hb.elim (fun h => h.elim) (fun h => .inr (by omega)))
    refine .mp b4 _ _ (.inr (by omega)) ?_ hx5
    with_reducible (repeat (first | assumption | ((refine Bx.n ⟨?_, ?_⟩) <;> focus (first | rfl | (simp; done) | omega)) | refine Bx.a ?_ _ | refine Bx.d ?_ | refine Bx.e ?_ _ | (refine Bx.p ?_ ?_; focus (first | (simp; done) | (simp; omega) | omega))))
set_option maxRecDepth 100000 in
set_option maxHeartbeats 2000000 in
theorem geomMl_ (t : GT) (w : World) (hA : t.At w) (hs : t.Small) (hk : t.hd.kind = 5) : Calls Tryz.prog 42 #[t.hd.val] w (RetR w no GeoR (newP t)) := by
  have hM := fun w' (hk' : Stab.Keeps w w') => makeMl_ t w' (hA.keep hk') hs hk
  have hG := fun a n c d w' => geoMl_ a n c d w'
  clear hA hs
  generalize newP t = P at *
  obtain ⟨⟨kind, dim, na, nn, nc, ka, kn, kc⟩, nums, kids⟩ := t
  simp only [GT.hd] at hk
  subst hk
  simp only [GT.hd, Gm.val] at hM ⊢
  have hs1 : ((w.alloc (.cells #[.int .i64 5, .int .i64 dim, .slice na nn nc, .slice ka kn kc] 25)).alloc (.cells #[.int .i64 0, .nilIface] 78)).heap.size = w.heap.size + 1 + 1 := by simp
  have HS1 := Lib.hid hs1
  clear hs1
  go_enter Tryz.func42, Tryz.ntmps42
  go_wp2_with fail
  refine (hM _ (by with_reducible (repeat (first | exact Kx.r _ | assumption | refine Kx.a ?_ _ | refine Kx.d ?_ | refine Kx.e ?_ _ | (refine Kx.s ?_ ?_ _; focus (first | (simp; done) | (simp; omega))) | refine Kx.t ?_ (by assumption))))).mono ?_
  clear hM
  rintro e w3 ⟨cs3, rfl, hk3, hx3⟩
  obtain ⟨a3, n3, c3, d3, rfl⟩ := hx3.two
  rw [HS1.out] at hx3
  go_wp2_with fail
  refine (hG a3 n3 c3 d3 _).mono ?_
  clear hG
  rintro e w4 ⟨b4, rfl, hk4, hb4, hB4⟩
  have hR : Blk w4 (w.heap.size + 1) 78 [.int .i64 0, .nilIface] := Blk.keep (Blk.keep (by with_reducible (repeat (first | assumption | ((refine Bx.n ⟨?_, ?_⟩) <;> focus (first | rfl | (simp; done) | omega)) | refine Bx.a ?_ _ | refine Bx.d ?_ | refine Bx.e ?_ _ | (refine Bx.p ?_ ?_; focus (first | (simp; done) | (simp; omega) | omega))))) hk3) hk4
  have hkf : Stab.Keeps w w4 := by with_reducible (repeat (first | exact Kx.r _ | assumption | refine Kx.a ?_ _ | refine Kx.d ?_ | refine Kx.e ?_ _ | (refine Kx.s ?_ ?_ _; focus (first | (simp; done) | (simp; omega))) | refine Kx.t ?_ (by assumption)))
  have hsz3 : w.heap.size + 1 + 1 ≤ w3.heap.size := by have := hk3.size; have := HS1.out; omega
  have hx4 := mlS.kf hx3 (KF.keeps hk4)
  clear hk3 hk4
  have r0 := hR.cell (i := 0) rfl
  have r1 := hR.cell (i := 1) rfl
  have rf := hR.free
  have rl := hR.lt
  go_wp2_with fail
  refine bodyPost_ret (v := .agg #[.int .i64 5, .iface 197 (.pointer (some ⟨b4, 0, none⟩))]) (by simp [results, Tryz.results42, go_sem, *]) rfl ⟨[.int .i64 5, .iface 197 (.pointer (some ⟨b4, 0, none⟩))], rfl, ?_, ?_⟩
  · with_reducible (repeat (first | exact Kx.r _ | assumption | refine Kx.a ?_ _ | refine Kx.d ?_ | refine Kx.e ?_ _ | (refine Kx.s ?_ ?_ _; focus (first | (simp; done) | (simp; omega))) | refine Kx.t ?_ (by assumption)))
  · have hnf : ¬ orNew no (w.heap.size + 1 + 1) (w.heap.size + 1) := by intro h; rcases h with h | h; exact h.elim; omega
    have hx5 := mlS.mono (mlS.kf (w' := (w4.setCell ⟨w.heap.size + 1, 0, none⟩ (.int .i64 5)).setCell ⟨w.heap.size + 1, 1, none⟩ (.iface 197 (.pointer (some ⟨b4, 0, none⟩)))) hx4 (by repeat (first | (with_reducible exact KF.refl _ _) | (with_reducible assumption) | (with_reducible refine KF.alloc ?_ _) | (with_reducible refine KF.drew ?_) | (with_reducible refine KF.drewN ?_ _) | ((with_reducible refine KF.set ?_ ?_); focus (first | assumption | (simp [orNew, old]; done) | (simp [orNew, old]; omega) | (simp [orNew, old] at *; omega))) | (with_reducible refine KF.trans ?_ (KF.keeps (by with_reducible assumption)))))) (G := orNew no w.heap.size) (fun b _ hb => hb.elim (fun h => h.elim) (fun h => .inr (by omega)))
    refine .ml b4 _ _ (.inr (by omega)) ?_ hx5
    with_reducible (repeat (first | assumption | ((refine Bx.n ⟨?_, ?_⟩) <;> focus (first | rfl | (simp; done) | omega)) | refine Bx.a ?_ _ | refine Bx.d ?_ | refine Bx.e ?_ _ | (refine Bx.p ?_ ?_; focus (first | (simp; done) | (simp; omega) | omega))))
set_option maxRecDepth 100000 in
set_option maxHeartbeats 2000000 in
theorem geomMy_ (t : GT) (w : World) (hA : t.At w) (hs : t.Small) (hk : t.hd.kind = 6) : Calls Tryz.prog 42 #[t.hd.val] w (RetR w no GeoR (newP t)) := by
  have hM := fun w' (hk' : Stab.Keeps w w') => makeMy_ t w' (hA.keep hk') hs hk
  have hG := fun a n c d w' => geoMy_ a n c d w'
  clear hA hs
  generalize newP t = P at *
  obtain ⟨⟨kind, dim, na, nn, nc, ka, kn, kc⟩, nums, kids⟩ := t
  simp only [GT.hd] at hk
  subst hk
  simp only [GT.hd, Gm.val] at hM ⊢
  have hs1 : ((w.alloc (.cells #[.int .i64 6, .int .i64 dim, .slice na nn nc, .slice ka kn kc] 25)).alloc (.cells #[.int .i64 0, .nilIface] 78)).heap.size = w.heap.size + 1 + 1 := by simp
  have HS1 := Lib.hid hs1
  clear hs1
  go_enter Tryz.func42, Tryz.ntmps42
  go_wp2_with fail
  refine (hM _ (by with_reducible (repeat (first | exact Kx.r _ | assumption | refine Kx.a ?_ _ | refine Kx.d ?_ | refine Kx.e ?_ _ | (refine Kx.s ?_ ?_ _; focus (first | (simp; done) | (simp; omega))) | refine Kx.t ?_ (by assumption))))).mono ?_
  clear hM
  rintro e w3 ⟨cs3, rfl, hk3, hx3⟩
  obtain ⟨a3, n3, c3, d3, rfl⟩ := hx3.two
  rw [HS1.out] at hx3
  go_wp2_with fail
  refine (hG a3 n3 c3 d3 _).mono ?_
  clear hG
  rintro e w4 ⟨b4, rfl, hk4, hb4, hB4⟩
  have hR : Blk w4 (w.heap.size + 1) 78 [.int .i64 0, .nilIface] := Blk.keep (Blk.keep (by with_reducible (repeat (first | assumption | ((refine Bx.n ⟨?_, ?_⟩) <;> focus (first | rfl | (simp; done) | omega)) | refine Bx.a ?_ _ | refine Bx.d ?_ | refine Bx.e ?_ _ | (refine Bx.p ?_ ?_; focus (first | (simp; done) | (simp; omega) | omega))))) hk3) hk4
  have hkf : Stab.Keeps w w4 := by with_reducible (repeat (first | exact Kx.r _ | assumption | refine Kx.a ?_ _ | refine Kx.d ?_ | refine Kx.e ?_ _ | (refine Kx.s ?_ ?_ _; focus (first | (simp; done) | (simp; omega))) | refine Kx.t ?_ (by assumption)))
  have hsz3 : w.heap.size + 1 + 1 ≤ w3.heap.size := by have := hk3.size; have := HS1.out; omega
  have hx4 := myS.kf hx3 (KF.keeps hk4)
  clear hk3 hk4
  have r0 := hR.cell (i := 0) rfl
  have r1 := hR.cell (i := 1) rfl
  have rf := hR.free
  have rl := hR.lt
  go_wp2_with fail
  refine bodyPost_ret (v := .agg #[.int .i64 6, .iface 199 (.pointer (some ⟨b4, 0, none⟩))]) (by simp [results, Tryz.results42, go_sem, *]) rfl ⟨[.int .i64 6, .iface 199 (.pointer (some ⟨b4, 0, none⟩))], rfl, ?_, ?_⟩
  · with_reducible (repeat (first | exact Kx.r _ | assumption | refine Kx.a ?_ _ | refine Kx.d ?_ | refine Kx.e ?_ _ | (refine Kx.s ?_ ?_ _; focus (first | (simp; done) | (simp; omega))) | refine Kx.t ?_ (by assumption)))
  · have hnf : ¬ orNew no (w.heap.size + 1 + 1) (w.heap.size + 1) := by intro h; rcases h with h | h; exact h.elim; omega
    have hx5 := myS.mono (myS.kf (w' := (w4.setCell ⟨w.heap.size + 1, 0, none⟩ (.int .i64 6)).setCell ⟨w.heap.size + 1, 1, none⟩ (.iface 199 (.pointer (some ⟨b4, 0, none⟩)))) hx4 (by repeat (first | (with_reducible exact KF.refl _ _) | (with_reducible assumption) | (with_reducible refine KF.alloc ?_ _) | (with_reducible refine KF.drew ?_) | (with_reducible refine KF.drewN ?_ _) | ((with_reducible refine KF.set ?_ ?_); focus (first | assumption | (simp [orNew, old]; done) | (simp [orNew, old]; omega) | (simp [orNew, old] at *; omega))) | (with_reducible refine KF.trans ?_ (KF.keeps (by with_reducible assumption)))))) (G := orNew no w.heap.size) (fun b _ hb => hb.elim (fun h => h.elim) (fun h => .inr (by omega)))
    refine .my b4 _ _ (.inr (by omega)) ?_ hx5
    with_reducible (repeat (first | assumption | ((refine Bx.n ⟨?_, ?_⟩) <;> focus (first | rfl | (simp; done) | omega)) | refine Bx.a ?_ _ | refine Bx.d ?_ | refine Bx.e ?_ _ | (refine Bx.p ?_ ?_; focus (first | (simp; done) | (simp; omega) | omega))))
set_option maxRecDepth 100000 in
set_option maxHeartbeats 2000000 in
theorem geomGc_ (t : GT) (w : World) (hA : t.At w) (hs : t.Small) (hk : kindN t.hd.kind = 0) (hok : ∀ c ∈ t.kids, MakeOk c) : Calls Tryz.prog 42 #[t.hd.val] w (RetR w no GeoR (newP t)) := by
  cases hA with
  | mk h nums kids hn hkn h1 h2 h3 =>
  obtain ⟨kind, dim, na, nn, nc, ka, kn, kc⟩ := h
  simp only [GT.hd] at hk hkn h2
  have hM := fun w' (hk' : Stab.Keeps w w') => collection_ kind dim na ka nn nc kn kc kids w' hkn (by have := hs.few; omega) (h2.keep hk') (fun t ht => (h3 t ht).keep hk') hs.kid hok
  have hG := fun a n c d w' => geoGc_ a n c d w'
  have hP : newP (.node ⟨kind, dim, na, nn, nc, ka, kn, kc⟩ nums kids) = wholeP 0 (dim4 dim) (kids.map newP) := by
    rw [newP_whole _ _ _ (by rw [hk]; decide) (by rw [hk]; decide)]
    simp only [hk, filter_all]
  rw [hP]
  have k1 : (kind == 1) = false := by simp; intro h; subst h; revert hk; decide
  have k2 : (kind == 2) = false := by simp; intro h; subst h; revert hk; decide
  have k3 : (kind == 3) = false := by simp; intro h; subst h; revert hk; decide
  have k4 : (kind == 4) = false := by simp; intro h; subst h; revert hk; decide
  have k5 : (kind == 5) = false := by simp; intro h; subst h; revert hk; decide
  have k6 : (kind == 6) = false := by simp; intro h; subst h; revert hk; decide
  clear hs hn hkn h1 h2 h3 hk hok hP
  generalize wholeP 0 (dim4 dim) (kids.map newP) = P at *
  simp only [GT.hd, Gm.val]
  have hs1 : ((w.alloc (.cells #[.int .i64 kind, .int .i64 dim, .slice na nn nc, .slice ka kn kc] 25)).alloc (.cells #[.int .i64 0, .nilIface] 78)).heap.size = w.heap.size + 1 + 1 := by simp
  have HS1 := Lib.hid hs1
  clear hs1
  go_enter Tryz.func42, Tryz.ntmps42
  go_wp2_with fail
  refine (hM _ (by with_reducible (repeat (first | exact Kx.r _ | assumption | refine Kx.a ?_ _ | refine Kx.d ?_ | refine Kx.e ?_ _ | (refine Kx.s ?_ ?_ _; focus (first | (simp; done) | (simp; omega))) | refine Kx.t ?_ (by assumption))))).mono ?_
  clear hM
  rintro e w3 ⟨cs3, rfl, hk3, hx3⟩
  obtain ⟨a3, n3, c3, d3, rfl⟩ := hx3.two
  rw [HS1.out] at hx3
  go_wp2_with fail
  refine (hG a3 n3 c3 d3 _).mono ?_
  clear hG
  rintro e w4 ⟨b4, rfl, hk4, hb4, hB4⟩
  have hR : Blk w4 (w.heap.size + 1) 78 [.int .i64 0, .nilIface] := Blk.keep (Blk.keep (by with_reducible (repeat (first | assumption | ((refine Bx.n ⟨?_, ?_⟩) <;> focus (first | rfl | (simp; done) | omega)) | refine Bx.a ?_ _ | refine Bx.d ?_ | refine Bx.e ?_ _ | (refine Bx.p ?_ ?_; focus (first | (simp; done) | (simp; omega) | omega))))) hk3) hk4
  have hkf : Stab.Keeps w w4 := by with_reducible (repeat (first | exact Kx.r _ | assumption | refine Kx.a ?_ _ | refine Kx.d ?_ | refine Kx.e ?_ _ | (refine Kx.s ?_ ?_ _; focus (first | (simp; done) | (simp; omega))) | refine Kx.t ?_ (by assumption)))
  have hsz3 : w.heap.size + 1 + 1 ≤ w3.heap.size := by have := hk3.size; have := HS1.out; omega
  have hx4 := gcS.kf hx3 (KF.keeps hk4)
  clear hk3 hk4
  have r0 := hR.cell (i := 0) rfl
  have r1 := hR.cell (i := 1) rfl
  have rf := hR.free
  have rl := hR.lt
  go_wp2_with fail
  refine bodyPost_ret (v := .agg #[.int .i64 0, .iface 210 (.pointer (some ⟨b4, 0, none⟩))]) (by simp [results, Tryz.results42, go_sem, *]) rfl ⟨[.int .i64 0, .iface 210 (.pointer (some ⟨b4, 0, none⟩))], rfl, ?_, ?_⟩
  · with_reducible (repeat (first | exact Kx.r _ | assumption | refine Kx.a ?_ _ | refine Kx.d ?_ | refine Kx.e ?_ _ | (refine Kx.s ?_ ?_ _; focus (first | (simp; done) | (simp; omega))) | refine Kx.t ?_ (by assumption)))
  · have hnf : ¬ orNew no (w.heap.size + 1 + 1) (w.heap.size + 1) := by intro h; rcases h with h | h; exact h.elim; omega
    have hx5 := gcS.mono (gcS.kf (w' := (w4.setCell ⟨w.heap.size + 1, 0, none⟩ (.int .i64 0)).setCell ⟨w.heap.size + 1, 1, none⟩ (.iface 210 (.pointer (some ⟨b4, 0, none⟩)))) hx4 (by repeat (first | (with_reducible exact KF.refl _ _) | (with_reducible assumption) | (with_reducible refine KF.alloc ?_ _) | (with_reducible refine KF.drew ?_) | (with_reducible refine KF.drewN ?_ _) | ((with_reducible refine KF.set ?_ ?_); focus (first | assumption | (simp [orNew, old]; done) | (simp [orNew, old]; omega) | (simp [orNew, old] at *; omega))) | (with_reducible refine KF.trans ?_ (KF.keeps (by with_reducible assumption)))))) (G := orNew no w.heap.size) (fun b _ hb => hb.elim (fun h => h.elim) (fun h => .inr (by omega)))
    refine GcR.geo hx5 (.inr (by omega)) ?_
    with_reducible (repeat (first | assumption | ((refine Bx.n ⟨?_, ?_⟩) <;> focus (first | rfl | (simp; done) | omega)) | refine Bx.a ?_ _ | refine Bx.d ?_ | refine Bx.e ?_ _ | (refine Bx.p ?_ ?_; focus (first | (simp; done) | (simp; omega) | omega))))
theorem makeGeo_ : ∀ t, MakeOk t := by
  refine GT.ind fun g nums kids ih => ?_
  intro w hA hs
  by_cases h1 : g.kind = 1
  · exact geomPt_ _ w hA hs h1
  by_cases h2 : g.kind = 2
  · exact geomLs_ _ w hA hs h2
  by_cases h3 : g.kind = 3
  · exact geomPy_ _ w hA hs h3
  by_cases h4 : g.kind = 4
  · exact geomMp_ _ w hA hs h4
  by_cases h5 : g.kind = 5
  · exact geomMl_ _ w hA hs h5
  by_cases h6 : g.kind = 6
  · exact geomMy_ _ w hA hs h6
  refine geomGc_ _ w hA hs ?_ ih
  show kindN g.kind = 0
  unfold kindN
  split <;> omega
end Go.Proofs.YtbakhldjfplbfaaGreat
