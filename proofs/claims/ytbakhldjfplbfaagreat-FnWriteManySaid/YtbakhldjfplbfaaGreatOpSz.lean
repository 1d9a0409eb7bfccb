/-
  An argument of geometries opened, with the reach: no slice of it is beyond it. No condition.
-/
import Derived.Test.YtbakhldjfplbfaaGreatOpSz0
import Derived.Test.YtbakhldjfplbfaaGreatK1
set_option linter.unusedVariables false
set_option linter.unusedSimpArgs false
namespace Go.Proofs.YtbakhldjfplbfaaGreat
open Go.ChangeShapes Go.WideShapes Go.ChangeAt Go.Op2 Go.RowKit Go.Sl
theorem bFloat : Tryz.prog.bytesOf 45 = 8 := by kernel_rfl
theorem bGeom : Tryz.prog.bytesOf 25 = 64 := by kernel_rfl
theorem open_geomS {H : Type} {enc : TypeId × Value → H} {W : World} {b2 : Nat} {sp : Nat → Bool} {hd : Bool} : ∀ (fuel : Nat) {cs : List Value} {x : DataW H × List MemPlace},
    DataW.trod enc Tryz.prog W b2 sp hd fuel 25 cs = some x → Light Tryz.prog 25 x.1 → ∃ t : GT, cs = t.cells ∧ t.At W ∧ t.Reach := by
  intro fuel
  induction fuel using Nat.strongRecOn with
  | _ fuel ih =>
  intro cs x h hL
  obtain ⟨hl, m, hm, hf⟩ := trod_structS Tryz.underlying25 cGeom h hL
  obtain ⟨c0, c1, c2, c3, rfl⟩ := list4 hl
  obtain ⟨y0, g0, _⟩ := hf 0 _ rfl
  obtain ⟨y1, g1, _⟩ := hf 1 _ rfl
  obtain ⟨y2, g2, L2⟩ := hf 2 _ rfl
  obtain ⟨y3, g3, L3⟩ := hf 3 _ rfl
  simp [cInt] at g0 g1
  simp [cFloats] at g2
  simp [cGeoms] at g3
  obtain ⟨kind, e0, _⟩ := trod_int' Tryz.underlying3 g0
  obtain ⟨dim, e1, _⟩ := trod_int' Tryz.underlying3 g1
  obtain ⟨na, nn, nc, e2, _, nums, hn, hN⟩ := open_floats g2
  obtain ⟨na', nn', nc', e2', _, _, _, _, _, es2, hl2, hx2, _⟩ := trod_rowsS (by decide) Tryz.underlying22 cFloat g2
  rw [e2] at e2'
  cases e2'
  have hb2 := (light_rows Tryz.underlying22 hl2 hx2 L2).1
  rw [bFloat] at hb2
  obtain ⟨ka, kn, kc, e3, xs, hS, _, m', hm', es, hle, hxe, hk⟩ := trod_rowsS (by decide) Tryz.underlying23 cGeom g3
  obtain ⟨hb3, hL3⟩ := light_rows Tryz.underlying23 hle hxe L3
  rw [bGeom] at hb3
  obtain ⟨q, hq1, hq2⟩ := choose_list (p := fun (i : Nat) (t : GT) => (xs.drop (i * 4)).take 4 = t.cells ∧ t.At W ∧ t.Reach) (List.range kn) (fun i hi => by
    obtain ⟨y, hy0, hy⟩ := hk i (by simpa using hi)
    exact ih m' (by omega) hy (hL3 i y hy0))
  simp at hq1
  have hx : xs = q.flatMap GT.cells := by
    refine chunks_eq GT.cells 4 kn xs q hq1 hS.len (fun i hi => ?_)
    have := (hq2 i (by simp; omega) (by omega)).1
    simpa using this
  injection e0 with e0; injection e1 with e1; injection e2 with e2; injection e3 with e3
  subst e0 e1 e2 e3
  have hr : reachBytes = 140737488351232 := rfl
  rw [hr] at hb2 hb3
  refine ⟨.node ⟨kind, dim, na, nn, nc, ka, kn, kc⟩ nums q, rfl, .mk _ _ _ hn hq1 hN (by rw [← hx]; exact hS) (fun t ht => ?_), .mk _ _ _ (by omega) (by omega) (fun t ht => ?_)⟩
  · obtain ⟨j, hj, rfl⟩ := List.getElem_of_mem ht
    exact (hq2 j (by simpa [hq1] using hj) hj).2.1
  · obtain ⟨j, hj, rfl⟩ := List.getElem_of_mem ht
    exact (hq2 j (by simpa [hq1] using hj) hj).2.2
end Go.Proofs.YtbakhldjfplbfaaGreat
