/-
  FnNewOf: the arguments opened, the walk in the row's form. No condition.
-/
import Derived.Test.YtbakhldjfplbfaaGreatR6
import Derived.Test.YtbakhldjfplbfaaGreatOpSz
set_option linter.unusedVariables false
set_option linter.unusedSimpArgs false
namespace Go.Proofs.YtbakhldjfplbfaaGreat
open Go.RowKit Go.Fl Go.Sl Go.Op2
open Go.ChangeShapes Go.WideShapes Go.ChangeAt
set_option maxRecDepth 100000 in
theorem open_geomsS {H : Type} {enc : TypeId × Value → H} {W : World} {base b2 : Nat} {sp : Nat → Bool} {hd : Bool} {r : Reach} {v : Value} {d : DataW H} {p : List MemPlace}
    (o : Value.okWide Tryz.prog W r base 23 v) (h : DataW.Trod enc Tryz.prog W b2 sp hd 23 v d p) (hL : Light Tryz.prog 23 d) :
    ∃ a n cap, v = .slice a n cap ∧ ∃ ts : List GT, ts.length = n ∧ Sz W a n cap 4 (ts.flatMap GT.cells) ∧ (∀ t ∈ ts, t.At W) ∧ ∀ t ∈ ts, t.Reach := by
  obtain ⟨a, n, cap, rfl⟩ := okWide_slice Tryz.underlying23 o
  obtain ⟨fuel, hf⟩ := h
  obtain ⟨a', n', cap', h1, xs, hS, _, m, _, es, hle, hxe, hk⟩ := trod_rowsS (by decide) Tryz.underlying23 cGeom hf
  simp [Value.cells] at h1
  obtain ⟨rfl, rfl, rfl⟩ := h1
  obtain ⟨_, hL3⟩ := light_rows Tryz.underlying23 hle hxe hL
  obtain ⟨q, hq1, hq2⟩ := choose_list (p := fun (i : Nat) (t : GT) => (xs.drop (i * 4)).take 4 = t.cells ∧ t.At W ∧ t.Reach) (List.range n) (fun i hi => by
    obtain ⟨y, hy0, hy⟩ := hk i (by simpa using hi)
    exact open_geomS m hy (hL3 i y hy0))
  simp at hq1
  have hx : xs = q.flatMap GT.cells := by
    refine chunks_eq GT.cells 4 n xs q hq1 hS.len (fun i hi => ?_)
    have := (hq2 i (by simp; omega) (by omega)).1
    simpa using this
  refine ⟨a, n, cap, rfl, q, hq1, by rw [← hx]; exact hS, fun t ht => ?_, fun t ht => ?_⟩
  · obtain ⟨j, hj, rfl⟩ := List.getElem_of_mem ht
    exact (hq2 j (by simpa [hq1] using hj) hj).2.1
  · obtain ⟨j, hj, rfl⟩ := List.getElem_of_mem ht
    exact (hq2 j (by simpa [hq1] using hj) hj).2.2
set_option maxRecDepth 100000 in
theorem open_intV {H : Type} {enc : TypeId × Value → H} {W : World} {base b2 : Nat} {sp : Nat → Bool} {hd : Bool} {r : Reach} {v : Value} {d : DataW H} {p : List MemPlace}
    (o : Value.okWide Tryz.prog W r base 3 v) (h : DataW.Trod enc Tryz.prog W b2 sp hd 3 v d p) : ∃ n : Int, v = .int .i64 n := by
  obtain ⟨n, hn, _⟩ := open_int Tryz.underlying3 o h
  exact ⟨n, hn⟩
namespace fnNewOf
set_option maxRecDepth 100000 in
theorem walkT {H : Type} (enc : TypeId × Value → H) (W : World) (base : Nat) {v0 : Value} {d0 : DataW H} {p0 : List MemPlace} {v1 : Value} {d1 : DataW H} {p1 : List MemPlace}
    (o0 : Value.okWide Tryz.prog W .any base 3 v0) (o1 : Value.okWide Tryz.prog W .any base 23 v1)
    (h0 : DataW.Trod enc Tryz.prog W 0 (fun _ => true) true 3 v0 d0 p0) (l0 : Light Tryz.prog 3 d0) (h1 : DataW.Trod enc Tryz.prog W 0 (fun _ => true) true 23 v1 d1 p1) (l1 : Light Tryz.prog 23 d1) :
    Calls Tryz.prog 5 #[v0, v1] W (LawPost W) := by
  obtain ⟨k, rfl⟩ := open_intV o0 h0
  obtain ⟨a, n, cap, rfl, ts, hn, hS, hA, hR⟩ := open_geomsS o1 h1 l1
  exact newOfLaw_ k a n cap ts W hn hS hA hR
end fnNewOf
end Go.Proofs.YtbakhldjfplbfaaGreat
