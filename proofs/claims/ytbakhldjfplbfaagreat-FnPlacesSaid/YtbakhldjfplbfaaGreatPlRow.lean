/-
  FnPlaces: the argument opened, the walk in the row's form. No condition.
-/
import Derived.Test.YtbakhldjfplbfaaGreatPlLaw
import Derived.Test.YtbakhldjfplbfaaGreatOpSz
set_option linter.unusedVariables false
set_option linter.unusedSimpArgs false
namespace Go.Proofs.YtbakhldjfplbfaaGreat
open Go.RowKit Go.Fl Go.Sl Go.Op2
open Go.ChangeShapes Go.WideShapes Go.ChangeAt
set_option maxRecDepth 100000 in
theorem open_geomV {H : Type} {enc : TypeId × Value → H} {W : World} {base b2 : Nat} {sp : Nat → Bool} {hd : Bool} {r : Reach} {v : Value} {d : DataW H} {p : List MemPlace}
    (o : Value.okWide Tryz.prog W r base 25 v) (h : DataW.Trod enc Tryz.prog W b2 sp hd 25 v d p) (hL : Light Tryz.prog 25 d) : ∃ t : GT, v = t.hd.val ∧ t.At W ∧ t.Reach := by
  obtain ⟨cs, rfl, _⟩ := okWide_struct Tryz.underlying25 o
  obtain ⟨fuel, hf⟩ := h
  obtain ⟨t, ht, hA, hR⟩ := open_geomS fuel hf hL
  refine ⟨t, ?_, hA, hR⟩
  obtain ⟨⟨kind, dim, na, nn, nc, ka, kn, kc⟩, nums, kids⟩ := t
  simp only [Value.cells, GT.cells, GT.hd, Gm.cells, Gm.val] at ht ⊢
  cases cs
  simp at ht
  rw [ht]
namespace fnPlaces
set_option maxRecDepth 100000 in
theorem walkT {H : Type} (enc : TypeId × Value → H) (W : World) (base : Nat) {v0 : Value} {d0 : DataW H} {p0 : List MemPlace}
    (o0 : Value.okWide Tryz.prog W .any base 25 v0) (h0 : DataW.Trod enc Tryz.prog W 0 (fun _ => true) true 25 v0 d0 p0) (l0 : Light Tryz.prog 25 d0) :
    Calls Tryz.prog 3 #[v0] W (LawPost W) := by
  obtain ⟨t, rfl, hA, hR⟩ := open_geomV o0 h0 l0
  exact placesLaw_ t W hA hR
end fnPlaces
end Go.Proofs.YtbakhldjfplbfaaGreat
