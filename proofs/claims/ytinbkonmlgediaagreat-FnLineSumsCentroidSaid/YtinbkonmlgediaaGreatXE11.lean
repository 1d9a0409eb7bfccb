/-
  FnLineSumsCentroid: the argument opened, the walk in the row's form. No condition.
-/
import Derived.Test.YtinbkonmlgediaaGreatXEe
import Derived.Test.YtinbkonmlgediaaGreatXOpSz0
import Derived.Test.YtinbkonmlgediaaGreatRows
set_option linter.unusedVariables false
set_option linter.unusedSimpArgs false
namespace Go.Proofs.YtinbkonmlgediaaGreat
open Go.ChangeShapes Go.WideShapes Go.ChangeAt Go.Op2 Go.RowKit Go.Sl
set_option maxRecDepth 100000 in
theorem cPtW : Tryz.prog.cellsOf 55 = 2 := by kernel_rfl
theorem list2W {l : List Value} (h : l.length = 2) : ∃ a b, l = [a, b] := by
  match l, h with
  | [a, b], _ => exact ⟨a, b, rfl⟩
set_option maxRecDepth 100000 in
theorem open_ptsV {H : Type} {enc : TypeId × Value → H} {W : World} {base b2 : Nat} {sp : Nat → Bool} {hd : Bool} {r : Reach} {v : Value} {d : DataW H} {p : List MemPlace}
    (o : Value.okWide Tryz.prog W r base 22 v) (h : DataW.Trod enc Tryz.prog W b2 sp hd 22 v d p) : ∃ a n cap, v = .slice a n cap ∧ ∃ l : List (Int × Int), l.length = n ∧ Sz W a n cap 2 (l.flatMap ptCells) := by
  obtain ⟨a, n, cap, rfl⟩ := okWide_slice Tryz.underlying22 o
  obtain ⟨fuel, hf⟩ := h
  obtain ⟨a', n', cap', h1, xs, hS, _, m, _, es, hle, hxe, hm⟩ := trod_rowsS (by decide) Tryz.underlying22 cPtW hf
  simp [Value.cells] at h1
  obtain ⟨rfl, rfl, rfl⟩ := h1
  refine ⟨a, n, cap, rfl, ?_⟩
  obtain ⟨l, h1, h2⟩ := chunks (α := Int × Int) ptCells 2 (fun _ => rfl) n xs hS.len (fun i hi => by
    obtain ⟨y, _, hy⟩ := hm i hi
    obtain ⟨hl, m2, hm2, hf⟩ := trod_structF Tryz.underlying55 cPtW hy
    obtain ⟨c0, c1, e⟩ := list2W hl
    rw [e] at hf
    obtain ⟨y0, g0⟩ := hf 0 _ rfl
    obtain ⟨y1, g1⟩ := hf 1 _ rfl
    simp [cInt] at g0 g1
    obtain ⟨p, e0, _⟩ := trod_int' Tryz.underlying3 g0
    obtain ⟨q, e1, _⟩ := trod_int' Tryz.underlying3 g1
    injection e0 with e0
    injection e1 with e1
    subst e0 e1
    exact ⟨(p, q), e⟩)
  rw [h2] at hS
  exact ⟨l, h1, hS⟩
namespace fnLineSumsCentroid
set_option maxRecDepth 100000 in
theorem walkT {H : Type} (enc : TypeId × Value → H) (W : World) (base : Nat) {v0 : Value} {d0 : DataW H} {p0 : List MemPlace}
    (o0 : Value.okWide Tryz.prog W .any base 22 v0)
    (h0 : DataW.Trod enc Tryz.prog W 0 (fun _ => true) true 22 v0 d0 p0) :
    Calls Tryz.prog 3 #[v0] W (LawPost W) := by
  obtain ⟨a, n, cap, rfl, l, hl, hS⟩ := open_ptsV o0 h0
  exact lineLaw_ a n cap l W hl hS
end fnLineSumsCentroid
end Go.Proofs.YtinbkonmlgediaaGreat
