/-
  What geometry plain data make. No condition.
-/
import Derived.Test.YtbakhldjfplbfaaGreatXH3
import Derived.Test.YtbakhldjfplbfaaGreatXGrow
set_option linter.unusedVariables false
set_option linter.unusedSimpArgs false
namespace Go.Proofs.YtbakhldjfplbfaaGreat
open Go.RowKit Go.Fl Go.Sl Go.Pg Go.Ch Go.Kf
def kindN (k : Int) : Nat := if 0 ≤ k ∧ k ≤ 6 then k.toNat else 0
/-- may a whole of kind k have this part? -/
def takes (k : Nat) (m : Pg) : Bool := if k = 4 then m.kind == 1 else if k = 3 ∨ k = 5 then m.kind == 2 else if k = 6 then m.kind == 3 else true
mutual
def newP : GT → Pg
  | .node h nums kids => if kindN h.kind = 1 then .node 1 (dim4 h.dim) ((placesOf (dim4 h.dim) nums).take 1) [] else if kindN h.kind = 2 then .node 2 (dim4 h.dim) (placesOf (dim4 h.dim) nums) [] else wholeP (kindN h.kind) (dim4 h.dim) ((newPs kids).filter (takes (kindN h.kind)))
def newPs : List GT → List Pg
  | [] => []
  | t :: r => newP t :: newPs r
end
theorem newPs_eq (l : List GT) : newPs l = l.map newP := by
  induction l with
  | nil => simp [newPs]
  | cons t l ih => simp [newPs, ih]
theorem newP_whole (h : Gm) (nums : List Nat) (kids : List GT) (h1 : kindN h.kind ≠ 1) (h2 : kindN h.kind ≠ 2) : newP (.node h nums kids) = wholeP (kindN h.kind) (dim4 h.dim) ((kids.map newP).filter (takes (kindN h.kind))) := by
  rw [newP, if_neg h1, if_neg h2, newPs_eq]
theorem newP_point (h : Gm) (nums : List Nat) (kids : List GT) (h1 : h.kind = 1) : newP (.node h nums kids) = .node 1 (dim4 h.dim) ((placesOf (dim4 h.dim) nums).take 1) [] := by
  rw [newP, if_pos (by rw [h1]; rfl)]
theorem newP_line (h : Gm) (nums : List Nat) (kids : List GT) (h1 : h.kind = 2) : newP (.node h nums kids) = .node 2 (dim4 h.dim) (placesOf (dim4 h.dim) nums) [] := by
  rw [newP, if_neg (by rw [h1]; decide), if_pos (by rw [h1]; rfl)]
/-- at every node few numbers, few parts -/
inductive GT.Small : GT → Prop where
  | mk (h : Gm) (nums : List Nat) (kids : List GT) (h1 : nums.length ≤ 1000) (h2 : kids.length ≤ 1000) (h3 : ∀ t ∈ kids, GT.Small t) : GT.Small (.node h nums kids)
theorem GT.Small.nums {h : Gm} {nums : List Nat} {kids : List GT} (hs : GT.Small (.node h nums kids)) : nums.length ≤ 1000 := by cases hs; assumption
theorem GT.Small.few {h : Gm} {nums : List Nat} {kids : List GT} (hs : GT.Small (.node h nums kids)) : kids.length ≤ 1000 := by cases hs; assumption
theorem GT.Small.kid {h : Gm} {nums : List Nat} {kids : List GT} (hs : GT.Small (.node h nums kids)) : ∀ t ∈ kids, GT.Small t := by cases hs; assumption
theorem filter_snoc {α : Type} (f : α → Bool) (l : List α) (x : α) : (l ++ [x]).filter f = if f x then l.filter f ++ [x] else l.filter f := by
  rw [List.filter_append]
  cases h : f x <;> simp [h]
end Go.Proofs.YtbakhldjfplbfaaGreat
