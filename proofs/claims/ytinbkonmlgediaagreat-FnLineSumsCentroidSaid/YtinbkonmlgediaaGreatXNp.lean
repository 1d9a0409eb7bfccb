/-
  What geometry plain data make. No condition.
-/
import Derived.Test.YtinbkonmlgediaaGreatXHa
import Derived.Test.YtinbkonmlgediaaGreatXGrow
set_option linter.unusedVariables false
set_option linter.unusedSimpArgs false
namespace Go.Proofs.YtinbkonmlgediaaGreat
open Go.RowKit Go.Fl Go.Sl Go.Pg Go.Ch Go.Kf
def kindN (k : Int) : Nat := if 0 ≤ k ∧ k ≤ 6 then k.toNat else 0
/-- may a whole of kind k have this part? -/
def takes (k : Nat) (m : Pg) : Bool := if k = 4 then m.kind == 1 else if k = 3 ∨ k = 5 then m.kind == 2 else if k = 6 then m.kind == 3 else true
mutual
def newP : GT → Pg
  | .node h nums kids => if kindN h.kind = 1 then .node 1 (dim4 h.dim) ((placesOf (dim4 h.dim) nums).take 1) [] else if kindN h.kind = 2 then .node 2 (dim4 h.dim) (placesOf (dim4 h.dim) nums) [] else wholeP (kindN h.kind) (dim4 h.dim) ((newPs kids).filter (takes (kindN h.kind)))
def newPs : List GT → List Pg
  | [] => []
  | t :: r => newP t :: newPs r
end
theorem newPs_eq (l : List GT) : newPs l = l.map newP := by
  induction l with
  | nil => simp [newPs]
  | cons t l ih => simp [newPs, ih]
theorem newP_whole (h : Gm) (nums : List Nat) (kids : List GT) (h1 : kindN h.kind ≠ 1) (h2 : kindN h.kind ≠ 2) : newP (.node h nums kids) = wholeP (kindN h.kind) (dim4 h.dim) ((kids.map newP).filter (takes (kindN h.kind))) := by
  rw [newP, if_neg h1, if_neg h2, newPs_eq]
theorem newP_point (h : Gm) (nums : List Nat) (kids : List GT) (h1 : h.kind = 1) : newP (.node h nums kids) = .node 1 (dim4 h.dim) ((placesOf (dim4 h.dim) nums).take 1) [] := by
  rw [newP, if_pos (by rw [h1]; rfl)]
theorem newP_line (h : Gm) (nums : List Nat) (kids : List GT) (h1 : h.kind = 2) : newP (.node h nums kids) = .node 2 (dim4 h.dim) (placesOf (dim4 h.dim) nums) [] := by
  rw [newP, if_neg (by rw [h1]; decide), if_pos (by rw [h1]; rfl)]
theorem newP_kind (t : GT) : (newP t).kind = kindN t.hd.kind := by
  cases t with
  | node h nums kids =>
    show _ = kindN h.kind
    rw [newP]
    split
    · rename_i h1; rw [h1]; rfl
    · split
      · rename_i h1; rw [h1]; rfl
      · exact whole_kind _ _ _
/-- at every node few numbers, few parts -/
inductive GT.Small : GT → Prop where
  | mk (h : Gm) (nums : List Nat) (kids : List GT) (h1 : nums.length ≤ 1000) (h2 : kids.length ≤ 1000) (h3 : ∀ t ∈ kids, GT.Small t) : GT.Small (.node h nums kids)
theorem GT.Small.nums {h : Gm} {nums : List Nat} {kids : List GT} (hs : GT.Small (.node h nums kids)) : nums.length ≤ 1000 := by cases hs; assumption
theorem GT.Small.few {h : Gm} {nums : List Nat} {kids : List GT} (hs : GT.Small (.node h nums kids)) : kids.length ≤ 1000 := by cases hs; assumption
theorem GT.Small.kid {h : Gm} {nums : List Nat} {kids : List GT} (hs : GT.Small (.node h nums kids)) : ∀ t ∈ kids, GT.Small t := by cases hs; assumption
/-- a line of plain data -/
theorem makeLs_ (t : GT) (w : World) (hA : t.At w) (hs : t.Small) (hk : t.hd.kind = 2) : Calls Tryz.prog 13 #[t.hd.val] w (RetR w no LsR (newP t)) := by
  cases hA with
  | mk h nums kids hn hkn h1 h2 h3 =>
    obtain ⟨kind, dim, na, nn, nc, ka, kn, kc⟩ := h
    simp only [GT.hd] at hk hn h1
    subst hk
    have h4 := hs.nums
    refine (lineA_ dim na ka nn nc kn kc nums w hn (by omega) h1).mono ?_
    rintro e w' ⟨a, n, cap, rfl, hk, h⟩
    exact ⟨_, rfl, hk, _, _, a, n, cap, rfl, newP_line _ _ _ rfl, h⟩
/-- a point of plain data -/
theorem makePt_ (t : GT) (w : World) (hA : t.At w) (hs : t.Small) (hk : t.hd.kind = 1) : Calls Tryz.prog 31 #[t.hd.val] w (RetR w no PtR (newP t)) := by
  cases hA with
  | mk h nums kids hn hkn h1 h2 h3 =>
    obtain ⟨kind, dim, na, nn, nc, ka, kn, kc⟩ := h
    simp only [GT.hd] at hk hn h1
    subst hk
    have h4 := hs.nums
    refine (pointA_ dim na ka nn nc kn kc nums w hn (by omega) h1).mono ?_
    rintro e w' ⟨rfl, hk⟩
    exact ⟨_, rfl, hk, _, _, rfl, newP_point _ _ _ rfl, dim4_lt _, by rw [List.length_take]; omega, fun q hq => placesOf_norm _ _ q (List.mem_of_mem_take hq)⟩
theorem filter_snoc {α : Type} (f : α → Bool) (l : List α) (x : α) : (l ++ [x]).filter f = if f x then l.filter f ++ [x] else l.filter f := by
  rw [List.filter_append]
  cases h : f x <;> simp [h]
end Go.Proofs.YtinbkonmlgediaaGreat
