/-
  An argument of geometries opened. No condition.
-/
import Derived.Test.YtinbkonmlgediaaGreatXGeo
import Derived.Test.YtinbkonmlgediaaGreatXOpRows2
import Derived.ProofKit
import Derived.OpenShut
set_option linter.unusedVariables false
set_option linter.unusedSimpArgs false
namespace Go.Proofs.YtinbkonmlgediaaGreat
open Go.ChangeShapes Go.WideShapes Go.ChangeAt Go.Op2 Go.RowKit Go.Sl
theorem cInt : Tryz.prog.cellsOf 3 = 1 := by kernel_rfl
theorem choose_list {α β : Type} {p : α → β → Prop} : ∀ (l : List α), (∀ a ∈ l, ∃ b, p a b) → ∃ m : List β, m.length = l.length ∧ ∀ (i : Nat) (h : i < l.length) (h' : i < m.length), p l[i] m[i]
  | [], _ => ⟨[], rfl, fun i h _ => by simp at h⟩
  | a :: l, h => by
    obtain ⟨b, hb⟩ := h a (by simp)
    obtain ⟨m, h1, h2⟩ := choose_list l (fun x hx => h x (by simp [hx]))
    exact ⟨b :: m, by simp [h1], fun i h h' => by
      cases i with
      | zero => exact hb
      | succ i => exact h2 i (by simpa using h) (by simpa using h')⟩
end Go.Proofs.YtinbkonmlgediaaGreat
