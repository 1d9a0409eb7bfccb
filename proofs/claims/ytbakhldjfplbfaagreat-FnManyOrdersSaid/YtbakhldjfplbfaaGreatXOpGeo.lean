/-
  An argument of geometries opened. No condition.
-/
import Derived.Test.YtbakhldjfplbfaaGreatXGeo
import Derived.Test.YtbakhldjfplbfaaGreatXOpRows2
import Derived.ProofKit
import Derived.OpenShut
set_option linter.unusedVariables false
set_option linter.unusedSimpArgs false
namespace Go.Proofs.YtbakhldjfplbfaaGreat
open Go.ChangeShapes Go.WideShapes Go.ChangeAt Go.Op2 Go.RowKit Go.Sl
theorem cGeom : Tryz.prog.cellsOf 25 = 4 := by kernel_rfl
theorem cInt : Tryz.prog.cellsOf 3 = 1 := by kernel_rfl
theorem cFloat : Tryz.prog.cellsOf 45 = 1 := by kernel_rfl
theorem cFloats : Tryz.prog.cellsOf 22 = 1 := by kernel_rfl
theorem cGeoms : Tryz.prog.cellsOf 23 = 1 := by kernel_rfl
theorem choose_list {α β : Type} {p : α → β → Prop} : ∀ (l : List α), (∀ a ∈ l, ∃ b, p a b) → ∃ m : List β, m.length = l.length ∧ ∀ (i : Nat) (h : i < l.length) (h' : i < m.length), p l[i] m[i]
  | [], _ => ⟨[], rfl, fun i h _ => by simp at h⟩
  | a :: l, h => by
    obtain ⟨b, hb⟩ := h a (by simp)
    obtain ⟨m, h1, h2⟩ := choose_list l (fun x hx => h x (by simp [hx]))
    exact ⟨b :: m, by simp [h1], fun i h h' => by
      cases i with
      | zero => exact hb
      | succ i => exact h2 i (by simpa using h) (by simpa using h')⟩
theorem chunks_eq {α : Type} (f : α → List Value) (k : Nat) : ∀ (n : Nat) (xs : List Value) (q : List α) (hq : q.length = n), xs.length = n * k → (∀ i (h : i < n), (xs.drop (i * k)).take k = f (q[i]'(by omega))) → xs = q.flatMap f
  | 0, xs, q, hq, hl, _ => by
    have h1 : xs.length = 0 := by rw [hl]; simp
    rw [List.length_eq_zero_iff.1 h1, List.length_eq_zero_iff.1 hq]; rfl
  | n + 1, xs, a :: q, hq, hl, h => by
    have h0 := h 0 (by omega)
    simp at h0
    have := chunks_eq f k n (xs.drop k) q (by simpa using hq) (by rw [List.length_drop, hl, Nat.add_mul]; omega) (fun i hi => by
      have := h (i + 1) (by omega)
      rw [List.drop_drop, show k + i * k = (i + 1) * k by rw [Nat.add_mul]; omega, this]
      rfl)
    rw [List.flatMap_cons, ← h0, ← this, List.take_append_drop]
end Go.Proofs.YtbakhldjfplbfaaGreat
