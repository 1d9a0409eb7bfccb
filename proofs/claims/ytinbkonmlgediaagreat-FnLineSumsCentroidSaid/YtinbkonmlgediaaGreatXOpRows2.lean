/-
  A slice argument opened: its cells as one row, and the row as a list of elements. No condition.
-/
import Derived.Deep.Slices
import Derived.Test.YtinbkonmlgediaaGreatXSz
import Derived.Test.YtinbkonmlgediaaGreatXOp
set_option linter.unusedVariables false
set_option linter.unusedSimpArgs false
namespace Go.Op2
open Go.ChangeShapes Go.WideShapes Go.ChangeAt Go.RowKit Go.Sl
variable {H : Type} {enc : TypeId × Value → H} {P : Program} {w : World} {base : Nat} {spare : Nat → Bool} {held : Bool}

/-- a row that is cut into chunks, each of one form, is a list of those forms -/
theorem chunks {α : Type} (f : α → List Value) (k : Nat) (hf : ∀ a, (f a).length = k) : ∀ (n : Nat) (xs : List Value), xs.length = n * k → (∀ i, i < n → ∃ a, (xs.drop (i * k)).take k = f a) → ∃ l : List α, l.length = n ∧ xs = l.flatMap f
  | 0, xs, hl, _ => ⟨[], rfl, by have : xs.length = 0 := by rw [hl]; simp
                                 simpa using this⟩
  | n + 1, xs, hl, h => by
    obtain ⟨a, ha⟩ := h 0 (by omega)
    simp at ha
    obtain ⟨l, h1, h2⟩ := chunks f k hf n (xs.drop k) (by rw [List.length_drop, hl, Nat.add_mul]; omega) (fun i hi => by
      obtain ⟨b, hb⟩ := h (i + 1) (by omega)
      exact ⟨b, by rw [List.drop_drop, ← hb, Nat.add_mul, Nat.one_mul, Nat.add_comm]⟩)
    refine ⟨a :: l, by simp [h1], ?_⟩
    rw [List.flatMap_cons, ← ha, ← h2, List.take_append_drop]

theorem trod_structF {t : TypeId} {fuel n : Nat} {cs : List Value} {x : DataW H × List MemPlace} {fs : Array Field} (hs : P.underlying t = some (.struct fs)) (hC : P.cellsOf t = n) (h : DataW.trod enc P w base spare held fuel t cs = some x) :
    cs.length = n ∧ ∃ m, fuel = m + 1 ∧ ∀ (i : Nat) (f : Field), fs[i]? = some f → ∃ y, DataW.trod enc P w base spare held m f.type ((cs.drop f.offset).take (P.cellsOf f.type)) = some y := by
  obtain ⟨xs, m, hm, _, hl, hlen, hx⟩ := DataW.trod_struct hs h
  refine ⟨by rw [hl, hC], m, by omega, fun i f hf => ?_⟩
  have h1 := hx i f hf
  have hi : i < xs.length := by
    rw [hlen]
    rcases Nat.lt_or_ge i fs.size with h | h
    · exact h
    · simp [Array.getElem?_eq_none h] at hf
  rw [List.getElem?_eq_getElem hi] at h1
  exact ⟨xs[i], h1⟩

end Go.Op2
