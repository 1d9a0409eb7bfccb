/-
  Arguments opened: floats, structs of floats. No condition.
-/
import Derived.ProofKit
import Derived.OpenShut
set_option linter.unusedVariables false
set_option linter.unusedSimpArgs false
namespace Go.Op2
open Go.ChangeShapes Go.WideShapes Go.ChangeAt Go.RowKit
variable {H : Type} {enc : TypeId × Value → H} {P : Program} {w : World} {base : Nat} {spare : Nat → Bool} {held : Bool} {fuel : Nat} {t : TypeId} {cs : List Value} {x : DataW H × List MemPlace}

theorem trod_float {k : FloatKind} (ht : P.underlying t = some (.float k)) (h : DataW.trod enc P w base spare held fuel t cs = some x) : ∃ b, cs = [.float k b] ∧ (Lit.float k b).wf = true := by
  cases fuel with
  | zero => simp [DataW.trod] at h
  | succ n =>
    unfold DataW.trod at h
    rw [ht] at h
    split at h <;> simp_all
theorem trod_bool' (ht : P.underlying t = some .bool) (h : DataW.trod enc P w base spare held fuel t cs = some x) : ∃ b, cs = [.bool b] := by
  cases fuel with
  | zero => simp [DataW.trod] at h
  | succ n =>
    unfold DataW.trod at h
    rw [ht] at h
    split at h <;> simp_all
theorem trod_int' {k : IntKind} (ht : P.underlying t = some (.int k)) (h : DataW.trod enc P w base spare held fuel t cs = some x) : ∃ n, cs = [.int k n] ∧ (Lit.int k n).wf = true := by
  cases fuel with
  | zero => simp [DataW.trod] at h
  | succ n =>
    unfold DataW.trod at h
    rw [ht] at h
    split at h <;> simp_all
/-- the value of a struct that came in: its cells -/
theorem open_struct {r : Reach} {b0 n : Nat} {fs : Array Field} {v : Value} {d : DataW H} {p : List MemPlace} (hs : P.underlying t = some (.struct fs)) (hC : P.cellsOf t = n) (hv : Value.okWide P w r b0 t v) (h : DataW.Trod enc P w base spare held t v d p) :
    ∃ cs : List Value, v = .agg cs.toArray ∧ cs.length = n ∧ ∃ m, ∀ (i : Nat) (f : Field), fs[i]? = some f → ∃ y, DataW.trod enc P w base spare held m f.type ((cs.drop f.offset).take (P.cellsOf f.type)) = some y := by
  obtain ⟨cs, rfl, hsz⟩ := okWide_struct hs hv
  obtain ⟨fuel, hf⟩ := h
  obtain ⟨xs, m, _, _, hl, hlen, hx⟩ := DataW.trod_struct hs hf
  refine ⟨cs.toList, by simp, by simpa [hC] using hsz, m, fun i f hf => ?_⟩
  have h1 := hx i f hf
  have hi : i < xs.length := by
    rw [hlen]
    rcases Nat.lt_or_ge i fs.size with h | h
    · exact h
    · simp [Array.getElem?_eq_none h] at hf
  rw [List.getElem?_eq_getElem hi] at h1
  exact ⟨xs[i], by simpa [Value.cells] using h1⟩
theorem trod_struct' {n : Nat} {fs : Array Field} (hs : P.underlying t = some (.struct fs)) (hC : P.cellsOf t = n) (h : DataW.trod enc P w base spare held fuel t cs = some x) :
    cs.length = n ∧ ∃ m, ∀ (i : Nat) (f : Field), fs[i]? = some f → ∃ y, DataW.trod enc P w base spare held m f.type ((cs.drop f.offset).take (P.cellsOf f.type)) = some y := by
  obtain ⟨xs, m, _, _, hl, hlen, hx⟩ := DataW.trod_struct hs h
  refine ⟨by rw [hl, hC], m, fun i f hf => ?_⟩
  have h1 := hx i f hf
  have hi : i < xs.length := by
    rw [hlen]
    rcases Nat.lt_or_ge i fs.size with h | h
    · exact h
    · simp [Array.getElem?_eq_none h] at hf
  rw [List.getElem?_eq_getElem hi] at h1
  exact ⟨xs[i], h1⟩
theorem list1 {α : Type} {l : List α} (h : l.length = 1) : ∃ a, l = [a] := by match l, h with | [a], _ => exact ⟨a, rfl⟩
theorem list2 {α : Type} {l : List α} (h : l.length = 2) : ∃ a b, l = [a, b] := by match l, h with | [a, b], _ => exact ⟨a, b, rfl⟩
theorem list3 {α : Type} {l : List α} (h : l.length = 3) : ∃ a b c, l = [a, b, c] := by match l, h with | [a, b, c], _ => exact ⟨a, b, c, rfl⟩
theorem list4 {α : Type} {l : List α} (h : l.length = 4) : ∃ a b c d, l = [a, b, c, d] := by match l, h with | [a, b, c, d], _ => exact ⟨a, b, c, d, rfl⟩
theorem list5 {α : Type} {l : List α} (h : l.length = 5) : ∃ a b c d e, l = [a, b, c, d, e] := by match l, h with | [a, b, c, d, e], _ => exact ⟨a, b, c, d, e, rfl⟩
end Go.Op2
