/-
  Rows read with what they weigh. No condition.
-/
import Derived.Test.YtinbkonmlgediaaGreatXOpGeo
import Derived.SizedLaws
set_option linter.unusedVariables false
set_option linter.unusedSimpArgs false
namespace Go.Op2
open Go.ChangeShapes Go.WideShapes Go.ChangeAt Go.RowKit Go.Sl
variable {H : Type} {enc : TypeId × Value → H} {P : Program} {w : World} {base : Nat} {spare : Nat → Bool} {held : Bool}
/-- a slice's cells as one row, each element read with less fuel -/
theorem trod_rowsS {t e : TypeId} {k fuel : Nat} (hk : 0 < k) {cs : List Value} {x : DataW H × List MemPlace} (ht : P.underlying t = some (.slice e)) (hc : P.cellsOf e = k)
    (h : DataW.trod enc P w base spare held fuel t cs = some x) :
    ∃ a n cap, cs = [.slice a n cap] ∧ ∃ xs : List Value, Sz w a n cap k xs ∧ (a = none → cap = 0) ∧ ∃ m, fuel = m + 1 ∧ ∃ es : List (DataW H × List MemPlace), es.length = n ∧ (n = 0 ∨ ∃ rest, x.1 = .slice (es.map (·.1)) rest) ∧ ∀ i, i < n → ∃ y, es[i]? = some y ∧ DataW.trod enc P w base spare held m e ((xs.drop (i * k)).take k) = some y := by
  cases fuel with
  | zero => simp [DataW.trod] at h
  | succ fuel =>
  rcases DataW.trod_slice ht h with ⟨rfl, _⟩ | ⟨ad, n, cap, elems, rest, n', hn', rfl, hxe, hb, hl, hm, hlen, hx, _, _⟩
  · exact ⟨none, 0, 0, rfl, [], ⟨by simp, Nat.le_refl _, Nat.zero_le _, fun h => by omega⟩, fun _ => rfl, fuel, rfl, [], rfl, .inl rfl, fun i hi => by omega⟩
  · have hn : n' = fuel := by omega
    subst hn
    rw [hc] at hx
    -- the row
    have hall : ∀ q, q ≤ n → ∃ xs : List Value, xs.length = q * k ∧ (∀ j u, xs[j]? = some u → w.cell? (ad.add j) = some u) ∧ ∀ i, i < q → ∃ y, elems[i]? = some y ∧ DataW.trod enc P w base spare held n' e ((xs.drop (i * k)).take k) = some y := by
      intro q
      induction q with
      | zero => exact fun _ => ⟨[], by simp, fun j u h => by simp at h, fun i hi => by omega⟩
      | succ q ih =>
        intro hq
        obtain ⟨xs, h1, h2, h3⟩ := ih (by omega)
        have key := hx q (by omega)
        rw [List.getElem?_eq_getElem (show q < elems.length by omega)] at key
        obtain ⟨cs, g1, g2⟩ := Option.bind_eq_some_iff.1 key
        obtain ⟨_, hlen, hcell⟩ := World.cells?_some g1
        refine ⟨xs ++ cs, by rw [List.length_append, h1, hlen, Nat.add_mul, Nat.one_mul], fun j u hj => ?_, fun i hi => ?_⟩
        · rcases Nat.lt_or_ge j xs.length with h | h
          · rw [List.getElem?_append_left h] at hj; exact h2 j u hj
          · rw [List.getElem?_append_right h] at hj
            have hj' : j - xs.length < cs.length := (List.getElem?_eq_some_iff.1 hj).1
            have := hcell (j - xs.length) (by omega)
            rw [Go.Deep.add_add, h1, show q * k + (j - q * k) = j by omega] at this
            rw [h1] at hj
            rw [this, hj]
        · rcases Nat.lt_or_ge i q with h | h
          · obtain ⟨y, hy0, hy⟩ := h3 i h
            refine ⟨y, hy0, ?_⟩
            have h5 : i * k + k ≤ q * k := by rw [← Nat.succ_mul]; exact Nat.mul_le_mul_right _ h
            rw [List.drop_append_of_le_length (by omega), List.take_append_of_le_length (by rw [List.length_drop]; omega)]
            exact hy
          · have : i = q := by omega
            subst this
            refine ⟨elems[i], List.getElem?_eq_getElem _, ?_⟩
            rw [List.drop_append, ← h1, List.drop_length, Nat.sub_self]
            simp only [List.nil_append, List.drop_zero]
            rw [List.take_of_length_le (by omega)]
            exact g2
    obtain ⟨xs, h1, h2, h3⟩ := hall n (Nat.le_refl _)
    refine ⟨some ad, n, cap, rfl, xs, ⟨h1, hl, hm, fun hn => ?_⟩, (fun h => by cases h), n', rfl, elems, hlen, .inr ⟨rest.map (·.1), by rw [hxe]⟩, h3⟩
    have h0 : 0 < xs.length := by rw [h1]; exact Nat.mul_pos hn hk
    have hc0 := h2 0 xs[0] (by simp [h0])
    obtain ⟨b, off, spot⟩ := ad
    have hspot : spot = none := by simpa [Addr.add] using World.cell?_spot hc0
    subst hspot
    refine ⟨h1, hl, hm, fun h => (by cases h), fun x hx => ?_⟩
    cases hx
    refine ⟨b, off, rfl, ?_, fun j u hj => ?_⟩
    · exact World.block_lt_of_cell? (a := ⟨b, off, none⟩) _ (by simpa [Addr.add] using hc0)
    · rw [← Go.WideShapes.add_plain]; exact h2 j u hj

end Go.Op2
