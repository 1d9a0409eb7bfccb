/-
  Slices that may be empty at any address, read as rows of cells. No condition.
-/
import Derived.Test.YtinbkonmlgediaaGreatXSl
import Derived.Test.YtinbkonmlgediaaGreatXStab
set_option linter.unusedVariables false
set_option linter.unusedSimpArgs false
namespace Go.Sl
open Go.RowKit
/-- the slice of n elements of k cells each reads as xs; where it has none its address does not matter -/
structure Sz (w : World) (a : Option Addr) (n cap k : Nat) (xs : List Value) : Prop where
  len : xs.length = n * k
  le : n ≤ cap
  max : cap ≤ maxLen
  some_ : 0 < n → Sl w a n cap k xs

theorem Sl.toSz {w : World} {a : Option Addr} {n cap k : Nat} {xs : List Value} (h : Sl w a n cap k xs) : Sz w a n cap k xs := ⟨h.len, h.le, h.max, fun _ => h⟩
theorem Sz.keep {w w' : World} {a : Option Addr} {n cap k : Nat} {xs : List Value} (h : Sz w a n cap k xs) (hk : Stab.Keeps w w') : Sz w' a n cap k xs :=
  ⟨h.len, h.le, h.max, fun hn => (h.some_ hn).keep hk⟩
theorem Sz.elem {w : World} {a : Option Addr} {n cap k : Nat} {xs : List Value} (h : Sz w a n cap k xs) {i : Nat} (hi : i < n) :
    ∃ b off, a = some ⟨b, off, none⟩ ∧ b < w.heap.size ∧ ∀ j u, j < k → xs[i * k + j]? = some u → w.cell? ⟨b, off + i * k + j, none⟩ = some u :=
  (h.some_ (by omega)).elem hi
theorem Sz.nil (w : World) (k : Nat) : Sz w none 0 0 k [] := ⟨by simp, Nat.le_refl _, Nat.zero_le _, fun h => by omega⟩
theorem add_none (b off j : Nat) : ((⟨b, off, none⟩ : Addr).add j) = ⟨b, off + j, none⟩ := by
  simp only [Addr.add]
  by_cases hj : j = 0
  · subst hj; rfl
  · simp [hj]
/-- what a list's k cells for each element are, at one index -/
theorem flat_get {α : Type} (f : α → List Value) (k : Nat) (hf : ∀ a, (f a).length = k) : ∀ (l : List α) (i j : Nat) (hi : i < l.length), j < k → (l.flatMap f)[i * k + j]? = (f l[i])[j]?
  | p :: l, 0, j, _, hj => by
    rw [List.flatMap_cons, List.getElem?_append_left (by rw [hf]; omega)]; simp
  | p :: l, i + 1, j, hi, hj => by
    have := flat_get f k hf l i j (by simpa using hi) hj
    rw [List.flatMap_cons, List.getElem?_append_right (by rw [hf, Nat.add_mul]; omega), hf, show (i + 1) * k + j - k = i * k + j by rw [Nat.add_mul]; omega, this]
    simp
theorem owns_keep {w w' : World} {base k n : Nat} {e : TypeId} {v : Value} {xs : List Value} (h : w.ownsRow base e k v n xs) (hk : Stab.Keeps w w') : w'.ownsRow base e k v n xs := by
  refine ⟨h.1, ?_⟩
  rcases h.2 with hn | ⟨g, cap, cur, hv, hb, hg, rest⟩
  · exact .inl hn
  · have hlt : g < w.heap.size := by
      rcases Nat.lt_or_ge g w.heap.size with h | h
      · exact h
      · rw [Array.getElem?_eq_none h] at hg; cases hg
    exact .inr ⟨g, cap, cur, hv, hb, by rw [hk.block g hlt]; exact hg, rest⟩
end Go.Sl
