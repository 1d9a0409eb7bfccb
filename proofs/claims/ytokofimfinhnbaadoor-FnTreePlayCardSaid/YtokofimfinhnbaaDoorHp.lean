/-
  A heap in a list: what 'up' and 'down' keep. No condition. (Plain Lean.)
-/
namespace Go.Hp
/-- parents are not above their children, but for a child at j (up) -/
def UpI (k : Nat → Int) (n j : Nat) : Prop := (∀ i, 0 < i → i < n → i ≠ j → k ((i - 1) / 2) ≤ k i) ∧ (∀ i, 0 < i → i < n → 0 < j → (i - 1) / 2 = j → k ((j - 1) / 2) ≤ k i)
/-- .. but for a parent at j (down) -/
def DnI (k : Nat → Int) (n j : Nat) : Prop := (∀ i, 0 < i → i < n → (i - 1) / 2 ≠ j → k ((i - 1) / 2) ≤ k i) ∧ (∀ i, 0 < i → i < n → 0 < j → (i - 1) / 2 = j → k ((j - 1) / 2) ≤ k i)
def HpI (k : Nat → Int) (n : Nat) : Prop := ∀ i, 0 < i → i < n → k ((i - 1) / 2) ≤ k i
def sw (k : Nat → Int) (a b : Nat) : Nat → Int := fun i => if i = a then k b else if i = b then k a else k i
theorem UpI.start {k : Nat → Int} {n : Nat} (h : HpI k n) : UpI k (n + 1) n :=
  ⟨fun i h0 h1 h2 => h i h0 (by omega), fun i h0 h1 h2 h3 => by omega⟩
theorem UpI.done {k : Nat → Int} {n j : Nat} (h : UpI k n j) (hj : j = 0 ∨ k ((j - 1) / 2) ≤ k j) : HpI k n := by
  intro i h0 h1
  by_cases hij : i = j
  · subst hij
    rcases hj with h2 | h2
    · omega
    · exact h2
  · exact h.1 i h0 h1 hij
theorem UpI.step {k : Nat → Int} {n j : Nat} (h : UpI k n j) (hjn : j < n) (hj : 0 < j) (hlt : k j < k ((j - 1) / 2)) : UpI (sw k ((j - 1) / 2) j) n ((j - 1) / 2) := by
  obtain ⟨h1, h2⟩ := h
  have hpj : (j - 1) / 2 ≠ j := by omega
  refine ⟨fun i h0 hi hne => ?_, fun i h0 hi hp hpar => ?_⟩
  · unfold sw
    by_cases hij : i = j
    · subst hij
      rw [if_pos rfl, if_neg hne, if_pos rfl]
      omega
    · by_cases hpi : (i - 1) / 2 = (j - 1) / 2
      · rw [if_pos hpi, if_neg hne, if_neg hij]
        have := h1 i h0 hi hij
        rw [hpi] at this
        omega
      · by_cases hpj' : (i - 1) / 2 = j
        · rw [if_neg hpi, if_pos hpj', if_neg hne, if_neg hij]
          exact h2 i h0 hi hj hpj'
        · rw [if_neg hpi, if_neg hpj', if_neg hne, if_neg hij]
          exact h1 i h0 hi hij
  · have q1 : ((j - 1) / 2 - 1) / 2 ≠ (j - 1) / 2 := by omega
    have q2 : ((j - 1) / 2 - 1) / 2 ≠ j := by omega
    have q3 : i ≠ (j - 1) / 2 := by omega
    have hgp := h1 ((j - 1) / 2) hp (by omega) hpj
    unfold sw
    rw [if_neg q1, if_neg q2, if_neg q3]
    by_cases hij : i = j
    · subst hij
      rw [if_pos rfl]
      exact hgp
    · rw [if_neg hij]
      have h3 := h1 i h0 hi hij
      rw [hpar] at h3
      omega
theorem DnI.done {k : Nat → Int} {n j : Nat} (h : DnI k n j) (hj : ∀ i, 0 < i → i < n → (i - 1) / 2 = j → k j ≤ k i) : HpI k n := by
  intro i h0 h1
  by_cases hij : (i - 1) / 2 = j
  · rw [hij]; exact hj i h0 h1 hij
  · exact h.1 i h0 h1 hij
theorem DnI.step {k : Nat → Int} {n j c : Nat} (h : DnI k n j) (hc : c < n) (hc0 : 0 < c) (hcj : (c - 1) / 2 = j) (hlt : k c < k j) (hmin : ∀ i, 0 < i → i < n → (i - 1) / 2 = j → k c ≤ k i) : DnI (sw k j c) n c := by
  obtain ⟨h1, h2⟩ := h
  have hjc : j ≠ c := by omega
  refine ⟨fun i h0 hi hne => ?_, fun i h0 hi hp hpar => ?_⟩
  · unfold sw
    by_cases hpi : (i - 1) / 2 = j
    · have hij : i ≠ j := by omega
      rw [if_pos hpi, if_neg hij]
      by_cases hic : i = c
      · rw [if_pos hic]; omega
      · rw [if_neg hic]; exact hmin i h0 hi hpi
    · rw [if_neg hpi, if_neg hne]
      by_cases hij : i = j
      · subst hij
        rw [if_pos rfl]
        exact h2 c hc0 hc h0 hcj
      · have hic : i ≠ c := by rintro rfl; exact hpi hcj
        rw [if_neg hij, if_neg hic]
        exact h1 i h0 hi hpi
  · have q1 : i ≠ j := by omega
    have q2 : i ≠ c := by omega
    unfold sw
    rw [if_pos hcj, if_neg q1, if_neg q2]
    have := h1 i h0 hi (by rw [hpar]; exact hjc.symm)
    rw [hpar] at this
    exact this
theorem HpI.root {k : Nat → Int} {n : Nat} (h : HpI k n) : ∀ i, i < n → k 0 ≤ k i := by
  intro i
  induction i using Nat.strongRecOn with
  | _ i ih =>
    intro hi
    by_cases h0 : i = 0
    · subst h0; omega
    · have := ih ((i - 1) / 2) (by omega) (by omega)
      have := h i (by omega) hi
      omega
/-- the first is put aside: the last one stands in its place -/
theorem DnI.start {k : Nat → Int} {n : Nat} (h : HpI k (n + 1)) : DnI (sw k 0 n) n 0 := by
  refine ⟨fun i h0 hi hne => ?_, fun i h0 hi hp => absurd hp (by omega)⟩
  unfold sw
  rw [if_neg hne, if_neg (by omega), if_neg (by omega), if_neg (by omega)]
  exact h i h0 (by omega)
end Go.Hp
