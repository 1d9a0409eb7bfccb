/-
  Doubles as exact numbers: what a word reads as when it was written; whole numbers. No condition.
-/
import Ieee.Arith
set_option linter.unusedVariables false
set_option linter.unusedSimpArgs false
namespace Go.Fw
open Ieee

def sg (s : Bool) (m : Nat) : Int := if s then -(m : Int) else m
theorem signed_eq (s : Bool) (m u : Nat) : signed s m u = sg s m * 2 ^ u := by
  unfold signed sg
  cases s <;> simp [Nat.shiftLeft_eq, Int.neg_mul]

theorem fb : double.fractionBits = 52 := rfl
theorem bin : double.binade = 4503599627370496 := rfl
theorem inf : double.infRung = 9218868437227405312 := rfl
theorem sw : double.signWeight = 9223372036854775808 := rfl
theorem lp : double.leastPlace = -1074 := by decide

/-- what a rung reads as -/
theorem read_word (neg : Bool) (L kept : Nat) (hk : kept < 9007199254740992) (hL : 0 < L → 4503599627370496 ≤ kept) (hr : L * 4503599627370496 + kept < 9218868437227405312) :
    double.read (double.word neg (L * 4503599627370496 + kept)) = .number neg kept ((L : Int) - 1074) := by
  have hw : double.word neg (L * 4503599627370496 + kept) / 9223372036854775808 % 2 = neg.toNat ∧ double.word neg (L * 4503599627370496 + kept) % 9223372036854775808 = L * 4503599627370496 + kept := by
    unfold Format.word
    rw [sw]
    cases neg
    · simp only [Bool.false_eq_true, if_false, Bool.toNat_false]; omega
    · simp only [if_true, Bool.toNat_true]; omega
  unfold Format.read
  simp only [sw, bin, inf, lp, hw.1, hw.2]
  have hn : (neg.toNat == 1) = neg := by cases neg <;> rfl
  rw [hn]
  by_cases h0 : L * 4503599627370496 + kept < 4503599627370496
  · have : L = 0 := by omega
    subst this
    rw [if_pos h0]
    simp
  · rw [if_neg h0, if_pos hr]
    rcases Nat.eq_zero_or_pos L with h | h
    · subst h
      have e1 : (0 * 4503599627370496 + kept) / 4503599627370496 = 1 := by omega
      have e2 : 4503599627370496 + (0 * 4503599627370496 + kept) % 4503599627370496 = kept := by omega
      rw [e1, e2]; simp
    · have := hL h
      have e1 : (L * 4503599627370496 + kept) / 4503599627370496 = L + 1 := by omega
      have e2 : 4503599627370496 + (L * 4503599627370496 + kept) % 4503599627370496 = kept := by omega
      rw [e1, e2]
      congr 1

/-- 'cut' where nothing is left over -/
theorem cut_exact (neg : Bool) (n d : Nat) (h : n % 2 ^ d = 0) (hd : d ≤ n.log2 + 2) : Toward.even.cut neg n d = n / 2 ^ d := by
  unfold Toward.cut
  have hm : min d (n.log2 + 2) = d := Nat.min_eq_left hd
  simp only [hm, Nat.one_shiftLeft, h]
  simp

theorem log2_shift {m : Nat} (h : m ≠ 0) (k : Nat) : (m * 2 ^ k).log2 = m.log2 + k := by
  have h1 : m * 2 ^ k ≠ 0 := Nat.mul_ne_zero h (Nat.pos_iff_ne_zero.1 (Nat.two_pow_pos k))
  apply (Nat.log2_eq_iff h1).2
  have a := Nat.log2_self_le h
  have b : m < 2 ^ (m.log2 + 1) := Nat.lt_log2_self
  refine ⟨?_, ?_⟩
  · rw [Nat.pow_add]; exact Nat.mul_le_mul_right _ a
  · rw [show m.log2 + k + 1 = (m.log2 + 1) + k by omega, Nat.pow_add]
    exact Nat.mul_lt_mul_of_pos_right b (Nat.two_pow_pos k)

theorem nearest_at (neg : Bool) (mag : Nat) (place last : Int) (X L : Nat) (hm : mag ≠ 0) (hlast : max (place + mag.log2 - (52 : Nat)) (-1074 : Int) = last) (hL : last = (L : Int) - 1074)
    (hkept : Toward.even.cut neg (mag <<< (place - last).toNat) (last - place).toNat = X) (hX : X < 9007199254740992) (hX2 : 0 < L → 4503599627370496 ≤ X) (hr : L * 4503599627370496 + X < 9218868437227405312) :
    double.read (double.nearest neg mag place) = .number neg X ((L : Int) - 1074) := by
  have e : double.nearest neg mag place = double.word neg (L * 4503599627370496 + X) := by
    unfold Format.nearest
    rw [if_neg hm]
    simp only [fb, lp, bin, inf, hlast, hkept]
    rw [hL, show ((L : Int) - 1074 - -1074).toNat = L by omega, Nat.min_eq_left (Nat.le_of_lt hr)]
  rw [e]
  exact read_word neg L X hX hX2 hr

theorem write_exact (neg : Bool) (mag : Nat) (place : Int) (N K : Nat) (hm : mag ≠ 0) (hN : N < 9007199254740992) (hK : 0 ≤ place + K) (hv : mag * 2 ^ (place + K).toNat = N * 2 ^ K) :
    double.read (double.nearest neg mag place) = .number neg (N * 2 ^ (52 - N.log2)) ((N.log2 : Int) - 52) ∧ N.log2 ≤ 52 := by
  have hN0 : N ≠ 0 := by
    intro h
    subst h
    have : mag * 2 ^ (place + K).toNat ≠ 0 := Nat.mul_ne_zero hm (Nat.pos_iff_ne_zero.1 (Nat.two_pow_pos _))
    exact this (by rw [hv]; exact Nat.zero_mul _)
  have hl : mag.log2 + (place + K).toNat = N.log2 + K := by rw [← log2_shift hm, ← log2_shift hN0, hv]
  have hN52 : N.log2 ≤ 52 := by
    have a := Nat.log2_self_le hN0
    rcases Nat.lt_or_ge N.log2 53 with h | h
    · omega
    · have : 2 ^ 53 ≤ 2 ^ N.log2 := Nat.pow_le_pow_right (by omega) h
      omega
  refine ⟨?_, hN52⟩
  have hlast : max (place + mag.log2 - (52 : Nat)) (-1074 : Int) = (N.log2 : Int) - 52 := by omega
  obtain ⟨d, hd⟩ : ∃ d, d = 52 - N.log2 := ⟨_, rfl⟩
  have hkept : Toward.even.cut neg (mag <<< (place - ((N.log2 : Int) - 52)).toNat) (((N.log2 : Int) - 52) - place).toNat = N * 2 ^ d := by
    rw [Nat.shiftLeft_eq]
    rcases Int.le_total ((N.log2 : Int) - 52) place with h | h
    · have e0 : (((N.log2 : Int) - 52) - place).toNat = 0 := by omega
      rw [e0, cut_exact _ _ 0 (by simp [Nat.mod_one]) (by omega)]
      simp only [Nat.pow_zero, Nat.div_one]
      -- mag * 2^(place + d) = N * 2^d
      have e1 : (place - ((N.log2 : Int) - 52)).toNat + K = (place + K).toNat + d := by omega
      have : mag * 2 ^ (place - ((N.log2 : Int) - 52)).toNat * 2 ^ K = N * 2 ^ d * 2 ^ K := by
        rw [Nat.mul_assoc, ← Nat.pow_add, e1, Nat.pow_add, ← Nat.mul_assoc, hv, Nat.mul_assoc, Nat.mul_assoc, Nat.mul_comm (2 ^ K)]
      exact Nat.eq_of_mul_eq_mul_right (Nat.two_pow_pos K) this
    · obtain ⟨q, hq⟩ : ∃ q, q = (((N.log2 : Int) - 52) - place).toNat := ⟨_, rfl⟩
      have e0 : (place - ((N.log2 : Int) - 52)).toNat = 0 := by omega
      rw [e0, ← hq]
      simp only [Nat.pow_zero, Nat.mul_one]
      have e1 : K = (place + K).toNat + (d + q) := by omega
      have hmag : mag = N * 2 ^ d * 2 ^ q := by
        have : mag * 2 ^ (place + K).toNat = N * 2 ^ d * 2 ^ q * 2 ^ (place + K).toNat := by
          rw [hv, Nat.mul_assoc, Nat.mul_assoc, ← Nat.pow_add, ← Nat.pow_add]
          congr 2
          omega
        exact Nat.eq_of_mul_eq_mul_right (Nat.two_pow_pos _) this
      rw [cut_exact _ _ q (by rw [hmag]; exact Nat.mul_mod_left _ _) (by omega)]
      rw [hmag, Nat.mul_div_cancel _ (Nat.two_pow_pos q)]
  have hk1 : N * 2 ^ d < 9007199254740992 := by
    have b : N < 2 ^ (N.log2 + 1) := Nat.lt_log2_self
    have : N * 2 ^ d < 2 ^ (N.log2 + 1) * 2 ^ d := Nat.mul_lt_mul_of_pos_right b (Nat.two_pow_pos d)
    rw [← Nat.pow_add, show N.log2 + 1 + d = 53 by omega] at this
    exact this
  have hk2 : 4503599627370496 ≤ N * 2 ^ d := by
    have a := Nat.log2_self_le hN0
    have : 2 ^ N.log2 * 2 ^ d ≤ N * 2 ^ d := Nat.mul_le_mul_right _ a
    rw [← Nat.pow_add, show N.log2 + d = 52 by omega] at this
    exact this
  have := nearest_at neg mag place ((N.log2 : Int) - 52) (N * 2 ^ d) (N.log2 + 1022) hm hlast (by omega) hkept hk1 (fun _ => hk2) (by omega)
  rw [this, hd, show ((N.log2 + 1022 : Nat) : Int) - 1074 = (N.log2 : Int) - 52 by omega]

/-- the word is a number whose value is the whole number n -/
def Is (b : Nat) (n : Int) : Prop := ∃ s m e K, double.read b = .number s m e ∧ -1074 ≤ e ∧ 0 ≤ e + (K : Nat) ∧ sg s m * 2 ^ (e + K).toNat = n * 2 ^ K

theorem is_write (neg : Bool) (mag : Nat) (place : Int) (n : Int) (K : Nat) (hn : n.natAbs < 9007199254740992) (hK : 0 ≤ place + K) (hv : sg neg mag * 2 ^ (place + K).toNat = n * 2 ^ K) :
    Is (double.nearest neg mag place) n := by
  by_cases hm : mag = 0
  · subst hm
    have hn0 : n = 0 := by
      have h1 : n * 2 ^ K = 0 := by rw [← hv]; cases neg <;> simp [sg]
      rcases Int.mul_eq_zero.1 h1 with h | h
      · exact h
      · have := Int.pow_pos (n := 2) (m := K) (by omega)
        omega
    subst hn0
    have : double.nearest neg 0 place = double.word neg (0 * 4503599627370496 + 0) := by unfold Format.nearest; simp
    rw [this]
    refine ⟨neg, 0, _, 1074, read_word neg 0 0 (by omega) (by omega) (by omega), by omega, by omega, ?_⟩
    rw [show sg neg 0 = 0 by cases neg <;> rfl, Int.zero_mul, Int.zero_mul]
  · have habs : mag * 2 ^ (place + K).toNat = n.natAbs * 2 ^ K := by
      have := congrArg Int.natAbs hv
      rw [Int.natAbs_mul, Int.natAbs_mul, Int.natAbs_pow, Int.natAbs_pow] at this
      cases neg <;> simpa [sg] using this
    obtain ⟨h1, h2⟩ := write_exact neg mag place n.natAbs K hm hn hK habs
    refine ⟨neg, _, _, 52, h1, by omega, by omega, ?_⟩
    have hsgn : sg neg n.natAbs = n := by
      have hpos : (0 : Int) < 2 ^ K := Int.pow_pos (by omega)
      have hpos' : (0 : Int) < 2 ^ (place + K).toNat := Int.pow_pos (by omega)
      have hmp : (0 : Int) < mag := by omega
      cases neg
      · simp only [sg, Bool.false_eq_true, if_false] at hv ⊢
        have : 0 ≤ n := by
          rcases Int.lt_or_le n 0 with h | h
          · have h3 : n * 2 ^ K < 0 := Int.mul_neg_of_neg_of_pos h hpos
            have h4 : 0 < (mag : Int) * 2 ^ (place + K).toNat := Int.mul_pos hmp hpos'
            omega
          · exact h
        omega
      · simp only [sg, if_true] at hv ⊢
        have : n ≤ 0 := by
          rcases Int.lt_or_le 0 n with h | h
          · have h3 : 0 < n * 2 ^ K := Int.mul_pos h hpos
            have h4 : -(mag : Int) * 2 ^ (place + K).toNat < 0 := Int.mul_neg_of_neg_of_pos (by omega) hpos'
            omega
          · exact h
        omega
    have e1 : (((n.natAbs.log2 : Int) - 52) + (52 : Nat)).toNat = n.natAbs.log2 := by omega
    rw [e1]
    have e2 : sg neg (n.natAbs * 2 ^ (52 - n.natAbs.log2)) = n * 2 ^ (52 - n.natAbs.log2) := by
      conv => rhs; rw [← hsgn]
      cases neg <;> simp [sg, Int.neg_mul]
    rw [e2, Int.mul_assoc, ← Int.pow_add]
    congr 2
    omega
end Go.Fw
