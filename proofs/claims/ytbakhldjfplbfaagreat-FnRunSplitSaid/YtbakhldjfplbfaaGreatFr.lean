/-
  Doubles as rational numbers: each operation is the exact one, but for a relative 2^-52 and an absolute 2^-1074; whole results are exact. No condition.
-/
import Derived.Test.YtbakhldjfplbfaaGreatFl
import Derived.Test.YtbakhldjfplbfaaGreatFw
set_option linter.unusedVariables false
set_option linter.unusedSimpArgs false
namespace Go.Fr
open Ieee Go.Fl Go.Fw

def two (e : Int) : Rat := (2 : Rat) ^ e
theorem two_pos (e : Int) : 0 < two e := Rat.zpow_pos (by decide)
theorem two_add (a b : Int) : two (a + b) = two a * two b := Rat.zpow_add (by decide) a b
theorem two_nat (n : Nat) : two (n : Int) = ((2 ^ n : Nat) : Rat) := by
  unfold two; rw [Rat.zpow_natCast]; simp
theorem two_zero : two 0 = 1 := by unfold two; simp
theorem two_neg (a : Int) : two a * two (-a) = 1 := by rw [← two_add, Int.add_right_neg, two_zero]
theorem two_ge_one {n : Int} (h : 0 ≤ n) : 1 ≤ two n := by
  obtain ⟨k, rfl⟩ := Int.eq_ofNat_of_zero_le h
  rw [two_nat]
  have := Nat.two_pow_pos k
  exact_mod_cast this
theorem two_mono {a b : Int} (h : a ≤ b) : two a ≤ two b := by
  have h1 := two_ge_one (show 0 ≤ b - a by omega)
  have h2 := two_add a (b - a)
  rw [show a + (b - a) = b by omega] at h2
  have h3 := two_pos a
  have := Rat.mul_le_mul_of_nonneg_left h1 (Rat.le_of_lt h3)
  grind
theorem two_lt {a b : Int} (h : a < b) : two a < two b := by
  have h1 := two_mono (show a + 1 ≤ b by omega)
  have h2 := two_add a 1
  have h3 := two_pos a
  have : two 1 = 2 := by unfold two; simp
  rw [this] at h2
  grind
theorem nle {a b : Nat} (h : a ≤ b) : (a : Rat) ≤ b := Rat.natCast_le_natCast.2 h

/-- the number that a datum stands for -/
def valD : Datum → Rat
  | .number s m e => ((sg s m : Int) : Rat) * two e
  | _ => 0
def R (b : Nat) : Rat := valD (double.read b)

theorem cut_err (neg : Bool) (n d : Nat) : 2 * (Toward.even.cut neg n d) * 2 ^ d ≤ 2 * n + 2 ^ d ∧ 2 * n ≤ 2 * (Toward.even.cut neg n d) * 2 ^ d + 2 ^ d := by
  unfold Toward.cut
  simp only [Nat.one_shiftLeft]
  rcases Nat.le_total d (n.log2 + 2) with h | h
  · rw [Nat.min_eq_left h]
    have hg : 0 < 2 ^ d := Nat.two_pow_pos d
    have h1 := Nat.div_add_mod n (2 ^ d)
    have h2 := Nat.mod_lt n hg
    generalize 2 ^ d = g at *
    generalize n / g = low at *
    generalize n % g = rest at *
    subst h1
    by_cases hm : (decide (g < 2 * rest) || g == 2 * rest && low % 2 == 1) = true
    · rw [hm]
      have : g ≤ 2 * rest := by simp at hm; omega
      simp only [Bool.toNat_true, Nat.mul_add, Nat.add_mul, Nat.mul_one]
      have e : 2 * low * g = 2 * (g * low) := by rw [Nat.mul_assoc, Nat.mul_comm low]
      omega
    · rw [Bool.not_eq_true] at hm
      rw [hm]
      have : 2 * rest ≤ g := by simp at hm; omega
      simp only [Bool.toNat_false, Nat.mul_add, Nat.add_mul, Nat.add_zero]
      have e : 2 * low * g = 2 * (g * low) := by rw [Nat.mul_assoc, Nat.mul_comm low]
      omega
  · rw [Nat.min_eq_right h]
    have hn : n < 2 ^ (n.log2 + 1) := Nat.lt_log2_self
    have h3 : 2 ^ (n.log2 + 2) = 2 * 2 ^ (n.log2 + 1) := by rw [Nat.pow_succ, Nat.mul_comm]
    have h4 : 2 ^ (n.log2 + 2) ≤ 2 ^ d := Nat.pow_le_pow_right (by omega) h
    have e1 : n / 2 ^ (n.log2 + 2) = 0 := Nat.div_eq_of_lt (by omega)
    have e2 : n % 2 ^ (n.log2 + 2) = n := Nat.mod_eq_of_lt (by omega)
    rw [e1, e2]
    have e3 : (decide (2 ^ (n.log2 + 2) < 2 * n) || 2 ^ (n.log2 + 2) == 2 * n && 0 % 2 == 1) = false := by simp; omega
    rw [e3]
    simp
    omega

theorem read_rung (neg : Bool) (L K : Nat) (hk : K ≤ 9007199254740992) (hL : 0 < L → 4503599627370496 ≤ K) (hr : L * 4503599627370496 + K < 9218868437227405312) :
    ∃ X e, double.read (double.word neg (L * 4503599627370496 + K)) = .number neg X e ∧ -1074 ≤ e ∧ (X : Rat) * two e = (K : Rat) * two ((L : Int) - 1074) := by
  rcases Nat.lt_or_ge K 9007199254740992 with h | h
  · exact ⟨K, _, read_word neg L K h hL hr, by omega, rfl⟩
  · have hK : K = 9007199254740992 := by omega
    subst hK
    have := read_word neg (L + 1) 4503599627370496 (by omega) (by omega) (by omega)
    rw [show (L + 1) * 4503599627370496 + 4503599627370496 = L * 4503599627370496 + 9007199254740992 by omega] at this
    refine ⟨_, _, this, by omega, ?_⟩
    rw [show ((L + 1 : Nat) : Int) - 1074 = ((L : Int) - 1074) + 1 by omega, two_add]
    have : two 1 = 2 := by unfold two; simp
    rw [this]
    have : ((4503599627370496 : Nat) : Rat) * 2 = ((9007199254740992 : Nat) : Rat) := by decide +kernel
    grind

theorem read_zero (neg : Bool) : double.read (double.word neg (0 * 4503599627370496 + 0)) = .number neg 0 (-1074) :=
  read_word neg 0 0 (by decide) (by decide) (by decide)
theorem nearest_zero (neg : Bool) (place : Int) : double.nearest neg 0 place = double.word neg (0 * 4503599627370496 + 0) := by unfold Format.nearest; simp
/-- the nearest word: half a unit off at most -/
theorem nearest_err (neg : Bool) (mag : Nat) (place : Int) (hv : (mag : Rat) * two place < two 1023) :
    ∃ X e, double.read (double.nearest neg mag place) = .number neg X e ∧ -1074 ≤ e ∧
      (X : Rat) * two e ≤ mag * two place + (mag * two place * two (-53) + two (-1075)) ∧ mag * two place ≤ (X : Rat) * two e + (mag * two place * two (-53) + two (-1075)) := by
  by_cases hm : mag = 0
  · subst hm
    rw [nearest_zero]
    refine ⟨_, _, read_zero neg, Int.le_refl _, ?_⟩
    have := two_pos (-1075)
    simp
    grind
  · obtain ⟨last, hlast⟩ : ∃ last, last = max (place + mag.log2 - (52 : Nat)) (-1074 : Int) := ⟨_, rfl⟩
    obtain ⟨K, hK⟩ : ∃ K, K = Toward.even.cut neg (mag <<< (place - last).toNat) (last - place).toNat := ⟨_, rfl⟩
    obtain ⟨L, hL⟩ : ∃ L : Nat, last = (L : Int) - 1074 := ⟨(last + 1074).toNat, by omega⟩
    have hlog1 : 2 ^ mag.log2 ≤ mag := Nat.log2_self_le hm
    have hlog2 : mag < 2 ^ (mag.log2 + 1) := Nat.lt_log2_self
    have hp := two_pos place
    -- the place of the first digit
    have hlow : two (place + mag.log2) ≤ (mag : Rat) * two place := by
      rw [two_add, two_nat, Rat.mul_comm]
      exact Rat.mul_le_mul_of_nonneg_right (nle hlog1) (Rat.le_of_lt hp)
    have htop : place + mag.log2 < 1023 := by
      rcases Int.lt_or_le (place + mag.log2) 1023 with h | h
      · exact h
      · have := two_mono h
        grind
    have hcut := cut_err neg (mag <<< (place - last).toNat) (last - place).toNat
    rw [← hK, Nat.shiftLeft_eq] at hcut
    -- in numbers
    have herr : (K : Rat) * two last ≤ mag * two place + two (last - 1) ∧ mag * two place ≤ K * two last + two (last - 1) := by
      obtain ⟨c1, c2⟩ := hcut
      have hl1 : two last = 2 * two (last - 1) := by
        have := two_add (last - 1) 1
        rw [show last - 1 + 1 = last by omega] at this
        have h2 : two 1 = 2 := by unfold two; simp
        grind
      have hpl := two_pos (last - 1)
      rcases Int.le_total last place with h | h
      · have e0 : (last - place).toNat = 0 := by omega
        rw [e0] at c1 c2
        simp only [Nat.pow_zero, Nat.mul_one] at c1 c2
        obtain ⟨q, hq⟩ : ∃ q : Nat, place = last + q := ⟨(place - last).toNat, by omega⟩
        rw [show (place - last).toNat = q by omega] at c1 c2
        have e1 : two place = two last * ((2 ^ q : Nat) : Rat) := by rw [hq, two_add, two_nat]
        have c1' : (2 * K : Rat) ≤ 2 * (mag * ((2 ^ q : Nat) : Rat)) + 1 := by exact_mod_cast c1
        have c2' : 2 * (mag * ((2 ^ q : Nat) : Rat)) ≤ (2 * K : Rat) + 1 := by exact_mod_cast c2
        have d1 := Rat.mul_le_mul_of_nonneg_right c1' (Rat.le_of_lt hpl)
        have d2 := Rat.mul_le_mul_of_nonneg_right c2' (Rat.le_of_lt hpl)
        rw [e1, hl1]
        constructor <;> grind
      · have e0 : (place - last).toNat = 0 := by omega
        rw [e0] at c1 c2
        simp only [Nat.pow_zero, Nat.mul_one] at c1 c2
        obtain ⟨q, hq⟩ : ∃ q : Nat, last = place + q := ⟨(last - place).toNat, by omega⟩
        rw [show (last - place).toNat = q by omega] at c1 c2
        have e1 : two last = two place * ((2 ^ q : Nat) : Rat) := by rw [hq, two_add, two_nat]
        have c1' : (2 * K * ((2 ^ q : Nat) : Rat)) ≤ 2 * mag + ((2 ^ q : Nat) : Rat) := by exact_mod_cast c1
        have c2' : (2 * mag : Rat) ≤ 2 * K * ((2 ^ q : Nat) : Rat) + ((2 ^ q : Nat) : Rat) := by exact_mod_cast c2
        have d1 := Rat.mul_le_mul_of_nonneg_right c1' (Rat.le_of_lt hp)
        have d2 := Rat.mul_le_mul_of_nonneg_right c2' (Rat.le_of_lt hp)
        rw [e1] at hl1 ⊢
        constructor <;> grind
    -- how great a unit is
    have hunit : two (last - 1) ≤ mag * two place * two (-53) + two (-1075) := by
      have p1 := two_pos (-1075)
      have p2 := two_pos (-53)
      rcases Int.le_total (place + mag.log2 - (52 : Nat)) (-1074 : Int) with h | h
      · have : last - 1 = -1075 := by omega
        rw [this]
        have := Rat.mul_nonneg (Rat.mul_nonneg (show (0 : Rat) ≤ mag by exact_mod_cast Nat.zero_le _) (Rat.le_of_lt hp)) (Rat.le_of_lt p2)
        grind
      · have : last - 1 = (place + mag.log2) + (-53) := by omega
        rw [this, two_add]
        have := Rat.mul_le_mul_of_nonneg_right hlow (Rat.le_of_lt p2)
        grind
    -- its size
    have hK1 : K ≤ 9007199254740992 := by
      have hs : (mag * 2 ^ (place - last).toNat) < 2 ^ (53 + (last - place).toNat) := by
        have : mag * 2 ^ (place - last).toNat < 2 ^ (mag.log2 + 1) * 2 ^ (place - last).toNat := Nat.mul_lt_mul_of_pos_right hlog2 (Nat.two_pow_pos _)
        rw [← Nat.pow_add] at this
        have h2 : 2 ^ (mag.log2 + 1 + (place - last).toNat) ≤ 2 ^ (53 + (last - place).toNat) := Nat.pow_le_pow_right (by omega) (by omega)
        omega
      rw [Nat.pow_add] at hs
      have c1 := hcut.1
      generalize 2 ^ (last - place).toNat = g at *
      have : 2 * K * g < 2 * (2 ^ 53 * g) + g := by omega
      have : 2 * K * g < (2 * 2 ^ 53 + 1) * g := by rw [Nat.add_mul, Nat.one_mul, Nat.mul_assoc 2 (2 ^ 53)]; exact this
      have := Nat.lt_of_mul_lt_mul_right this
      omega
    have hK2 : 0 < L → 4503599627370496 ≤ K := by
      intro h0
      have hs : 2 ^ (52 + (last - place).toNat) ≤ mag * 2 ^ (place - last).toNat := by
        have : 2 ^ mag.log2 * 2 ^ (place - last).toNat ≤ mag * 2 ^ (place - last).toNat := Nat.mul_le_mul_right _ hlog1
        rw [← Nat.pow_add] at this
        have h2 : 2 ^ (52 + (last - place).toNat) ≤ 2 ^ (mag.log2 + (place - last).toNat) := Nat.pow_le_pow_right (by omega) (by omega)
        omega
      rw [Nat.pow_add] at hs
      have c2 := hcut.2
      have hg := Nat.two_pow_pos (last - place).toNat
      generalize 2 ^ (last - place).toNat = g at *
      rcases Nat.lt_or_ge K 4503599627370496 with h | h
      · have h1 : (K + 1) * g ≤ 4503599627370496 * g := Nat.mul_le_mul_right _ h
        rw [Nat.add_mul, Nat.one_mul] at h1
        have h2 : 2 * K * g = 2 * (K * g) := Nat.mul_assoc ..
        omega
      · exact h
    have e : double.nearest neg mag place = double.word neg (L * 4503599627370496 + K) := by
      unfold Format.nearest
      rw [if_neg hm]
      simp only [fb, lp, bin, inf]
      rw [← hlast, ← hK, hL, show ((L : Int) - 1074 - -1074).toNat = L by omega, Nat.min_eq_left (by omega)]
    rw [e]
    obtain ⟨X, e', h1, h2, h3⟩ := read_rung neg L K hK1 hK2 (by omega)
    refine ⟨X, e', h1, h2, ?_⟩
    rw [h3, ← hL]
    constructor <;> grind

end Go.Fr
