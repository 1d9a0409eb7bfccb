/-
  Doubles as rational numbers: each operation is the exact one, but for a relative 2^-52 and an absolute 2^-1074; whole results are exact. No condition.
  The operations of doubles, told of as rational numbers. No condition.
  Quotients and roots of doubles, told of as rational numbers. No condition.
  Doubles: an operation whose result a double holds is exact. No condition.
  FnRunSplit: the running lengths as doubles: they are there, do not fall, and come near the length. No condition.
-/
import Derived.Test.YtinbkonmlgediaaGreatXFl
import Derived.Test.YtinbkonmlgediaaGreatXFw
import Derived.Test.YtinbkonmlgediaaGreatXWa
set_option linter.unusedVariables false
set_option linter.unusedSimpArgs false
namespace Go.Fr
open Ieee Go.Fl Go.Fw

def two (e : Int) : Rat := (2 : Rat) ^ e
theorem two_pos (e : Int) : 0 < two e := Rat.zpow_pos (by decide)
theorem two_add (a b : Int) : two (a + b) = two a * two b := Rat.zpow_add (by decide) a b
theorem two_nat (n : Nat) : two (n : Int) = ((2 ^ n : Nat) : Rat) := by
  unfold two; rw [Rat.zpow_natCast]; simp
theorem two_zero : two 0 = 1 := by unfold two; simp
theorem two_neg (a : Int) : two a * two (-a) = 1 := by rw [← two_add, Int.add_right_neg, two_zero]
theorem two_ge_one {n : Int} (h : 0 ≤ n) : 1 ≤ two n := by
  obtain ⟨k, rfl⟩ := Int.eq_ofNat_of_zero_le h
  rw [two_nat]
  have := Nat.two_pow_pos k
  exact_mod_cast this
theorem two_mono {a b : Int} (h : a ≤ b) : two a ≤ two b := by
  have h1 := two_ge_one (show 0 ≤ b - a by omega)
  have h2 := two_add a (b - a)
  rw [show a + (b - a) = b by omega] at h2
  have h3 := two_pos a
  have := Rat.mul_le_mul_of_nonneg_left h1 (Rat.le_of_lt h3)
  grind
theorem nle {a b : Nat} (h : a ≤ b) : (a : Rat) ≤ b := Rat.natCast_le_natCast.2 h

/-- the number that a datum stands for -/
def valD : Datum → Rat
  | .number s m e => ((sg s m : Int) : Rat) * two e
  | _ => 0
def R (b : Nat) : Rat := valD (double.read b)

theorem cut_err (neg : Bool) (n d : Nat) : 2 * (Toward.even.cut neg n d) * 2 ^ d ≤ 2 * n + 2 ^ d ∧ 2 * n ≤ 2 * (Toward.even.cut neg n d) * 2 ^ d + 2 ^ d := by
  unfold Toward.cut
  simp only [Nat.one_shiftLeft]
  rcases Nat.le_total d (n.log2 + 2) with h | h
  · rw [Nat.min_eq_left h]
    have hg : 0 < 2 ^ d := Nat.two_pow_pos d
    have h1 := Nat.div_add_mod n (2 ^ d)
    have h2 := Nat.mod_lt n hg
    generalize 2 ^ d = g at *
    generalize n / g = low at *
    generalize n % g = rest at *
    subst h1
    by_cases hm : (decide (g < 2 * rest) || g == 2 * rest && low % 2 == 1) = true
    · rw [hm]
      have : g ≤ 2 * rest := by simp at hm; omega
      simp only [Bool.toNat_true, Nat.mul_add, Nat.add_mul, Nat.mul_one]
      have e : 2 * low * g = 2 * (g * low) := by rw [Nat.mul_assoc, Nat.mul_comm low]
      omega
    · rw [Bool.not_eq_true] at hm
      rw [hm]
      have : 2 * rest ≤ g := by simp at hm; omega
      simp only [Bool.toNat_false, Nat.mul_add, Nat.add_mul, Nat.add_zero]
      have e : 2 * low * g = 2 * (g * low) := by rw [Nat.mul_assoc, Nat.mul_comm low]
      omega
  · rw [Nat.min_eq_right h]
    have hn : n < 2 ^ (n.log2 + 1) := Nat.lt_log2_self
    have h3 : 2 ^ (n.log2 + 2) = 2 * 2 ^ (n.log2 + 1) := by rw [Nat.pow_succ, Nat.mul_comm]
    have h4 : 2 ^ (n.log2 + 2) ≤ 2 ^ d := Nat.pow_le_pow_right (by omega) h
    have e1 : n / 2 ^ (n.log2 + 2) = 0 := Nat.div_eq_of_lt (by omega)
    have e2 : n % 2 ^ (n.log2 + 2) = n := Nat.mod_eq_of_lt (by omega)
    rw [e1, e2]
    have e3 : (decide (2 ^ (n.log2 + 2) < 2 * n) || 2 ^ (n.log2 + 2) == 2 * n && 0 % 2 == 1) = false := by simp; omega
    rw [e3]
    simp
    omega

theorem read_rung (neg : Bool) (L K : Nat) (hk : K ≤ 9007199254740992) (hL : 0 < L → 4503599627370496 ≤ K) (hr : L * 4503599627370496 + K < 9218868437227405312) :
    ∃ X e, double.read (double.word neg (L * 4503599627370496 + K)) = .number neg X e ∧ -1074 ≤ e ∧ (X : Rat) * two e = (K : Rat) * two ((L : Int) - 1074) := by
  rcases Nat.lt_or_ge K 9007199254740992 with h | h
  · exact ⟨K, _, read_word neg L K h hL hr, by omega, rfl⟩
  · have hK : K = 9007199254740992 := by omega
    subst hK
    have := read_word neg (L + 1) 4503599627370496 (by omega) (by omega) (by omega)
    rw [show (L + 1) * 4503599627370496 + 4503599627370496 = L * 4503599627370496 + 9007199254740992 by omega] at this
    refine ⟨_, _, this, by omega, ?_⟩
    rw [show ((L + 1 : Nat) : Int) - 1074 = ((L : Int) - 1074) + 1 by omega, two_add]
    have : two 1 = 2 := by unfold two; simp
    rw [this]
    have : ((4503599627370496 : Nat) : Rat) * 2 = ((9007199254740992 : Nat) : Rat) := by decide +kernel
    grind

theorem read_zero (neg : Bool) : double.read (double.word neg (0 * 4503599627370496 + 0)) = .number neg 0 (-1074) :=
  read_word neg 0 0 (by decide) (by decide) (by decide)
theorem nearest_zero (neg : Bool) (place : Int) : double.nearest neg 0 place = double.word neg (0 * 4503599627370496 + 0) := by unfold Format.nearest; simp
/-- the nearest word: half a unit off at most -/
theorem nearest_err (neg : Bool) (mag : Nat) (place : Int) (hv : (mag : Rat) * two place < two 1023) :
    ∃ X e, double.read (double.nearest neg mag place) = .number neg X e ∧ -1074 ≤ e ∧
      (X : Rat) * two e ≤ mag * two place + (mag * two place * two (-53) + two (-1075)) ∧ mag * two place ≤ (X : Rat) * two e + (mag * two place * two (-53) + two (-1075)) := by
  by_cases hm : mag = 0
  · subst hm
    rw [nearest_zero]
    refine ⟨_, _, read_zero neg, Int.le_refl _, ?_⟩
    have := two_pos (-1075)
    simp
    grind
  · obtain ⟨last, hlast⟩ : ∃ last, last = max (place + mag.log2 - (52 : Nat)) (-1074 : Int) := ⟨_, rfl⟩
    obtain ⟨K, hK⟩ : ∃ K, K = Toward.even.cut neg (mag <<< (place - last).toNat) (last - place).toNat := ⟨_, rfl⟩
    obtain ⟨L, hL⟩ : ∃ L : Nat, last = (L : Int) - 1074 := ⟨(last + 1074).toNat, by omega⟩
    have hlog1 : 2 ^ mag.log2 ≤ mag := Nat.log2_self_le hm
    have hlog2 : mag < 2 ^ (mag.log2 + 1) := Nat.lt_log2_self
    have hp := two_pos place
    -- the place of the first digit
    have hlow : two (place + mag.log2) ≤ (mag : Rat) * two place := by
      rw [two_add, two_nat, Rat.mul_comm]
      exact Rat.mul_le_mul_of_nonneg_right (nle hlog1) (Rat.le_of_lt hp)
    have htop : place + mag.log2 < 1023 := by
      rcases Int.lt_or_le (place + mag.log2) 1023 with h | h
      · exact h
      · have := two_mono h
        grind
    have hcut := cut_err neg (mag <<< (place - last).toNat) (last - place).toNat
    rw [← hK, Nat.shiftLeft_eq] at hcut
    -- in numbers
    have herr : (K : Rat) * two last ≤ mag * two place + two (last - 1) ∧ mag * two place ≤ K * two last + two (last - 1) := by
      obtain ⟨c1, c2⟩ := hcut
      have hl1 : two last = 2 * two (last - 1) := by
        have := two_add (last - 1) 1
        rw [show last - 1 + 1 = last by omega] at this
        have h2 : two 1 = 2 := by unfold two; simp
        grind
      have hpl := two_pos (last - 1)
      rcases Int.le_total last place with h | h
      · have e0 : (last - place).toNat = 0 := by omega
        rw [e0] at c1 c2
        simp only [Nat.pow_zero, Nat.mul_one] at c1 c2
        obtain ⟨q, hq⟩ : ∃ q : Nat, place = last + q := ⟨(place - last).toNat, by omega⟩
        rw [show (place - last).toNat = q by omega] at c1 c2
        have e1 : two place = two last * ((2 ^ q : Nat) : Rat) := by rw [hq, two_add, two_nat]
        have c1' : (2 * K : Rat) ≤ 2 * (mag * ((2 ^ q : Nat) : Rat)) + 1 := by exact_mod_cast c1
        have c2' : 2 * (mag * ((2 ^ q : Nat) : Rat)) ≤ (2 * K : Rat) + 1 := by exact_mod_cast c2
        have d1 := Rat.mul_le_mul_of_nonneg_right c1' (Rat.le_of_lt hpl)
        have d2 := Rat.mul_le_mul_of_nonneg_right c2' (Rat.le_of_lt hpl)
        rw [e1, hl1]
        constructor <;> grind
      · have e0 : (place - last).toNat = 0 := by omega
        rw [e0] at c1 c2
        simp only [Nat.pow_zero, Nat.mul_one] at c1 c2
        obtain ⟨q, hq⟩ : ∃ q : Nat, last = place + q := ⟨(last - place).toNat, by omega⟩
        rw [show (last - place).toNat = q by omega] at c1 c2
        have e1 : two last = two place * ((2 ^ q : Nat) : Rat) := by rw [hq, two_add, two_nat]
        have c1' : (2 * K * ((2 ^ q : Nat) : Rat)) ≤ 2 * mag + ((2 ^ q : Nat) : Rat) := by exact_mod_cast c1
        have c2' : (2 * mag : Rat) ≤ 2 * K * ((2 ^ q : Nat) : Rat) + ((2 ^ q : Nat) : Rat) := by exact_mod_cast c2
        have d1 := Rat.mul_le_mul_of_nonneg_right c1' (Rat.le_of_lt hp)
        have d2 := Rat.mul_le_mul_of_nonneg_right c2' (Rat.le_of_lt hp)
        rw [e1] at hl1 ⊢
        constructor <;> grind
    -- how great a unit is
    have hunit : two (last - 1) ≤ mag * two place * two (-53) + two (-1075) := by
      have p1 := two_pos (-1075)
      have p2 := two_pos (-53)
      rcases Int.le_total (place + mag.log2 - (52 : Nat)) (-1074 : Int) with h | h
      · have : last - 1 = -1075 := by omega
        rw [this]
        have := Rat.mul_nonneg (Rat.mul_nonneg (show (0 : Rat) ≤ mag by exact_mod_cast Nat.zero_le _) (Rat.le_of_lt hp)) (Rat.le_of_lt p2)
        grind
      · have : last - 1 = (place + mag.log2) + (-53) := by omega
        rw [this, two_add]
        have := Rat.mul_le_mul_of_nonneg_right hlow (Rat.le_of_lt p2)
        grind
    -- its size
    have hK1 : K ≤ 9007199254740992 := by
      have hs : (mag * 2 ^ (place - last).toNat) < 2 ^ (53 + (last - place).toNat) := by
        have : mag * 2 ^ (place - last).toNat < 2 ^ (mag.log2 + 1) * 2 ^ (place - last).toNat := Nat.mul_lt_mul_of_pos_right hlog2 (Nat.two_pow_pos _)
        rw [← Nat.pow_add] at this
        have h2 : 2 ^ (mag.log2 + 1 + (place - last).toNat) ≤ 2 ^ (53 + (last - place).toNat) := Nat.pow_le_pow_right (by omega) (by omega)
        omega
      rw [Nat.pow_add] at hs
      have c1 := hcut.1
      generalize 2 ^ (last - place).toNat = g at *
      have : 2 * K * g < 2 * (2 ^ 53 * g) + g := by omega
      have : 2 * K * g < (2 * 2 ^ 53 + 1) * g := by rw [Nat.add_mul, Nat.one_mul, Nat.mul_assoc 2 (2 ^ 53)]; exact this
      have := Nat.lt_of_mul_lt_mul_right this
      omega
    have hK2 : 0 < L → 4503599627370496 ≤ K := by
      intro h0
      have hs : 2 ^ (52 + (last - place).toNat) ≤ mag * 2 ^ (place - last).toNat := by
        have : 2 ^ mag.log2 * 2 ^ (place - last).toNat ≤ mag * 2 ^ (place - last).toNat := Nat.mul_le_mul_right _ hlog1
        rw [← Nat.pow_add] at this
        have h2 : 2 ^ (52 + (last - place).toNat) ≤ 2 ^ (mag.log2 + (place - last).toNat) := Nat.pow_le_pow_right (by omega) (by omega)
        omega
      rw [Nat.pow_add] at hs
      have c2 := hcut.2
      have hg := Nat.two_pow_pos (last - place).toNat
      generalize 2 ^ (last - place).toNat = g at *
      rcases Nat.lt_or_ge K 4503599627370496 with h | h
      · have h1 : (K + 1) * g ≤ 4503599627370496 * g := Nat.mul_le_mul_right _ h
        rw [Nat.add_mul, Nat.one_mul] at h1
        have h2 : 2 * K * g = 2 * (K * g) := Nat.mul_assoc ..
        omega
      · exact h
    have e : double.nearest neg mag place = double.word neg (L * 4503599627370496 + K) := by
      unfold Format.nearest
      rw [if_neg hm]
      simp only [fb, lp, bin, inf]
      rw [← hlast, ← hK, hL, show ((L : Int) - 1074 - -1074).toNat = L by omega, Nat.min_eq_left (by omega)]
    rw [e]
    obtain ⟨X, e', h1, h2, h3⟩ := read_rung neg L K hK1 hK2 (by omega)
    refine ⟨X, e', h1, h2, ?_⟩
    rw [h3, ← hL]
    constructor <;> grind

end Go.Fr
set_option linter.unusedVariables false
set_option linter.unusedSimpArgs false
namespace Go.Fr
open Ieee Go.Fl Go.Fw

def ab (v : Rat) : Rat := if 0 ≤ v then v else -v
theorem ab_cases (v : Rat) : (0 ≤ v ∧ ab v = v) ∨ (v < 0 ∧ ab v = -v) := by
  unfold ab; split
  · exact .inl ⟨by assumption, rfl⟩
  · exact .inr ⟨by grind, rfl⟩
theorem ab_nonneg (v : Rat) : 0 ≤ ab v := by rcases ab_cases v with h | h <;> grind
/-- r is v, nearly -/
def Near (v r : Rat) : Prop := r ≤ v + (ab v * two (-52) + two (-1074)) ∧ v ≤ r + (ab v * two (-52) + two (-1074))

theorem sgR (neg : Bool) (m : Nat) : ((sg neg m : Int) : Rat) = if neg then -(m : Rat) else m := by
  cases neg <;> simp [sg, Rat.intCast_natCast]
theorem R_num {b : Nat} {s : Bool} {m : Nat} {e : Int} (h : double.read b = .number s m e) : R b = (sg s m : Int) * two e := by unfold R; rw [h]; rfl
theorem fin_num {b : Nat} {s : Bool} {m : Nat} {e : Int} (h : double.read b = .number s m e) : fin b = true := by unfold fin; rw [h]
theorem mul_nn {a b : Rat} (h : 0 ≤ a) (h' : 0 ≤ b) : 0 ≤ a * b := Rat.mul_nonneg h h'
theorem nat_nn (n : Nat) : (0 : Rat) ≤ n := nle (Nat.zero_le n)

theorem sgn_mul {neg : Bool} {m : Nat} {x v : Rat} (hx : 0 ≤ x) (h : ((sg neg m : Int) : Rat) * x = v) : ab v = m * x ∧ (v = m * x ∨ (neg = true ∧ v = -(m * x))) := by
  have hn := mul_nn (nat_nn m) hx
  rw [sgR] at h
  cases neg
  · simp only [Bool.false_eq_true, if_false] at h
    subst h
    refine ⟨?_, .inl rfl⟩
    unfold ab; rw [if_pos hn]
  · simp only [if_true] at h
    have h' : v = -(m * x) := by grind
    subst h'
    refine ⟨?_, .inr ⟨rfl, rfl⟩⟩
    rcases ab_cases (-(↑m * x)) with h | h <;> grind

/-- what is written is nearly the number, to half a unit -/
theorem write_half (neg : Bool) (mag : Nat) (place : Int) (v : Rat) (hv : ((sg neg mag : Int) : Rat) * two place = v) (hb : ab v < two 1023) :
    fin (double.nearest neg mag place) = true ∧ R (double.nearest neg mag place) ≤ v + (ab v * two (-53) + two (-1075)) ∧ v ≤ R (double.nearest neg mag place) + (ab v * two (-53) + two (-1075)) ∧ (neg = false → 0 ≤ R (double.nearest neg mag place)) := by
  obtain ⟨h1, h2⟩ := sgn_mul (Rat.le_of_lt (two_pos place)) hv
  rw [h1] at hb
  obtain ⟨X, e, g1, g2, g3, g4⟩ := nearest_err neg mag place hb
  refine ⟨fin_num g1, ?_⟩
  rw [R_num g1, h1, sgR]
  have hX := mul_nn (nat_nn X) (Rat.le_of_lt (two_pos e))
  rw [sgR] at hv
  generalize (mag : Rat) * two place * two (-53) = E at *
  cases neg
  · simp only [Bool.false_eq_true, if_false] at hv ⊢
    subst hv
    exact ⟨g3, g4, fun _ => hX⟩
  · simp only [if_true] at hv ⊢
    subst hv
    refine ⟨?_, ?_, fun h => by cases h⟩ <;> grind
theorem t53 : two (-52) = 2 * two (-53) := by
  have := two_add (-53) 1
  have h2 : two 1 = 2 := by unfold two; simp
  rw [h2] at this
  rw [show (-52 : Int) = -53 + 1 by omega, this]; grind
theorem t1075 : two (-1074) = 2 * two (-1075) := by
  have := two_add (-1075) 1
  have h2 : two 1 = 2 := by unfold two; simp
  rw [h2] at this
  rw [show (-1074 : Int) = -1075 + 1 by omega, this]; grind
theorem t54 : two (-53) = 2 * two (-54) := by
  have := two_add (-54) 1
  have h2 : two 1 = 2 := by unfold two; simp
  rw [h2] at this
  rw [show (-53 : Int) = -54 + 1 by omega, this]; grind
theorem write_near (neg : Bool) (mag : Nat) (place : Int) (v : Rat) (hv : ((sg neg mag : Int) : Rat) * two place = v) (hb : ab v < two 1023) :
    fin (double.nearest neg mag place) = true ∧ Near v (R (double.nearest neg mag place)) := by
  obtain ⟨h1, h2, h3, _⟩ := write_half neg mag place v hv hb
  refine ⟨h1, ?_⟩
  have a1 := mul_nn (ab_nonneg v) (Rat.le_of_lt (two_pos (-53)))
  have a2 := two_pos (-1075)
  unfold Near
  rw [t53, t1075]
  generalize R (double.nearest neg mag place) = r at *
  generalize two (-53) = u at *
  generalize two (-1075) = t at *
  have : ab v * (2 * u) = 2 * (ab v * u) := by grind
  rw [this]
  generalize ab v * u = z at *
  constructor <;> grind

theorem R_zero (neg : Bool) (place : Int) : fin (double.nearest neg 0 place) = true ∧ R (double.nearest neg 0 place) = 0 := by
  rw [nearest_zero]
  have := read_zero neg
  refine ⟨fin_num this, ?_⟩
  rw [R_num this, sgR]; cases neg <;> simp

/-- what a sum stands for -/
theorem sum_val (s t : Bool) (m n : Nat) (i j : Int) : ∃ neg mag place, (Datum.number s m i).sum (.number t n j) = some (.number neg mag place) ∧
    ((sg neg mag : Int) : Rat) * two place = ((sg s m : Int) : Rat) * two i + ((sg t n : Int) : Rat) * two j := by
  obtain ⟨b, hb⟩ : ∃ b, b = min i j := ⟨_, rfl⟩
  obtain ⟨p, hp⟩ : ∃ p : Nat, i = b + p := ⟨(i - b).toNat, by omega⟩
  obtain ⟨q, hq⟩ : ∃ q : Nat, j = b + q := ⟨(j - b).toNat, by omega⟩
  refine ⟨_, _, _, rfl, ?_⟩
  rw [← hb]
  simp only [signed_eq]
  rw [show (i - b).toNat = p by omega, show (j - b).toNat = q by omega]
  have e1 : two i = two b * ((2 ^ p : Nat) : Rat) := by rw [hp, two_add, two_nat]
  have e2 : two j = two b * ((2 ^ q : Nat) : Rat) := by rw [hq, two_add, two_nat]
  rw [e1, e2]
  generalize sg s m = A
  generalize sg t n = C
  obtain ⟨T, hT⟩ : ∃ T : Int, T = A * 2 ^ p + C * 2 ^ q := ⟨_, rfl⟩
  rw [← hT]
  have h1 : sg (if T = 0 then s && t else decide (T < 0)) T.natAbs = T := by
    unfold sg
    by_cases h : T = 0
    · subst h; simp
    · rw [if_neg h]
      by_cases h2 : T < 0
      · simp [h2]; omega
      · simp [h2]; omega
  rw [h1]
  have : (T : Rat) = A * ((2 ^ p : Nat) : Rat) + C * ((2 ^ q : Nat) : Rat) := by
    rw [hT]
    simp [Rat.intCast_add, Rat.intCast_mul, Rat.intCast_pow, Rat.natCast_pow]
  rw [this]
  grind

theorem opp (s : Bool) (m : Nat) : ((sg (!s) m : Int) : Rat) = -((sg s m : Int) : Rat) := by
  cases s <;> simp [sg]

theorem add_near {x y : Nat} (hx : fin x = true) (hy : fin y = true) (hb : ab (R x + R y) < two 1023) : ∃ r, floatBits .add .f64 x y = some r ∧ fin r = true ∧ Near (R x + R y) (R r) := by
  obtain ⟨s, m, i, h1⟩ := fin_read hx
  obtain ⟨t, n, j, h2⟩ := fin_read hy
  rw [R_num h1, R_num h2] at *
  obtain ⟨neg, mag, place, h3, h4⟩ := sum_val s t m n i j
  refine ⟨double.nearest neg mag place, ?_, write_near _ _ _ _ h4 hb⟩
  simp [floatBits, Format.add, FloatKind.format, h1, h2, h3, Format.write]
theorem sub_near {x y : Nat} (hx : fin x = true) (hy : fin y = true) (hb : ab (R x - R y) < two 1023) : ∃ r, floatBits .sub .f64 x y = some r ∧ fin r = true ∧ Near (R x - R y) (R r) := by
  obtain ⟨s, m, i, h1⟩ := fin_read hx
  obtain ⟨t, n, j, h2⟩ := fin_read hy
  rw [R_num h1, R_num h2] at *
  obtain ⟨neg, mag, place, h3, h4⟩ := sum_val s (!t) m n i j
  rw [opp] at h4
  have h5 : ((sg neg mag : Int) : Rat) * two place = ((sg s m : Int) : Rat) * two i - ((sg t n : Int) : Rat) * two j := by grind
  refine ⟨double.nearest neg mag place, ?_, write_near _ _ _ _ h5 hb⟩
  simp [floatBits, Format.sub, FloatKind.format, h1, h2, h3, Format.write, Datum.opposite]
theorem sg_mul (s t : Bool) (m n : Nat) : sg (s ^^ t) (m * n) = sg s m * sg t n := by
  cases s <;> cases t <;> simp [sg, Int.neg_mul, Int.mul_neg]
theorem mul_near {x y : Nat} (hx : fin x = true) (hy : fin y = true) (hb : ab (R x * R y) < two 1023) : ∃ r, floatBits .mul .f64 x y = some r ∧ fin r = true ∧ Near (R x * R y) (R r) := by
  obtain ⟨s, m, i, h1⟩ := fin_read hx
  obtain ⟨t, n, j, h2⟩ := fin_read hy
  rw [R_num h1, R_num h2] at *
  have h5 : ((sg (s ^^ t) (m * n) : Int) : Rat) * two (i + j) = ((sg s m : Int) : Rat) * two i * (((sg t n : Int) : Rat) * two j) := by
    rw [sg_mul, two_add, Rat.intCast_mul]; grind
  refine ⟨double.nearest (s ^^ t) (m * n) (i + j), ?_, write_near _ _ _ _ h5 hb⟩
  simp [floatBits, Format.mul, FloatKind.format, h1, h2, Datum.product, Format.write]

/-- where the number is a whole one that a double holds -/
theorem write_int (neg : Bool) (mag : Nat) (place : Int) (n : Int) (hv : ((sg neg mag : Int) : Rat) * two place = n) (hn : n.natAbs < 9007199254740992) :
    fin (double.nearest neg mag place) = true ∧ R (double.nearest neg mag place) = n := by
  obtain ⟨K, hK⟩ : ∃ K : Nat, 0 ≤ place + K := ⟨(-place).toNat, by omega⟩
  have hi : sg neg mag * 2 ^ (place + K).toNat = n * 2 ^ K := by
    have e1 : ((sg neg mag : Int) : Rat) * two (place + K) = n * two K := by rw [two_add, ← hv]; grind
    rw [show place + (K : Int) = ((place + K).toNat : Nat) by omega, two_nat, two_nat] at e1
    have : (((sg neg mag * 2 ^ (place + K).toNat : Int)) : Rat) = ((n * 2 ^ K : Int) : Rat) := by
      simp only [Rat.intCast_mul, Rat.intCast_pow]
      simp only [Rat.natCast_pow] at e1
      exact_mod_cast e1
    exact Rat.intCast_inj.1 this
  obtain ⟨s, m, e, K', h1, h2, h3, h4⟩ := is_write neg mag place n K hn hK hi
  refine ⟨fin_num h1, ?_⟩
  rw [R_num h1]
  have e2 : ((sg s m : Int) : Rat) * two (e + K') = n * two K' := by
    rw [show e + (K' : Int) = ((e + K').toNat : Nat) by omega, two_nat, two_nat]
    have := congrArg (fun z : Int => (z : Rat)) h4
    simp only [Rat.intCast_mul, Rat.intCast_pow] at this
    simp only [Rat.natCast_pow]
    exact_mod_cast this
  rw [two_add] at e2
  have hp := two_neg K'
  have : ((sg s m : Int) : Rat) * two e * (two K' * two (-K')) = n * (two K' * two (-K')) := by grind
  rw [hp] at this
  grind

/-- a double that is the whole number n -/
def Z (b : Nat) (n : Int) : Prop := fin b = true ∧ R b = n
theorem Z.add {x y : Nat} {a b : Int} (hx : Z x a) (hy : Z y b) (hb : (a + b).natAbs < 9007199254740992) : ∃ r, floatBits .add .f64 x y = some r ∧ Z r (a + b) := by
  obtain ⟨s, m, i, h1⟩ := fin_read hx.1
  obtain ⟨t, n, j, h2⟩ := fin_read hy.1
  have e1 := hx.2
  have e2 := hy.2
  rw [R_num h1] at e1
  rw [R_num h2] at e2
  obtain ⟨neg, mag, place, h3, h4⟩ := sum_val s t m n i j
  rw [e1, e2, ← Rat.intCast_add] at h4
  refine ⟨double.nearest neg mag place, ?_, write_int _ _ _ _ h4 hb⟩
  simp [floatBits, Format.add, FloatKind.format, h1, h2, h3, Format.write]
theorem Z.sub {x y : Nat} {a b : Int} (hx : Z x a) (hy : Z y b) (hb : (a - b).natAbs < 9007199254740992) : ∃ r, floatBits .sub .f64 x y = some r ∧ Z r (a - b) := by
  obtain ⟨s, m, i, h1⟩ := fin_read hx.1
  obtain ⟨t, n, j, h2⟩ := fin_read hy.1
  have e1 := hx.2
  have e2 := hy.2
  rw [R_num h1] at e1
  rw [R_num h2] at e2
  obtain ⟨neg, mag, place, h3, h4⟩ := sum_val s (!t) m n i j
  rw [opp] at h4
  have h5 : ((sg neg mag : Int) : Rat) * two place = ((a - b : Int) : Rat) := by rw [h4, Rat.intCast_sub, ← e1, ← e2]; grind
  refine ⟨double.nearest neg mag place, ?_, write_int _ _ _ _ h5 hb⟩
  simp [floatBits, Format.sub, FloatKind.format, h1, h2, h3, Format.write, Datum.opposite]
theorem Z.mul {x y : Nat} {a b : Int} (hx : Z x a) (hy : Z y b) (hb : (a * b).natAbs < 9007199254740992) : ∃ r, floatBits .mul .f64 x y = some r ∧ Z r (a * b) := by
  obtain ⟨s, m, i, h1⟩ := fin_read hx.1
  obtain ⟨t, n, j, h2⟩ := fin_read hy.1
  have e1 := hx.2
  have e2 := hy.2
  rw [R_num h1] at e1
  rw [R_num h2] at e2
  have h5 : ((sg (s ^^ t) (m * n) : Int) : Rat) * two (i + j) = ((a * b : Int) : Rat) := by
    rw [sg_mul, two_add, Rat.intCast_mul, Rat.intCast_mul, ← e1, ← e2]; grind
  refine ⟨double.nearest (s ^^ t) (m * n) (i + j), ?_, write_int _ _ _ _ h5 hb⟩
  simp [floatBits, Format.mul, FloatKind.format, h1, h2, Datum.product, Format.write]
theorem Z.ofInt (n : Int) (h : n.natAbs < 9007199254740992) : Z (floatOfInt .f64 n) n := by
  unfold Z floatOfInt
  refine write_int _ _ 0 n ?_ h
  rw [two_zero]
  have : sg (decide (n < 0)) n.natAbs = n := by
    unfold sg
    by_cases h2 : n < 0
    · simp [h2]; omega
    · simp [h2]; omega
  rw [this]; grind

/-- how two doubles stand -/
theorem order_val {x y : Nat} (hx : fin x = true) (hy : fin y = true) : double.order x y = some (if R x < R y then .lt else if R x = R y then .eq else .gt) := by
  obtain ⟨s, m, i, h1⟩ := fin_read hx
  obtain ⟨t, n, j, h2⟩ := fin_read hy
  rw [R_num h1, R_num h2]
  unfold Format.order
  rw [h1, h2]
  simp only [Datum.order, signed_eq]
  obtain ⟨b, hb⟩ : ∃ b, b = min i j := ⟨_, rfl⟩
  rw [← hb]
  obtain ⟨p, hp⟩ : ∃ p : Nat, i = b + p := ⟨(i - b).toNat, by omega⟩
  obtain ⟨q, hq⟩ : ∃ q : Nat, j = b + q := ⟨(j - b).toNat, by omega⟩
  rw [show (i - b).toNat = p by omega, show (j - b).toNat = q by omega]
  have e1 : two i = ((2 ^ p : Nat) : Rat) * two b := by rw [hp, two_add, two_nat]; grind
  have e2 : two j = ((2 ^ q : Nat) : Rat) * two b := by rw [hq, two_add, two_nat]; grind
  rw [e1, e2]
  have f1 : ((sg s m : Int) : Rat) * (((2 ^ p : Nat) : Rat) * two b) = ((sg s m * 2 ^ p : Int) : Rat) * two b := by
    rw [Rat.intCast_mul, Rat.intCast_pow, Rat.natCast_pow, Rat.mul_assoc]; rfl
  have f2 : ((sg t n : Int) : Rat) * (((2 ^ q : Nat) : Rat) * two b) = ((sg t n * 2 ^ q : Int) : Rat) * two b := by
    rw [Rat.intCast_mul, Rat.intCast_pow, Rat.natCast_pow, Rat.mul_assoc]; rfl
  rw [f1, f2]
  generalize sg s m * 2 ^ p = A
  generalize sg t n * 2 ^ q = C
  have hpos := two_pos b
  have g1 : (A : Rat) * two b < C * two b ↔ A < C := by
    constructor
    · intro h
      rcases Int.lt_or_le A C with h' | h'
      · exact h'
      · have := Rat.mul_le_mul_of_nonneg_right (Rat.intCast_le_intCast.2 h') (Rat.le_of_lt hpos)
        grind
    · intro h
      exact Rat.mul_lt_mul_of_pos_right (Rat.intCast_lt_intCast.2 h) hpos
  have g2 : (A : Rat) * two b = C * two b ↔ A = C := by
    constructor
    · intro h
      rcases Int.lt_trichotomy A C with h' | h' | h'
      · have := Rat.mul_lt_mul_of_pos_right (Rat.intCast_lt_intCast.2 h') hpos
        grind
      · exact h'
      · have := Rat.mul_lt_mul_of_pos_right (Rat.intCast_lt_intCast.2 h') hpos
        grind
    · rintro rfl; rfl
  simp only [g1, g2]
  rcases Int.lt_trichotomy A C with h | h | h
  · rw [if_pos h]; simp [Int.compare_eq_lt, h]
  · subst h; simp
  · rw [if_neg (by omega), if_neg (by omega)]; simp [Int.compare_eq_gt, h]
end Go.Fr
set_option linter.unusedVariables false
set_option linter.unusedSimpArgs false
namespace Go.Fr
open Ieee Go.Fl Go.Fw

/-- what is written of a number that is nearly v is nearly v -/
theorem write_nearly (neg : Bool) (mag : Nat) (place : Int) (w v : Rat) (hw : ((sg neg mag : Int) : Rat) * two place = w) (h1 : w ≤ v + ab v * two (-54)) (h2 : v ≤ w + ab v * two (-54)) (hb : ab v < two 1022) :
    fin (double.nearest neg mag place) = true ∧ Near v (R (double.nearest neg mag place)) := by
  have hav := ab_nonneg v
  have hp := two_pos (-54)
  have hle : two (-54) ≤ 1 := by rw [← two_zero]; exact two_mono (by decide)
  have hle2 : two (-54) ≤ two (-4) := two_mono (by decide)
  have h16 : two (-4) = 1 / 16 := by decide +kernel
  have hm := Rat.mul_le_mul_of_nonneg_left hle2 hav
  rw [h16] at hm
  have hmn := mul_nn hav (Rat.le_of_lt hp)
  have haw : ab w ≤ ab v + ab v * two (-54) := by
    generalize ab v * two (-54) = z at *
    rcases ab_cases w with ⟨a, b⟩ | ⟨a, b⟩ <;> rcases ab_cases v with ⟨c, d⟩ | ⟨c, d⟩ <;> rw [b] <;> rw [d] at * <;> grind
  have htt : two 1023 = 2 * two 1022 := by
    have := two_add 1022 1
    have h2 : two 1 = 2 := by unfold two; simp
    rw [h2] at this
    rw [show (1023 : Int) = 1022 + 1 by omega, this]; grind
  have hbw : ab w < two 1023 := by
    rw [htt]
    generalize ab v * two (-54) = z at *
    grind
  obtain ⟨g1, g2, g3, _⟩ := write_half neg mag place w hw hbw
  refine ⟨g1, ?_⟩
  unfold Near
  have a2 := two_pos (-1075)
  have hw53 := Rat.mul_le_mul_of_nonneg_right haw (Rat.le_of_lt (two_pos (-53)))
  have hx : (ab v + ab v * two (-54)) * two (-53) ≤ 3 * (ab v * two (-54)) := by
    rw [t54]
    have : (ab v + ab v * two (-54)) * (2 * two (-54)) = 2 * (ab v * two (-54)) + 2 * (ab v * two (-54) * two (-54)) := by grind
    rw [this]
    have h3 := Rat.mul_le_mul_of_nonneg_left (show two (-54) ≤ 1 / 16 by grind) hmn
    generalize ab v * two (-54) * two (-54) = y at *
    generalize ab v * two (-54) = z at *
    grind
  rw [t53, t54, t1075]
  have e : ab v * (2 * (2 * two (-54))) = 4 * (ab v * two (-54)) := by grind
  rw [e]
  generalize (ab v + ab v * two (-54)) * two (-53) = q at *
  generalize ab w * two (-53) = q2 at *
  generalize ab v * two (-54) = z at *
  generalize R (double.nearest neg mag place) = r at *
  generalize two (-1075) = t at *
  constructor <;> grind

theorem sgn_lin (neg : Bool) (m : Nat) : ((sg neg m : Int) : Rat) = (if neg then -1 else 1) * (m : Rat) := by
  rw [sgR]
  cases neg
  · simp
  · simp; grind
theorem ab_sg (b : Bool) {x : Rat} (hx : 0 ≤ x) : ab ((if b then -1 else 1) * x) = x := by
  rcases ab_cases ((if b then -1 else 1) * x) with ⟨h, e⟩ | ⟨h, e⟩ <;> rw [e] <;> cases b <;> simp at h ⊢ <;> grind
theorem mul_sg (b : Bool) (x : Rat) : (b = true ∧ (if b then -1 else 1) * x = -x) ∨ (b = false ∧ (if b then -1 else 1) * x = x) := by
  cases b
  · exact .inr ⟨rfl, by simp⟩
  · refine .inl ⟨rfl, ?_⟩
    simp; grind
/-- the quotient -/
theorem div_near {x y : Nat} (hx : fin x = true) (hy : fin y = true) (h0 : R y ≠ 0) (v : Rat) (hv : v * R y = R x) (hb : ab v < two 1022) : ∃ r, floatBits .quo .f64 x y = some r ∧ fin r = true ∧ Near v (R r) := by
  obtain ⟨s, m, i, h1⟩ := fin_read hx
  obtain ⟨t, n, j, h2⟩ := fin_read hy
  rw [R_num h1, R_num h2] at *
  have hn : n ≠ 0 := by
    rintro rfl
    apply h0
    rw [sgR]; cases t <;> simp
  obtain ⟨more, hmore⟩ : ∃ more, more = 54 + n.log2 - m.log2 := ⟨_, rfl⟩
  obtain ⟨q, hq⟩ : ∃ q, q = (m <<< more) / n := ⟨_, rfl⟩
  obtain ⟨rest, hrest⟩ : ∃ rest, rest = (m <<< more) % n := ⟨_, rfl⟩
  obtain ⟨st, hst⟩ : ∃ st, st = (rest != 0).toNat := ⟨_, rfl⟩
  obtain ⟨w, hw⟩ : ∃ w, w = ((sg (s ^^ t) (2 * q + st) : Int) : Rat) * two (i - j - more - 1) := ⟨_, rfl⟩
  have hr : floatBits .quo .f64 x y = some (double.nearest (s ^^ t) (2 * q + st) (i - j - more - 1)) := by
    simp [floatBits, Format.div, FloatKind.format, h1, h2, Datum.quotient, Format.write, hn, hst, hq, hrest, hmore, fb]
  refine ⟨_, hr, ?_⟩
  have hD := Nat.div_add_mod (m <<< more) n
  rw [← hq, ← hrest, Nat.shiftLeft_eq] at hD
  have hlt : rest < n := by rw [hrest]; exact Nat.mod_lt _ (by omega)
  have hnp : (0 : Rat) < n := by exact_mod_cast Nat.pos_of_ne_zero hn
  have hnn : (n : Rat) ≠ 0 := by grind
  -- a unit of the quotient
  obtain ⟨u, hu⟩ : ∃ u, u = two (i - j - more) := ⟨_, rfl⟩
  have hup : 0 < u := by rw [hu]; exact two_pos _
  have hu1 : two (i - j - more - 1) = u * (1 / 2) := by
    have := two_add (i - j - more - 1) 1
    have h2 : two 1 = 2 := by unfold two; simp
    rw [h2, show i - j - more - 1 + 1 = i - j - more by omega, ← hu] at this
    grind
  -- the number itself
  obtain ⟨sn, hsn⟩ : ∃ sn : Rat, sn = (if (s ^^ t) then -1 else 1) := ⟨_, rfl⟩
  have hv2 : v * n = sn * ((n * q + rest : Nat) : Rat) * u := by
    rw [sgn_lin, sgn_lin] at hv
    have hi : two i = ((2 ^ more : Nat) : Rat) * u * two j := by
      rw [hu, ← two_nat, ← two_add, ← two_add]; congr 1; omega
    rw [hi] at hv
    rw [hD, Rat.natCast_mul]
    have hjp := two_pos j
    have : v * n * two j = sn * (↑m * ↑(2 ^ more)) * u * two j := by
      rw [hsn]
      cases s <;> cases t <;> simp at hv ⊢ <;> grind
    have hj0 : two j ≠ 0 := by grind
    have h3 := two_neg j
    have h4 : v * n * (two j * two (-j)) = sn * (↑m * ↑(2 ^ more)) * u * (two j * two (-j)) := by grind
    rw [h3] at h4
    grind
  have hw2 : w = sn * ((q : Rat) + st * (1 / 2)) * u := by
    rw [hw, hu1, sgn_lin, ← hsn]
    simp only [Rat.natCast_add, Rat.natCast_mul]
    grind
  have hD2 : (((n * q + rest : Nat)) : Rat) = n * q + rest := by simp [Rat.natCast_add, Rat.natCast_mul]
  rw [hD2] at hv2
  -- with ρ = rest / n
  obtain ⟨ρ, hρ⟩ : ∃ ρ : Rat, ρ * n = rest := ⟨rest / n, by rw [Rat.div_def, Rat.mul_assoc, Rat.inv_mul_cancel _ hnn, Rat.mul_one]⟩
  have hρ0 : 0 ≤ ρ := by
    by_cases h : 0 ≤ ρ
    · exact h
    · replace h : ρ ≤ 0 := by grind
      have := Rat.mul_le_mul_of_nonneg_right h (Rat.le_of_lt hnp)
      have h5 := nat_nn rest
      have : ρ * n = 0 := by grind
      have : ρ = 0 := by
        rcases Rat.mul_eq_zero.1 this with h | h
        · exact h
        · exact absurd h hnn
      grind
  have hρ1 : ρ < 1 := by
    by_cases h : ρ < 1
    · exact h
    · replace h : 1 ≤ ρ := by grind
      have h6 := Rat.mul_le_mul_of_nonneg_right h (Rat.le_of_lt hnp)
      have h5 : (rest : Rat) < n := by exact_mod_cast hlt
      grind
  have hv3 : v = sn * (q + ρ) * u := by
    have : v * n = sn * (q + ρ) * u * n := by rw [hv2, ← hρ]; grind
    have h3 : n * (n : Rat)⁻¹ = 1 := Rat.mul_inv_cancel _ hnn
    have h4 : v * (n * (n : Rat)⁻¹) = sn * (q + ρ) * u * (n * (n : Rat)⁻¹) := by grind
    rw [h3] at h4
    grind
  have hq0 := nat_nn q
  have hqr : 0 ≤ (q + ρ) * u := mul_nn (by grind) (Rat.le_of_lt hup)
  have habv : ab v = (q + ρ) * u := by
    rw [hv3, hsn, Rat.mul_assoc]
    exact ab_sg _ hqr
  -- what is left over is little
  have hoff : (st : Rat) * (1 / 2) - ρ ≤ (q + ρ) * two (-54) ∧ ρ - (st : Rat) * (1 / 2) ≤ (q + ρ) * two (-54) := by
    have hp54 := two_pos (-54)
    have hnn2 := mul_nn (show 0 ≤ (q : Rat) + ρ by grind) (Rat.le_of_lt hp54)
    by_cases hr0 : rest = 0
    · have : ρ = 0 := by
        rw [hr0] at hρ
        rcases Rat.mul_eq_zero.1 hρ with h | h
        · exact h
        · exact absurd h hnn
      have hst0 : st = 0 := by rw [hst, hr0]; rfl
      rw [hst0]; rw [this] at hnn2 ⊢
      constructor <;> grind
    · have hst1 : st = 1 := by rw [hst]; simp [hr0]
      have hm0 : m ≠ 0 := by
        rintro rfl
        have : n * q + rest = 0 := by rw [hD]; simp
        omega
      have hbig : 2 ^ 53 ≤ q := by
        have a1 : 2 ^ m.log2 ≤ m := Nat.log2_self_le hm0
        have a2 : n < 2 ^ (n.log2 + 1) := Nat.lt_log2_self
        have a3 : 2 ^ (54 + n.log2) ≤ m * 2 ^ more := by
          have : 2 ^ m.log2 * 2 ^ more ≤ m * 2 ^ more := Nat.mul_le_mul_right _ a1
          rw [← Nat.pow_add] at this
          have h2 : 2 ^ (54 + n.log2) ≤ 2 ^ (m.log2 + more) := Nat.pow_le_pow_right (by omega) (by omega)
          omega
        rw [show 54 + n.log2 = 53 + (n.log2 + 1) by omega, Nat.pow_add] at a3
        rw [hq, Nat.shiftLeft_eq]
        rw [Nat.le_div_iff_mul_le (by omega)]
        have : 2 ^ 53 * n ≤ 2 ^ 53 * 2 ^ (n.log2 + 1) := Nat.mul_le_mul_left _ (by omega)
        omega
      have hbig2 : ((2 ^ 53 : Nat) : Rat) ≤ q := nle hbig
      have hone : ((2 ^ 53 : Nat) : Rat) * two (-54) = 1 / 2 := by decide +kernel
      have := Rat.mul_le_mul_of_nonneg_right (show ((2 ^ 53 : Nat) : Rat) ≤ q + ρ by grind) (Rat.le_of_lt hp54)
      rw [hone] at this
      rw [hst1]
      generalize (↑q + ρ) * two (-54) = z at *
      constructor <;> (simp; grind)
  have d1 := Rat.mul_le_mul_of_nonneg_right hoff.1 (Rat.le_of_lt hup)
  have d2 := Rat.mul_le_mul_of_nonneg_right hoff.2 (Rat.le_of_lt hup)
  refine write_nearly _ _ _ w v hw.symm ?_ ?_ hb
  · rw [habv, hv3, hw2, hsn, Rat.mul_assoc, Rat.mul_assoc]
    rcases mul_sg (s ^^ t) ((↑q + ↑st * (1 / 2)) * u) with ⟨_, e1⟩ | ⟨_, e1⟩ <;> rcases mul_sg (s ^^ t) ((↑q + ρ) * u) with ⟨_, e2⟩ | ⟨_, e2⟩ <;> rw [e1, e2] <;> first | grind | simp_all
  · rw [habv, hv3, hw2, hsn, Rat.mul_assoc, Rat.mul_assoc]
    rcases mul_sg (s ^^ t) ((↑q + ↑st * (1 / 2)) * u) with ⟨_, e1⟩ | ⟨_, e1⟩ <;> rcases mul_sg (s ^^ t) ((↑q + ρ) * u) with ⟨_, e2⟩ | ⟨_, e2⟩ <;> rw [e1, e2] <;> first | grind | simp_all

theorem rootFrom_spec (n : Nat) : ∀ (todo root : Nat), root * root ≤ n → n < (root + 2 ^ todo) * (root + 2 ^ todo) → (Datum.rootFrom n todo root) * (Datum.rootFrom n todo root) ≤ n ∧ n < (Datum.rootFrom n todo root + 1) * (Datum.rootFrom n todo root + 1)
  | 0, root, h1, h2 => by simpa [Datum.rootFrom] using ⟨h1, h2⟩
  | todo + 1, root, h1, h2 => by
    unfold Datum.rootFrom
    simp only [Nat.one_shiftLeft]
    have e : root + 2 ^ (todo + 1) = root + 2 ^ todo + 2 ^ todo := by rw [Nat.pow_succ]; omega
    rw [e] at h2
    split
    · rename_i h
      exact rootFrom_spec n todo _ h h2
    · rename_i h
      exact rootFrom_spec n todo _ h1 (by omega)

theorem place_ge {b : Nat} {s : Bool} {m : Nat} {e : Int} (h : double.read b = .number s m e) : -1074 ≤ e := by
  unfold Format.read at h
  simp only [lp] at h
  split at h
  · injection h; omega
  · split at h
    · injection h; omega
    · split at h <;> cases h
theorem sq_le {a b : Rat} (ha : 0 ≤ a) (h : a ≤ b) : a * a ≤ b * b := by
  have h1 := Rat.mul_le_mul_of_nonneg_left h ha
  have h2 := Rat.mul_le_mul_of_nonneg_right h (show 0 ≤ b by grind)
  grind
theorem two_sq (h : Int) : two (2 * h) = two h * two h := by rw [show 2 * h = h + h by omega, two_add]
/-- the root -/
theorem sqrt_near {x : Nat} (hx : fin x = true) (h0 : 0 < R x) (hb : R x < two 1020) : ∃ r, double.sqrt x = some r ∧ fin r = true ∧ 0 < R r ∧ R r * R r ≤ R x * (1 + two (-49)) ∧ R x ≤ R r * R r * (1 + two (-49)) := by
  obtain ⟨s, m, i, h1⟩ := fin_read hx
  have hpl := place_ge h1
  rw [R_num h1] at h0 hb ⊢
  have hi := two_pos i
  have hs : s = false := by
    cases s
    · rfl
    · have := mul_nn (nat_nn m) (Rat.le_of_lt hi)
      rw [sgR] at h0
      simp at h0
      grind
  subst hs
  rw [sgR] at h0 hb ⊢
  simp only [Bool.false_eq_true, if_false] at h0 hb ⊢
  have hm : m ≠ 0 := by rintro rfl; simp at h0
  obtain ⟨more, hmore⟩ : ∃ more, more = 2 * 54 - m.log2 + ((i - (2 * 54 - m.log2 : Nat)) % 2).toNat := ⟨_, rfl⟩
  obtain ⟨n, hn⟩ : ∃ n, n = m <<< more := ⟨_, rfl⟩
  obtain ⟨c, hc⟩ : ∃ c, c = Datum.rootFrom n (n.log2 / 2 + 1) 0 := ⟨_, rfl⟩
  obtain ⟨st, hst⟩ : ∃ st, st = (c * c != n).toNat := ⟨_, rfl⟩
  obtain ⟨h, hh⟩ : ∃ h, h = (i - more) / 2 := ⟨_, rfl⟩
  have hh2 : i = more + 2 * h := by omega
  have hr : double.sqrt x = some (double.nearest false (2 * c + st) (h - 1)) := by
    unfold Format.sqrt
    rw [h1]
    simp only [Datum.root, if_neg hm, Bool.false_eq_true, if_false, Option.map_some, Format.write, fb]
    rw [← hmore, ← hn, ← hc, ← hst, ← hh]
  have hlog1 : 2 ^ m.log2 ≤ m := Nat.log2_self_le hm
  have hn108 : 2 ^ 108 ≤ n := by
    have : 2 ^ m.log2 * 2 ^ more ≤ m * 2 ^ more := Nat.mul_le_mul_right _ hlog1
    rw [← Nat.pow_add] at this
    have h2 : 2 ^ 108 ≤ 2 ^ (m.log2 + more) := Nat.pow_le_pow_right (by omega) (by omega)
    rw [hn, Nat.shiftLeft_eq]
    omega
  have hn0 : n ≠ 0 := by rintro rfl; omega
  have hroot := rootFrom_spec n (n.log2 / 2 + 1) 0 (by omega) (by
    have : n < 2 ^ (n.log2 + 1) := Nat.lt_log2_self
    have h2 : 2 ^ (n.log2 + 1) ≤ 2 ^ ((n.log2 / 2 + 1) + (n.log2 / 2 + 1)) := Nat.pow_le_pow_right (by omega) (by omega)
    rw [Nat.pow_add 2 (n.log2 / 2 + 1)] at h2
    rw [Nat.zero_add]
    omega)
  rw [← hc] at hroot
  have hcb : 2 ^ 54 ≤ c := by
    rcases Nat.lt_or_ge c (2 ^ 54) with h | h
    · have : (c + 1) * (c + 1) ≤ 2 ^ 54 * 2 ^ 54 := Nat.mul_le_mul h h
      have e : (2 : Nat) ^ 54 * 2 ^ 54 = 2 ^ 108 := by rw [← Nat.pow_add]
      omega
    · exact h
  have hst1 : st ≤ 1 := by rw [hst]; cases (c * c != n) <;> simp
  -- as rationals
  obtain ⟨u, hu⟩ : ∃ u, u = two h := ⟨_, rfl⟩
  have hup : 0 < u := by rw [hu]; exact two_pos _
  have hX : (m : Rat) * two i = n * (u * u) := by
    rw [hh2, two_add, two_nat, two_sq, ← hu, hn, Nat.shiftLeft_eq, Rat.natCast_mul, Rat.mul_assoc]
  obtain ⟨C, hC⟩ : ∃ C : Rat, C = c + st * (1 / 2) := ⟨_, rfl⟩
  have hw : ((sg false (2 * c + st) : Int) : Rat) * two (h - 1) = C * u := by
    have h2 := two_add (h - 1) 1
    have h3 : two 1 = 2 := by unfold two; simp
    rw [h3, show h - 1 + 1 = h by omega, ← hu] at h2
    rw [sgR, hC]
    simp only [Bool.false_eq_true, if_false, Rat.natCast_add, Rat.natCast_mul]
    grind
  have hcq : ((2 ^ 54 : Nat) : Rat) ≤ c := nle hcb
  have hc54 : ((2 ^ 54 : Nat) : Rat) = 18014398509481984 := by decide +kernel
  rw [hc54] at hcq
  have hsq : C * C ≤ n + 2 * C ∧ (n : Rat) ≤ C * C + 2 * C := by
    by_cases he : c * c = n
    · have : st = 0 := by rw [hst]; simp [he]
      rw [this] at hC
      have hCc : C = c := by grind
      have : (c : Rat) * c = n := by rw [← he, Rat.natCast_mul]
      rw [hCc]
      constructor <;> grind
    · have : st = 1 := by rw [hst]; simp [he]
      rw [this] at hC
      have hCc : C = c + 1 / 2 := by grind
      have k1 : (c : Rat) * c ≤ n := by rw [← Rat.natCast_mul]; exact nle hroot.1
      have k2 : (n : Rat) ≤ c * c + 2 * c + 1 := by
        have : n ≤ c * c + 2 * c + 1 := by have := hroot.2; rw [Nat.add_mul, Nat.mul_add] at this; omega
        have := nle this
        simp only [Rat.natCast_add, Rat.natCast_mul] at this
        exact this
      have e : C * C = c * c + c + 1 / 4 := by rw [hCc]; grind
      rw [e, hCc]
      constructor <;> grind
  have hst0 := nat_nn st
  have hCb : 18014398509481984 ≤ C := by grind
  have hCC : 18014398509481984 * C ≤ C * C := Rat.mul_le_mul_of_nonneg_right hCb (by grind)
  -- the size
  have huu : 0 ≤ u * u := mul_nn (Rat.le_of_lt hup) (Rat.le_of_lt hup)
  have hw0 : 0 ≤ C * u := mul_nn (by grind) (Rat.le_of_lt hup)
  have hbw : ab (C * u) < two 1023 := by
    have e1 : ab (C * u) = C * u := by unfold ab; rw [if_pos hw0]
    rw [e1]
    by_cases hlt : C * u < two 1023
    · exact hlt
    · have h4 : two 1023 ≤ C * u := by grind
      have h5 := sq_le (Rat.le_of_lt (two_pos _)) h4
      have h6 : two 1020 * 8 ≤ two 1023 * two 1023 := by
        have e : two 1023 = two 1020 * 8 := by
          have := two_add 1020 3
          have e3 : two 3 = 8 := by decide +kernel
          rw [e3] at this
          exact this
        have e7 := two_ge_one (show (0 : Int) ≤ 1023 by decide)
        have := Rat.mul_le_mul_of_nonneg_left e7 (Rat.le_of_lt (two_pos 1023))
        rw [← e]; grind
      have h7 := Rat.mul_le_mul_of_nonneg_right (show C * C ≤ 2 * n by grind) huu
      have h8 : C * u * (C * u) = C * C * (u * u) := by grind
      rw [hX] at hb
      have := two_pos 1020
      grind
  obtain ⟨g1, g2, g3⟩ := write_near false (2 * c + st) (h - 1) (C * u) hw hbw
  refine ⟨_, hr, g1, ?_⟩
  rw [show ab (C * u) = C * u by unfold ab; rw [if_pos hw0]] at g2 g3
  -- the absolute part is little
  have habs : two (-1074) ≤ C * u * two (-60) := by
    have e1 : two (-592) ≤ u := by rw [hu]; exact two_mono (by omega)
    have e2 := Rat.mul_le_mul_of_nonneg_right e1 (Rat.le_of_lt (two_pos (-60)))
    rw [← two_add] at e2
    have e3 : two (-1074) ≤ two (-592 + -60) := two_mono (by decide)
    have e4 : u ≤ C * u := by
      have := Rat.mul_le_mul_of_nonneg_right (show 1 ≤ C by grind) (Rat.le_of_lt hup)
      grind
    have e5 := Rat.mul_le_mul_of_nonneg_right e4 (Rat.le_of_lt (two_pos (-60)))
    grind
  have q52 : two (-52) = 1 / 4503599627370496 := by decide +kernel
  have q60 : two (-60) = 1 / 1152921504606846976 := by decide +kernel
  have q49 : two (-49) = 1 / 562949953421312 := by decide +kernel
  rw [q60] at habs
  rw [q52] at g2 g3
  rw [q49, hX]
  generalize R (double.nearest false (2 * c + st) (h - 1)) = r at *
  obtain ⟨w, hwd⟩ : ∃ w, w = C * u := ⟨_, rfl⟩
  rw [← hwd] at g2 g3 hw0 habs
  have hww : w * w = C * C * (u * u) := by rw [hwd]; grind
  have hwpos : 0 < w := by rw [hwd]; exact Rat.mul_pos (by grind) hup
  have r1 : r ≤ w * (1 + 1 / 2251799813685248) := by grind
  have r2 : w * (1 - 1 / 2251799813685248) ≤ r := by grind
  have r0 : 0 < r := by grind
  have s1 := sq_le (Rat.le_of_lt r0) r1
  have s2 := sq_le (show 0 ≤ w * (1 - 1 / 2251799813685248) by grind) r2
  have c1 := Rat.mul_le_mul_of_nonneg_right hsq.1 huu
  have c2 := Rat.mul_le_mul_of_nonneg_right hsq.2 huu
  have c3 := Rat.mul_le_mul_of_nonneg_right hCC huu
  have x1 : w * w ≤ n * (u * u) + 2 * (C * (u * u)) := by grind
  have x2 : n * (u * u) ≤ w * w + 2 * (C * (u * u)) := by grind
  have x3 : 18014398509481984 * (C * (u * u)) ≤ w * w := by grind
  have x4 : r * r ≤ (w * w) * ((1 + 1 / 2251799813685248) * (1 + 1 / 2251799813685248)) := by grind
  have x5 : (w * w) * ((1 - 1 / 2251799813685248) * (1 - 1 / 2251799813685248)) ≤ r * r := by grind
  have x6 : 0 ≤ w * w := mul_nn hw0 hw0
  have x7 : 0 ≤ C * (u * u) := mul_nn (by grind) huu
  refine ⟨r0, ?_, ?_⟩
  · clear hwd hww s1 s2 c1 c2 c3 g2 g3 r1 r2 hsq hCC hCb hb h0
    generalize w * w = A at *
    generalize r * r = B at *
    generalize (n : Rat) * (u * u) = D at *
    generalize C * (u * u) = E at *
    grind
  · clear hwd hww s1 s2 c1 c2 c3 g2 g3 r1 r2 hsq hCC hCb hb h0
    generalize w * w = A at *
    generalize r * r = B at *
    generalize (n : Rat) * (u * u) = D at *
    generalize C * (u * u) = E at *
    grind
end Go.Fr
set_option linter.unusedVariables false
set_option linter.unusedSimpArgs false
namespace Go.Fr
open Ieee Go.Fl Go.Fw

/-- the root of nothing is nothing -/
theorem sqrt_zero {x : Nat} (hx : fin x = true) (h0 : R x = 0) : ∃ r, double.sqrt x = some r ∧ fin r = true ∧ R r = 0 := by
  obtain ⟨s, m, i, h1⟩ := fin_read hx
  rw [R_num h1] at h0
  have hm : m = 0 := by
    have h2 := two_pos i
    rcases Rat.mul_eq_zero.1 h0 with h | h
    · have : sg s m = 0 := Rat.intCast_inj.1 (by rw [h]; rfl)
      unfold sg at this
      split at this <;> omega
    · grind
  subst hm
  obtain ⟨a, b⟩ := R_zero s i
  refine ⟨double.nearest s 0 i, ?_, a, b⟩
  unfold Format.sqrt
  rw [h1]
  simp [Datum.root, Format.write]
end Go.Fr
set_option linter.unusedVariables false
set_option linter.unusedSimpArgs false
namespace Go.Fr
open Ieee Go.Fl Go.Fw
theorem le_of_sq {a b : Rat} (ha : 0 ≤ a) (hb : 0 ≤ b) (h : a * a ≤ b * b) : a ≤ b := by
  by_cases hc : a ≤ b
  · exact hc
  · have h1 : 0 < (a - b) * (a + b) := Rat.mul_pos (by grind) (by grind)
    grind
theorem q49' : two (-49) = 1 / 562949953421312 := by decide +kernel
theorem q52' : two (-52) = 1 / 4503599627370496 := by decide +kernel
theorem tiny' : two (-1074) ≤ 1 / 1267650600228229401496703205376 := by
  have h : two (-1074) ≤ two (-100) := two_mono (by decide)
  have e : two (-100) = 1 / 1267650600228229401496703205376 := by decide +kernel
  grind
theorem big' {v : Rat} (h : v < 1267650600228229401496703205376) {k : Int} (hk : 1000 ≤ k) : v < two k := by
  have e : two 100 = 1267650600228229401496703205376 := by decide +kernel
  have h1 : two 100 ≤ two k := two_mono (by omega)
  grind
/-- r is the root of the whole number N, nearly -/
def Len (N : Int) (r : Rat) : Prop := (N = 0 ∧ r = 0) ∨ (1 ≤ N ∧ 0 < r ∧ r * r ≤ N * (1 + two (-49)) ∧ (N : Rat) ≤ r * r * (1 + two (-49)))
end Go.Fr
namespace Go.Proofs.YtinbkonmlgediaaGreat
open Go.RowKit Go.Fl Go.Sl Go.Pg Go.Ch Go.Kf Go.Fr Ieee
theorem vec_ {u v : Nat} {n m : Int} (hu : Z u n) (hv : Z v m) (hn : n.natAbs ≤ 2097152) (hm : m.natAbs ≤ 2097152) : ∃ p q s l, Vec u v p q s l ∧ fin l = true ∧ Len (n * n + m * m) (R l) ∧ n * n + m * m ≤ 8796093022208 := by
  have b1 : (n * n).natAbs ≤ 4398046511104 := by rw [Int.natAbs_mul]; exact Nat.mul_le_mul hn hn
  have b2 : (m * m).natAbs ≤ 4398046511104 := by rw [Int.natAbs_mul]; exact Nat.mul_le_mul hm hm
  have n1 : 0 ≤ n * n := by rcases Int.le_total 0 n with h | h
                            · exact Int.mul_nonneg h h
                            · exact Int.mul_nonneg_of_nonpos_of_nonpos h h
  have n2 : 0 ≤ m * m := by rcases Int.le_total 0 m with h | h
                            · exact Int.mul_nonneg h h
                            · exact Int.mul_nonneg_of_nonpos_of_nonpos h h
  obtain ⟨p, e1, z1⟩ := Z.mul hu hu (by omega)
  obtain ⟨q, e2, z2⟩ := Z.mul hv hv (by omega)
  obtain ⟨s, e3, z3⟩ := Z.add z1 z2 (by omega)
  by_cases h0 : n * n + m * m = 0
  · obtain ⟨l, e4, f, z⟩ := sqrt_zero z3.1 (by rw [z3.2, h0]; rfl)
    exact ⟨p, q, s, l, ⟨e1, e2, e3, e4⟩, f, .inl ⟨h0, z⟩, by omega⟩
  · have h1 : 1 ≤ n * n + m * m := by omega
    have h1r : (1 : Rat) ≤ ((n * n + m * m : Int) : Rat) := by have := Rat.intCast_le_intCast.2 h1; simpa using this
    have h2r : ((n * n + m * m : Int) : Rat) ≤ 8796093022208 := by have := Rat.intCast_le_intCast.2 (show n * n + m * m ≤ 8796093022208 by omega); simpa using this
    obtain ⟨l, e4, f, g1, g2, g3⟩ := sqrt_near z3.1 (by rw [z3.2]; grind) (by rw [z3.2]; exact big' (by grind) (by decide))
    rw [z3.2] at g2 g3
    exact ⟨p, q, s, l, ⟨e1, e2, e3, e4⟩, f, .inr ⟨h1, g1, g2, g3⟩, by omega⟩
end Go.Proofs.YtinbkonmlgediaaGreat
