/-
  Doubles: an operation whose result a double holds is exact. No condition.
-/
import Derived.Test.YtbakhldjfplbfaaGreatFr3
set_option linter.unusedVariables false
set_option linter.unusedSimpArgs false
namespace Go.Fr
open Ieee Go.Fl Go.Fw

/-- a number that a double holds -/
def Rep (v : Rat) : Prop := ∃ (n : Int) (q : Int), n.natAbs < 9007199254740992 ∧ -1074 ≤ q ∧ q ≤ 971 ∧ v = (n : Rat) * two q

theorem rep_nearest (neg : Bool) (mag : Nat) (place q : Int) (N K : Nat) (hm : mag ≠ 0) (hN : N < 9007199254740992) (hq : -1074 ≤ q) (hq2 : q ≤ 971) (hp : 0 ≤ place + K) (hK : 1074 ≤ K)
    (hv : mag * 2 ^ (place + K).toNat = N * 2 ^ (q + K).toNat) :
    ∃ e : Int, double.read (double.nearest neg mag place) = .number neg (N * 2 ^ (q - e).toNat) e ∧ -1074 ≤ e ∧ e ≤ q := by
  have hN0 : N ≠ 0 := by
    intro h
    subst h
    have : mag * 2 ^ (place + K).toNat ≠ 0 := Nat.mul_ne_zero hm (Nat.pos_iff_ne_zero.1 (Nat.two_pow_pos _))
    exact this (by rw [hv]; exact Nat.zero_mul _)
  have hl : mag.log2 + (place + K).toNat = N.log2 + (q + K).toNat := by rw [← log2_shift hm, ← log2_shift hN0, hv]
  have hN52 : N.log2 ≤ 52 := by
    have a := Nat.log2_self_le hN0
    rcases Nat.lt_or_ge N.log2 53 with h | h
    · omega
    · have : 2 ^ 53 ≤ 2 ^ N.log2 := Nat.pow_le_pow_right (by omega) h
      omega
  obtain ⟨e, he⟩ : ∃ e, e = max ((N.log2 : Int) + q - 52) (-1074) := ⟨_, rfl⟩
  have heq : e ≤ q := by omega
  have hlast : max (place + mag.log2 - (52 : Nat)) (-1074 : Int) = e := by omega
  obtain ⟨d, hd⟩ : ∃ d, d = (q - e).toNat := ⟨_, rfl⟩
  have hkept : Toward.even.cut neg (mag <<< (place - e).toNat) (e - place).toNat = N * 2 ^ d := by
    rw [Nat.shiftLeft_eq]
    rcases Int.le_total e place with h | h
    · have e0 : (e - place).toNat = 0 := by omega
      rw [e0, cut_exact _ _ 0 (by simp [Nat.mod_one]) (by omega)]
      simp only [Nat.pow_zero, Nat.div_one]
      have e1 : (place - e).toNat + (e + K).toNat = (place + K).toNat := by omega
      have e2 : d + (e + K).toNat = (q + K).toNat := by omega
      have : mag * 2 ^ (place - e).toNat * 2 ^ (e + K).toNat = N * 2 ^ d * 2 ^ (e + K).toNat := by
        rw [Nat.mul_assoc, ← Nat.pow_add, e1, Nat.mul_assoc, ← Nat.pow_add, e2, hv]
      exact Nat.eq_of_mul_eq_mul_right (Nat.two_pow_pos _) this
    · obtain ⟨r, hr⟩ : ∃ r, r = (e - place).toNat := ⟨_, rfl⟩
      have e0 : (place - e).toNat = 0 := by omega
      rw [e0, ← hr]
      simp only [Nat.pow_zero, Nat.mul_one]
      have e1 : (q + K).toNat = d + r + (place + K).toNat := by omega
      have hmag : mag = N * 2 ^ d * 2 ^ r := by
        have : mag * 2 ^ (place + K).toNat = N * 2 ^ d * 2 ^ r * 2 ^ (place + K).toNat := by
          rw [hv, e1, Nat.pow_add, Nat.pow_add, ← Nat.mul_assoc, ← Nat.mul_assoc]
        exact Nat.eq_of_mul_eq_mul_right (Nat.two_pow_pos _) this
      have hlm : mag.log2 = N.log2 + d + r := by omega
      rw [cut_exact _ _ r (by rw [hmag]; exact Nat.mul_mod_left _ _) (by omega)]
      rw [hmag, Nat.mul_div_cancel _ (Nat.two_pow_pos r)]
  have hdl : d ≤ 52 - N.log2 := by omega
  have hk1 : N * 2 ^ d < 9007199254740992 := by
    have b : N < 2 ^ (N.log2 + 1) := Nat.lt_log2_self
    have h1 : N * 2 ^ d < 2 ^ (N.log2 + 1) * 2 ^ d := Nat.mul_lt_mul_of_pos_right b (Nat.two_pow_pos d)
    rw [← Nat.pow_add] at h1
    have h2 : 2 ^ (N.log2 + 1 + d) ≤ 2 ^ 53 := Nat.pow_le_pow_right (by omega) (by omega)
    omega
  obtain ⟨L, hL⟩ : ∃ L : Nat, e = (L : Int) - 1074 := ⟨(e + 1074).toNat, by omega⟩
  have hk2 : 0 < L → 4503599627370496 ≤ N * 2 ^ d := fun h => by
    have a := Nat.log2_self_le hN0
    have h1 : 2 ^ N.log2 * 2 ^ d ≤ N * 2 ^ d := Nat.mul_le_mul_right _ a
    rw [← Nat.pow_add, show N.log2 + d = 52 by omega] at h1
    exact h1
  have := nearest_at neg mag place e (N * 2 ^ d) L hm hlast hL hkept hk1 hk2 (by omega)
  refine ⟨e, ?_, by omega, heq⟩
  rw [this, hL, ← hL, hd]

theorem write_rep (neg : Bool) (mag : Nat) (place : Int) (v : Rat) (hv : ((sg neg mag : Int) : Rat) * two place = v) (hr : Rep v) :
    fin (double.nearest neg mag place) = true ∧ R (double.nearest neg mag place) = v := by
  by_cases hm : mag = 0
  · subst hm
    obtain ⟨a, b⟩ := R_zero neg place
    refine ⟨a, ?_⟩
    rw [b, ← hv, sgR]; cases neg <;> simp
  · obtain ⟨n, q, h1, h2, h3, rfl⟩ := hr
    obtain ⟨K, hK, hK2⟩ : ∃ K : Nat, 0 ≤ place + K ∧ 1074 ≤ K := ⟨max (-place).toNat 1074, by omega, by omega⟩
    have hi : sg neg mag * 2 ^ (place + K).toNat = n * 2 ^ (q + K).toNat := by
      have e1 : ((sg neg mag : Int) : Rat) * two (place + K) = n * two (q + K) := by rw [two_add, two_add, ← Rat.mul_assoc, hv, Rat.mul_assoc]
      rw [show place + (K : Int) = ((place + K).toNat : Nat) by omega, show q + (K : Int) = ((q + K).toNat : Nat) by omega, two_nat, two_nat] at e1
      have : (((sg neg mag * 2 ^ (place + K).toNat : Int)) : Rat) = ((n * 2 ^ (q + K).toNat : Int) : Rat) := by
        simp only [Rat.intCast_mul, Rat.intCast_pow]
        simp only [Rat.natCast_pow] at e1
        exact_mod_cast e1
      exact Rat.intCast_inj.1 this
    have habs : mag * 2 ^ (place + K).toNat = n.natAbs * 2 ^ (q + K).toNat := by
      have := congrArg Int.natAbs hi
      rw [Int.natAbs_mul, Int.natAbs_mul, Int.natAbs_pow, Int.natAbs_pow] at this
      cases neg <;> simpa [sg] using this
    obtain ⟨e, g1, g2, g3⟩ := rep_nearest neg mag place q n.natAbs K hm h1 h2 h3 hK hK2 habs
    refine ⟨fin_num g1, ?_⟩
    have hsgn : sg neg n.natAbs = n := by
      have hpos : (0 : Int) < 2 ^ (q + K).toNat := Int.pow_pos (by omega)
      have hpos' : (0 : Int) < 2 ^ (place + K).toNat := Int.pow_pos (by omega)
      have hmp : (0 : Int) < mag := by omega
      cases neg
      · simp only [sg, Bool.false_eq_true, if_false] at hi ⊢
        have : 0 ≤ n := by
          rcases Int.lt_or_le n 0 with h | h
          · have h3 : n * 2 ^ (q + K).toNat < 0 := Int.mul_neg_of_neg_of_pos h hpos
            have h4 : 0 < (mag : Int) * 2 ^ (place + K).toNat := Int.mul_pos hmp hpos'
            omega
          · exact h
        omega
      · simp only [sg, if_true] at hi ⊢
        have : n ≤ 0 := by
          rcases Int.lt_or_le 0 n with h | h
          · have h3 : 0 < n * 2 ^ (q + K).toNat := Int.mul_pos h hpos
            have h4 : -(mag : Int) * 2 ^ (place + K).toNat < 0 := Int.mul_neg_of_neg_of_pos (by omega) hpos'
            omega
          · exact h
        omega
    rw [R_num g1]
    have e2 : sg neg (n.natAbs * 2 ^ (q - e).toNat) = n * 2 ^ (q - e).toNat := by
      conv => rhs; rw [← hsgn]
      cases neg <;> simp [sg, Int.neg_mul]
    rw [e2, Rat.intCast_mul, Rat.intCast_pow, Rat.mul_assoc]
    congr 1
    have e3 := two_add ((q - e).toNat : Nat) e
    rw [show (((q - e).toNat : Nat) : Int) + e = q by omega, two_nat, Rat.natCast_pow] at e3
    rw [e3]; rfl
theorem fin_rep {x : Nat} (hx : fin x = true) : Rep (R x) := by
  obtain ⟨s, m, i, h1⟩ := fin_read hx
  refine ⟨sg s m, i, ?_, ?_, ?_, R_num h1⟩
  all_goals
    unfold Format.read at h1
    simp only [sw, lp, bin, inf] at h1
    split at h1
    · injection h1 with h1 h2 h3
      first
      | omega
      | (unfold sg; split <;> omega)
    · split at h1
      · injection h1 with h1 h2 h3
        first
        | omega
        | (unfold sg; split <;> omega)
      · exfalso; revert h1; by_cases hh : x % 9223372036854775808 = 9218868437227405312 <;> simp [hh]
theorem add_rep {x y : Nat} (hx : fin x = true) (hy : fin y = true) (hr : Rep (R x + R y)) : ∃ r, floatBits .add .f64 x y = some r ∧ fin r = true ∧ R r = R x + R y := by
  obtain ⟨s, m, i, h1⟩ := fin_read hx
  obtain ⟨t, n, j, h2⟩ := fin_read hy
  rw [R_num h1, R_num h2] at *
  obtain ⟨neg, mag, place, h3, h4⟩ := sum_val s t m n i j
  refine ⟨double.nearest neg mag place, ?_, write_rep _ _ _ _ h4 hr⟩
  simp [floatBits, Format.add, FloatKind.format, h1, h2, h3, Format.write]
theorem sub_rep {x y : Nat} (hx : fin x = true) (hy : fin y = true) (hr : Rep (R x - R y)) : ∃ r, floatBits .sub .f64 x y = some r ∧ fin r = true ∧ R r = R x - R y := by
  obtain ⟨s, m, i, h1⟩ := fin_read hx
  obtain ⟨t, n, j, h2⟩ := fin_read hy
  rw [R_num h1, R_num h2] at *
  obtain ⟨neg, mag, place, h3, h4⟩ := sum_val s (!t) m n i j
  rw [opp] at h4
  have h5 : ((sg neg mag : Int) : Rat) * two place = ((sg s m : Int) : Rat) * two i - ((sg t n : Int) : Rat) * two j := by grind
  refine ⟨double.nearest neg mag place, ?_, write_rep _ _ _ _ h5 hr⟩
  simp [floatBits, Format.sub, FloatKind.format, h1, h2, h3, Format.write, Datum.opposite]
theorem mul_rep {x y : Nat} (hx : fin x = true) (hy : fin y = true) (hr : Rep (R x * R y)) : ∃ r, floatBits .mul .f64 x y = some r ∧ fin r = true ∧ R r = R x * R y := by
  obtain ⟨s, m, i, h1⟩ := fin_read hx
  obtain ⟨t, n, j, h2⟩ := fin_read hy
  rw [R_num h1, R_num h2] at *
  have h5 : ((sg (s ^^ t) (m * n) : Int) : Rat) * two (i + j) = ((sg s m : Int) : Rat) * two i * (((sg t n : Int) : Rat) * two j) := by
    rw [sg_mul, two_add, Rat.intCast_mul]; grind
  refine ⟨double.nearest (s ^^ t) (m * n) (i + j), ?_, write_rep _ _ _ _ h5 hr⟩
  simp [floatBits, Format.mul, FloatKind.format, h1, h2, Datum.product, Format.write]
/-- nothing added changes nothing -/
theorem add_nothing {x y : Nat} (hx : fin x = true) (hy : fin y = true) (h0 : R y = 0) : ∃ r, floatBits .add .f64 x y = some r ∧ fin r = true ∧ R r = R x := by
  have e : R x + R y = R x := by rw [h0]; grind
  obtain ⟨r, a, b, c⟩ := add_rep hx hy (by rw [e]; exact fin_rep hx)
  exact ⟨r, a, b, by rw [c, e]⟩
/-- the root of nothing is nothing -/
theorem sqrt_zero {x : Nat} (hx : fin x = true) (h0 : R x = 0) : ∃ r, double.sqrt x = some r ∧ fin r = true ∧ R r = 0 := by
  obtain ⟨s, m, i, h1⟩ := fin_read hx
  rw [R_num h1] at h0
  have hm : m = 0 := by
    have h2 := two_pos i
    rcases Rat.mul_eq_zero.1 h0 with h | h
    · have : sg s m = 0 := Rat.intCast_inj.1 (by rw [h]; rfl)
      unfold sg at this
      split at this <;> omega
    · grind
  subst hm
  obtain ⟨a, b⟩ := R_zero s i
  refine ⟨double.nearest s 0 i, ?_, a, b⟩
  unfold Format.sqrt
  rw [h1]
  simp [Datum.root, Format.write]
end Go.Fr
