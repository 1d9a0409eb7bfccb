/-
  Doubles that are whole numbers: what 'int(x)' gives, and what a test for it tells. No condition.
-/
import Derived.Test.YtokofimfinhnbaaDoorFr3
set_option linter.unusedVariables false
set_option linter.unusedSimpArgs false
namespace Go.Fr
open Ieee Go.Fl Go.Fw

theorem cut_zero_le (neg : Bool) (n d : Nat) : Toward.zero.cut neg n d * 2 ^ d ≤ n := by
  unfold Toward.cut
  simp only [Nat.one_shiftLeft, Bool.toNat_false, Nat.add_zero]
  rcases Nat.le_total d (n.log2 + 2) with h | h
  · rw [Nat.min_eq_left h]
    exact Nat.div_mul_le_self ..
  · rw [Nat.min_eq_right h]
    have hn : n < 2 ^ (n.log2 + 1) := Nat.lt_log2_self
    have h3 : 2 ^ (n.log2 + 2) = 2 * 2 ^ (n.log2 + 1) := by rw [Nat.pow_succ, Nat.mul_comm]
    rw [Nat.div_eq_of_lt (by omega)]
    omega
theorem toInt_fin {x : Nat} (hx : fin x = true) : ∃ n : Int, (double.read x).toInt .zero = some n ∧ (n : Rat) ≤ ab (R x) ∧ -(n : Rat) ≤ ab (R x) := by
  obtain ⟨s, m, i, h1⟩ := fin_read hx
  rw [R_num h1, h1]
  refine ⟨_, rfl, ?_⟩
  rw [signed_eq, Int.pow_zero, Int.mul_one]
  obtain ⟨K, hK⟩ : ∃ K, K = Toward.zero.cut s (m <<< i.toNat) (-i).toNat := ⟨_, rfl⟩
  rw [← hK, sgR]
  have hc := cut_zero_le s (m <<< i.toNat) (-i).toNat
  rw [← hK, Nat.shiftLeft_eq] at hc
  have hle : (K : Rat) ≤ m * two i := by
    have h2 := nle hc
    rw [Rat.natCast_mul, Rat.natCast_mul] at h2
    have e : two i * ((2 ^ (-i).toNat : Nat) : Rat) = ((2 ^ i.toNat : Nat) : Rat) := by
      rw [← two_nat, ← two_nat, ← two_add]; congr 1; omega
    rw [← e] at h2
    have hp : (0 : Rat) < ((2 ^ (-i).toNat : Nat) : Rat) := by rw [← two_nat]; exact two_pos _
    by_cases h : (K : Rat) ≤ m * two i
    · exact h
    · have := Rat.mul_lt_mul_of_pos_right (show m * two i < (K : Rat) by grind) hp
      grind
  have h0 := nat_nn K
  have hm := sgn_mul (Rat.le_of_lt (two_pos i)) (rfl : ((sg s m : Int) : Rat) * two i = _)
  rw [hm.1]
  cases s <;> simp <;> constructor <;> grind
theorem rd_20 : double.read 4697254411347427328 = .number false 4503599627370496 (-32) := by decide +kernel
theorem rd_m20 : double.read 13920626448202203136 = .number true 4503599627370496 (-32) := by decide +kernel
theorem R_20 : R 4697254411347427328 = 1048576 := by unfold R; rw [rd_20]; decide +kernel
theorem R_m20 : R 13920626448202203136 = -1048576 := by unfold R; rw [rd_m20]; decide +kernel
theorem fin_20 : fin 4697254411347427328 = true := by decide +kernel
theorem fin_m20 : fin 13920626448202203136 = true := by decide +kernel
/-- between two numbers: a number -/
theorem fin_between {x a b : Nat} (ha : fin a = true) (hb : fin b = true) (h1 : (gt x a || eq x a) = true) (h2 : (lt x b || eq x b) = true) : fin x = true ∧ R a ≤ R x ∧ R x ≤ R b := by
  have hx : fin x = true := by
    obtain ⟨s, m, i, ra⟩ := fin_read ha
    obtain ⟨t, n, j, rb⟩ := fin_read hb
    cases hd : double.read x with
    | number s m e => exact fin_num hd
    | infinity s => cases s <;> simp [gt, lt, eq, FloatKind.format, Format.order, hd, ra, rb, Datum.order] at h1 h2
    | nan s t => simp [gt, lt, eq, FloatKind.format, Format.order, hd, ra, rb, Datum.order] at h1
  refine ⟨hx, ?_, ?_⟩
  · rw [gt_val hx ha, eq_val hx ha] at h1
    simp at h1
    rcases h1 with h | h <;> grind
  · rw [lt_val hx hb, eq_val hx hb] at h2
    simp at h2
    rcases h2 with h | h <;> grind
/-- what 'int(x)' gives of a small number -/
theorem toInt_small {x : Nat} (hx : fin x = true) (h1 : -1048576 ≤ R x) (h2 : R x ≤ 1048576) : ∃ n : Int, floatToIntVal .f64 x .i64 = some n ∧ -1048576 ≤ n ∧ n ≤ 1048576 := by
  obtain ⟨n, e, a, b⟩ := toInt_fin hx
  have hab : ab (R x) ≤ 1048576 := by rcases ab_cases (R x) with ⟨_, h⟩ | ⟨_, h⟩ <;> rw [h] <;> grind
  have n1 : n ≤ 1048576 := by
    have : (n : Rat) ≤ ((1048576 : Int) : Rat) := by simp; grind
    exact Rat.intCast_le_intCast.1 this
  have n2 : -1048576 ≤ n := by
    have : ((-1048576 : Int) : Rat) ≤ (n : Rat) := by simp; grind
    exact Rat.intCast_le_intCast.1 this
  refine ⟨n, ?_, n2, n1⟩
  unfold floatToIntVal
  rw [show FloatKind.decode .f64 x = double.read x from rfl, e]
  simp only
  rw [if_pos]
  exact ⟨by have : IntKind.min .i64 = -9223372036854775808 := by decide
            omega, by have : IntKind.max .i64 = 9223372036854775807 := by decide
                      omega⟩
theorem Z_of_eq {x : Nat} {n : Int} (hx : fin x = true) (h1 : -1048576 ≤ n) (h2 : n ≤ 1048576) (h : eq x (floatOfInt .f64 n) = true) : Z x n := by
  obtain ⟨a, b⟩ := Z.ofInt n (by omega)
  rw [eq_val hx a] at h
  exact ⟨hx, by rw [of_decide_eq_true h, b]⟩
theorem Z.fin {x : Nat} {n : Int} (h : Z x n) : fin x = true := h.1
theorem Z.lt {x y : Nat} {a b : Int} (hx : Z x a) (hy : Z y b) : lt x y = decide (a < b) := by
  rw [lt_val hx.1 hy.1, hx.2, hy.2]; simp only [Rat.intCast_lt_intCast]
theorem Z.gt {x y : Nat} {a b : Int} (hx : Z x a) (hy : Z y b) : gt x y = decide (b < a) := by
  rw [gt_val hx.1 hy.1, hx.2, hy.2]; simp only [Rat.intCast_lt_intCast]
theorem Z.eq {x y : Nat} {a b : Int} (hx : Z x a) (hy : Z y b) : eq x y = decide (a = b) := by
  rw [eq_val hx.1 hy.1, hx.2, hy.2]; simp only [Rat.intCast_inj]
/-- a test for a whole number, as it is typed -/
def wholeB (x : Nat) : Bool := (gt x 13920626448202203136 || eq x 13920626448202203136) && (lt x 4697254411347427328 || eq x 4697254411347427328) && match floatToIntVal .f64 x .i64 with | some n => eq x (floatOfInt .f64 n) | none => false
theorem whole_spec {x : Nat} (h : wholeB x = true) : ∃ n : Int, -1048576 ≤ n ∧ n ≤ 1048576 ∧ Z x n := by
  unfold wholeB at h
  rw [Bool.and_eq_true, Bool.and_eq_true] at h
  obtain ⟨⟨h1, h2⟩, h3⟩ := h
  obtain ⟨hx, a, b⟩ := fin_between fin_m20 fin_20 h1 h2
  rw [R_m20] at a
  rw [R_20] at b
  obtain ⟨n, e, c, d⟩ := toInt_small hx a b
  rw [e] at h3
  exact ⟨n, c, d, Z_of_eq hx c d h3⟩
theorem whole_int {x : Nat} (h1 : (gt x 13920626448202203136 || eq x 13920626448202203136) = true) (h2 : (lt x 4697254411347427328 || eq x 4697254411347427328) = true) : ∃ n : Int, floatToIntVal .f64 x .i64 = some n ∧ wholeB x = eq x (floatOfInt .f64 n) := by
  obtain ⟨hx, a, b⟩ := fin_between fin_m20 fin_20 h1 h2
  rw [R_m20] at a
  rw [R_20] at b
  obtain ⟨n, e, _, _⟩ := toInt_small hx a b
  exact ⟨n, e, by unfold wholeB; rw [h1, h2, e]; simp⟩
end Go.Fr
