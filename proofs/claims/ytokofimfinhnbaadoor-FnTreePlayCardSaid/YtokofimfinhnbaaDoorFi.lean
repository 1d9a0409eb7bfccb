/-
  Doubles that are whole numbers: int(x) is that number. No condition.
-/
import Derived.Test.YtokofimfinhnbaaDoorFr4
set_option linter.unusedVariables false
set_option linter.unusedSimpArgs false
namespace Go.Fr
open Ieee Go.Fl Go.Fw
theorem cut_zero_exact (neg : Bool) (N d : Nat) : Toward.zero.cut neg (N * 2 ^ d) d = N := by
  unfold Toward.cut
  simp only [Nat.one_shiftLeft, Bool.toNat_false, Nat.add_zero]
  rcases Nat.le_total d ((N * 2 ^ d).log2 + 2) with h | h
  · rw [Nat.min_eq_left h]
    exact Nat.mul_div_cancel _ (Nat.two_pow_pos d)
  · rw [Nat.min_eq_right h]
    have hn : N * 2 ^ d < 2 ^ ((N * 2 ^ d).log2 + 1) := Nat.lt_log2_self
    have h3 : 2 ^ ((N * 2 ^ d).log2 + 1) ≤ 2 ^ d := Nat.pow_le_pow_right (by omega) (by omega)
    have h0 : N = 0 := by
      rcases Nat.eq_zero_or_pos N with h0 | h0
      · exact h0
      · have := Nat.mul_le_mul_right (2 ^ d) h0
        omega
    subst h0
    simp
theorem toInt_Z {x : Nat} {n : Int} (h : Z x n) (hn : n.natAbs < 9223372036854775807) : floatToIntVal .f64 x .i64 = some n := by
  obtain ⟨hx, hr⟩ := h
  obtain ⟨s, m, i, h1⟩ := fin_read hx
  rw [R_num h1] at hr
  have hm : m <<< i.toNat = n.natAbs * 2 ^ (-i).toNat := by
    rw [Nat.shiftLeft_eq]
    have e : two i * ((2 ^ (-i).toNat : Nat) : Rat) = ((2 ^ i.toNat : Nat) : Rat) := by
      rw [← two_nat, ← two_nat, ← two_add]; congr 1; omega
    have h2 : ((m : Nat) : Rat) * two i = ((n.natAbs : Nat) : Rat) := by
      have h0 : (0 : Rat) ≤ (m : Rat) * two i := by
        have h5 := nat_nn m
        have h6 := Rat.le_of_lt (two_pos i)
        exact Rat.mul_nonneg h5 h6
      rw [sgR] at hr
      cases s with
      | false =>
        simp at hr
        have h3 : (0 : Rat) ≤ (n : Rat) := by rw [← hr]; exact h0
        have h4 : 0 ≤ n := Rat.intCast_nonneg.1 h3
        rw [hr, ← Rat.intCast_natCast]
        congr 1
        omega
      | true =>
        simp at hr
        have h3 : (n : Rat) ≤ 0 := by rw [← hr]; grind
        have h4 : n ≤ 0 := Rat.intCast_nonpos.1 h3
        have h5 : ((n.natAbs : Nat) : Rat) = -(n : Rat) := by
          rw [← Rat.intCast_natCast, ← Rat.intCast_neg]
          congr 1
          omega
        rw [h5, ← hr]
        grind
    have h3 : ((m * 2 ^ i.toNat : Nat) : Rat) = ((n.natAbs * 2 ^ (-i).toNat : Nat) : Rat) := by
      rw [Rat.natCast_mul, Rat.natCast_mul, ← e, ← h2]
      grind
    exact Rat.natCast_inj.1 h3
  unfold floatToIntVal
  rw [show FloatKind.decode .f64 x = double.read x from rfl, h1]
  have hv : (Datum.number s m i).toInt .zero = some n := by
    show some _ = some n
    rw [signed_eq, Int.pow_zero, Int.mul_one, hm, cut_zero_exact]
    congr 1
    rw [sgR] at hr
    have hmz : n.natAbs = 0 → n = 0 := by omega
    have h0 : (0 : Rat) ≤ (m : Rat) * two i := Rat.mul_nonneg (nat_nn m) (Rat.le_of_lt (two_pos i))
    cases s with
    | false =>
      simp at hr
      have h3 : (0 : Rat) ≤ (n : Rat) := by rw [← hr]; exact h0
      have h4 : 0 ≤ n := Rat.intCast_nonneg.1 h3
      simp [sg]
      omega
    | true =>
      simp at hr
      have h3 : (n : Rat) ≤ 0 := by rw [← hr]; grind
      have h4 : n ≤ 0 := Rat.intCast_nonpos.1 h3
      simp [sg]
      omega
  rw [hv]
  simp only
  rw [if_pos]
  exact ⟨by have : IntKind.min .i64 = -9223372036854775808 := by decide
            omega, by have : IntKind.max .i64 = 9223372036854775807 := by decide
                      omega⟩
end Go.Fr
