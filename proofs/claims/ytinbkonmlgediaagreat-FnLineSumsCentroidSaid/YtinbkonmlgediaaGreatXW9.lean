/-
  FnRunSplit: math.Abs; the walk of the law. No condition.
-/
import Derived.Test.YtinbkonmlgediaaGreatXFa
import Derived.Laws.BitsAllLaws
set_option linter.unusedVariables false
set_option linter.unusedSimpArgs false
namespace Go.Fr
open Ieee Go.Fl Go.Fw
theorem word_lt (neg : Bool) (r : Nat) (h : r < 9223372036854775808) : double.word neg r < 18446744073709551616 := by
  unfold Format.word
  rw [sw]
  cases neg <;> simp <;> omega
theorem write_lt (d : Datum) : double.write d < 18446744073709551616 := by
  cases d with
  | number neg mag place =>
    show double.nearest neg mag place < _
    unfold Format.nearest
    split
    · exact word_lt neg 0 (by decide)
    · simp only [inf]
      exact word_lt _ _ (by omega)
  | infinity neg => exact word_lt _ _ (by rw [inf]; omega)
  | nan neg f =>
    show double.word neg (double.infRung + f % double.binade) < _
    simp only [inf, bin]
    exact word_lt _ _ (by omega)
theorem sub_lt {x y r : Nat} (h : floatBits .sub .f64 x y = some r) : r < 18446744073709551616 := by
  simp only [floatBits, Format.sub, FloatKind.format] at h
  obtain ⟨d, _, rfl⟩ := Option.map_eq_some_iff.1 h
  exact write_lt d
/-- the word without its sign -/
theorem abs_R {x : Nat} (hx : fin x = true) : fin (x % 9223372036854775808) = true ∧ R (x % 9223372036854775808) = ab (R x) := by
  obtain ⟨s, m, e, h⟩ := fin_read hx
  have h' : double.read (x % 9223372036854775808) = .number false m e := by
    unfold Format.read at h ⊢
    simp only [sw, bin, inf, lp] at h ⊢
    have e1 : x % 9223372036854775808 % 9223372036854775808 = x % 9223372036854775808 := Nat.mod_mod _ _
    have e2 : x % 9223372036854775808 / 9223372036854775808 % 2 = 0 := by omega
    simp only [e1, e2]
    split at h
    · rename_i hc
      rw [if_pos hc]
      injection h with _ h2 h3
      subst h2 h3
      rfl
    · rename_i hc
      split at h
      · rename_i hc2
        rw [if_neg hc, if_pos hc2]
        injection h with _ h2 h3
        subst h2 h3
        rfl
      · exfalso; revert h; by_cases hh : x % 9223372036854775808 = 9218868437227405312 <;> simp [hh]
  refine ⟨fin_num h', ?_⟩
  rw [R_num h', R_num h]
  have := mul_nn (nat_nn m) (Rat.le_of_lt (two_pos e))
  rw [(sgn_mul (Rat.le_of_lt (two_pos e)) (rfl : ((sg s m : Int) : Rat) * two e = _)).1, sgR]
  simp
end Go.Fr
namespace Go.Proofs.YtinbkonmlgediaaGreat
open Go.RowKit Go.Fl Go.Sl Go.Pg Go.Ch Go.Kf Go.Fr
theorem ext_bits (x : Nat) (w : World) : (callFunc 60 #[.float .f64 x]).run Tryz.prog w = .ok (.value (.int .u64 x)) w := by
  rw [run_callFunc_extern (e := Extern.MathFloatBits.float64bits) Tryz.func60 (by kernel_rfl) (by kernel_rfl) (by kernel_rfl) (by kernel_rfl)]
  rfl
theorem ext_from (x : Nat) (w : World) : (callFunc 59 #[.int .u64 x]).run Tryz.prog w = .ok (.value (.float .f64 x)) w := by
  rw [run_callFunc_extern (e := Extern.MathFloatBits.float64frombits) Tryz.func59 (by kernel_rfl) (by kernel_rfl) (by kernel_rfl) (by kernel_rfl)]
  rfl
theorem off_sign (x : Nat) (hx : x < 18446744073709551616) : bits .andNot .u64 (x : Int) 9223372036854775808 = ((x % 9223372036854775808 : Nat) : Int) := by
  rw [u64_andNot _ _ (by omega) (by omega) (by omega) (by omega)]
  have : x &&& 9223372036854775807 = x % 9223372036854775808 := Nat.and_two_pow_sub_one_eq_mod x 63
  simp [this]
set_option maxRecDepth 100000 in
theorem mabs_ (x : Nat) (hx : x < 18446744073709551616) (w : World) : Calls Tryz.prog 19 #[.float .f64 x] w (One w (.float .f64 (x % 9223372036854775808))) := by
  have h1 := ext_bits x
  have h2 : ∀ w, (callFunc 59 #[.int .u64 ((x : Int) % 9223372036854775808)]).run Tryz.prog w = .ok (.value (.float .f64 (x % 9223372036854775808))) w := fun w => by rw [show ((x : Int) % 9223372036854775808) = ((x % 9223372036854775808 : Nat) : Int) by omega]; exact ext_from _ w
  have h3 := off_sign x hx
  go_enter Tryz.func19, Tryz.ntmps19
  go_wp2
  go_ret
  exact ⟨rfl, by with_reducible (repeat first | exact Kx.r _ | assumption | refine Kx.a ?_ _ | refine Kx.d ?_ | refine Kx.e ?_ _ | refine Kx.s (by simp <;> omega) ?_ _ | refine Kx.t ?_ (by assumption))⟩
end Go.Proofs.YtinbkonmlgediaaGreat
