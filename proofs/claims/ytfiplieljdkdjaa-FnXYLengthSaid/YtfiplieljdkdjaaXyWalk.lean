/-
  FnXYLength: the walk over the functions. No condition.
-/
import Derived.Test.YtfiplieljdkdjaaProg
import Derived.Test.YtfiplieljdkdjaaFr4
import Derived.Test.YtfiplieljdkdjaaStab
import Derived.WalkKit
import Derived.WalkSpells
import Derived.WalkLawsBesides
import Derived.Lib.Hide
import Derived.BigQuiet
set_option linter.unusedVariables false
set_option linter.unusedSimpArgs false
namespace Go.Proofs.Ytfiplieljdkdjaa
open Go.RowKit Go.Fl Go.Fr

def One (w : World) (v : Value) (e : Ending) (w' : World) : Prop := e = .returned v ∧ Stab.Keeps w w'
theorem conv_int (x : Nat) (n : Int) (h : floatToIntVal .f64 x .i64 = some n) (w : World) : (convert 22 3 (.float .f64 x)).run Try.prog w = .ok (.int .i64 n) w :=
  run_convert_float_int w 22 3 .f64 .i64 x n (by kernel_rfl) Try.underlying3 h
set_option maxHeartbeats 1000000 in
theorem kWhole_ (x : Nat) (w : World) : Calls Try.prog 4 #[.float .f64 x] w fun e w' => e = .returned (.bool (wholeB x)) ∧ w = w' := by
  by_cases h1 : (gt x 13920626448202203136 || eq x 13920626448202203136) = true
  · by_cases h2 : (lt x 4697254411347427328 || eq x 4697254411347427328) = true
    · obtain ⟨n, hn, hw⟩ := whole_int h1 h2
      have hc := conv_int x n hn
      unfold gt eq at h1
      unfold lt eq at h2
      rw [hw]
      clear hw hn
      go_enter Try.func4, Try.ntmps4
      go_wp2
      go_ret
      exact ⟨rfl, rfl⟩
    · have hw : wholeB x = false := by unfold wholeB; simp only [Bool.not_eq_true] at h2; rw [h2]; simp
      rw [hw]
      rw [Bool.not_eq_true] at h2
      unfold gt eq at h1
      unfold lt eq at h2
      clear hw
      go_enter Try.func4, Try.ntmps4
      go_wp2
      go_ret
      exact ⟨rfl, rfl⟩
  · have hw : wholeB x = false := by unfold wholeB; simp only [Bool.not_eq_true] at h1; rw [h1]; simp
    rw [hw]
    rw [Bool.not_eq_true] at h1
    unfold gt eq at h1
    clear hw
    go_enter Try.func4, Try.ntmps4
    go_wp2
    go_ret
    exact ⟨rfl, rfl⟩
end Go.Proofs.Ytfiplieljdkdjaa
