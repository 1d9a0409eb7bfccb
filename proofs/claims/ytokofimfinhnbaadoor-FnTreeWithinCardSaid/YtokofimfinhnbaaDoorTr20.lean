/-
  The laws of trees: good boxes, good items, the box around items, walked. No condition.
-/
import Derived.Test.YtokofimfinhnbaaDoorTr19
import Derived.Test.YtokofimfinhnbaaDoorFmx
import Derived.Test.YtokofimfinhnbaaDoorMb
set_option linter.unusedVariables false
set_option linter.unusedSimpArgs false
namespace Go.Proofs.YtokofimfinhnbaaDoor
open Go.RowKit Go.Fl Go.Sl Go.Ch Go.Fr Go.Mb
theorem conv_int (x : Nat) (n : Int) (h : floatToIntVal .f64 x .i64 = some n) (w : World) : (convert 26 3 (.float .f64 x)).run Tryd.prog w = .ok (.int .i64 n) w :=
  run_convert_float_int w 26 3 .f64 .i64 x n (by kernel_rfl) Tryd.underlying3 h
set_option maxHeartbeats 1000000 in
theorem kWhole_ (x : Nat) (w : World) : Calls Tryd.prog 17 #[.float .f64 x] w fun e w' => e = .returned (.bool (wholeB x)) ∧ w = w' := by
  by_cases h1 : (gt x 13920626448202203136 || eq x 13920626448202203136) = true
  · by_cases h2 : (lt x 4697254411347427328 || eq x 4697254411347427328) = true
    · obtain ⟨n, hn, hw⟩ := whole_int h1 h2
      have hc := conv_int x n hn
      unfold gt eq at h1
      unfold lt eq at h2
      rw [hw]
      clear hw hn
      go_enter Tryd.func17, Tryd.ntmps17
      go_wp2
      go_ret
      exact ⟨rfl, rfl⟩
    · have hw : wholeB x = false := by unfold wholeB; simp only [Bool.not_eq_true] at h2; rw [h2]; simp
      rw [hw]
      rw [Bool.not_eq_true] at h2
      unfold gt eq at h1
      unfold lt eq at h2
      clear hw
      go_enter Tryd.func17, Tryd.ntmps17
      go_wp2
      go_ret
      exact ⟨rfl, rfl⟩
  · have hw : wholeB x = false := by unfold wholeB; simp only [Bool.not_eq_true] at h1; rw [h1]; simp
    rw [hw]
    rw [Bool.not_eq_true] at h1
    unfold gt eq at h1
    clear hw
    go_enter Tryd.func17, Tryd.ntmps17
    go_wp2
    go_ret
    exact ⟨rfl, rfl⟩
def boxB (x : B4) : Bool := wholeB x.a && wholeB x.b && wholeB x.c && wholeB x.d && (lt x.a x.c || eq x.a x.c) && (lt x.b x.d || eq x.b x.d)
set_option maxRecDepth 100000 in
set_option maxHeartbeats 1000000 in
theorem kBox_ (x : B4) (w : World) : Calls Tryd.prog 11 #[x.val] w (One w (.bool (boxB x))) := by
  obtain ⟨a, b, c, d⟩ := x
  unfold boxB B4.val
  simp only
  cases h1 : wholeB a <;> cases h2 : wholeB b <;> cases h3 : wholeB c <;> cases h4 : wholeB d
  case true.true.true.true =>
    cases h5 : (lt a c || eq a c) with
    | false =>
      unfold lt eq at h5
      go_enter Tryd.func11, Tryd.ntmps11
      go_wp2_with (go_at_call 17; refine (kWhole_ _ _).mono ?_; rintro e w1 ⟨rfl, rfl⟩)
      go_ret
      refine ⟨by simp, ?_⟩
      repeat (first | (with_reducible exact Stab.Keeps.refl _) | (with_reducible assumption) | (with_reducible refine Stab.Keeps.alloc ?_ _) | (with_reducible refine Stab.Keeps.drew ?_) | (with_reducible refine Stab.Keeps.drewN ?_ _) | ((with_reducible refine Stab.Keeps.setCell ?_ ?_ _); focus (first | (simp; done) | (simp; omega))) | (with_reducible refine Stab.Keeps.trans ?_ (by with_reducible assumption)))
    | true =>
      have h6 : (FloatKind.f64.format.order b d == some .lt || FloatKind.f64.format.order b d == some .eq) = (lt b d || eq b d) := rfl
      unfold lt eq at h5
      generalize (lt b d || eq b d) = q at h6 ⊢
      go_enter Tryd.func11, Tryd.ntmps11
      go_wp2_with (go_at_call 17; refine (kWhole_ _ _).mono ?_; rintro e w1 ⟨rfl, rfl⟩)
      go_ret
      refine ⟨by simp, ?_⟩
      repeat (first | (with_reducible exact Stab.Keeps.refl _) | (with_reducible assumption) | (with_reducible refine Stab.Keeps.alloc ?_ _) | (with_reducible refine Stab.Keeps.drew ?_) | (with_reducible refine Stab.Keeps.drewN ?_ _) | ((with_reducible refine Stab.Keeps.setCell ?_ ?_ _); focus (first | (simp; done) | (simp; omega))) | (with_reducible refine Stab.Keeps.trans ?_ (by with_reducible assumption)))
  all_goals
    go_enter Tryd.func11, Tryd.ntmps11
    go_wp2_with (go_at_call 17; refine (kWhole_ _ _).mono ?_; rintro e w1 ⟨rfl, rfl⟩)
    go_ret
    refine ⟨by simp, ?_⟩
    repeat (first | (with_reducible exact Stab.Keeps.refl _) | (with_reducible assumption) | (with_reducible refine Stab.Keeps.alloc ?_ _) | (with_reducible refine Stab.Keeps.drew ?_) | (with_reducible refine Stab.Keeps.drewN ?_ _) | ((with_reducible refine Stab.Keeps.setCell ?_ ?_ _); focus (first | (simp; done) | (simp; omega))) | (with_reducible refine Stab.Keeps.trans ?_ (by with_reducible assumption)))
end Go.Proofs.YtokofimfinhnbaaDoor
