/-
  FnXYLength: lengths and unit vectors, walked. No condition.
-/
import Derived.Test.YtfiplieljdkdjaaXyWalk
import Derived.Laws.Externs
set_option linter.unusedVariables false
set_option linter.unusedSimpArgs false
namespace Go.Proofs.Ytfiplieljdkdjaa
open Go.RowKit Go.Fl Go.Fr

theorem extSqrt (x r : Nat) (h : Ieee.double.sqrt x = some r) (w : World) : (callFunc 15 #[.float .f64 x]).run Try.prog w = .ok (.value (.float .f64 r)) w := by
  rw [run_callFunc_extern (e := Extern.MathSqrt.sqrt) Try.func15 (by kernel_rfl) (by kernel_rfl) (by kernel_rfl) (by kernel_rfl)]
  change ((match FloatKind.f64.format.sqrt x with | some r => pure (.float .f64 r) | none => do pure (.float .f64 (← choose (.nanBits .f64 x x))) : Sem Value).run Try.prog w).andThen _ = _
  rw [show FloatKind.f64.format = Ieee.double from rfl, h]
  rfl
theorem msqrt_ (x r : Nat) (h : Ieee.double.sqrt x = some r) (w : World) : Calls Try.prog 12 #[.float .f64 x] w fun e w' => e = .returned (.float .f64 r) ∧ w = w' := by
  have hs := extSqrt x r h
  go_enter Try.func12, Try.ntmps12
  go_wp2
  go_ret
  exact ⟨rfl, rfl⟩
set_option maxHeartbeats 1000000 in
theorem dot_ (x y a b p q s : Nat) (h1 : floatBits .mul .f64 x a = some p) (h2 : floatBits .mul .f64 y b = some q) (h3 : floatBits .add .f64 p q = some s) (w : World) :
    Calls Try.prog 16 #[.agg #[.float .f64 x, .float .f64 y], .agg #[.float .f64 a, .float .f64 b]] w (One w (.float .f64 s)) := by
  have v1 := fun w => opV_some h1 w
  have v2 := fun w => opV_some h2 w
  have v3 := fun w => opV_some h3 w
  have n1 := opN_some h1
  have n2 := opN_some h2
  have n3 := opN_some h3
  have hz := World.drewN_zero
  go_enter Try.func16, Try.ntmps16
  go_wp2
  go_ret
  refine ⟨rfl, ?_⟩
  repeat (first | (with_reducible exact Stab.Keeps.refl _) | (with_reducible assumption) | (with_reducible refine Stab.Keeps.alloc ?_ _) | (with_reducible refine Stab.Keeps.drew ?_) | (with_reducible refine Stab.Keeps.drewN ?_ _) | ((with_reducible refine Stab.Keeps.setCell ?_ ?_ _); focus (first | (simp; done) | (simp; omega))) | (with_reducible refine Stab.Keeps.trans ?_ (by with_reducible assumption)))
theorem scale_ (x y a p q : Nat) (h1 : ∀ w, opV .mul x a w = p) (h2 : ∀ w, opV .mul y a w = q) (w : World) :
    Calls Try.prog 14 #[.agg #[.float .f64 x, .float .f64 y], .float .f64 a] w (One w (.agg #[.float .f64 p, .float .f64 q])) := by
  go_enter Try.func14, Try.ntmps14
  go_wp2
  refine bodyPost_ret (v := .agg #[.float .f64 p, .float .f64 q]) (by simp [results, Try.results14, go_sem]) rfl ⟨rfl, ?_⟩
  repeat (first | (with_reducible exact Stab.Keeps.refl _) | (with_reducible assumption) | (with_reducible refine Stab.Keeps.alloc ?_ _) | (with_reducible refine Stab.Keeps.drew ?_) | (with_reducible refine Stab.Keeps.drewN ?_ _) | ((with_reducible refine Stab.Keeps.setCell ?_ ?_ _); focus (first | (simp; done) | (simp; omega))) | (with_reducible refine Stab.Keeps.trans ?_ (by with_reducible assumption)))
def Nan2 (w : World) (e : Ending) (w' : World) : Prop := ∃ p q, e = .returned (.agg #[.float .f64 p, .float .f64 q]) ∧ isNaN p = true ∧ isNaN q = true ∧ Stab.Keeps w w'
theorem scaleNan_ (x y a : Nat) (h1 : floatBits .mul .f64 x a = none) (h2 : floatBits .mul .f64 y a = none) (w : World) :
    Calls Try.prog 14 #[.agg #[.float .f64 x, .float .f64 y], .float .f64 a] w (Nan2 w) := by
  have k1 := fun w => opV_none h1 w
  have k2 := fun w => opV_none h2 w
  go_enter Try.func14, Try.ntmps14
  go_wp2
  refine bodyPost_ret (v := .agg #[.float .f64 _, .float .f64 _]) (by simp [results, Try.results14, go_sem]; exact ⟨rfl, rfl⟩) rfl ⟨_, _, rfl, k1 _, k2 _, ?_⟩
  repeat (first | (with_reducible exact Stab.Keeps.refl _) | (with_reducible assumption) | (with_reducible refine Stab.Keeps.alloc ?_ _) | (with_reducible refine Stab.Keeps.drew ?_) | (with_reducible refine Stab.Keeps.drewN ?_ _) | ((with_reducible refine Stab.Keeps.setCell ?_ ?_ _); focus (first | (simp; done) | (simp; omega))) | (with_reducible refine Stab.Keeps.trans ?_ (by with_reducible assumption)))
end Go.Proofs.Ytfiplieljdkdjaa
