/-
  FnRunSplit: rows of places as line strings. No condition.
  FnRunSplit: lengths between places. No condition.
  FnRunSplit: running lengths. No condition.
  FnRunSplit: the interpolator's door, a line string's length. No condition.
  FnRunSplit: the interpolator's door. No condition.
  FnRunSplit: a line string's length, asked of the geometry. No condition.
  FnRunSplit: impl.RunLengths. No condition.
-/
import Derived.Test.YtinbkonmlgediaaGreatXV11
import Derived.Laws.Externs
import Derived.WalkKit
import Derived.WalkSpells
import Derived.WalkLawsBesides
import Derived.Lib.Hide
import Derived.BigQuiet
import Derived.Defers
import Derived.Recover
set_option linter.unusedVariables false
set_option linter.unusedSimpArgs false
namespace Go.Proofs.YtinbkonmlgediaaGreat
open Go.RowKit Go.Fl Go.Sl Go.Pg Go.Ch Go.Kf
/-- a row of places as a shape -/
def rowST (a : Option Addr) (n cap : Nat) (pts : List (Int × Int)) : ST := .node ⟨2, a, n, cap, none, 0, 0⟩ pts []
theorem row_at {w : World} {a : Option Addr} {n cap : Nat} {pts : List (Int × Int)} (hn : pts.length = n) (h : Sz w a n cap 2 (pts.flatMap ptCells)) : (rowST a n cap pts).At w :=
  .mk _ _ _ hn rfl h (Sz.nil _ _) (by simp)
theorem row_geomP (a : Option Addr) (n cap : Nat) (pts : List (Int × Int)) : geomP (rowST a n cap pts) = .node 2 0 (pts.map ptP) [] := by unfold rowST; rw [geomP_eq]; rfl
end Go.Proofs.YtinbkonmlgediaaGreat
set_option linter.unusedVariables false
set_option linter.unusedSimpArgs false
namespace Go.Proofs.YtinbkonmlgediaaGreat
open Go.RowKit Go.Fl Go.Sl Go.Pg Go.Ch Go.Kf
theorem extSqrt (x r : Nat) (h : Ieee.double.sqrt x = some r) (w : World) : (callFunc 195 #[.float .f64 x]).run Tryz.prog w = .ok (.value (.float .f64 r)) w := by
  rw [run_callFunc_extern (e := Extern.MathSqrt.sqrt) Tryz.func195 (by kernel_rfl) (by kernel_rfl) (by kernel_rfl) (by kernel_rfl)]
  change ((match FloatKind.f64.format.sqrt x with | some r => pure (.float .f64 r) | none => do pure (.float .f64 (← choose (.nanBits .f64 x x))) : Sem Value).run Tryz.prog w).andThen _ = _
  rw [show FloatKind.f64.format = Ieee.double from rfl, h]
  rfl
theorem msqrt_ (x r : Nat) (h : Ieee.double.sqrt x = some r) (w : World) : Calls Tryz.prog 163 #[.float .f64 x] w fun e w' => e = .returned (.float .f64 r) ∧ w = w' := by
  have hs := extSqrt x r h
  go_enter Tryz.func163, Tryz.ntmps163
  go_wp2
  go_ret
  exact ⟨rfl, rfl⟩
set_option maxHeartbeats 1000000 in
theorem dot_ (x y a b p q s : Nat) (h1 : floatBits .mul .f64 x a = some p) (h2 : floatBits .mul .f64 y b = some q) (h3 : floatBits .add .f64 p q = some s) (w : World) :
    Calls Tryz.prog 196 #[.agg #[.float .f64 x, .float .f64 y], .agg #[.float .f64 a, .float .f64 b]] w (One w (.float .f64 s)) := by
  have v1 := fun w => opV_some h1 w
  have v2 := fun w => opV_some h2 w
  have v3 := fun w => opV_some h3 w
  have n1 := opN_some h1
  have n2 := opN_some h2
  have n3 := opN_some h3
  have hz := World.drewN_zero
  go_enter Tryz.func196, Tryz.ntmps196
  go_wp2
  go_ret
  refine ⟨rfl, ?_⟩
  with_reducible (repeat first | exact Kx.r _ | assumption | refine Kx.a ?_ _ | refine Kx.d ?_ | refine Kx.e ?_ _ | refine Kx.s (by simp <;> omega) ?_ _ | refine Kx.t ?_ (by assumption))
structure Vec (x y p q s l : Nat) : Prop where
  h1 : floatBits .mul .f64 x x = some p
  h2 : floatBits .mul .f64 y y = some q
  h3 : floatBits .add .f64 p q = some s
  h4 : Ieee.double.sqrt s = some l
/-- from (x, y) to (a, b): the differences u, v, the length l -/
structure Dst (x y a b u v p q s l : Nat) : Prop where
  d1 : floatBits .sub .f64 a x = some u
  d2 : floatBits .sub .f64 b y = some v
  vec : Vec u v p q s l
theorem sub_ {x y a b u v : Nat} (h1 : floatBits .sub .f64 x a = some u) (h2 : floatBits .sub .f64 y b = some v) (w : World) : Calls Tryz.prog 176 #[.agg #[.float .f64 x, .float .f64 y], .agg #[.float .f64 a, .float .f64 b]] w (One w (.agg #[.float .f64 u, .float .f64 v])) := by
  have v1 := fun w => opV_some h1 w
  have v2 := fun w => opV_some h2 w
  have n1 := opN_some h1
  have n2 := opN_some h2
  have hz := World.drewN_zero
  go_enter Tryz.func176, Tryz.ntmps176
  go_wp2
  refine bodyPost_ret (v := .agg #[.float .f64 u, .float .f64 v]) (by simp [results, Tryz.results176, go_sem, *]) rfl ⟨rfl, ?_⟩
  with_reducible (repeat first | exact Kx.r _ | assumption | refine Kx.a ?_ _ | refine Kx.d ?_ | refine Kx.e ?_ _ | refine Kx.s (by simp <;> omega) ?_ _ | refine Kx.t ?_ (by assumption))
theorem distSq_ {x y a b u v p q s l : Nat} (h : Dst x y a b u v p q s l) (w : World) : Calls Tryz.prog 164 #[.agg #[.float .f64 x, .float .f64 y], .agg #[.float .f64 a, .float .f64 b]] w (One w (.float .f64 s)) := by
  go_enter Tryz.func164, Tryz.ntmps164
  go_wp2_with fail
  refine (sub_ h.d1 h.d2 _).mono ?_
  rintro e w2 ⟨rfl, hb2⟩
  go_wp2_with fail
  refine (dot_ _ _ _ _ _ _ _ h.vec.h1 h.vec.h2 h.vec.h3 _).mono ?_
  rintro e w3 ⟨rfl, hb3⟩
  go_wp2_with fail
  go_ret
  refine ⟨rfl, ?_⟩
  with_reducible (repeat first | exact Kx.r _ | assumption | refine Kx.a ?_ _ | refine Kx.d ?_ | refine Kx.e ?_ _ | refine Kx.s (by simp <;> omega) ?_ _ | refine Kx.t ?_ (by assumption))
theorem distTo_ {x y a b u v p q s l : Nat} (h : Dst x y a b u v p q s l) (w : World) : Calls Tryz.prog 122 #[.agg #[.float .f64 x, .float .f64 y], .agg #[.float .f64 a, .float .f64 b]] w (One w (.float .f64 l)) := by
  go_enter Tryz.func122, Tryz.ntmps122
  go_wp2_with fail
  refine (distSq_ h _).mono ?_
  rintro e w2 ⟨rfl, hb2⟩
  go_wp2_with fail
  refine (msqrt_ _ _ h.vec.h4 _).mono ?_
  rintro e w3 ⟨rfl, rfl⟩
  go_wp2_with fail
  go_ret
  refine ⟨rfl, ?_⟩
  with_reducible (repeat first | exact Kx.r _ | assumption | refine Kx.a ?_ _ | refine Kx.d ?_ | refine Kx.e ?_ _ | refine Kx.s (by simp <;> omega) ?_ _ | refine Kx.t ?_ (by assumption))
end Go.Proofs.YtinbkonmlgediaaGreat
set_option linter.unusedVariables false
set_option linter.unusedSimpArgs false
namespace Go.Kf
open Go.RowKit Go.Sl Go.Ch
variable {α : Type} {R : World → (Nat → Prop) → List Value → α → Prop} {w wr w4 : World} {F : Nat → Prop} {fb n k kc : Nat} {css : List (List Value)} {ys : List α}
end Go.Kf
set_option linter.unusedVariables false
set_option linter.unusedSimpArgs false
set_option linter.unusedVariables false
set_option linter.unusedSimpArgs false
set_option linter.unusedVariables false
set_option linter.unusedSimpArgs false
set_option linter.unusedVariables false
set_option linter.unusedSimpArgs false
