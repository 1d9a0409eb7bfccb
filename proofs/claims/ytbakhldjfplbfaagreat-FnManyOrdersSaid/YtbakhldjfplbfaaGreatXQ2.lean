/-
  The lists of sequences of polygons, lines, polygons of a multi. No condition.
-/
import Derived.Test.YtbakhldjfplbfaaGreatXQ1
import Derived.Test.YtbakhldjfplbfaaGreatXHb
set_option linter.unusedVariables false
set_option linter.unusedSimpArgs false
namespace Go.Proofs.YtbakhldjfplbfaaGreat
open Go.RowKit Go.Fl Go.Sl Go.Pg Go.Ch Go.Kf
theorem numMp_ (a : Option Addr) (n cap d : Nat) (w : World) : Calls Tryz.prog 144 #[.agg #[.slice a n cap, .int .u8 d]] w (One w (.int .u8 d)) := by
  go_enter Tryz.func144, Tryz.ntmps144
  go_wp2
  go_ret
  exact ⟨rfl, by with_reducible (repeat first | exact Kx.r _ | assumption | refine Kx.a ?_ _ | refine Kx.d ?_ | refine Kx.e ?_ _ | refine Kx.s (by simp <;> omega) ?_ _ | refine Kx.t ?_ (by assumption))⟩
set_option maxRecDepth 100000 in
theorem geoType_ (k : Int) (T : TypeId) (b : Nat) (w : World) : Calls Tryz.prog 66 #[.agg #[.int .i64 k, .iface T (.pointer (some ⟨b, 0, none⟩))]] w (One w (.int .i64 k)) := by
  go_enter Tryz.func66, Tryz.ntmps66
  go_wp2
  go_ret
  exact ⟨rfl, by with_reducible (repeat first | exact Kx.r _ | assumption | refine Kx.a ?_ _ | refine Kx.d ?_ | refine Kx.e ?_ _ | refine Kx.s (by simp <;> omega) ?_ _ | refine Kx.t ?_ (by assumption))⟩
end Go.Proofs.YtbakhldjfplbfaaGreat
