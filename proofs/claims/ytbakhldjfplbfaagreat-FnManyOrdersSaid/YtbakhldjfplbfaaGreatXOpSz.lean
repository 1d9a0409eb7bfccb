/-
  An argument of geometries opened, with the reach: no slice of it is beyond it. No condition.
-/
import Derived.Test.YtbakhldjfplbfaaGreatXOpSz0
import Derived.Test.YtbakhldjfplbfaaGreatXK
set_option linter.unusedVariables false
set_option linter.unusedSimpArgs false
namespace Go.Proofs.YtbakhldjfplbfaaGreat
open Go.ChangeShapes Go.WideShapes Go.ChangeAt Go.Op2 Go.RowKit Go.Sl
theorem bFloat : Tryz.prog.bytesOf 45 = 8 := by kernel_rfl
theorem bGeom : Tryz.prog.bytesOf 25 = 64 := by kernel_rfl
end Go.Proofs.YtbakhldjfplbfaaGreat
