/-
  Whole numbers as doubles, in the terms of the walks. No condition.
-/
import Derived.Test.YtinbkonmlgediaaGreatXFl
import Derived.Test.YtinbkonmlgediaaGreatXFw
set_option linter.unusedVariables false
set_option linter.unusedSimpArgs false
namespace Go.Fw
open Go.Fl Ieee
end Go.Fw
