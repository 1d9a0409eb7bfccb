/-
  Numbers as bytes; a number put into bytes that are there. No condition.
-/
import Derived.Test.YtinbkonmlgediaaGreatXRl
import Derived.Laws.BitsAllLaws
set_option linter.unusedVariables false
set_option linter.unusedSimpArgs false
namespace Go.By
open Go.RowKit
end Go.By
