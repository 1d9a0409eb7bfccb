/-
  Which plain data are small: deep, weight. No condition.
  All numbers of plain data. No condition.
  Plain data compared: like data are alike. No condition.
  Which plain data a law speaks of. No condition.
-/
import Derived.Test.YtinbkonmlgediaaGreatXSb
import Derived.Test.YtinbkonmlgediaaGreatXOpGeo
import Derived.Test.YtinbkonmlgediaaGreatXHb
set_option linter.unusedVariables false
set_option linter.unusedSimpArgs false
set_option linter.unusedVariables false
set_option linter.unusedSimpArgs false
set_option linter.unusedVariables false
set_option linter.unusedSimpArgs false
set_option linter.unusedVariables false
set_option linter.unusedSimpArgs false
