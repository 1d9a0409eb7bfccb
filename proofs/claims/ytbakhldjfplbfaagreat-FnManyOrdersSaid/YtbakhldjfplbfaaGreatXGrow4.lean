/-
  An own slice that grows thing by thing, its data set in sight. No condition.
-/
import Derived.Test.YtbakhldjfplbfaaGreatXGrow2
import Derived.RegionTactic
set_option linter.unusedVariables false
set_option linter.unusedSimpArgs false
