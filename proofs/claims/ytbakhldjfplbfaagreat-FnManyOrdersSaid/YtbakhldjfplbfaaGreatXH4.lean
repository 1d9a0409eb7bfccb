/-
  Polygons and multis made of plain data. No condition.
-/
import Derived.Test.YtbakhldjfplbfaaGreatXNp
set_option linter.unusedVariables false
set_option linter.unusedSimpArgs false
