/-
  The lists of sequences of polygons, lines, polygons of a multi. No condition.
-/
import Derived.Test.YtinbkonmlgediaaGreatXKa
import Derived.Test.YtinbkonmlgediaaGreatXHb
set_option linter.unusedVariables false
set_option linter.unusedSimpArgs false
namespace Go.Kf
open Go.RowKit Go.Sl Go.Ch
variable {α : Type} {R : World → (Nat → Prop) → List Value → α → Prop} {w wr w4 : World} {F : Nat → Prop} {fb n k kc : Nat} {css : List (List Value)} {ys : List α}
end Go.Kf
