/-
  Geometries and collections made of plain data. No condition.
-/
import Derived.Test.YtbakhldjfplbfaaGreatXH6
set_option linter.unusedVariables false
set_option linter.unusedSimpArgs false
namespace Go.Proofs.YtbakhldjfplbfaaGreat
open Go.RowKit Go.Fl Go.Sl Go.Pg Go.Ch Go.Kf
theorem GT.ind {P : GT → Prop} (h : ∀ g nums kids, (∀ c ∈ kids, P c) → P (.node g nums kids)) : ∀ p, P p
  | .node g nums kids => h g nums kids (fun c hc => GT.ind h c)
termination_by p => SizeOf.sizeOf p
decreasing_by
  have := List.sizeOf_lt_of_mem hc
  simp
  omega
end Go.Proofs.YtbakhldjfplbfaaGreat
