/-
  The reference's numbers of places; geometries brought to another type by the reference. No condition.
  Geometries brought to another type by the reference. No condition.
  The reference's geometries made of plain data: leaves. No condition.
-/
import Derived.Test.YtinbkonmlgediaaGreatXS1
import Derived.Test.YtinbkonmlgediaaGreatXGrow2
import Derived.Deep.RegionHeld3
import Derived.Deep.AppendLies
set_option linter.unusedVariables false
set_option linter.unusedSimpArgs false
namespace Go.Proofs.YtinbkonmlgediaaGreat
open Go.RowKit Go.Fl Go.Sl Go.Pg Go.Ch Go.Kf
theorem blk_grown_own {w w' : World} {t : Nat} {T e : TypeId} {vs : List Value} {base k n : Nat} {v : Value} {xs : List Value} (hB : Blk w t T vs) (ho : w.ownsRow base e k v n xs) (hne : T ≠ e) (hg : w.grownBy w' v.ownBlock) : Blk w' t T vs := by
  refine hB.grown hg fun h => ?_
  rcases ho.2 with ⟨rfl, _⟩ | ⟨g, cap, cur, rfl, _, hg2, _⟩
  · cases h
  · simp only [Value.ownBlock, Option.some.injEq] at h
    subst h
    unfold Blk at hB
    rw [hB] at hg2
    injection hg2 with hg2
    injection hg2 with _ h2
    exact hne h2
end Go.Proofs.YtinbkonmlgediaaGreat
set_option linter.unusedVariables false
set_option linter.unusedSimpArgs false
set_option linter.unusedVariables false
set_option linter.unusedSimpArgs false
