/-
  Arguments opened: floats, structs of floats. No condition.
-/
import Derived.ProofKit
import Derived.OpenShut
set_option linter.unusedVariables false
set_option linter.unusedSimpArgs false
namespace Go.Op2
open Go.ChangeShapes Go.WideShapes Go.ChangeAt Go.RowKit
variable {H : Type} {enc : TypeId × Value → H} {P : Program} {w : World} {base : Nat} {spare : Nat → Bool} {held : Bool} {fuel : Nat} {t : TypeId} {cs : List Value} {x : DataW H × List MemPlace}

theorem trod_int' {k : IntKind} (ht : P.underlying t = some (.int k)) (h : DataW.trod enc P w base spare held fuel t cs = some x) : ∃ n, cs = [.int k n] ∧ (Lit.int k n).wf = true := by
  cases fuel with
  | zero => simp [DataW.trod] at h
  | succ n =>
    unfold DataW.trod at h
    rw [ht] at h
    split at h <;> simp_all
end Go.Op2
