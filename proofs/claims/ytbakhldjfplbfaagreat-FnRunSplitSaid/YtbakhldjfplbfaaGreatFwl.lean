/-
  Whole numbers as doubles, in the terms of the walks. No condition.
-/
import Derived.Test.YtbakhldjfplbfaaGreatFl
import Derived.Test.YtbakhldjfplbfaaGreatFw
set_option linter.unusedVariables false
set_option linter.unusedSimpArgs false
namespace Go.Fw
open Go.Fl Ieee
theorem Is.fin {b : Nat} {n : Int} (h : Is b n) : fin b = true := by
  obtain ⟨s, m, e, K, h, _⟩ := h
  simp [Go.Fl.fin, h]
theorem is_fi {n : Int} (h0 : -9007199254740992 < n) (h1 : n < 9007199254740992) : Is (floatOfInt .f64 n) n := is_int n (by omega)
end Go.Fw
