/-
  A geometry of a kind that is made of parts. No condition.
-/
import Derived.Test.YtbakhldjfplbfaaGreatXR2
import Derived.Test.YtbakhldjfplbfaaGreatXGrow4
set_option linter.unusedVariables false
set_option linter.unusedSimpArgs false
namespace Go.Proofs.YtbakhldjfplbfaaGreat
open Go.RowKit Go.Fl Go.Sl Go.Pg Go.Ch Go.Kf
theorem newPyA_ {F : Nat → Prop} (al : Option Addr) (m c : Nat) (css : List (List Value)) (ys : List Pg) (w : World) (hz : m = 0 → al = none ∧ c = 0) (hm : m ≤ 250000) (hR : Go.Kf.Rows w F LsR al m c 2 css ys) : Calls Tryz.prog 97 #[.slice al m c] w (RetR w F PyR (wholeP 3 0 ys)) := by
  rcases Nat.eq_zero_or_pos m with h0 | h0
  · subst h0
    obtain ⟨rfl, rfl⟩ := hz rfl
    have : ys = [] := List.length_eq_zero_iff.1 hR.lx
    subst this
    exact newPy0_ w
  · exact newPyN_ al m c css ys w h0 hm hR
theorem newMpA_ {F : Nat → Prop} (al : Option Addr) (m c : Nat) (css : List (List Value)) (ys : List Pg) (w : World) (hz : m = 0 → al = none ∧ c = 0) (hm : m ≤ 250000) (hR : Go.Kf.Rows w F PtR al m c 6 css ys) : Calls Tryz.prog 98 #[.slice al m c] w (RetR w F MpR (wholeP 4 0 ys)) := by
  rcases Nat.eq_zero_or_pos m with h0 | h0
  · subst h0
    obtain ⟨rfl, rfl⟩ := hz rfl
    have : ys = [] := List.length_eq_zero_iff.1 hR.lx
    subst this
    exact newMp0_ none 0 w
  · exact newMpN_ al m c css ys w h0 hm hR
theorem newMlA_ {F : Nat → Prop} (al : Option Addr) (m c : Nat) (css : List (List Value)) (ys : List Pg) (w : World) (hz : m = 0 → al = none ∧ c = 0) (hm : m ≤ 250000) (hR : Go.Kf.Rows w F LsR al m c 2 css ys) : Calls Tryz.prog 99 #[.slice al m c] w (RetR w F MlR (wholeP 5 0 ys)) := by
  rcases Nat.eq_zero_or_pos m with h0 | h0
  · subst h0
    obtain ⟨rfl, rfl⟩ := hz rfl
    have : ys = [] := List.length_eq_zero_iff.1 hR.lx
    subst this
    exact newMl0_ none 0 w
  · exact newMlN_ al m c css ys w h0 hm hR
theorem newMyA_ {F : Nat → Prop} (al : Option Addr) (m c : Nat) (css : List (List Value)) (ys : List Pg) (w : World) (hz : m = 0 → al = none ∧ c = 0) (hm : m ≤ 250000) (hR : Go.Kf.Rows w F PyR al m c 2 css ys) : Calls Tryz.prog 100 #[.slice al m c] w (RetR w F MyR (wholeP 6 0 ys)) := by
  rcases Nat.eq_zero_or_pos m with h0 | h0
  · subst h0
    obtain ⟨rfl, rfl⟩ := hz rfl
    have : ys = [] := List.length_eq_zero_iff.1 hR.lx
    subst this
    exact newMy0_ w
  · exact newMyN_ al m c css ys w h0 hm hR
theorem newGcA_ {F : Nat → Prop} (al : Option Addr) (m c : Nat) (css : List (List Value)) (ys : List Pg) (w : World) (hm : m ≤ 250000) (hR : Go.Kf.Rows w F GeoR al m c 2 css ys) : Calls Tryz.prog 95 #[.slice al m c] w (RetR w F GcR (wholeP 0 0 ys)) := by
  rcases Nat.eq_zero_or_pos m with h0 | h0
  · subst h0
    have : ys = [] := List.length_eq_zero_iff.1 hR.lx
    subst this
    exact newGc0_ al c w
  · exact newGcN_ al m c css ys w h0 hm hR
end Go.Proofs.YtbakhldjfplbfaaGreat
