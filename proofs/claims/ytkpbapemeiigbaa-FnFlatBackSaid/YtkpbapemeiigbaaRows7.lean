/-
  A line whose places lie within a bound: the law's own question. No condition.
-/
import Derived.Test.YtkpbapemeiigbaaRows6
set_option linter.unusedVariables false
set_option linter.unusedSimpArgs false
namespace Go.Proofs.Ytkpbapemeiigbaa
open Go.RowKit Go.Fl Go.Sl
theorem formed_ (a : Option Addr) (n cap : Nat) (l : List (Int × Int)) (most : Int) (w : World) (hn : l.length = n) (hs : n ≤ 1000000) (h : Sl w a n cap 2 (encP l)) (h0 : 0 ≤ most) (h1 : most ≤ 2 ^ 40) :
    Calls Try.prog 23 #[.agg #[.int .i64 2, .slice a n cap, .slice none 0 0], .int .i64 most] w (OneV w (.bool (l.all (inB most)))) := by
  have hP := fun w' (hk : Stab.Keeps w w') => formedBelow_ a n cap l most w' hn hs (h.keep hk) h0 h1
  clear h
  go_enter Try.func23, Try.ntmps23
  go_wp2_with fail
  refine (hP _ (by repeat (first | (with_reducible exact Stab.Keeps.refl _) | (with_reducible assumption) | (with_reducible refine Stab.Keeps.alloc ?_ _) | (with_reducible refine Stab.Keeps.drew ?_) | (with_reducible refine Stab.Keeps.drewN ?_ _) | ((with_reducible refine Stab.Keeps.setCell ?_ ?_ _); focus (first | (simp; done) | (simp; omega))) | (with_reducible refine Stab.Keeps.trans ?_ (by with_reducible assumption))))).mono ?_
  rintro e w2 ⟨rfl, hk⟩
  clear hP
  go_wp2
  go_ret
  refine ⟨rfl, ?_⟩
  repeat (first | (with_reducible exact Stab.Keeps.refl _) | (with_reducible assumption) | (with_reducible refine Stab.Keeps.alloc ?_ _) | (with_reducible refine Stab.Keeps.drew ?_) | (with_reducible refine Stab.Keeps.drewN ?_ _) | ((with_reducible refine Stab.Keeps.setCell ?_ ?_ _); focus (first | (simp; done) | (simp; omega))) | (with_reducible refine Stab.Keeps.trans ?_ (by with_reducible assumption)))
theorem lined_ (a : Option Addr) (n cap : Nat) (l : List (Int × Int)) (most : Int) (w : World) (hn : l.length = n) (hs : n ≤ 1000000) (h : Sl w a n cap 2 (encP l)) (h0 : 0 ≤ most) (h1 : most ≤ 2 ^ 40) :
    Calls Try.prog 9 #[.slice a n cap, .int .i64 most] w (OneV w (.bool (decide (n ≤ 200) && l.all (inB most)))) := by
  have hP := fun w' (hk : Stab.Keeps w w') => formed_ a n cap l most w' hn hs (h.keep hk) h0 h1
  clear h
  by_cases hc : (n : Int) ≤ 200
  · have e1 : decide (n ≤ 200) = true := by simp; omega
    rw [e1, Bool.true_and]
    clear e1
    go_enter Try.func9, Try.ntmps9
    go_wp2_with fail
    refine (hP _ (by repeat (first | (with_reducible exact Stab.Keeps.refl _) | (with_reducible assumption) | (with_reducible refine Stab.Keeps.alloc ?_ _) | (with_reducible refine Stab.Keeps.drew ?_) | (with_reducible refine Stab.Keeps.drewN ?_ _) | ((with_reducible refine Stab.Keeps.setCell ?_ ?_ _); focus (first | (simp; done) | (simp; omega))) | (with_reducible refine Stab.Keeps.trans ?_ (by with_reducible assumption))))).mono ?_
    rintro e w2 ⟨rfl, hk⟩
    clear hP
    cases hx : l.all (inB most)
    all_goals
      go_wp2
      go_ret
      refine ⟨congrArg (fun b => Ending.returned (.bool b)) hx.symm, ?_⟩
      repeat (first | (with_reducible exact Stab.Keeps.refl _) | (with_reducible assumption) | (with_reducible refine Stab.Keeps.alloc ?_ _) | (with_reducible refine Stab.Keeps.drew ?_) | (with_reducible refine Stab.Keeps.drewN ?_ _) | ((with_reducible refine Stab.Keeps.setCell ?_ ?_ _); focus (first | (simp; done) | (simp; omega))) | (with_reducible refine Stab.Keeps.trans ?_ (by with_reducible assumption)))

  · have e1 : decide (n ≤ 200) = false := by simp; omega
    rw [e1, Bool.false_and]
    clear e1
    go_enter Try.func9, Try.ntmps9
    go_wp2_with fail
    go_ret
    refine ⟨rfl, ?_⟩
    repeat (first | (with_reducible exact Stab.Keeps.refl _) | (with_reducible assumption) | (with_reducible refine Stab.Keeps.alloc ?_ _) | (with_reducible refine Stab.Keeps.drew ?_) | (with_reducible refine Stab.Keeps.drewN ?_ _) | ((with_reducible refine Stab.Keeps.setCell ?_ ?_ _); focus (first | (simp; done) | (simp; omega))) | (with_reducible refine Stab.Keeps.trans ?_ (by with_reducible assumption)))
end Go.Proofs.Ytkpbapemeiigbaa
