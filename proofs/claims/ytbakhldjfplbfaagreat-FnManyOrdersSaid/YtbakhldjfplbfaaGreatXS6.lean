/-
  The reference's geometries made of plain data: wholes. No condition.
-/
import Derived.Test.YtbakhldjfplbfaaGreatXS5b
set_option linter.unusedVariables false
set_option linter.unusedSimpArgs false
namespace Go.Proofs.YtbakhldjfplbfaaGreat
open Go.RowKit Go.Fl Go.Sl Go.Pg Go.Ch Go.Kf
theorem PgOk.dim4 {p : Pg} (h : PgOk p) : p.dim < 4 := by cases h; assumption
/-- what is asked of the parts -/
def SNew (t : GT) : Prop := ∀ (w : World), t.At w → t.Small → Calls Tryz.prog 13 #[t.hd.val] w (RetR w no GmR (newP t))
theorem i64_andN (a b : Nat) (ha : a < 4) (hb : b < 4) : bits .and .i64 (a : Int) (b : Int) = ((a &&& b : Nat) : Int) := by
  have h1 : a = 0 ∨ a = 1 ∨ a = 2 ∨ a = 3 := by omega
  have h2 : b = 0 ∨ b = 1 ∨ b = 2 ∨ b = 3 := by omega
  rcases h1 with rfl | rfl | rfl | rfl <;> rcases h2 with rfl | rfl | rfl | rfl <;> decide
theorem GmR.kd {w : World} {F : Nat → Prop} {p : Pg} {k d : Int} {r : List Value} (h : GmR w F (.int .i64 k :: .int .i64 d :: r) p) : k = (p.kind : Int) ∧ d = (p.dim : Int) := by
  cases h; exact ⟨rfl, rfl⟩
theorem takes_kid (k : Nat) (p : Pg) (hk : k ≤ 6) (h1 : k ≠ 1) (h2 : k ≠ 2) : takes k p = (decide (kidI k < 0) || decide (kidI k = (p.kind : Int))) := by
  have h : k = 0 ∨ k = 3 ∨ k = 4 ∨ k = 5 ∨ k = 6 := by omega
  generalize hq : p.kind = q
  have ht : ∀ n : Nat, (q == n) = decide ((n : Int) = (q : Int)) := fun n => by
    rw [Bool.eq_iff_iff]
    simp only [beq_iff_eq, decide_eq_true_eq]
    omega
  rcases h with rfl | rfl | rfl | rfl | rfl <;> simp only [takes, kidI, hq]
  · rfl
  · exact ht 2
  · exact ht 1
  · exact ht 2
  · exact ht 3
end Go.Proofs.YtbakhldjfplbfaaGreat
