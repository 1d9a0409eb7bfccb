/-
  The reference's small functions: width, kinds, places of numbers, numbers of places. No condition.
-/
import Derived.Test.YtinbkonmlgediaaGreatXHc
set_option linter.unusedVariables false
set_option linter.unusedSimpArgs false
namespace Go.Proofs.YtinbkonmlgediaaGreat
open Go.RowKit Go.Fl Go.Sl Go.Pg Go.Ch Go.Kf
/-- plain data of a geometry: four cells -/
inductive GmR (w : World) (F : Nat → Prop) : List Value → Pg → Prop where
  | mk (k d : Nat) (ps : List Pl) (kids : List Pg) (na ka : Option Addr) (nn nc kn kc : Nat) (css : List (List Value)) (hn : nn = (numsOf d ps).length) (h1 : SzF w F na nn nc 1 (encN (numsOf d ps))) (lc : css.length = kn) (lx : kids.length = kn) (each : ∀ c ∈ css, c.length = 4) (sz : SzF w F ka kn kc 4 css.flatten)
      (is : ∀ i (h1 : i < css.length) (h2 : i < kids.length), GmR w F css[i] kids[i]) : GmR w F [.int .i64 (k : Nat), .int .i64 (d : Nat), .slice na nn nc, .slice ka kn kc] (.node k d ps kids)
theorem gmS : Stable GmR := by
  constructor
  · intro w w' F c x h hk
    induction h with
    | mk k d ps kids na ka nn nc kn kc css hn h1 lc lx each sz is ih => exact .mk k d ps kids na ka nn nc kn kc css hn (h1.kf hk) lc lx each (sz.kf hk) (fun i h1 h2 => ih i h1 h2)
  · intro w F G c x h hG
    induction h with
    | mk k d ps kids na ka nn nc kn kc css hn h1 lc lx each sz is ih => exact .mk k d ps kids na ka nn nc kn kc css hn (h1.mono hG) lc lx each (sz.mono hG) (fun i h1 h2 => ih i h1 h2)
theorem GmR.four {w : World} {F : Nat → Prop} {cs : List Value} {p : Pg} (h : GmR w F cs p) : ∃ (k d : Nat) (na : Option Addr) (nn nc : Nat) (ka : Option Addr) (kn kc : Nat), cs = [.int .i64 k, .int .i64 d, .slice na nn nc, .slice ka kn kc] := by
  cases h; exact ⟨_, _, _, _, _, _, _, _, rfl⟩
theorem GmR.ones {w : World} {F : Nat → Prop} {cs : List Value} {p : Pg} (h : GmR w F cs p) : ∀ u ∈ cs, u.oneCell' = true := by
  obtain ⟨k, d, na, nn, nc, ka, kn, kc, rfl⟩ := h.four
  intro u hu; simp at hu; rcases hu with rfl | rfl | rfl | rfl <;> rfl
end Go.Proofs.YtinbkonmlgediaaGreat
