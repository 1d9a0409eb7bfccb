/-
  The reference's geometries made of plain data: leaves. No condition.
-/
import Derived.Test.YtbakhldjfplbfaaGreatXS3
set_option linter.unusedVariables false
set_option linter.unusedSimpArgs false
namespace Go.Proofs.YtbakhldjfplbfaaGreat
open Go.RowKit Go.Fl Go.Sl Go.Pg Go.Ch Go.Kf
theorem forceP_ok (d : Nat) (hd : d < 4) : ∀ {p : Pg}, PgOk p → PgOk (forceP d p) := by
  intro p h
  induction h with
  | mk k d0 ps kids hd0 h1 h2 h3 h4 ih =>
    rw [forceP_eq]
    refine .mk _ _ _ _ hd (fun q hq => ?_) (by simpa using h2) (by simpa using h3) (fun c hc => ?_)
    · obtain ⟨r, _, rfl⟩ := List.mem_map.1 hq
      exact force_norm d r
    · obtain ⟨r, hr, rfl⟩ := List.mem_map.1 hc
      exact ih r hr
theorem newP_ok : ∀ t : GT, t.Small → PgOk (newP t) := GT.ind fun h nums kids ih hs => by
  have h1 := hs.nums
  have h2 := hs.few
  have h3 := hs.kid
  have hlen : (placesOf (dim4 h.dim) nums).length ≤ 1000 := by rw [placesOf_len]; exact Nat.le_trans (Nat.div_le_self _ _) h1
  rw [newP]
  split
  · refine .mk _ _ _ _ (dim4_lt _) (fun q hq => placesOf_norm _ _ q (List.mem_of_mem_take hq)) ?_ (by simp) (by simp)
    rw [List.length_take]; omega
  · split
    · exact .mk _ _ _ _ (dim4_lt _) (fun q hq => placesOf_norm _ _ q hq) hlen (by simp) (by simp)
    · rw [newPs_eq]
      have hl : ((kids.map newP).filter (takes (kindN h.kind))).length ≤ 1000 := Nat.le_trans (List.length_filter_le _ _) (by simpa using h2)
      have hm : ∀ c ∈ (kids.map newP).filter (takes (kindN h.kind)), PgOk c := fun c hc => by
        obtain ⟨r, hr, rfl⟩ := List.mem_map.1 (List.mem_filter.1 hc).1
        exact ih r hr (h3 r hr)
      unfold wholeP
      split
      · exact .mk _ _ _ _ (dim4_lt _) (by simp) (by simp) (by simp) (by simp)
      · refine .mk _ _ _ _ (andD_lt _) (by simp) (by simp) (by simpa using hl) (fun c hc => ?_)
        obtain ⟨r, hr, rfl⟩ := List.mem_map.1 hc
        exact forceP_ok _ (andD_lt _) (hm r hr)
end Go.Proofs.YtbakhldjfplbfaaGreat
