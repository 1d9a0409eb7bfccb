/-
  How many entries a map from whole numbers has. No condition.
-/
import Derived.Test.YtokofimfinhnbaaDoorMi
set_option linter.unusedVariables false
set_option linter.unusedSimpArgs false
namespace Go.Mi
open Go.RowKit Go.Maps Go.WideElems
variable {P : Program} {k e t : TypeId} {w w' : World} {b n : Nat} {M : Int → Option Value}
theorem MI.len (h : MI P k w b n M) (ht : P.underlying t = some (.map k e)) (hk : P.underlying k = some (.int .i64)) {ids : List Int} (hnd : ids.Nodup) (hwf : ∀ id ∈ ids, (Lit.int .i64 id).wf = true) (hM : ∀ id, (M id).isSome = true ↔ id ∈ ids) (ty : TypeId) :
    (Builtin.len_ #[t] ty #[.map (some b)]).run P w = .ok (.int .i64 ids.length) w := by
  obtain ⟨D, h1, hT, h2, h3⟩ := h
  rw [h1.len ht ty]
  obtain ⟨es, rfl, hp⟩ := hT
  have hkeys : ∀ p ∈ es, ∃ x, p.1 = .int .i64 x := by
    obtain ⟨es0, clock, _, F, _, hD⟩ := h1
    injection hD with hD
    intro p hp
    rw [hD] at hp
    obtain ⟨x, hx, rfl⟩ := List.mem_map.1 (mem_sorted.1 hp)
    obtain ⟨y, hy⟩ := F.reads x hx
    rw [rg_of hy]
    obtain ⟨x', _, h, _⟩ := Maps.keyOf_int_inv hk (rd_key hy)
    exact ⟨x', h⟩
  let f : Lit × DataW Value → Int := fun p => match p.1 with | .int _ x => x | _ => 0
  have hf : ∀ p ∈ es, p.1 = .int .i64 (f p) := by
    intro p hp
    obtain ⟨x, hx⟩ := hkeys p hp
    simp only [f, hx]
  have hn : (es.map f).Nodup := by
    rw [List.nodup_iff_pairwise_ne, List.pairwise_map]
    refine (List.Pairwise.and_mem.1 hp).imp ?_
    rintro a b' ⟨ha, hb, hne⟩ he
    exact hne (by rw [hf a ha, hf b' hb, he])
  have hperm : (es.map f).Perm ids := by
    refine (List.perm_ext_iff_of_nodup hn hnd).2 fun id => ?_
    rw [← hM id, ← h3 id]
    simp only [has, List.any_eq_true, List.mem_map]
    constructor
    · rintro ⟨p, hp, rfl⟩
      exact ⟨p, hp, by rw [hf p hp]; simp [Lit.sameKey, f]⟩
    · rintro ⟨p, hp, hs⟩
      refine ⟨p, hp, ?_⟩
      rw [hf p hp] at hs
      by_cases he : f p = id
      · exact he
      · rw [sameKey_ne (by simp; exact he)] at hs
        cases hs
  have := hperm.length_eq
  rw [List.length_map] at this
  rw [show Maps.size (DataW.map es) = es.length from rfl, this]
theorem MI.le {m : Nat} (h : MI P k w b n M) (hm : n ≤ m) : MI P k w b m M := by
  obtain ⟨D, ⟨es, clock, h1, h2, h3, h4⟩, h5⟩ := h
  exact ⟨D, ⟨es, clock, h1, h2, Nat.le_trans h3 hm, h4⟩, h5⟩
end Go.Mi
