/-
  What is made out of plain data is made of itself again. No condition.
-/
import Derived.Test.YtinbkonmlgediaaGreatXHb
set_option linter.unusedVariables false
set_option linter.unusedSimpArgs false
namespace Go.Proofs.YtinbkonmlgediaaGreat
open Go.RowKit Go.Fl Go.Sl Go.Pg Go.Ch Go.Kf
/-- geometries as they are made -/
inductive PgMade : Pg → Prop where
  | pt (d : Nat) (l : List Pl) (hd : d < 4) (hl : l.length ≤ 1) (hn : ∀ q ∈ l, q.norm d) : PgMade (.node 1 d l [])
  | ls (d : Nat) (l : List Pl) (hd : d < 4) (hn : ∀ q ∈ l, q.norm d) : PgMade (.node 2 d l [])
  | wh (k d : Nat) (kids : List Pg) (hk : k ≤ 6) (k1 : k ≠ 1) (k2 : k ≠ 2) (hd : d < 4) (h1 : ∀ c ∈ kids, c.dim = d) (h2 : ∀ c ∈ kids, takes k c = true) (h3 : ∀ c ∈ kids, PgMade c) : PgMade (.node k d [] kids)
theorem PgMade.id : ∀ {p : Pg}, PgMade p → forceP p.dim p = p := by
  intro p h
  induction h with
  | pt d l hd hl hn => show forceP d _ = _; rw [forceP_eq, map_force_id hn]; rfl
  | ls d l hd hn => show forceP d _ = _; rw [forceP_eq, map_force_id hn]; rfl
  | wh k d kids hk k1 k2 hd h1 h2 h3 ih =>
    show forceP d _ = _
    rw [forceP_eq]
    congr 1
    have : kids.map (forceP d) = kids.map _root_.id := List.map_congr_left fun c hc => by
      have := ih c hc
      rw [h1 c hc] at this
      exact this
    rw [this, List.map_id]
theorem and_self4 (d : Nat) (hd : d < 4) : 3 &&& d = d ∧ d &&& d = d := by
  have : d = 0 ∨ d = 1 ∨ d = 2 ∨ d = 3 := by omega
  rcases this with rfl | rfl | rfl | rfl <;> decide
theorem andD_same (d : Nat) (hd : d < 4) : ∀ (l : List Pg), l ≠ [] → (∀ c ∈ l, c.dim = d) → andD l = d := by
  have hf : ∀ (l : List Pg), (∀ c ∈ l, c.dim = d) → l.foldl (fun a m => a &&& m.dim) d = d := by
    intro l
    induction l with
    | nil => exact fun _ => rfl
    | cons a l ih =>
      intro h
      rw [List.foldl_cons, h a (by simp), (and_self4 d hd).2]
      exact ih fun c hc => h c (by simp [hc])
  intro l hne h
  cases l with
  | nil => exact absurd rfl hne
  | cons a l =>
    unfold andD
    rw [List.foldl_cons, h a (by simp), (and_self4 d hd).1]
    exact hf l fun c hc => h c (by simp [hc])
theorem wholeP_id (k d : Nat) (hd : d < 4) {l : List Pg} (h1 : ∀ c ∈ l, c.dim = d) (h3 : ∀ c ∈ l, PgMade c) : wholeP k d l = .node k d [] l := by
  unfold wholeP
  split
  · rename_i h
    have : l = [] := by simpa using h
    rw [this]
  · rename_i h
    have hne : l ≠ [] := by simpa using h
    rw [andD_same d hd l hne h1]
    congr 1
    have : l.map (forceP d) = l.map _root_.id := List.map_congr_left fun c hc => by
      have := (h3 c hc).id
      rw [h1 c hc] at this
      exact this
    rw [this, List.map_id]
theorem kindN_of (k : Nat) (hk : k ≤ 6) : kindN (k : Int) = k := by unfold kindN; rw [if_pos (by omega)]; omega
theorem dim4_of (d : Nat) (hd : d < 4) : dim4 (d : Int) = d := by unfold dim4; omega
/-- plain data that say a made geometry make it -/
theorem newP_is : ∀ {p : Pg}, PgMade p → ∀ q : GT, q.Is p → newP q = p := by
  intro p h
  induction h with
  | pt d l hd hl hn =>
    intro q hq
    cases hq with
    | mk h nums kids _ _ _ _ i1 i2 i3 i4 i5 =>
      have hk : kids = [] := List.length_eq_zero_iff.1 (by simpa using i4)
      rw [newP_point _ _ _ (by rw [i1]; rfl), i2, dim4_of d hd, i3, placesOf_numsOf _ _ hn, List.take_of_length_le hl]
  | ls d l hd hn =>
    intro q hq
    cases hq with
    | mk h nums kids _ _ _ _ i1 i2 i3 i4 i5 =>
      rw [newP_line _ _ _ (by rw [i1]; rfl), i2, dim4_of d hd, i3, placesOf_numsOf _ _ hn]
  | wh k d ks hk k1 k2 hd h1 h2 h3 ih =>
    intro q hq
    cases hq with
    | mk h nums kids _ _ _ _ i1 i2 i3 i4 i5 =>
      have e : kindN h.kind = k := by rw [i1]; exact kindN_of k hk
      rw [newP_whole _ _ _ (by rw [e]; exact k1) (by rw [e]; exact k2), e, i2, dim4_of d hd]
      have hm : kids.map newP = ks := by
        refine List.ext_getElem (by simpa using i4) fun i a b => ?_
        rw [List.getElem_map]
        exact ih _ (List.getElem_mem _) _ (i5 i (by simpa using a) b)
      rw [hm, List.filter_eq_self.2 (fun c hc => h2 c hc)]
      exact wholeP_id k d hd h1 h3
/-- at every leaf at most n numbers -/
inductive PgNum (n : Nat) : Pg → Prop where
  | mk (k d : Nat) (ps : List Pl) (kids : List Pg) (h1 : ps.length * wid d ≤ n) (h2 : kids.length ≤ n) (h3 : ∀ c ∈ kids, PgNum n c) : PgNum n (.node k d ps kids)
theorem small_is : ∀ {p : Pg}, PgNum 1000 p → ∀ q : GT, q.Is p → q.Small := by
  intro p h
  induction h with
  | mk k d ps ks h1 h2 h3 ih =>
    intro q hq
    cases hq with
    | mk h nums kids _ _ _ _ i1 i2 i3 i4 i5 =>
      refine .mk _ _ _ (by rw [i3, numsOf_len]; exact h1) (by omega) (fun t ht => ?_)
      obtain ⟨j, hj, rfl⟩ := List.getElem_of_mem ht
      exact ih _ (List.getElem_mem _) _ (i5 j hj (by omega))
end Go.Proofs.YtinbkonmlgediaaGreat
