/-
  What is made out of plain data is made of itself again. No condition.
-/
import Derived.Test.YtbakhldjfplbfaaGreatXHb
set_option linter.unusedVariables false
set_option linter.unusedSimpArgs false
namespace Go.Proofs.YtbakhldjfplbfaaGreat
open Go.RowKit Go.Fl Go.Sl Go.Pg Go.Ch Go.Kf
/-- geometries as they are made -/
inductive PgMade : Pg → Prop where
  | pt (d : Nat) (l : List Pl) (hd : d < 4) (hl : l.length ≤ 1) (hn : ∀ q ∈ l, q.norm d) : PgMade (.node 1 d l [])
  | ls (d : Nat) (l : List Pl) (hd : d < 4) (hn : ∀ q ∈ l, q.norm d) : PgMade (.node 2 d l [])
  | wh (k d : Nat) (kids : List Pg) (hk : k ≤ 6) (k1 : k ≠ 1) (k2 : k ≠ 2) (hd : d < 4) (h1 : ∀ c ∈ kids, c.dim = d) (h2 : ∀ c ∈ kids, takes k c = true) (h3 : ∀ c ∈ kids, PgMade c) : PgMade (.node k d [] kids)
theorem takes_force (k d : Nat) (c : Pg) : takes k (forceP d c) = takes k c := by unfold takes; rw [forceP_kind]
theorem PgMade.force {d : Nat} (hd : d < 4) : ∀ {p : Pg}, PgMade p → PgMade (forceP d p) := by
  intro p h
  induction h with
  | pt d0 l hd0 hl hn =>
    rw [forceP_eq]
    exact .pt _ _ hd (by simpa using hl) (fun q hq => by obtain ⟨r, _, rfl⟩ := List.mem_map.1 hq; exact force_norm d r)
  | ls d0 l hd0 hn =>
    rw [forceP_eq]
    exact .ls _ _ hd (fun q hq => by obtain ⟨r, _, rfl⟩ := List.mem_map.1 hq; exact force_norm d r)
  | wh k d0 kids hk k1 k2 hd0 h1 h2 h3 ih =>
    rw [forceP_eq]
    refine .wh _ _ _ hk k1 k2 hd (fun c hc => ?_) (fun c hc => ?_) (fun c hc => ?_)
    · obtain ⟨r, _, rfl⟩ := List.mem_map.1 hc; exact forceP_dim d r
    · obtain ⟨r, hr, rfl⟩ := List.mem_map.1 hc; rw [takes_force]; exact h2 r hr
    · obtain ⟨r, hr, rfl⟩ := List.mem_map.1 hc; exact ih r hr
theorem PgMade.id : ∀ {p : Pg}, PgMade p → forceP p.dim p = p := by
  intro p h
  induction h with
  | pt d l hd hl hn => show forceP d _ = _; rw [forceP_eq, map_force_id hn]; rfl
  | ls d l hd hn => show forceP d _ = _; rw [forceP_eq, map_force_id hn]; rfl
  | wh k d kids hk k1 k2 hd h1 h2 h3 ih =>
    show forceP d _ = _
    rw [forceP_eq]
    congr 1
    have : kids.map (forceP d) = kids.map _root_.id := List.map_congr_left fun c hc => by
      have := ih c hc
      rw [h1 c hc] at this
      exact this
    rw [this, List.map_id]
theorem wholeP_made (k d : Nat) (hk : k ≤ 6) (k1 : k ≠ 1) (k2 : k ≠ 2) (hd : d < 4) {l : List Pg} (h2 : ∀ c ∈ l, takes k c = true) (h3 : ∀ c ∈ l, PgMade c) : PgMade (wholeP k d l) := by
  unfold wholeP
  split
  · exact .wh _ _ _ hk k1 k2 hd (by simp) (by simp) (by simp)
  · refine .wh _ _ _ hk k1 k2 (andD_lt l) (fun c hc => ?_) (fun c hc => ?_) (fun c hc => ?_)
    · obtain ⟨r, _, rfl⟩ := List.mem_map.1 hc; exact forceP_dim _ r
    · obtain ⟨r, hr, rfl⟩ := List.mem_map.1 hc; rw [takes_force]; exact h2 r hr
    · obtain ⟨r, hr, rfl⟩ := List.mem_map.1 hc; exact (h3 r hr).force (andD_lt l)
theorem newP_made : ∀ t : GT, PgMade (newP t) := GT.ind fun h nums kids ih => by
  rw [newP]
  split
  · exact .pt _ _ (dim4_lt _) (by rw [List.length_take]; omega) (fun q hq => placesOf_norm _ _ q (List.mem_of_mem_take hq))
  · split
    · exact .ls _ _ (dim4_lt _) (placesOf_norm _ _)
    · rw [newPs_eq]
      refine wholeP_made _ _ (kindN_le _) (by assumption) (by assumption) (dim4_lt _) (fun c hc => (List.mem_filter.1 hc).2) (fun c hc => ?_)
      obtain ⟨r, hr, rfl⟩ := List.mem_map.1 (List.mem_filter.1 hc).1
      exact ih r hr
theorem and_self4 (d : Nat) (hd : d < 4) : 3 &&& d = d ∧ d &&& d = d := by
  have : d = 0 ∨ d = 1 ∨ d = 2 ∨ d = 3 := by omega
  rcases this with rfl | rfl | rfl | rfl <;> decide
theorem andD_same (d : Nat) (hd : d < 4) : ∀ (l : List Pg), l ≠ [] → (∀ c ∈ l, c.dim = d) → andD l = d := by
  have hf : ∀ (l : List Pg), (∀ c ∈ l, c.dim = d) → l.foldl (fun a m => a &&& m.dim) d = d := by
    intro l
    induction l with
    | nil => exact fun _ => rfl
    | cons a l ih =>
      intro h
      rw [List.foldl_cons, h a (by simp), (and_self4 d hd).2]
      exact ih fun c hc => h c (by simp [hc])
  intro l hne h
  cases l with
  | nil => exact absurd rfl hne
  | cons a l =>
    unfold andD
    rw [List.foldl_cons, h a (by simp), (and_self4 d hd).1]
    exact hf l fun c hc => h c (by simp [hc])
theorem wholeP_id (k d : Nat) (hd : d < 4) {l : List Pg} (h1 : ∀ c ∈ l, c.dim = d) (h3 : ∀ c ∈ l, PgMade c) : wholeP k d l = .node k d [] l := by
  unfold wholeP
  split
  · rename_i h
    have : l = [] := by simpa using h
    rw [this]
  · rename_i h
    have hne : l ≠ [] := by simpa using h
    rw [andD_same d hd l hne h1]
    congr 1
    have : l.map (forceP d) = l.map _root_.id := List.map_congr_left fun c hc => by
      have := (h3 c hc).id
      rw [h1 c hc] at this
      exact this
    rw [this, List.map_id]
/-- at every leaf at most n numbers -/
inductive PgNum (n : Nat) : Pg → Prop where
  | mk (k d : Nat) (ps : List Pl) (kids : List Pg) (h1 : ps.length * wid d ≤ n) (h2 : kids.length ≤ n) (h3 : ∀ c ∈ kids, PgNum n c) : PgNum n (.node k d ps kids)
theorem wid_sub {a b : Nat} (ha : a < 4) (hb : b < 4) (h : a &&& b = a) : wid a ≤ wid b := by
  have h1 : a = 0 ∨ a = 1 ∨ a = 2 ∨ a = 3 := by omega
  have h2 : b = 0 ∨ b = 1 ∨ b = 2 ∨ b = 3 := by omega
  rcases h1 with rfl | rfl | rfl | rfl <;> rcases h2 with rfl | rfl | rfl | rfl <;> first | decide | (exact absurd h (by decide))
theorem foldl_sub : ∀ (l : List Pg) (a : Nat), l.foldl (fun a m => a &&& m.dim) a &&& a = l.foldl (fun a m => a &&& m.dim) a ∧ ∀ c ∈ l, l.foldl (fun a m => a &&& m.dim) a &&& c.dim = l.foldl (fun a m => a &&& m.dim) a
  | [], a => ⟨Nat.and_self a, by simp⟩
  | p :: l, a => by
    obtain ⟨h1, h2⟩ := foldl_sub l (a &&& p.dim)
    rw [List.foldl_cons]
    generalize l.foldl (fun a m => a &&& m.dim) (a &&& p.dim) = x at *
    have e1 : x &&& a = x := by
      calc x &&& a = (x &&& (a &&& p.dim)) &&& a := by rw [h1]
        _ = x &&& (a &&& p.dim) := by
          rw [Nat.and_assoc, Nat.and_comm (a &&& p.dim) a, ← Nat.and_assoc a a, Nat.and_self]
        _ = x := h1
    have e2 : x &&& p.dim = x := by
      calc x &&& p.dim = (x &&& (a &&& p.dim)) &&& p.dim := by rw [h1]
        _ = x &&& (a &&& p.dim) := by rw [Nat.and_assoc, Nat.and_assoc, Nat.and_self]
        _ = x := h1
    refine ⟨e1, fun c hc => ?_⟩
    rcases List.mem_cons.1 hc with rfl | hc
    · exact e2
    · exact h2 c hc
theorem andD_sub {l : List Pg} {c : Pg} (hc : c ∈ l) : andD l &&& c.dim = andD l := (foldl_sub l 3).2 c hc
theorem PgNum.force {n d : Nat} (hd : d < 4) : ∀ {p : Pg}, PgMade p → PgNum n p → d &&& p.dim = d → PgNum n (forceP d p) := by
  intro p h
  induction h with
  | pt d0 l hd0 hl hn =>
    intro hN hs
    rw [forceP_eq]
    cases hN with
    | mk _ _ _ _ a1 a2 a3 => exact .mk _ _ _ _ (by rw [List.length_map]; exact Nat.le_trans (Nat.mul_le_mul_left _ (wid_sub hd hd0 hs)) a1) (by simp) (by simp)
  | ls d0 l hd0 hn =>
    intro hN hs
    rw [forceP_eq]
    cases hN with
    | mk _ _ _ _ a1 a2 a3 => exact .mk _ _ _ _ (by rw [List.length_map]; exact Nat.le_trans (Nat.mul_le_mul_left _ (wid_sub hd hd0 hs)) a1) (by simp) (by simp)
  | wh k d0 kids hk k1 k2 hd0 h1 h2 h3 ih =>
    intro hN hs
    rw [forceP_eq]
    cases hN with
    | mk _ _ _ _ a1 a2 a3 =>
      refine .mk _ _ _ _ (by simp) (by simpa using a2) (fun c hc => ?_)
      obtain ⟨r, hr, rfl⟩ := List.mem_map.1 hc
      exact ih r hr (a3 r hr) (by rw [h1 r hr]; exact hs)
theorem newP_num : ∀ t : GT, t.Small → PgNum 1000 (newP t) := GT.ind fun h nums kids ih hs => by
  have hn := hs.nums
  have hf := hs.few
  have hp : (placesOf (dim4 h.dim) nums).length * wid (dim4 h.dim) ≤ 1000 := by
    rw [placesOf_len]
    exact Nat.le_trans (Nat.div_mul_le_self _ _) hn
  rw [newP]
  split
  · refine .mk _ _ _ _ (Nat.le_trans (Nat.mul_le_mul_right _ ?_) hp) (by simp) (by simp)
    rw [List.length_take]; omega
  · split
    · exact .mk _ _ _ _ hp (by simp) (by simp)
    · rw [newPs_eq]
      have hl : ((kids.map newP).filter (takes (kindN h.kind))).length ≤ 1000 := Nat.le_trans (List.length_filter_le _ _) (by simpa using hf)
      unfold wholeP
      split
      · exact .mk _ _ _ _ (by simp) (by simp) (by simp)
      · refine .mk _ _ _ _ (by simp) (by simpa using hl) (fun c hc => ?_)
        obtain ⟨r, hr, rfl⟩ := List.mem_map.1 hc
        obtain ⟨t, ht, rfl⟩ := List.mem_map.1 (List.mem_filter.1 hr).1
        exact PgNum.force (andD_lt _) (newP_made t) (ih t ht (hs.kid t ht)) (andD_sub hr)
end Go.Proofs.YtbakhldjfplbfaaGreat
