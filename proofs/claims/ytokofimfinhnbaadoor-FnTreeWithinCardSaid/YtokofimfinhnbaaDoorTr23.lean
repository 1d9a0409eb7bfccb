/-
  The laws of trees in plain words: what a search goes through; a list within another. No condition.
-/
import Derived.Test.YtokofimfinhnbaaDoorTr22
set_option linter.unusedVariables false
set_option linter.unusedSimpArgs false
namespace Go.Proofs.YtokofimfinhnbaaDoor
open Go.RowKit Go.Fl Go.Sl Go.Ch Go.Fr Go.Mb
theorem Z_inj {x : Nat} {a b : Int} (h : Z x a) (h' : Z x b) : a = b := by
  have := h.2.symm.trans h'.2
  exact Rat.intCast_inj.1 this
theorem ZB.inj {x : B4} {p q : Q4} (h : ZB x p) (h' : ZB x q) : p = q := by
  obtain ⟨a, b, c, d⟩ := p
  obtain ⟨a', b', c', d'⟩ := q
  have h1 := Z_inj h.a h'.a; have h2 := Z_inj h.b h'.b; have h3 := Z_inj h.c h'.c; have h4 := Z_inj h.d h'.d
  simp only at h1 h2 h3 h4
  subst h1 h2 h3 h4
  rfl
theorem fmn_Z {x y : Nat} {a b : Int} (hx : Z x a) (hy : Z y b) : Z (fmn x y) (min a b) := by
  unfold fmn
  rw [hx.lt hy]
  by_cases h : a < b
  · simp only [h, decide_true, if_true]; rw [Int.min_eq_left (by omega)]; exact hx
  · simp only [h, decide_false, Bool.false_eq_true, if_false]; rw [Int.min_eq_right (by omega)]; exact hy
theorem fmx_Z {x y : Nat} {a b : Int} (hx : Z x a) (hy : Z y b) : Z (fmx x y) (max a b) := by
  unfold fmx
  rw [hx.gt hy]
  by_cases h : b < a
  · simp only [h, decide_true, if_true]; rw [Int.max_eq_left (by omega)]; exact hx
  · simp only [h, decide_false, Bool.false_eq_true, if_false]; rw [Int.max_eq_right (by omega)]; exact hy
def Q4.join (p q : Q4) : Q4 := ⟨min p.a q.a, min p.b q.b, max p.c q.c, max p.d q.d⟩
theorem cmb_Z {x y : B4} {p q : Q4} (hx : ZB x p) (hy : ZB y q) : ZB (cmb x y) (p.join q) := ⟨fmn_Z hx.a hy.a, fmn_Z hx.b hy.b, fmx_Z hx.c hy.c, fmx_Z hx.d hy.d⟩
theorem within_join_l (p q : Q4) : p.within (p.join q) := by constructor <;> simp only [Q4.join] <;> omega
theorem within_join_r (p q : Q4) : q.within (p.join q) := by constructor <;> simp only [Q4.join] <;> omega
theorem Q4.within.trans {p q r : Q4} (h : p.within q) (k : q.within r) : p.within r := by
  have := h.a; have := h.b; have := h.c; have := h.d; have := k.a; have := k.b; have := k.c; have := k.d
  constructor <;> omega
theorem fold_Z : ∀ (l : List B4) (x : B4) (p : Q4), ZB x p → (∀ y ∈ l, ∃ q, ZB y q) → ∃ r, ZB (l.foldl cmb x) r ∧ p.within r ∧ ∀ y ∈ l, ∃ q, ZB y q ∧ q.within r
  | [], x, p, hx, _ => ⟨p, hx, ⟨by omega, by omega, by omega, by omega⟩, fun y hy => by simp at hy⟩
  | z :: l, x, p, hx, h => by
    obtain ⟨q, hz⟩ := h z (by simp)
    obtain ⟨r, h1, h2, h3⟩ := fold_Z l (cmb x z) (p.join q) (cmb_Z hx hz) (fun y hy => h y (by simp [hy]))
    refine ⟨r, h1, (within_join_l p q).trans h2, fun y hy => ?_⟩
    rcases List.mem_cons.1 hy with rfl | hy
    · exact ⟨q, hz, (within_join_r p q).trans h2⟩
    · exact h3 y hy
theorem bnd_Z {l : List B4} (h0 : 0 < l.length) (h : ∀ y ∈ l, ∃ q, ZB y q) : ∃ r, ZB (bnd l) r ∧ ∀ y ∈ l, ∃ q, ZB y q ∧ q.within r := by
  cases l with
  | nil => simp at h0
  | cons x l =>
    obtain ⟨p, hx⟩ := h x (by simp)
    obtain ⟨r, h1, h2, h3⟩ := fold_Z l x p hx (fun y hy => h y (by simp [hy]))
    refine ⟨r, h1, fun y hy => ?_⟩
    rcases List.mem_cons.1 hy with rfl | hy
    · exact ⟨p, hx, h2⟩
    · exact h3 y hy
theorem box_Z : ∀ (t : RT), t.full → (∀ i ∈ t.items, boxB i.box = true) → ∃ r, ZB t.box r ∧ ∀ i ∈ t.items, ∃ p, ZB i.box p ∧ p.within r
  | .leaf l, hf, hg => by
    obtain ⟨r, h1, h2⟩ := bnd_Z (l := l.map It.box) (by simpa [RT.full] using hf) (fun y hy => by
      simp only [List.mem_map] at hy
      obtain ⟨i, hi, rfl⟩ := hy
      obtain ⟨q, hq, _⟩ := boxB_spec (hg i hi)
      exact ⟨q, hq⟩)
    exact ⟨r, h1, fun i hi => h2 _ (List.mem_map_of_mem hi)⟩
  | .two a b, hf, hg => by
    simp only [RT.items, List.mem_append] at hg ⊢
    obtain ⟨ra, a1, a2⟩ := box_Z a hf.1 (fun i hi => hg i (.inl hi))
    obtain ⟨rb, b1, b2⟩ := box_Z b hf.2 (fun i hi => hg i (.inr hi))
    obtain ⟨r, h1, h2⟩ := bnd_Z (l := [a.box, b.box]) (by simp) (fun y hy => by simp at hy; rcases hy with rfl | rfl; exact ⟨ra, a1⟩; exact ⟨rb, b1⟩)
    refine ⟨r, h1, fun i hi => ?_⟩
    rcases hi with hi | hi
    · obtain ⟨p, p1, p2⟩ := a2 i hi
      obtain ⟨q, q1, q2⟩ := h2 a.box (by simp)
      rw [a1.inj q1] at p2
      exact ⟨p, p1, p2.trans q2⟩
    · obtain ⟨p, p1, p2⟩ := b2 i hi
      obtain ⟨q, q1, q2⟩ := h2 b.box (by simp)
      rw [b1.inj q1] at p2
      exact ⟨p, p1, p2.trans q2⟩
  | .four a b c d, hf, hg => by
    simp only [RT.items, List.mem_append] at hg ⊢
    obtain ⟨ra, a1, a2⟩ := box_Z a hf.1 (fun i hi => hg i (.inl hi))
    obtain ⟨rb, b1, b2⟩ := box_Z b hf.2.1 (fun i hi => hg i (.inr (.inl hi)))
    obtain ⟨rc, c1, c2⟩ := box_Z c hf.2.2.1 (fun i hi => hg i (.inr (.inr (.inl hi))))
    obtain ⟨rd, d1, d2⟩ := box_Z d hf.2.2.2 (fun i hi => hg i (.inr (.inr (.inr hi))))
    obtain ⟨r, h1, h2⟩ := bnd_Z (l := [a.box, b.box, c.box, d.box]) (by simp) (fun y hy => by
      simp at hy
      rcases hy with rfl | rfl | rfl | rfl
      · exact ⟨ra, a1⟩
      · exact ⟨rb, b1⟩
      · exact ⟨rc, c1⟩
      · exact ⟨rd, d1⟩)
    refine ⟨r, h1, fun i hi => ?_⟩
    rcases hi with hi | hi | hi | hi
    · obtain ⟨p, p1, p2⟩ := a2 i hi
      obtain ⟨q, q1, q2⟩ := h2 a.box (by simp)
      rw [a1.inj q1] at p2
      exact ⟨p, p1, p2.trans q2⟩
    · obtain ⟨p, p1, p2⟩ := b2 i hi
      obtain ⟨q, q1, q2⟩ := h2 b.box (by simp)
      rw [b1.inj q1] at p2
      exact ⟨p, p1, p2.trans q2⟩
    · obtain ⟨p, p1, p2⟩ := c2 i hi
      obtain ⟨q, q1, q2⟩ := h2 c.box (by simp)
      rw [c1.inj q1] at p2
      exact ⟨p, p1, p2.trans q2⟩
    · obtain ⟨p, p1, p2⟩ := d2 i hi
      obtain ⟨q, q1, q2⟩ := h2 d.box (by simp)
      rw [d1.inj q1] at p2
      exact ⟨p, p1, p2.trans q2⟩
/-- of a tree whose box does not meet y, no item meets y -/
theorem none_meets {t : RT} {y : B4} {q : Q4} (hf : t.full) (hg : ∀ i ∈ t.items, boxB i.box = true) (hy : ZB y q) (h : ovl t.box y = false) : t.items.filter (fun i => ovl i.box y) = [] := by
  obtain ⟨r, h1, h2⟩ := box_Z t hf hg
  rw [List.filter_eq_nil_iff]
  intro i hi hov
  obtain ⟨p, p1, p2⟩ := h2 i hi
  rw [ovl_Z p1 hy] at hov
  rw [ovl_Z h1 hy] at h
  have := meet_mono hov p2 (q' := q) ⟨Int.le_refl _, Int.le_refl _, Int.le_refl _, Int.le_refl _⟩
  rw [this] at h
  cases h
theorem rs_part {t : RT} {y : B4} {q : Q4} (hf : t.full) (hg : ∀ i ∈ t.items, boxB i.box = true) (hy : ZB y q) (ih : rs y t = (t.items.filter fun i => ovl i.box y).map It.id) :
    (if ovl t.box y then rs y t else []) = (t.items.filter fun i => ovl i.box y).map It.id := by
  cases h : ovl t.box y with
  | true => simpa using ih
  | false => rw [none_meets hf hg hy h]; simp
theorem rs_eq {y : B4} {q : Q4} (hy : ZB y q) : ∀ (t : RT), t.full → (∀ i ∈ t.items, boxB i.box = true) → rs y t = (t.items.filter fun i => ovl i.box y).map It.id
  | .leaf l, _, _ => rfl
  | .two a b, hf, hg => by
    simp only [RT.items, List.mem_append] at hg
    simp only [rs, RT.items, List.filter_append, List.map_append]
    rw [rs_part hf.1 (fun i hi => hg i (.inl hi)) hy (rs_eq hy a hf.1 (fun i hi => hg i (.inl hi))), rs_part hf.2 (fun i hi => hg i (.inr hi)) hy (rs_eq hy b hf.2 (fun i hi => hg i (.inr hi)))]
  | .four a b c d, hf, hg => by
    simp only [RT.items, List.mem_append] at hg
    simp only [rs, RT.items, List.filter_append, List.map_append]
    rw [rs_part hf.1 (fun i hi => hg i (.inl hi)) hy (rs_eq hy a hf.1 (fun i hi => hg i (.inl hi))), rs_part hf.2.1 (fun i hi => hg i (.inr (.inl hi))) hy (rs_eq hy b hf.2.1 (fun i hi => hg i (.inr (.inl hi)))),
      rs_part hf.2.2.1 (fun i hi => hg i (.inr (.inr (.inl hi)))) hy (rs_eq hy c hf.2.2.1 (fun i hi => hg i (.inr (.inr (.inl hi))))), rs_part hf.2.2.2 (fun i hi => hg i (.inr (.inr (.inr hi)))) hy (rs_eq hy d hf.2.2.2 (fun i hi => hg i (.inr (.inr (.inr hi)))))]
/-- how far the first list has been met within the second -/
def met (sub : List Int) (l : List Int) (at_ : Nat) : Nat := l.foldl (fun a id => if sub[a]? = some id then a + 1 else a) at_
theorem met_all (p q : It → Bool) : ∀ (l pre : List It), (∀ i ∈ l, p i = true → q i = true) → ((pre ++ l).map It.id).Nodup → met (((pre ++ l).filter p).map It.id) ((l.filter q).map It.id) (pre.filter p).length = ((pre ++ l).filter p).length
  | [], pre, _, _ => by simp [met]
  | x :: l, pre, hpq, hnd => by
    have e : pre ++ x :: l = (pre ++ [x]) ++ l := by simp
    have ih := met_all p q l (pre ++ [x]) (fun i hi => hpq i (by simp [hi])) (by rw [← e]; exact hnd)
    rw [← e] at ih
    by_cases hp : p x = true
    · have hq := hpq x (by simp) hp
      have hget : (((pre ++ x :: l).filter p).map It.id)[(pre.filter p).length]? = some x.id := by
        rw [List.filter_append, List.filter_cons, if_pos hp, List.map_append]
        rw [List.getElem?_append_right (by simp)]
        simp
      rw [List.filter_cons, if_pos hq, List.map_cons]
      unfold met at ih ⊢
      rw [List.foldl_cons, if_pos hget]
      have hlen : ((pre ++ [x]).filter p).length = (pre.filter p).length + 1 := by simp [hp]
      rw [hlen] at ih
      exact ih
    · have hp' : p x = false := by simpa using hp
      have hlen : ((pre ++ [x]).filter p).length = (pre.filter p).length := by simp [hp']
      rw [hlen] at ih
      by_cases hq : q x = true
      · have hget : ¬ (((pre ++ x :: l).filter p).map It.id)[(pre.filter p).length]? = some x.id := by
          intro h
          have hm : x.id ∈ (l.filter p).map It.id := by
            rw [List.filter_append, List.filter_cons, if_neg hp, List.map_append, List.getElem?_append_right (by simp)] at h
            exact List.mem_of_getElem? h
          rw [List.map_append, List.map_cons] at hnd
          have h1 := (List.nodup_append.1 hnd).2.1
          rw [List.nodup_cons] at h1
          obtain ⟨i, hi, he⟩ := List.mem_map.1 hm
          exact h1.1 (List.mem_map.2 ⟨i, (List.mem_filter.1 hi).1, he⟩)
        rw [List.filter_cons, if_pos hq, List.map_cons]
        unfold met at ih ⊢
        rw [List.foldl_cons, if_neg hget]
        exact ih
      · rw [List.filter_cons, if_neg hq]
        exact ih
theorem met_filter {p q : It → Bool} {l : List It} (hpq : ∀ i ∈ l, p i = true → q i = true) (hnd : (l.map It.id).Nodup) : met ((l.filter p).map It.id) ((l.filter q).map It.id) 0 = ((l.filter p).map It.id).length := by
  have := met_all p q l [] hpq (by simpa using hnd)
  simpa using this
theorem met_snoc (sub l : List Int) (x : Int) (a : Nat) : met sub (l ++ [x]) a = if sub[met sub l a]? = some x then met sub l a + 1 else met sub l a := by
  unfold met
  rw [List.foldl_append]
  rfl
theorem met_le (sub : List Int) : ∀ (l : List Int) (a : Nat), a ≤ sub.length → met sub l a ≤ sub.length
  | [], a, h => h
  | x :: l, a, h => by
    unfold met
    rw [List.foldl_cons]
    by_cases hx : sub[a]? = some x
    · rw [if_pos hx]
      have : a < sub.length := by
        rcases Nat.lt_or_ge a sub.length with h | h
        · exact h
        · rw [List.getElem?_eq_none h] at hx; cases hx
      exact met_le sub l (a + 1) (by omega)
    · rw [if_neg hx]; exact met_le sub l a h
end Go.Proofs.YtokofimfinhnbaaDoor
