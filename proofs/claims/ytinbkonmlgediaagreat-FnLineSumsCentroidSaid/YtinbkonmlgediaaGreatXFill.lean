/-
  A new array that is filled thing by thing. No condition.
-/
import Derived.Test.YtinbkonmlgediaaGreatXKf
import Derived.Laws.OwnMore
set_option linter.unusedVariables false
set_option linter.unusedSimpArgs false
namespace Go.Kf
open Go.RowKit Go.Sl Go.Ch
/-- what a thing is stays as long as its blocks stay -/
structure Stable {α : Type} (R : World → (Nat → Prop) → List Value → α → Prop) : Prop where
  kf : ∀ {w w' : World} {F : Nat → Prop} {c : List Value} {x : α}, R w F c x → KF F w w' → R w' F c x
  mono : ∀ {w : World} {F G : Nat → Prop} {c : List Value} {x : α}, R w F c x → (∀ b, b < w.heap.size → F b → G b) → R w G c x
theorem Filled.past {w : World} {b c i m : Nat} {v : Value} {xs : List Value} (hc : c ≠ b) (h : Filled w b m xs) : Filled (w.setCell ⟨c, i, none⟩ v) b m xs := fun j u hj hu => by
  rw [World.cell?_setCell_other _ _ _ _ (fun e => hc (by injection e))]
  exact h j u hj hu
theorem Filled.ext {w : World} {b : Nat} {xs : List Value} (h : Filled w b xs.length xs) (ys : List Value) : Filled w b xs.length (xs ++ ys) := fun j u hj hu => h j u hj (by rwa [List.getElem?_append_left hj] at hu)
/-- the array at fb of n things, kc cells each: the first k are filled -/
structure Fill (w wr : World) (F : Nat → Prop) {α : Type} (R : World → (Nat → Prop) → List Value → α → Prop) (fb n k kc : Nat) (css : List (List Value)) (ys : List α) : Prop where
  keeps : Stab.Keeps w wr
  room : Room wr fb (n * kc)
  filled : Filled wr fb (k * kc) css.flatten
  lc : css.length = k
  each : ∀ c ∈ css, c.length = kc
  is : ∀ i (h1 : i < css.length) (h2 : i < ys.length), R wr F css[i] ys[i]
  lt : fb < wr.heap.size
  ge : w.heap.size ≤ fb
  nin : ¬ F fb
variable {α : Type} {R : World → (Nat → Prop) → List Value → α → Prop} {w wr w4 : World} {F : Nat → Prop} {fb n k kc : Nat} {css : List (List Value)} {ys : List α}
theorem Fill.start (w wr : World) (F : Nat → Prop) (R : World → (Nat → Prop) → List Value → α → Prop) (n kc : Nat) (c : Array Value) (t : TypeId) (ys : List α) (hk : Stab.Keeps w wr) (hc : c.size = n * kc) (hF : ¬ F wr.heap.size) :
    Fill w (wr.alloc (.cells c t)) F R wr.heap.size n 0 kc [] ys :=
  ⟨hk.alloc _, room_new wr c t _ _ rfl hc.symm, fun j u hj => by omega, rfl, fun c hc => by simp at hc, fun i h1 => by simp at h1, by simp, hk.size, hF⟩
theorem Fill.keep (S : Stable R) (h : Fill w wr F R fb n k kc css ys) (hk : Stab.Keeps wr w4) : Fill w w4 F R fb n k kc css ys :=
  ⟨Stab.Keeps.trans h.keeps hk, h.room.keep hk h.lt, h.filled.keep hk h.lt, h.lc, h.each, fun i h1 h2 => S.kf (h.is i h1 h2) (KF.keeps hk), Nat.lt_of_lt_of_le h.lt hk.size, h.ge, h.nin⟩
/-- another block's cell is set -/
theorem Fill.past (S : Stable R) (h : Fill w wr F R fb n k kc css ys) {b i : Nat} (hb : b ≠ fb) (hF : ¬ F b) (hw : w.heap.size ≤ b) (v : Value) : Fill w (wr.setCell ⟨b, i, none⟩ v) F R fb n k kc css ys :=
  ⟨h.keeps.setCell hw v, h.room.set _ _ _, Filled.past hb h.filled, h.lc, h.each, fun i h1 h2 => S.kf (h.is i h1 h2) ((KF.refl _ _).set hF), by simp; exact h.lt, h.ge, h.nin⟩
theorem Fill.put2 (S : Stable R) (h : Fill w wr F R fb n k 2 css ys) {u v : Value} (hk : k < n) (hk2 : k < ys.length) (hx : R wr F [u, v] ys[k]) :
    Fill w ((wr.setCell ⟨fb, k * 2, none⟩ u).setCell ⟨fb, k * 2 + 1, none⟩ v) F R fb n (k + 1) 2 (css ++ [[u, v]]) ys := by
  have hl : css.flatten.length = k * 2 := by rw [flatten_len css h.each, h.lc]
  have hge := h.ge
  have hf := h.filled
  rw [← hl] at hf
  have hf1 := Go.Kf.Filled.ext hf [u, v]
  rw [hl] at hf1
  have g0 : (css.flatten ++ [u, v])[k * 2]? = some u := by rw [List.getElem?_append_right (by omega), hl]; simp
  have g1 : (css.flatten ++ [u, v])[k * 2 + 1]? = some v := by rw [List.getElem?_append_right (by omega), hl]; simp
  have hf2 := (hf1.set h.room (by omega) g0).set (h.room.set _ _ _) (by omega) g1
  have hK : ∀ {c x}, R wr F c x → R ((wr.setCell ⟨fb, k * 2, none⟩ u).setCell ⟨fb, k * 2 + 1, none⟩ v) F c x := fun hr => S.kf hr (((KF.refl _ _).set h.nin).set h.nin)
  refine ⟨(h.keeps.setCell hge u).setCell hge v, (h.room.set _ _ _).set _ _ _, ?_, by simp [h.lc], fun c hc => ?_, fun i h1 h2 => ?_, by simp; exact h.lt, hge, h.nin⟩
  · rw [List.flatten_append, Nat.add_mul]
    simpa using hf2
  · rcases List.mem_append.1 hc with hc | hc
    · exact h.each c hc
    · simp at hc; rw [hc]; rfl
  · rcases Nat.lt_or_ge i css.length with hi | hi
    · rw [List.getElem_append_left hi]
      exact hK (h.is i hi h2)
    · have h3 := h.lc
      have : i = k := by simp at h1; omega
      subst this
      have e1 : (css ++ [[u, v]])[i] = [u, v] := by rw [List.getElem_append_right hi]; simp
      rw [e1]
      exact hK hx
theorem Fill.put6 (S : Stable R) (h : Fill w wr F R fb n k 6 css ys) {u0 u1 u2 u3 u4 u5 : Value} (hk : k < n) (hk2 : k < ys.length) (hx : R wr F [u0, u1, u2, u3, u4, u5] ys[k]) :
    Fill w ((((((wr.setCell ⟨fb, k * 6, none⟩ u0).setCell ⟨fb, k * 6 + 1, none⟩ u1).setCell ⟨fb, k * 6 + 2, none⟩ u2).setCell ⟨fb, k * 6 + 3, none⟩ u3).setCell ⟨fb, k * 6 + 4, none⟩ u4).setCell ⟨fb, k * 6 + 5, none⟩ u5) F R fb n (k + 1) 6 (css ++ [[u0, u1, u2, u3, u4, u5]]) ys := by
  have hl : css.flatten.length = k * 6 := by rw [flatten_len css h.each, h.lc]
  have hge := h.ge
  have hf := h.filled
  rw [← hl] at hf
  have hf1 := Go.Kf.Filled.ext hf [u0, u1, u2, u3, u4, u5]
  rw [hl] at hf1
  have g : ∀ j v, [u0, u1, u2, u3, u4, u5][j]? = some v → (css.flatten ++ [u0, u1, u2, u3, u4, u5])[k * 6 + j]? = some v := fun j v hv => by rw [List.getElem?_append_right (by omega), hl, Nat.add_sub_cancel_left]; exact hv
  have hf2 := (((((hf1.set h.room (by omega) (g 0 _ rfl)).set (h.room.set _ _ _) (by omega) (g 1 _ rfl)).set ((h.room.set _ _ _).set _ _ _) (by omega) (g 2 _ rfl)).set (((h.room.set _ _ _).set _ _ _).set _ _ _) (by omega) (g 3 _ rfl)).set ((((h.room.set _ _ _).set _ _ _).set _ _ _).set _ _ _) (by omega) (g 4 _ rfl)).set (((((h.room.set _ _ _).set _ _ _).set _ _ _).set _ _ _).set _ _ _) (by omega) (g 5 _ rfl)
  have hK : ∀ {c x}, R wr F c x → R ((((((wr.setCell ⟨fb, k * 6, none⟩ u0).setCell ⟨fb, k * 6 + 1, none⟩ u1).setCell ⟨fb, k * 6 + 2, none⟩ u2).setCell ⟨fb, k * 6 + 3, none⟩ u3).setCell ⟨fb, k * 6 + 4, none⟩ u4).setCell ⟨fb, k * 6 + 5, none⟩ u5) F c x := fun hr => S.kf hr (((((((KF.refl _ _).set h.nin).set h.nin).set h.nin).set h.nin).set h.nin).set h.nin)
  refine ⟨(((((h.keeps.setCell hge _).setCell hge _).setCell hge _).setCell hge _).setCell hge _).setCell hge _, (((((h.room.set _ _ _).set _ _ _).set _ _ _).set _ _ _).set _ _ _).set _ _ _, ?_, by simp [h.lc], fun c hc => ?_, fun i h1 h2 => ?_, by simp; exact h.lt, hge, h.nin⟩
  · rw [List.flatten_append, Nat.add_mul]
    simpa using hf2
  · rcases List.mem_append.1 hc with hc | hc
    · exact h.each c hc
    · simp at hc; rw [hc]; rfl
  · rcases Nat.lt_or_ge i css.length with hi | hi
    · rw [List.getElem_append_left hi]
      exact hK (h.is i hi h2)
    · have h3 := h.lc
      have : i = k := by simp at h1; omega
      subst this
      have e1 : (css ++ [[u0, u1, u2, u3, u4, u5]])[i] = [u0, u1, u2, u3, u4, u5] := by rw [List.getElem_append_right hi]; simp
      rw [e1]
      exact hK hx
/-- it is full -/
theorem Fill.rows (S : Stable R) (h : Fill w wr F R fb n n kc css ys) (hy : ys.length = n) (hm : n ≤ maxLen) {G : Nat → Prop} (hG : ∀ b, b < wr.heap.size → F b → G b) (hfb : G fb) : Rows wr G R (some ⟨fb, 0, none⟩) n n kc css ys := by
  have hl : css.flatten.length = n * kc := by rw [flatten_len css h.each, h.lc]
  exact ⟨h.lc, hy, h.each, ⟨(h.filled.sl hl hm h.lt).toSz, fun _ x hx => by cases hx; exact hfb⟩, fun i h1 h2 => S.mono (h.is i h1 h2) hG⟩
/-- an own array of n things that are changed one by one: the first k are -/
structure Upd (w wr : World) (F : Nat → Prop) {α : Type} (R : World → (Nat → Prop) → List Value → α → Prop) (fb n k kc : Nat) (css old : List (List Value)) (ys : List α) : Prop where
  keeps : Stab.Keeps w wr
  room : Room wr fb (n * kc)
  filled : Filled wr fb (n * kc) (css.flatten ++ (old.drop k).flatten)
  lc : css.length = k
  each : ∀ c ∈ css, c.length = kc
  lo : old.length = n
  eacho : ∀ c ∈ old, c.length = kc
  is : ∀ i (h1 : i < css.length) (h2 : i < ys.length), R wr F css[i] ys[i]
  lt : fb < wr.heap.size
  ge : w.heap.size ≤ fb
  nin : ¬ F fb
variable {old : List (List Value)}
theorem Upd.start {base cap : Nat} {e : TypeId} {al : Option Addr} (F : Nat → Prop) (R : World → (Nat → Prop) → List Value → α → Prop) (ys : List α) (hk : Stab.Keeps w wr) (h : wr.ownsRow base e kc (.slice al n cap) n old.flatten) (hn : 0 < n) (hb : w.heap.size ≤ base) (hl : old.length = n) (he : ∀ c ∈ old, c.length = kc) (hF : ∀ b, base ≤ b → b < wr.heap.size → ¬ F b) :
    ∃ fb, al = some ⟨fb, 0, none⟩ ∧ base ≤ fb ∧ Upd w wr F R fb n 0 kc [] old ys ∧ n ≤ cap ∧ cap ≤ maxLen := by
  obtain ⟨a, c, h1, hs, hnil, hge⟩ := Go.Sl.of_owns h
  cases h1
  cases al with
  | none => have := hnil rfl; omega
  | some x =>
    obtain ⟨g, off, hx, hlt, hc⟩ := hs.at_ x rfl
    have hfl : old.flatten.length = n * kc := by rw [flatten_len old he, hl]
    have hx0 : x = ⟨g, 0, none⟩ := by
      rcases h.2 with ⟨h1, _⟩ | ⟨g', cap', cur, h1, _⟩
      · cases h1
      · cases h1
        cases hx
        rfl
    subst hx0
    cases hx
    have hge' := hge _ rfl
    simp only at hge'
    refine ⟨g, rfl, hge', ⟨hk, ⟨fun j hj => ?_, fun j => h.frozenAt j⟩, ?_, rfl, fun c hc => by simp at hc, hl, he, fun i h1 => by simp at h1, hlt, by omega, hF g hge' hlt⟩, hs.le, hs.max⟩
    · have : j < old.flatten.length := by omega
      exact ⟨_, by have := hc j _ (List.getElem?_eq_getElem this); simpa using this⟩
    · intro j u hj hu
      have := hc j u (by simpa using hu)
      simpa using this
theorem Upd.keep (S : Stable R) (h : Upd w wr F R fb n k kc css old ys) (hk : Stab.Keeps wr w4) : Upd w w4 F R fb n k kc css old ys :=
  ⟨Stab.Keeps.trans h.keeps hk, h.room.keep hk h.lt, h.filled.keep hk h.lt, h.lc, h.each, h.lo, h.eacho, fun i h1 h2 => S.kf (h.is i h1 h2) (KF.keeps hk), Nat.lt_of_lt_of_le h.lt hk.size, h.ge, h.nin⟩
theorem Upd.past (S : Stable R) (h : Upd w wr F R fb n k kc css old ys) {b i : Nat} (hb : b ≠ fb) (hF : ¬ F b) (hw : w.heap.size ≤ b) (v : Value) : Upd w (wr.setCell ⟨b, i, none⟩ v) F R fb n k kc css old ys :=
  ⟨h.keeps.setCell hw v, h.room.set _ _ _, Filled.past hb h.filled, h.lc, h.each, h.lo, h.eacho, fun i h1 h2 => S.kf (h.is i h1 h2) ((KF.refl _ _).set hF), by simp; exact h.lt, h.ge, h.nin⟩
theorem Upd.cell (h : Upd w wr F R fb n k kc css old ys) (hk : k < n) {j : Nat} {v : Value} (hv : (old[k]'(by rw [h.lo]; exact hk))[j]? = some v) : wr.cell? ⟨fb, k * kc + j, none⟩ = some v := by
  have hko : k < old.length := by rw [h.lo]; exact hk
  have hl : css.flatten.length = k * kc := by rw [flatten_len css h.each, h.lc]
  have hj : j < kc := by
    have := (List.getElem?_eq_some_iff.1 hv).1
    rwa [h.eacho _ (List.getElem_mem hko)] at this
  have : k * kc + j < n * kc := by
    have : k * kc + kc ≤ n * kc := by rw [← Nat.succ_mul]; exact Nat.mul_le_mul_right _ hk
    omega
  refine h.filled _ _ this ?_
  rw [List.getElem?_append_right (by omega), hl, Nat.add_sub_cancel_left, List.drop_eq_getElem_cons hko, List.flatten_cons, List.getElem?_append_left (by rw [h.eacho _ (List.getElem_mem hko)]; exact hj)]
  exact hv
theorem Upd.put2 (S : Stable R) (h : Upd w wr F R fb n k 2 css old ys) {u v : Value} (hk : k < n) (hk2 : k < ys.length) (hx : R wr F [u, v] ys[k]) :
    Upd w ((wr.setCell ⟨fb, k * 2, none⟩ u).setCell ⟨fb, k * 2 + 1, none⟩ v) F R fb n (k + 1) 2 (css ++ [[u, v]]) old ys := by
  have hko : k < old.length := by rw [h.lo]; exact hk
  have hl : css.flatten.length = k * 2 := by rw [flatten_len css h.each, h.lc]
  have hge := h.ge
  have hK : ∀ {c x}, R wr F c x → R ((wr.setCell ⟨fb, k * 2, none⟩ u).setCell ⟨fb, k * 2 + 1, none⟩ v) F c x := fun hr => S.kf hr (((KF.refl _ _).set h.nin).set h.nin)
  refine ⟨(h.keeps.setCell hge u).setCell hge v, (h.room.set _ _ _).set _ _ _, ?_, by simp [h.lc], fun c hc => ?_, h.lo, h.eacho, fun i h1 h2 => ?_, by simp; exact h.lt, hge, h.nin⟩
  · intro j x hj hx
    have ho2 : (old[k]).length = 2 := h.eacho _ (List.getElem_mem hko)
    have hf := h.filled j
    rw [List.drop_eq_getElem_cons hko, List.flatten_cons] at hf
    rw [List.flatten_append] at hx
    have hle : (css.flatten ++ [[u, v]].flatten).length = k * 2 + 2 := by rw [List.length_append, hl]; rfl
    by_cases h1 : j = k * 2 + 1
    · subst h1
      rw [List.getElem?_append_left (by rw [hle]; omega), List.getElem?_append_right (by omega), hl] at hx
      simp at hx
      subst hx
      obtain ⟨y, hy⟩ := (h.room.set fb (k * 2) u).cell (k * 2 + 1) (by omega)
      exact World.cell?_setCell_same _ _ _ hy
    rw [World.cell?_setCell_other _ _ _ _ (fun e => h1 (by injection e with _ e; exact e.symm))]
    by_cases h2 : j = k * 2
    · subst h2
      rw [List.getElem?_append_left (by rw [hle]; omega), List.getElem?_append_right (by omega), hl] at hx
      simp at hx
      subst hx
      obtain ⟨y, hy⟩ := h.room.cell (k * 2) (by omega)
      exact World.cell?_setCell_same _ _ _ hy
    rw [World.cell?_setCell_other _ _ _ _ (fun e => h2 (by injection e with _ e; exact e.symm))]
    refine hf x hj ?_
    rcases Nat.lt_or_ge j (k * 2) with h3 | h3
    · rw [List.getElem?_append_left (by rw [hle]; omega), List.getElem?_append_left (by omega)] at hx
      rw [List.getElem?_append_left (by omega)]
      exact hx
    · rw [List.getElem?_append_right (by rw [hle]; omega)] at hx
      rw [List.getElem?_append_right (by omega), List.getElem?_append_right (by omega)]
      rw [← hx]
      congr 1
      rw [hle, ho2, hl]
      omega
  · rcases List.mem_append.1 hc with hc | hc
    · exact h.each c hc
    · simp at hc; rw [hc]; rfl
  · rcases Nat.lt_or_ge i css.length with hi | hi
    · rw [List.getElem_append_left hi]
      exact hK (h.is i hi h2)
    · have h3 := h.lc
      have : i = k := by simp at h1; omega
      subst this
      have e1 : (css ++ [[u, v]])[i] = [u, v] := by rw [List.getElem_append_right hi]; simp
      rw [e1]
      exact hK hx
theorem Upd.rows (S : Stable R) (h : Upd w wr F R fb n n kc css old ys) (hy : ys.length = n) {cap : Nat} (hc : n ≤ cap) (hm : cap ≤ maxLen) {G : Nat → Prop} (hG : ∀ b, b < wr.heap.size → F b → G b) (hfb : G fb) : Rows wr G R (some ⟨fb, 0, none⟩) n cap kc css ys := by
  have hl : css.flatten.length = n * kc := by rw [flatten_len css h.each, h.lc]
  have hf := h.filled
  rw [List.drop_of_length_le (by rw [h.lo]; exact Nat.le_refl _), List.flatten_nil, List.append_nil] at hf
  refine ⟨h.lc, hy, h.each, ⟨⟨hl, hc, hm, fun _ => ⟨hl, hc, hm, (fun hx => by cases hx), fun x hx => ?_⟩⟩, fun _ x hx => by cases hx; exact hfb⟩, fun i h1 h2 => S.mono (h.is i h1 h2) hG⟩
  cases hx
  refine ⟨fb, 0, rfl, h.lt, fun j u hu => ?_⟩
  rw [Nat.zero_add]
  have hj : j < css.flatten.length := (List.getElem?_eq_some_iff.1 hu).1
  exact hf j u (by omega) hu
end Go.Kf
