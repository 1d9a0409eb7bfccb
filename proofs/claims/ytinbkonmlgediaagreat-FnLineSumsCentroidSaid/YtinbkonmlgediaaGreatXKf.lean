/-
  Data within a set of blocks: what leaves those blocks alone leaves the data alone. No condition.
-/
import Derived.Test.YtinbkonmlgediaaGreatXSz
import Derived.Test.YtinbkonmlgediaaGreatXCh
set_option linter.unusedVariables false
set_option linter.unusedSimpArgs false
namespace Go.Kf
open Go.RowKit Go.Sl Go.Ch
/-- from w to w' no block of F has changed, and none is gone -/
structure KF (F : Nat → Prop) (w w' : World) : Prop where
  size : w.heap.size ≤ w'.heap.size
  block : ∀ b, b < w.heap.size → F b → w'.heap[b]? = w.heap[b]?
variable {F G : Nat → Prop} {w w' w2 : World}
theorem KF.refl (F : Nat → Prop) (w : World) : KF F w w := ⟨Nat.le_refl _, fun _ _ _ => rfl⟩
theorem KF.keeps (h : Stab.Keeps w w') : KF F w w' := ⟨h.size, fun b hb _ => h.block b hb⟩
theorem KF.below {B : Nat} (h : Below B w w') (hB : ∀ b, F b → b < w.heap.size → b < B) : KF F w w' := ⟨h.size, fun b hb hf => h.block b (hB b hf hb)⟩
theorem KF.alloc (h : KF F w w') (o : Obj) : KF F w (w'.alloc o) := ⟨by simp; have := h.size; omega, fun b hb hf => by rw [Below.heap_alloc w' o b (Nat.lt_of_lt_of_le hb h.size)]; exact h.block b hb hf⟩
theorem KF.set {a : Addr} {u : Value} (ha : ¬ F a.block) (h : KF F w w') : KF F w (w'.setCell a u) := ⟨by simp; exact h.size, fun b hb hf => by
  rw [Below.heap_setCell _ _ _ _ (fun e => ha (e ▸ hf))]; exact h.block b hb hf⟩
theorem KF.grown {row : Option Nat} (h : KF F w w2) (hg : w2.grownBy w' row) (hr : ∀ k, row = some k → ¬ F k) : KF F w w' := ⟨Nat.le_trans h.size hg.size, fun b hb hf => by
  rw [hg.block b (Nat.lt_of_lt_of_le hb h.size) (fun e => hr b e.symm hf)]; exact h.block b hb hf⟩
theorem KF.mono (h : KF F w w') (hG : ∀ b, G b → F b) : KF G w w' := ⟨h.size, fun b hb hf => h.block b hb (hG b hf)⟩
/-- a block of F, or a new one -/
def orNew (F : Nat → Prop) (n : Nat) : Nat → Prop := fun b => F b ∨ n ≤ b
/-- a block of F that was there -/
def old (F : Nat → Prop) (n : Nat) : Nat → Prop := fun b => F b ∧ b < n
theorem on_mono {F : Nat → Prop} {n m s b : Nat} (h : s ≤ m) (hb : orNew (old F n) m b) : orNew F s b := hb.elim (fun h => .inl h.1) (fun h' => .inr (Nat.le_trans h h'))
theorem on_old {F : Nat → Prop} {n m s b : Nat} (h : s ≤ m) (hb : orNew (old F n) m b) : orNew (old F n) s b := hb.elim (fun h => .inl h) (fun h' => .inr (Nat.le_trans h h'))
/-- a slice that lies in F -/
structure SzF (w : World) (F : Nat → Prop) (a : Option Addr) (n cap k : Nat) (xs : List Value) : Prop where
  sz : Sz w a n cap k xs
  inF : 0 < n → ∀ x, a = some x → F x.block
theorem SzF.kf {a : Option Addr} {n cap k : Nat} {xs : List Value} (h : SzF w F a n cap k xs) (hk : KF F w w') : SzF w' F a n cap k xs := by
  refine ⟨⟨h.sz.len, h.sz.le, h.sz.max, fun hn => ?_⟩, h.inF⟩
  have hs := h.sz.some_ hn
  refine ⟨hs.len, hs.le, hs.max, hs.nil, fun x hx => ?_⟩
  obtain ⟨b, off, e, hb, hc⟩ := hs.at_ x hx
  subst e
  have hf := h.inF hn _ hx
  refine ⟨b, off, rfl, Nat.lt_of_lt_of_le hb hk.size, fun j u hu => ?_⟩
  rw [World.cell?_of_block (a := ⟨b, off + j, none⟩) (hk.block b hb hf)]
  exact hc j u hu
theorem SzF.mono {a : Option Addr} {n cap k : Nat} {xs : List Value} (h : SzF w F a n cap k xs) (hG : ∀ b, b < w.heap.size → F b → G b) : SzF w G a n cap k xs := ⟨h.sz, fun hn x hx => by
  obtain ⟨b, off, e, hb, _⟩ := (h.sz.some_ hn).at_ x hx
  have := h.inF hn x hx
  subst e
  exact hG _ hb this⟩
theorem SzF.nil (w : World) (F : Nat → Prop) (k : Nat) : SzF w F none 0 0 k [] := ⟨Sz.nil w k, fun h => by omega⟩
theorem SzF.of_owns {base k n : Nat} {e : TypeId} {al : Option Addr} {c : Nat} {xs : List Value} (h : w.ownsRow base e k (.slice al n c) n xs) (hF : ∀ b, base ≤ b → F b) : SzF w F al n c k xs := by
  obtain ⟨a, cap, he, hs, _, hb⟩ := Go.Sl.of_owns h
  cases he
  exact ⟨hs.toSz, fun _ x hx => hF _ (hb x hx)⟩
/-- a slice of things, k cells each -/
structure Rows (w : World) (F : Nat → Prop) {α : Type} (R : World → (Nat → Prop) → List Value → α → Prop) (a : Option Addr) (n cap k : Nat) (css : List (List Value)) (xs : List α) : Prop where
  lc : css.length = n
  lx : xs.length = n
  each : ∀ c ∈ css, c.length = k
  sz : SzF w F a n cap k css.flatten
  is : ∀ i (h1 : i < css.length) (h2 : i < xs.length), R w F css[i] xs[i]
theorem flatten_get {k : Nat} : ∀ (css : List (List Value)), (∀ c ∈ css, c.length = k) → ∀ (i j : Nat) (hi : i < css.length), j < k → css.flatten[i * k + j]? = css[i][j]?
  | c :: l, h, 0, j, _, hj => by
    have := h c (by simp)
    rw [List.flatten_cons, List.getElem?_append_left (by omega)]; simp
  | c :: l, h, i + 1, j, hi, hj => by
    have hc := h c (by simp)
    have := flatten_get l (fun x hx => h x (by simp [hx])) i j (by simpa using hi) hj
    rw [List.flatten_cons, List.getElem?_append_right (by rw [hc, Nat.add_mul]; omega), hc, show (i + 1) * k + j - k = i * k + j by rw [Nat.add_mul]; omega, this]
    simp
theorem flatten_len {k : Nat} (css : List (List Value)) (h : ∀ c ∈ css, c.length = k) : css.flatten.length = css.length * k := by
  induction css with
  | nil => simp
  | cons c l ih => rw [List.flatten_cons, List.length_append, h c (by simp), ih (fun x hx => h x (by simp [hx])), List.length_cons, Nat.add_mul]; omega
variable {α : Type} {R : World → (Nat → Prop) → List Value → α → Prop} {a : Option Addr} {n cap k : Nat} {css : List (List Value)} {xs : List α}
theorem Rows.kf (h : Rows w F R a n cap k css xs) (hk : KF F w w') (hR : ∀ c x, R w F c x → R w' F c x) : Rows w' F R a n cap k css xs := ⟨h.lc, h.lx, h.each, h.sz.kf hk, fun i h1 h2 => hR _ _ (h.is i h1 h2)⟩
theorem Rows.mono (h : Rows w F R a n cap k css xs) (hG : ∀ b, b < w.heap.size → F b → G b) (hR : ∀ c x, R w F c x → R w G c x) : Rows w G R a n cap k css xs := ⟨h.lc, h.lx, h.each, h.sz.mono hG, fun i h1 h2 => hR _ _ (h.is i h1 h2)⟩
theorem Rows.nil (w : World) (F : Nat → Prop) (R : World → (Nat → Prop) → List Value → α → Prop) (k : Nat) : Rows w F R none 0 0 k [] [] := ⟨rfl, rfl, fun c hc => by simp at hc, SzF.nil w F k, fun i h1 => by simp at h1⟩
/-- the thing at number i: its cells -/
theorem Rows.elem (h : Rows w F R a n cap k css xs) {i : Nat} (hi : i < n) :
    ∃ b off c, a = some ⟨b, off, none⟩ ∧ b < w.heap.size ∧ F b ∧ css[i]? = some c ∧ c.length = k ∧ (∀ j v, c[j]? = some v → w.cell? ⟨b, off + i * k + j, none⟩ = some v) ∧ R w F c (xs[i]'(by rw [h.lx]; exact hi)) := by
  have h1 : i < css.length := by rw [h.lc]; exact hi
  obtain ⟨b, off, ha, hb, hc⟩ := h.sz.sz.elem hi
  have hF := h.sz.inF (by omega) _ ha
  have hk := h.each _ (List.getElem_mem h1)
  refine ⟨b, off, css[i], ha, hb, hF, List.getElem?_eq_getElem h1, hk, fun j v hv => ?_, h.is i h1 _⟩
  have hj : j < k := by rw [← hk]; exact (List.getElem?_eq_some_iff.1 hv).1
  exact hc j v hj (by rw [flatten_get css h.each i j h1 hj]; exact hv)
end Go.Kf
