/-
  Worlds that keep all but some blocks (some by number, some by their elements' type); blocks known whole. No condition.
-/
import Derived.Laws.AppendOwn
import Derived.Laws.OwnMore
import Derived.WalkKit
import Derived.OneCell
import Derived.Deep.Draws
set_option linter.unusedVariables false
set_option linter.unusedSimpArgs false
namespace Go.Ch
open Go.RowKit

/-- a block known whole -/
def Blk (w : World) (b : Nat) (e : TypeId) (vs : List Value) : Prop := w.heap[b]? = some (.cells vs.toArray e (0, 0))
theorem Blk.lt {w : World} {b : Nat} {e : TypeId} {vs : List Value} (h : Blk w b e vs) : b < w.heap.size := lt_of_block h
theorem Blk.cell {w : World} {b : Nat} {e : TypeId} {vs : List Value} (h : Blk w b e vs) {i : Nat} {v : Value} (hv : vs[i]? = some v) : w.cell? ⟨b, i, none⟩ = some v := by
  unfold Blk at h
  simp [World.cell?, h, hv]
theorem Blk.free {w : World} {b : Nat} {e : TypeId} {vs : List Value} (h : Blk w b e vs) (j : Nat) : w.frozen? ⟨b, j, none⟩ = false := by
  unfold Blk at h
  simp [World.frozen?, h]
theorem Blk.of_heap {w w' : World} {b : Nat} {e : TypeId} {vs : List Value} (h : Blk w b e vs) (hk : w'.heap[b]? = w.heap[b]?) : Blk w' b e vs := hk.trans h
theorem Blk.keep {w w' : World} {b : Nat} {e : TypeId} {vs : List Value} (h : Blk w b e vs) (hk : Below w.heap.size w w') : Blk w' b e vs := h.of_heap (hk.block b h.lt)
theorem Blk.below {B : Nat} {w w' : World} {b : Nat} {e : TypeId} {vs : List Value} (h : Blk w b e vs) (hk : Below B w w') (hb : b < B) : Blk w' b e vs := h.of_heap (hk.block b hb)
theorem Blk.alloc {w : World} {b : Nat} {e : TypeId} {vs : List Value} (h : Blk w b e vs) (o : Obj) : Blk (w.alloc o) b e vs := h.of_heap (Below.heap_alloc w o b h.lt)
theorem Blk.drew {w : World} {b : Nat} {e : TypeId} {vs : List Value} (h : Blk w b e vs) : Blk w.drew b e vs := h
theorem Blk.drewN {w : World} {b : Nat} {e : TypeId} {vs : List Value} (h : Blk w b e vs) (n : Nat) : Blk (w.drewN n) b e vs := h
theorem Blk.new (w : World) (vs : List Value) (e : TypeId) (n : Nat) (hn : n = w.heap.size) : Blk (w.alloc (.cells vs.toArray e)) n e vs := by subst hn; exact heap_alloc_new w _
theorem Blk.past {w : World} {b : Nat} {e : TypeId} {vs : List Value} (h : Blk w b e vs) {a : Addr} (ha : b ≠ a.block) (u : Value) : Blk (w.setCell a u) b e vs := h.of_heap (Below.heap_setCell w a u b ha)
theorem Blk.set {w : World} {b : Nat} {e : TypeId} {vs : List Value} (h : Blk w b e vs) (i : Nat) (u : Value) : Blk (w.setCell ⟨b, i, none⟩ u) b e (vs.set i u) := by
  have hlt := h.lt
  unfold Blk at h ⊢
  rw [Array.getElem?_eq_getElem hlt] at h
  have h' : w.heap[b] = .cells vs.toArray e (0, 0) := by simpa using h
  show (w.heap.modify b _)[b]? = _
  rw [Array.getElem?_eq_getElem (by simpa using hlt), Array.getElem_modify_self, h']
  simp
theorem Blk.grown {w w' : World} {b : Nat} {e : TypeId} {vs : List Value} (h : Blk w b e vs) {row : Option Nat} (hg : w.grownBy w' row) (hr : some b ≠ row) : Blk w' b e vs := h.of_heap (hg.block b h.lt hr)
/-- blocks of two types are two -/
theorem Blk.ne {w : World} {b b' : Nat} {e e' : TypeId} {vs vs' : List Value} (h : Blk w b e vs) (h' : Blk w b' e' vs') (he : e ≠ e') : b ≠ b' := by
  rintro rfl
  unfold Blk at h h'
  rw [h] at h'
  injection h' with h'
  injection h' with _ h'
  exact he h'

/-- nothing that was there has changed, but blocks whose number is in X, and blocks with elements of a type in T -/
structure Ch (T X : Nat → Prop) (w w' : World) : Prop where
  os : w'.os = w.os
  tape : w'.tape = w.tape
  output : w'.output = w.output
  size : w.heap.size ≤ w'.heap.size
  block : ∀ b, b < w.heap.size → ¬ X b → (∀ c e z, w.heap[b]? = some (.cells c e z) → ¬ T e) → w'.heap[b]? = w.heap[b]?
def no : Nat → Prop := fun _ => False
theorem Ch.refl (T X : Nat → Prop) (w : World) : Ch T X w w := ⟨rfl, rfl, rfl, Nat.le_refl _, fun _ _ _ _ => rfl⟩
theorem Ch.trans {T X : Nat → Prop} {a b c : World} (h : Ch T X a b) (k : Ch T X b c) : Ch T X a c :=
  ⟨k.os.trans h.os, k.tape.trans h.tape, k.output.trans h.output, Nat.le_trans h.size k.size, fun i hi hx ht => by
    have h1 := h.block i hi hx ht
    rw [← h1]
    exact k.block i (Nat.lt_of_lt_of_le hi h.size) hx (fun c e z he => ht c e z (by rw [← h1]; exact he))⟩
theorem Ch.mono {T X T' X' : Nat → Prop} {a b : World} (h : Ch T X a b) (hT : ∀ e, T e → T' e) (hX : ∀ i, X i → X' i) : Ch T' X' a b :=
  ⟨h.os, h.tape, h.output, h.size, fun i hi hx ht => h.block i hi (fun e => hx (hX i e)) (fun c e z he e' => ht c e z he (hT e e'))⟩
/-- what is done to blocks made since a world does not show in it -/
theorem Ch.since {T X T' X' : Nat → Prop} {a b c : World} (h : Ch T' X' a b) (k : Ch T X b c) (hT : ∀ e, T e → T' e) (hX : ∀ i, X i → X' i ∨ a.heap.size ≤ i) (hX' : ∀ i, X' i → X' i) : Ch T' X' a c :=
  ⟨k.os.trans h.os, k.tape.trans h.tape, k.output.trans h.output, Nat.le_trans h.size k.size, fun i hi hx ht => by
    have h1 := h.block i hi hx ht
    rw [← h1]
    exact k.block i (Nat.lt_of_lt_of_le hi h.size) (fun e => by rcases hX i e with h | h; exact hx h; omega) (fun c e z he e' => ht c e z (by rw [← h1]; exact he) (hT e e'))⟩
theorem Ch.of_keeps {T X : Nat → Prop} {a b : World} (h : Below a.heap.size a b) : Ch T X a b := ⟨h.os, h.tape, h.output, h.size, fun i hi _ _ => h.block i hi⟩
theorem Ch.keeps {a b : World} (h : Ch no no a b) : Below a.heap.size a b := ⟨h.os, h.tape, h.output, h.size, fun i hi => h.block i hi (fun e => e) (fun _ _ _ _ e => e)⟩
theorem Ch.below {T X : Nat → Prop} {B : Nat} {a b : World} (h : Ch T X a b) (hB : B ≤ a.heap.size) (hx : ∀ i, X i → B ≤ i) (ht : ∀ i c e z, i < B → a.heap[i]? = some (.cells c e z) → ¬ T e) : Below B a b :=
  ⟨h.os, h.tape, h.output, h.size, fun i hi => h.block i (by omega) (fun e => by have := hx i e; omega) (fun c e z he => ht i c e z hi he)⟩
theorem Ch.alloc {T X : Nat → Prop} {a b : World} (h : Ch T X a b) (o : Obj) : Ch T X a (b.alloc o) := h.trans (Ch.of_keeps (Below.alloc (Below.refl _ _) (Nat.le_refl _) o))
theorem Ch.drew {T X : Nat → Prop} {a b : World} (h : Ch T X a b) : Ch T X a b.drew := ⟨h.os, h.tape, h.output, h.size, h.block⟩
theorem Ch.drewN {T X : Nat → Prop} {a b : World} (h : Ch T X a b) (n : Nat) : Ch T X a (b.drewN n) := ⟨h.os, h.tape, h.output, h.size, h.block⟩
theorem Ch.setCell {T X : Nat → Prop} {a b : World} (h : Ch T X a b) {p : Addr} (hp : X p.block ∨ a.heap.size ≤ p.block) (u : Value) : Ch T X a (b.setCell p u) :=
  ⟨h.os, h.tape, h.output, by rw [World.size_setCell]; exact h.size, fun i hi hx ht => by
    rw [Below.heap_setCell b p u i (fun e => by subst e; rcases hp with h | h; exact hx h; omega)]
    exact h.block i hi hx ht⟩
theorem Ch.grown {T X : Nat → Prop} {a b c : World} (h : Ch T X a b) {row : Option Nat} (hg : b.grownBy c row) (hr : ∀ k, row = some k → X k ∨ a.heap.size ≤ k ∨ ∃ cs e z, b.heap[k]? = some (.cells cs e z) ∧ T e) : Ch T X a c :=
  ⟨hg.os.trans h.os, hg.tape.trans h.tape, hg.output.trans h.output, Nat.le_trans h.size hg.size, fun i hi hx ht => by
    have h1 := h.block i hi hx ht
    rw [← h1]
    refine hg.block i (Nat.lt_of_lt_of_le hi h.size) (fun e => ?_)
    rcases hr i e.symm with h | h | ⟨cs, e', z, h2, h3⟩
    · exact hx h
    · omega
    · exact ht cs e' z (by rw [← h1]; exact h2) h3⟩
theorem Ch.blk {T X : Nat → Prop} {w w' : World} (h : Ch T X w w') {b : Nat} {e : TypeId} {vs : List Value} (hb : Blk w b e vs) (hx : ¬ X b) (ht : ¬ T e) : Blk w' b e vs :=
  hb.of_heap (h.block b hb.lt hx (fun c e' z he => by unfold Blk at hb; rw [hb] at he; injection he with he; injection he with _ he; rw [← he]; exact ht))
theorem Ch.cell {T X : Nat → Prop} {w w' : World} (h : Ch T X w w') {b : Nat} (hb : b < w.heap.size) (hx : ¬ X b) (ht : ∀ c e z, w.heap[b]? = some (.cells c e z) → ¬ T e) : (∀ o, w'.cell? ⟨b, o, none⟩ = w.cell? ⟨b, o, none⟩) ∧ ∀ o, w'.frozen? ⟨b, o, none⟩ = w.frozen? ⟨b, o, none⟩ :=
  ⟨fun o => World.cell?_of_block (a := ⟨b, o, none⟩) (h.block b hb hx ht), fun o => World.frozen?_of_block (a := ⟨b, o, none⟩) (h.block b hb hx ht)⟩
end Go.Ch
