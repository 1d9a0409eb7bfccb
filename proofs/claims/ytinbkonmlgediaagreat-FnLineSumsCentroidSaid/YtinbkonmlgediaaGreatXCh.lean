/-
  Worlds that keep all but some blocks (some by number, some by their elements' type); blocks known whole. No condition.
-/
import Derived.Laws.AppendOwn
import Derived.Laws.OwnMore
import Derived.WalkKit
import Derived.OneCell
import Derived.Deep.Draws
set_option linter.unusedVariables false
set_option linter.unusedSimpArgs false
namespace Go.Ch
open Go.RowKit

/-- a block known whole -/
def Blk (w : World) (b : Nat) (e : TypeId) (vs : List Value) : Prop := w.heap[b]? = some (.cells vs.toArray e (0, 0))
theorem Blk.lt {w : World} {b : Nat} {e : TypeId} {vs : List Value} (h : Blk w b e vs) : b < w.heap.size := lt_of_block h
theorem Blk.cell {w : World} {b : Nat} {e : TypeId} {vs : List Value} (h : Blk w b e vs) {i : Nat} {v : Value} (hv : vs[i]? = some v) : w.cell? ⟨b, i, none⟩ = some v := by
  unfold Blk at h
  simp [World.cell?, h, hv]
theorem Blk.free {w : World} {b : Nat} {e : TypeId} {vs : List Value} (h : Blk w b e vs) (j : Nat) : w.frozen? ⟨b, j, none⟩ = false := by
  unfold Blk at h
  simp [World.frozen?, h]
theorem Blk.of_heap {w w' : World} {b : Nat} {e : TypeId} {vs : List Value} (h : Blk w b e vs) (hk : w'.heap[b]? = w.heap[b]?) : Blk w' b e vs := hk.trans h
theorem Blk.keep {w w' : World} {b : Nat} {e : TypeId} {vs : List Value} (h : Blk w b e vs) (hk : Below w.heap.size w w') : Blk w' b e vs := h.of_heap (hk.block b h.lt)
theorem Blk.below {B : Nat} {w w' : World} {b : Nat} {e : TypeId} {vs : List Value} (h : Blk w b e vs) (hk : Below B w w') (hb : b < B) : Blk w' b e vs := h.of_heap (hk.block b hb)
theorem Blk.alloc {w : World} {b : Nat} {e : TypeId} {vs : List Value} (h : Blk w b e vs) (o : Obj) : Blk (w.alloc o) b e vs := h.of_heap (Below.heap_alloc w o b h.lt)
theorem Blk.drew {w : World} {b : Nat} {e : TypeId} {vs : List Value} (h : Blk w b e vs) : Blk w.drew b e vs := h
theorem Blk.drewN {w : World} {b : Nat} {e : TypeId} {vs : List Value} (h : Blk w b e vs) (n : Nat) : Blk (w.drewN n) b e vs := h
theorem Blk.new (w : World) (vs : List Value) (e : TypeId) (n : Nat) (hn : n = w.heap.size) : Blk (w.alloc (.cells vs.toArray e)) n e vs := by subst hn; exact heap_alloc_new w _
theorem Blk.past {w : World} {b : Nat} {e : TypeId} {vs : List Value} (h : Blk w b e vs) {a : Addr} (ha : b ≠ a.block) (u : Value) : Blk (w.setCell a u) b e vs := h.of_heap (Below.heap_setCell w a u b ha)
theorem Blk.set {w : World} {b : Nat} {e : TypeId} {vs : List Value} (h : Blk w b e vs) (i : Nat) (u : Value) : Blk (w.setCell ⟨b, i, none⟩ u) b e (vs.set i u) := by
  have hlt := h.lt
  unfold Blk at h ⊢
  rw [Array.getElem?_eq_getElem hlt] at h
  have h' : w.heap[b] = .cells vs.toArray e (0, 0) := by simpa using h
  show (w.heap.modify b _)[b]? = _
  rw [Array.getElem?_eq_getElem (by simpa using hlt), Array.getElem_modify_self, h']
  simp
theorem Blk.grown {w w' : World} {b : Nat} {e : TypeId} {vs : List Value} (h : Blk w b e vs) {row : Option Nat} (hg : w.grownBy w' row) (hr : some b ≠ row) : Blk w' b e vs := h.of_heap (hg.block b h.lt hr)
/-- blocks of two types are two -/
theorem Blk.ne {w : World} {b b' : Nat} {e e' : TypeId} {vs vs' : List Value} (h : Blk w b e vs) (h' : Blk w b' e' vs') (he : e ≠ e') : b ≠ b' := by
  rintro rfl
  unfold Blk at h h'
  rw [h] at h'
  injection h' with h'
  injection h' with _ h'
  exact he h'

/-- nothing that was there has changed, but blocks whose number is in X, and blocks with elements of a type in T -/
structure Ch (T X : Nat → Prop) (w w' : World) : Prop where
  os : w'.os = w.os
  tape : w'.tape = w.tape
  output : w'.output = w.output
  size : w.heap.size ≤ w'.heap.size
  block : ∀ b, b < w.heap.size → ¬ X b → (∀ c e z, w.heap[b]? = some (.cells c e z) → ¬ T e) → w'.heap[b]? = w.heap[b]?
end Go.Ch
