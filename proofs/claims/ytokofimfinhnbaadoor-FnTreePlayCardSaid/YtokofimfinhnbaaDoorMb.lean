/-
  A map from whole numbers to bools, made by the call: what it holds as a set. No condition.
-/
import Derived.Maps.Own
import Derived.Maps.Views
import Derived.Maps.OwnOps
import Derived.WalkKit
set_option linter.unusedVariables false
set_option linter.unusedSimpArgs false
namespace Go.Mb
open Go.RowKit Go.Maps

theorem plainElem_bool_inv {H : Type} {P : Program} {e : TypeId} (he : P.underlying e = some .bool) {v : Value} {z : DataW H × List MemPlace} (h : plainElem P e v = some z) : ∃ a, v = .bool a ∧ z = (.lit (.bool a), []) := by
  unfold plainElem at h
  rw [he] at h
  cases v <;> simp at h
  exact ⟨_, rfl, h.symm⟩
/-- block b of w is a map of at most n entries that holds just the numbers of S as true -/
def MB (P : Program) (k e : TypeId) (w : World) (b n : Nat) (S : List Int) : Prop :=
  ∃ D : DataW Unit, w.ownsMap P k (plainElem P e) b n D ∧ IsMap D ∧ ∀ id : Int, D.atKey (.int .i64 id) (.lit (.bool false)) = .lit (.bool (decide (id ∈ S)))
variable {P : Program} {k e t : TypeId} {w w' : World} {b n : Nat} {S : List Int}
theorem MB.made (w : World) : MB P k e (w.alloc (.map #[] 0)) w.heap.size 0 [] := ⟨_, World.ownsMap_made _ _ _ _, ⟨[], rfl⟩, fun id => by simp [DataW.atKey]⟩
theorem MB.lt (h : MB P k e w b n S) : b < w.heap.size := by obtain ⟨D, h1, _⟩ := h; exact h1.lt
theorem MB.keep (h : MB P k e w b n S) (hk : Below w.heap.size w w') : MB P k e w' b n S := by
  obtain ⟨D, h1, h2⟩ := h
  exact ⟨D, h1.kept (row := none) ⟨hk.os, hk.tape, hk.output, hk.size, fun i hi _ => hk.block i hi⟩ (by simp), h2⟩
theorem MB.kept (h : MB P k e w b n S) {row : Option Nat} (hg : w.grownBy w' row) (hne : some b ≠ row) : MB P k e w' b n S := by
  obtain ⟨D, h1, h2⟩ := h
  exact ⟨D, h1.kept hg hne, h2⟩
theorem MB.lookup (h : MB P k e w b n S) (ht : P.underlying t = some (.map k e)) (hk : P.underlying k = some (.int .i64)) (he : P.underlying e = some .bool) (hz : (zeroValue e).run P w = .ok (.bool false) w) (id : Int) (hw : (Lit.int .i64 id).wf = true) :
    (Instr.lookup t (.map (some b)) (.int .i64 id) false).run P w = .ok (.bool (decide (id ∈ S))) w := by
  obtain ⟨D, h1, _, h3⟩ := h
  obtain ⟨v, ps, hrun, hv⟩ := h1.lookup (int_keyed hk) ht hz (plainElem_bool he false) (keyOf_int_mk hk hw)
  obtain ⟨c, rfl, hc⟩ := plainElem_bool_inv he hv
  simp only [Prod.mk.injEq] at hc
  rw [h3 id] at hc
  have : c = decide (id ∈ S) := by
    have := hc.1
    injection this with this
    injection this with this
    exact this.symm
  rw [hrun, this]
/-- 'm[id] = true' -/
theorem MB.put {ops : Array Oper} {rest : List Oper} {o : Oper} {a : Act} {Q : Exit → Act → World → Prop} (hg : o.guard = none) (m x v : Operand) (t : TypeId) (hop : o.op = Op.mapUpdate t m x v)
    (ht : P.underlying t = some (.map k e)) (hk : P.underlying k = some (.int .i64)) (he : P.underlying e = some .bool) (hm : a.eval m = .map (some b)) (h : MB P k e w b n S) (hn : n < maxLen) (id : Int) (hw : (Lit.int .i64 id).wf = true) (hx : a.eval x = .int .i64 id) (hv : a.eval v = .bool true)
    (hK : ∀ w', MB P k e w' b (n + 1) (S ++ [id]) → w.grownBy w' (some b) → wpList P ops Q rest (a.put o.dst undef) w') : wpList P ops Q (o :: rest) a w := by
  obtain ⟨D, h1, h2, h3⟩ := h
  refine wpList_mapUpdate_own w hg m x v t hop k e (int_keyed hk) ht _ b n D hm h1 hn _ _ _ hx hv (keyOf_int_mk hk hw) _ [] (plainElem_bool he true) fun w' hown hgr => hK w' ⟨_, hown, h2.put _ _, fun id' => ?_⟩ hgr
  by_cases hid : id' = id
  · subst hid
    rw [atKey_put_same h2 (by simp [WideAt.IsKeyLit])]
    simp
  · rw [atKey_put_other (by simp; exact hid), h3 id']
    simp [hid]
end Go.Mb
