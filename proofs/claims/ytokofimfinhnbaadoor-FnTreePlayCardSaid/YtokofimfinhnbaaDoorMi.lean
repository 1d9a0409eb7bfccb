/-
  A map from whole numbers to whatever values, made by the call: looked up, stored into, struck from, gone through. No condition.
-/
import Derived.Maps.Own
import Derived.Maps.Views
import Derived.Maps.OwnOps
import Derived.Maps.OwnSet
import Derived.Maps.RangeWalk
import Derived.WalkKit
set_option linter.unusedVariables false
set_option linter.unusedSimpArgs false
namespace Go.Mi
open Go.RowKit Go.Maps

/-- a value as its own token -/
def tok (v : Value) : Option (DataW Value × List MemPlace) := some (.held v, [])
/-- what the datum says of each number -/
def Says (D : DataW Value) (M : Int → Option Value) : Prop := Tidy D ∧ (∀ (id : Int) (z : DataW Value), D.atKey (.int .i64 id) z = match M id with | some v => .held v | none => z) ∧ ∀ id : Int, has D (.int .i64 id) = (M id).isSome
/-- block b of w is a map of at most n entries that takes each number as M does -/
def MI (P : Program) (k : TypeId) (w : World) (b n : Nat) (M : Int → Option Value) : Prop := ∃ D, w.ownsMap P k tok b n D ∧ Says D M
variable {P : Program} {k e t : TypeId} {w w' : World} {b n : Nat} {M : Int → Option Value}
theorem MI.made (w : World) : MI P k (w.alloc (.map #[] 0)) w.heap.size 0 (fun _ => none) := ⟨_, World.ownsMap_made _ _ _ _, tidy_empty, fun id z => by simp [DataW.atKey], fun id => by simp [has]⟩
theorem MI.lt (h : MI P k w b n M) : b < w.heap.size := by obtain ⟨D, h1, _⟩ := h; exact h1.lt
theorem MI.kept (h : MI P k w b n M) {row : Option Nat} (hg : w.grownBy w' row) (hne : some b ≠ row) : MI P k w' b n M := by
  obtain ⟨D, h1, h2⟩ := h
  exact ⟨D, h1.kept hg hne, h2⟩
theorem MI.keep (h : MI P k w b n M) (hk : Below w.heap.size w w') : MI P k w' b n M := h.kept (row := none) ⟨hk.os, hk.tape, hk.output, hk.size, fun i hi _ => hk.block i hi⟩ (by simp)
theorem MI.below {B : Nat} (h : MI P k w b n M) (hk : Below B w w') (hb : b < B) : MI P k w' b n M := by
  obtain ⟨D, ⟨es, clock, h1, h3⟩, h2⟩ := h
  exact ⟨D, ⟨es, clock, (hk.block b hb).trans h1, h3⟩, h2⟩
theorem MI.ext {M' : Int → Option Value} (h : MI P k w b n M) (he : ∀ id, M id = M' id) : MI P k w b n M' := by
  have : M = M' := funext he
  rw [← this]
  exact h
/-- 'm[id]' -/
theorem MI.look (h : MI P k w b n M) (ht : P.underlying t = some (.map k e)) (hk : P.underlying k = some (.int .i64)) {z : Value} (hz : (zeroValue e).run P w = .ok z w) (id : Int) (hw : (Lit.int .i64 id).wf = true) :
    (Instr.lookup t (.map (some b)) (.int .i64 id) false).run P w = .ok ((M id).getD z) w := by
  obtain ⟨D, h1, _, h3, _⟩ := h
  obtain ⟨v, ps, hrun, hv⟩ := h1.lookup (int_keyed hk) ht hz (zd := .held z) (zp := []) rfl (keyOf_int_mk hk hw)
  rw [h3] at hv
  have : v = (M id).getD z := by
    simp only [tok, Option.some.injEq, Prod.mk.injEq] at hv
    have hv := hv.1
    cases hM : M id with
    | none => rw [hM] at hv; simpa using hv
    | some u => rw [hM] at hv; simpa using hv
  rw [hrun, this]
/-- 'v, ok := m[id]' -/
theorem MI.look_ok (h : MI P k w b n M) (ht : P.underlying t = some (.map k e)) (hk : P.underlying k = some (.int .i64)) {z : Value} (hz : (zeroValue e).run P w = .ok z w) (id : Int) (hw : (Lit.int .i64 id).wf = true) :
    (Instr.lookup t (.map (some b)) (.int .i64 id) true).run P w = .ok (.tuple #[(M id).getD z, .bool (M id).isSome]) w := by
  obtain ⟨D, h1, _, h3, h4⟩ := h
  obtain ⟨v, ps, hrun, hv⟩ := h1.look_ok (int_keyed hk) ht hz (zd := .held z) (zp := []) rfl (keyOf_int_mk hk hw)
  rw [h3] at hv
  have : v = (M id).getD z := by
    simp only [tok, Option.some.injEq, Prod.mk.injEq] at hv
    have hv := hv.1
    cases hM : M id with
    | none => rw [hM] at hv; simpa using hv
    | some u => rw [hM] at hv; simpa using hv
  rw [hrun, this, h4]
def putF (M : Int → Option Value) (id : Int) (v : Value) : Int → Option Value := fun x => if x = id then some v else M x
def delF (M : Int → Option Value) (id : Int) : Int → Option Value := fun x => if x = id then none else M x
theorem Says.put {D : DataW Value} (h : Says D M) (id : Int) (v : Value) : Says (D.put (.int .i64 id) (.held v)) (putF M id v) := by
  obtain ⟨h1, h2, h3⟩ := h
  have hkl : WideAt.IsKeyLit (.int .i64 id) := by simp [WideAt.IsKeyLit]
  refine ⟨h1.put hkl _, fun x z => ?_, fun x => ?_⟩
  · by_cases hx : x = id
    · subst hx; rw [atKey_put_same h1.isMap hkl]; simp [putF]
    · rw [atKey_put_other (by simp; exact hx), h2]; simp [putF, hx]
  · by_cases hx : x = id
    · subst hx; rw [has_put_same h1.isMap hkl]; simp [putF]
    · rw [has_put_other (by simp; exact hx), h3]; simp [putF, hx]
theorem Says.del {D : DataW Value} (h : Says D M) (id : Int) : Says (D.del (.int .i64 id)) (delF M id) := by
  obtain ⟨h1, h2, h3⟩ := h
  refine ⟨h1.del _, fun x z => ?_, fun x => ?_⟩
  · by_cases hx : x = id
    · subst hx; rw [atKey_del_same]; simp [delF]
    · rw [atKey_del_other (by simp; exact hx), h2]; simp [delF, hx]
  · by_cases hx : x = id
    · subst hx; rw [has_del_same]; simp [delF]
    · rw [has_del_other (by simp; exact hx), h3]; simp [delF, hx]
/-- 'm[id] = v' -/
theorem MI.put {ops : Array Oper} {rest : List Oper} {o : Oper} {a : Act} {Q : Exit → Act → World → Prop} (hg : o.guard = none) (m x u : Operand) (t : TypeId) (hop : o.op = Op.mapUpdate t m x u)
    (ht : P.underlying t = some (.map k e)) (hk : P.underlying k = some (.int .i64)) (hm : a.eval m = .map (some b)) (h : MI P k w b n M) (hn : n < maxLen) (id : Int) (hw : (Lit.int .i64 id).wf = true) (hx : a.eval x = .int .i64 id) (v : Value) (hv : a.eval u = v)
    (hK : ∀ w', MI P k w' b (n + 1) (putF M id v) → w.grownBy w' (some b) → wpList P ops Q rest (a.put o.dst undef) w') : wpList P ops Q (o :: rest) a w := by
  obtain ⟨D, h1, h2⟩ := h
  exact wpList_mapUpdate_own w hg m x u t hop k e (int_keyed hk) ht _ b n D hm h1 hn _ _ _ hx hv (keyOf_int_mk hk hw) (.held v) [] rfl fun w' hown hgr => hK w' ⟨_, hown, h2.put _ _⟩ hgr
/-- 'm[id] = v', as a run -/
theorem MI.store (h : MI P k w b n M) (ht : P.underlying t = some (.map k e)) (hk : P.underlying k = some (.int .i64)) (hn : n < maxLen) (id : Int) (hw : (Lit.int .i64 id).wf = true) (v : Value) :
    ∃ w', (Instr.mapUpdate t (.map (some b)) (.int .i64 id) v).run P w = .ok () w' ∧ MI P k w' b (n + 1) (putF M id v) ∧ w.grownBy w' (some b) := by
  obtain ⟨D, h1, h2⟩ := h
  obtain ⟨w', r1, r2, r3⟩ := h1.update (int_keyed hk) ht hn (keyOf_int_mk hk hw) (d := .held v) (ps := []) rfl
  exact ⟨w', r1, ⟨_, r2, h2.put _ _⟩, r3⟩
/-- 'delete(m, id)' -/
theorem MI.drop {ops : Array Oper} {rest : List Oper} {o : Oper} {a : Act} {Q : Exit → Act → World → Prop} (hg : o.guard = none) (m x : Operand) (t : TypeId) (hop : o.op = Op.call { callee := Callee.builtin Builtin.delete, args := #[m, x], argTypes := #[t, k] })
    (ht : P.underlying t = some (.map k e)) (hk : P.underlying k = some (.int .i64)) (hm : a.eval m = .map (some b)) (h : MI P k w b n M) (id : Int) (hw : (Lit.int .i64 id).wf = true) (hx : a.eval x = .int .i64 id)
    (hK : ∀ w', MI P k w' b n (delF M id) → w.mapTurned w' b → wpList P ops Q rest (a.put o.dst (.tuple #[])) w') : wpList P ops Q (o :: rest) a w := by
  obtain ⟨D, h1, h2⟩ := h
  exact wpList_delete_own w hg m x t k hop e (int_keyed hk) ht _ b n D hm h1 _ _ hx (keyOf_int_mk hk hw) fun w' hown hgr => hK w' ⟨_, hown, h2.del _⟩ hgr
/-- 'range m' under way -/
def MR (P : Program) (k : TypeId) (w : World) (b r n cnt : Nat) (M : Int → Option Value) (left : Int → Bool) : Prop := ∃ D L, w.ranges P k tok b r n D L cnt ∧ Says D M ∧ ∀ id : Int, (Lit.int .i64 id).wf = true → L (.int .i64 id) = left id
theorem MI.range {ops : Array Oper} {rest : List Oper} {o : Oper} {a : Act} {Q : Exit → Act → World → Prop} (hg : o.guard = none) (m : Operand) (t : TypeId) (hop : o.op = Op.range t m) (ht : P.underlying t = some (.map k e)) (hk : P.underlying k = some (.int .i64))
    (hm : a.eval m = .map (some b)) (h : MI P k w b n M)
    (hK : ∀ w' cnt, MR P k w' b w.heap.size n cnt M (fun id => (M id).isSome) → w.grownBy w' none → w'.heap.size = w.heap.size + 1 → wpList P ops Q rest (a.put o.dst (.pointer (some ⟨w.heap.size, 0, none⟩))) w') : wpList P ops Q (o :: rest) a w := by
  obtain ⟨D, h1, h2⟩ := h
  exact wpList_range_own w hg m t hop k e (int_keyed hk) ht _ b n D hm h1 fun w' hr hgr hs => hK w' _ ⟨D, _, hr, h2, fun id _ => h2.2.2 id⟩ hgr hs
/-- the next entry: none is left, or one that the map has -/
theorem MR.next {ops : Array Oper} {rest : List Oper} {o : Oper} {a : Act} {Q : Exit → Act → World → Prop} {r cnt : Nat} {left : Int → Bool} (hg : o.guard = none) (it : Operand) (hop : o.op = Op.next it false) (hk : P.underlying k = some (.int .i64))
    (hit : a.eval it = .pointer (some ⟨r, 0, none⟩)) (h : MR P k w b r n cnt M left)
    (hDone : (∀ id : Int, (Lit.int .i64 id).wf = true → left id = false) → wpList P ops Q rest (a.put o.dst (.tuple #[.bool false])) w)
    (hMore : ∀ (id : Int) (v : Value) (w' : World) (cnt' : Nat), (Lit.int .i64 id).wf = true → left id = true → M id = some v → MR P k w' b r n cnt' M (fun x => left x && !(decide (x = id))) → cnt' < cnt →
      w.grownBy w' (some r) → w'.heap.size = w.heap.size → (Instr.entry (.pointer (some ⟨r, 0, none⟩))).run P w' = .ok (.tuple #[.int .i64 id, v]) w' → wpList P ops Q rest (a.put o.dst (.tuple #[.bool true, .int .i64 id, v])) w') :
    wpList P ops Q (o :: rest) a w := by
  obtain ⟨D, L, h1, h2, h3⟩ := h
  refine wpList_next_ranges (α := Int) (β := Value) w hg it hop k (int_keyed hk) tok (Value.int .i64) (fun v => v) (fun key kl hkey => ?_) (fun v y _ => ⟨v, rfl⟩) b r n D L cnt hit h1 (fun _ hl => hDone fun id hw => by rw [← h3 id hw]; exact hl _) (fun x c kl y w' cnt' hkey hlk hv hat hrg hlt hgr hsz hen => ?_)
  · obtain ⟨x, rfl, _, _⟩ := Maps.keyOf_int_inv hk hkey
    exact ⟨x, rfl⟩
  · obtain ⟨x', ex, rfl, hwx⟩ := Maps.keyOf_int_inv hk hkey
    cases ex
    simp only [tok, Option.some.injEq] at hv
    subst hv
    have hM : M x = some c := by
      have h4 := hat .nil
      rw [h2.2.1] at h4
      cases hm : M x with
      | none => rw [hm] at h4; simp at h4
      | some u => rw [hm] at h4; simp at h4; rw [h4]
    refine hMore x c w' cnt' hwx ((h3 x hwx).symm.trans hlk) hM ⟨D, _, hrg, h2, fun id hw => ?_⟩ hlt hgr hsz hen
    rw [h3 id hw]
    by_cases hx : id = x
    · subst hx
      simp [Lit.sameKey]
    · rw [sameKey_ne (by simp; exact hx)]
      simp [hx]
theorem MR.lt {r cnt : Nat} {left : Int → Bool} (h : MR P k w b r n cnt M left) : b < w.heap.size := by
  obtain ⟨D, L, ⟨es, clock, _, _, _, hb, _⟩, _⟩ := h
  exact lt_of_block hb
theorem MR.left_eq {r cnt : Nat} {left : Int → Bool} (h : MR P k w b r n cnt M left) : w.rangeLeft b r = cnt := by
  obtain ⟨D, L, h1, _⟩ := h
  exact h1.left_eq
end Go.Mi
