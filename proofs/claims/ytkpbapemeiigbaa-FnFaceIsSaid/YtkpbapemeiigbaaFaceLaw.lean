/-
  FnFaceIs returns true at both inputs: the walk, in every order that Go leaves open. No condition.
-/
import Derived.Test.YtkpbapemeiigbaaProg
import Derived.WalkKit
import Derived.WalkSpells
import Derived.WalkLawsBesides
import Derived.WideMake
import Derived.Laws.IdiomRangeMap
import Derived.Maps.RangeRun
import Derived.Deep.RegionWith
import Derived.ProofKit
import Derived.OpenShut
set_option linter.unusedVariables false
set_option linter.unusedSimpArgs false
namespace Go.Proofs.Ytkpbapemeiigbaa
open Go.RowKit
open Go.ChangeMaps (setBlock)
/-- a map's entries and clock, as the block has them -/
def entriesOf (w : World) (r : Nat) : Array MapEntry := match w.heap[r]? with | some (.map es _) => es | _ => #[]
def clockOf (w : World) (r : Nat) : Nat := match w.heap[r]? with | some (.map _ c) => c | _ => 0
def isMap (w : World) (r : Nat) : Bool := match w.heap[r]? with | some (.map _ _) => true | _ => false
theorem set_at (w : World) (o o' : Obj) (r : Nat) (h : r = w.heap.size) : setBlock (w.alloc o) r o' = w.alloc o' := by
  subst h
  unfold setBlock
  rw [← World.alloc_eq, ← World.alloc_eq]
  have : (w.heap.push o).setIfInBounds w.heap.size o' = w.heap.push o' := by
    apply Array.ext_getElem?
    intro i
    by_cases hi : i = w.heap.size
    · subst hi; simp
    · simp [Array.getElem?_push, hi, Ne.symm hi]
  simp only [this]
theorem set_past (w : World) (o o' : Obj) (r : Nat) (h : r < w.heap.size) : setBlock (w.alloc o) r o' = (setBlock w r o').alloc o := by
  unfold setBlock
  rw [← World.alloc_eq, ← World.alloc_eq]
  have : (w.heap.push o).setIfInBounds r o' = (w.heap.setIfInBounds r o').push o := by
    apply Array.ext_getElem?
    intro i
    simp only [Array.getElem?_setIfInBounds, Array.getElem?_push, Array.size_push, Array.size_setIfInBounds]
    by_cases hi : r = i
    · subst hi
      simp [h, Nat.ne_of_lt h, Nat.lt_succ_of_lt h]
    · simp [hi]
  simp only [this]
theorem set_drew (w : World) (o' : Obj) (r : Nat) : setBlock w.drew r o' = (setBlock w r o').drew := rfl
theorem ent_at (w : World) (es : Array MapEntry) (c r : Nat) (h : r = w.heap.size) : entriesOf (w.alloc (.map es c)) r = es := by
  subst h; unfold entriesOf; rw [heap_alloc_new]
theorem ent_past (w : World) (o : Obj) (r : Nat) (h : r < w.heap.size) : entriesOf (w.alloc o) r = entriesOf w r := by
  unfold entriesOf; rw [heap_alloc_old w o h]
theorem clk_at (w : World) (es : Array MapEntry) (c r : Nat) (h : r = w.heap.size) : clockOf (w.alloc (.map es c)) r = c := by
  subst h; unfold clockOf; rw [heap_alloc_new]
theorem clk_past (w : World) (o : Obj) (r : Nat) (h : r < w.heap.size) : clockOf (w.alloc o) r = clockOf w r := by
  unfold clockOf; rw [heap_alloc_old w o h]
theorem ism_at (w : World) (es : Array MapEntry) (c r : Nat) (h : r = w.heap.size) : isMap (w.alloc (.map es c)) r = true := by
  subst h; unfold isMap; rw [heap_alloc_new]
theorem ism_past (w : World) (o : Obj) (r : Nat) (h : r < w.heap.size) : isMap (w.alloc o) r = isMap w r := by
  unfold isMap; rw [heap_alloc_old w o h]
theorem ent_drew (w : World) (r : Nat) : entriesOf w.drew r = entriesOf w r := rfl
theorem clk_drew (w : World) (r : Nat) : clockOf w.drew r = clockOf w r := rfl
theorem ism_drew (w : World) (r : Nat) : isMap w.drew r = isMap w r := rfl
theorem ins_bool (w : World) (r : Nat) (k : Bool) (v : Value) (h : isMap w r = true) (hf : Instr.findNow .bool (.bool k) (entriesOf w r).toList 0 = some none) :
    (Instr.mapUpdate 23 (.map (some r)) (.bool k) v).run Try.prog w = .ok () (setBlock w r (.map ((entriesOf w r).push { key := .bool k, val := v, born := clockOf w r }) (clockOf w r + 1))) := by
  unfold isMap at h
  split at h
  · rename_i es c hb
    have e1 : entriesOf w r = es := by unfold entriesOf; rw [hb]
    have e2 : clockOf w r = c := by unfold clockOf; rw [hb]
    rw [e1] at hf ⊢
    rw [e2]
    have hc : (Instr.checkKey false 10000 4 (.bool k)).run Try.prog w = .ok () w := MapKept.run_checkKey (k := .bool k) Try.underlying4 (by simp [MapKept.IsKey]) false 9999
    simp [Instr.mapUpdate, run_underlying Try.underlying23, MapKept.run_getObj_map hb, hc, MapKept.run_findKey Try.underlying4 hf, MapKept.run_setObj_map _ hb, Result.andThen]
    rfl
  · cases h
def foundV (k : Bool) (l : List MapEntry) : Value := match Instr.findNow .bool (.bool k) l 0 with | some (some (_, v)) => v | _ => undef
def isFound (k : Bool) (l : List MapEntry) : Bool := match Instr.findNow .bool (.bool k) l 0 with | some (some _) => true | _ => false
theorem look_bool (w : World) (r : Nat) (k : Bool) (h : isMap w r = true) (hf : isFound k (entriesOf w r).toList = true) :
    (Instr.lookup 23 (.map (some r)) (.bool k) false).run Try.prog w = .ok (foundV k (entriesOf w r).toList) w := by
  unfold isMap at h
  split at h
  · rename_i es c hb
    have e1 : entriesOf w r = es := by unfold entriesOf; rw [hb]
    rw [e1] at hf ⊢
    have hc : ∀ e, (Instr.checkKey e 10000 4 (.bool k)).run Try.prog w = .ok () w := fun e => MapKept.run_checkKey (k := .bool k) Try.underlying4 (by simp [MapKept.IsKey]) e 9999
    unfold isFound at hf
    split at hf
    · rename_i x hq
      obtain ⟨i, v⟩ := x
      have hv : foundV k es.toList = v := by unfold foundV; rw [hq]
      rw [hv]
      simp [Instr.lookup, run_underlying Try.underlying23, MapKept.run_getObj_map hb, hc, MapKept.run_findKey Try.underlying4 hq, Result.andThen]
    · cases hf
  · cases h
theorem fn_nil (k : Bool) : Instr.findNow .bool (.bool k) [] 0 = some none := rfl
theorem fn_one (k j : Bool) (v : Value) (c : Nat) (h : (k == j) = false) : Instr.findNow .bool (.bool k) [{ key := .bool j, val := v, born := c }] 0 = some none := by
  simp [Instr.findNow, Instr.sameNow, h]
theorem fd_two (k j1 j2 : Bool) (v1 v2 : Value) (c1 c2 : Nat) (h : (j1 == j2) = false) : foundV k [{ key := .bool j1, val := v1, born := c1 }, { key := .bool j2, val := v2, born := c2 }] = if k == j1 then v1 else v2 := by
  cases k <;> cases j1 <;> cases j2 <;> first | (cases h; done) | rfl
theorem if_two (k j1 j2 : Bool) (v1 v2 : Value) (c1 c2 : Nat) (h : (j1 == j2) = false) : isFound k [{ key := .bool j1, val := v1, born := c1 }, { key := .bool j2, val := v2, born := c2 }] = true := by
  cases k <;> cases j1 <;> cases j2 <;> first | (cases h; done) | rfl
def FaceLaw (w : World) (e : Ending) (w' : World) : Prop := e = .returned (.bool true) ∧ Below w.heap.size w w'
set_option maxRecDepth 100000 in
set_option maxHeartbeats 4000000 in
theorem faceLaw (b : Bool) (w : World) : Calls Try.prog 3 #[.bool b] w (FaceLaw w) := by
  have hmm : ∀ w : World, (Instr.makeMap 23 none).run Try.prog w = .ok (.map (some w.heap.size)) (w.alloc (.map #[] 0)) := fun w => run_makeMap _ w
  have r1 := set_at
  have r2 := set_past
  have r3 := set_drew
  have r4 := ent_at
  have r5 := ent_past
  have r6 := ent_drew
  have r7 := clk_at
  have r8 := clk_past
  have r9 := clk_drew
  have r10 := ism_at
  have r11 := ism_past
  have r12 := ism_drew
  have r13 := ins_bool
  have r14 := look_bool
  have r15 := fn_nil
  have r16 := fn_one
  have r17 := fd_two
  have r18 := if_two
  cases b
  all_goals
    go_enter Try.func3, Try.ntmps3
    go_wp2_with fail
    go_region_calls
    all_goals
      clear r1 r2 r3 r4 r5 r6 r7 r8 r9 r10 r11 r12 r13 r14 r15 r16 r17 r18 hmm
      go_wp2
      go_ret
      refine ⟨by first | rfl | (simp; done), ?_⟩
      repeat (first | (with_reducible exact Below.refl _ _) | (with_reducible refine Below.drew ?_) | ((with_reducible refine Below.alloc ?_ ?_ _); rotate_left; focus (first | (simp; done) | (simp; omega))))
namespace fnFaceIs
open Go.ChangeShapes Go.WideShapes Go.ChangeAt
theorem walkT {H : Type} (enc : TypeId × Value → H) (W : World) (base : Nat) {v0 : Value} {d0 : DataW H} {p0 : List MemPlace}
    (o0 : Value.okWide Try.prog W .any base 4 v0) (h0 : DataW.Trod enc Try.prog W 0 (fun _ => true) true 4 v0 d0 p0) :
    Calls Try.prog 3 #[v0] W (FaceLaw W) := by
  obtain ⟨a0, rfl, rfl, rfl⟩ := open_bool Try.underlying4 o0 h0
  exact faceLaw a0 W
end fnFaceIs
end Go.Proofs.Ytkpbapemeiigbaa
