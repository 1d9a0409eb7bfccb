/-
  What doorEdge, the locations of half edges and of vertices return, and a map of one entry: contracts over memory. No condition.
-/
import Derived.Test.YtkpbapemeiigbaaProg
import Derived.WalkKit
import Derived.WalkSpells
import Derived.WalkLawsBesides
import Derived.WideMake
import Derived.Laws.IdiomRangeMap
import Derived.Maps.RangeRun
namespace Go.Proofs.Ytkpbapemeiigbaa
open Go.RowKit
theorem run_ins_first {P : Program} (w : World) (mty kt et : TypeId) {d : TypeDesc} (r clock : Nat) (k val : Value) (hm : P.underlying mty = some (.map kt et)) (hk : P.underlying kt = some d)
    (hc : ∀ w : World, (Instr.checkKey false 10000 kt k).run P w = .ok () w) (hb : w.heap[r]? = some (.map #[] clock)) :
    (Instr.mapUpdate mty (.map (some r)) k val).run P w = .ok () (ChangeMaps.setBlock w r (.map #[{ key := k, val := val, born := clock }] (clock + 1))) := by
  have hf : Instr.findNow d k ([] : List MapEntry) 0 = some none := rfl
  simp [Instr.mapUpdate, run_underlying hm, MapKept.run_getObj_map hb, hc, MapKept.run_findKey hk hf, MapKept.run_setObj_map _ hb, Result.andThen]
  rfl
theorem push_set_last {α : Type} (h : Array α) (o o' : α) : (h.push o).setIfInBounds h.size o' = h.push o' := by
  apply Array.ext_getElem?
  intro i
  by_cases hi : i = h.size
  · subst hi; simp
  · simp [Array.getElem?_push, hi, Ne.symm hi]
theorem set_last (w : World) (o o' : Obj) : ChangeMaps.setBlock (w.alloc o) w.heap.size o' = w.alloc o' := by
  unfold ChangeMaps.setBlock
  rw [← World.alloc_eq, ← World.alloc_eq]
  simp only [push_set_last]
theorem ck (a : Option Addr) (w : World) : (Instr.checkKey false 10000 73 (.pointer a)).run Try.prog w = .ok () w := by
  unfold Instr.checkKey
  simp only [Sem.run_bind, run_underlying Try.underlying73, Result.andThen]
  rfl
theorem hins (w : World) (n : Nat) (k : Option Addr) (v : Value) (h : n = w.heap.size) : (Instr.mapUpdate 84 (.map (some n)) (.pointer k) v).run Try.prog (w.alloc (.map #[] 0)) = .ok () (w.alloc (.map #[{ key := .pointer k, val := v, born := 0 }] 1)) := by
  subst h
  rw [run_ins_first (w.alloc (.map #[] 0)) 84 73 83 w.heap.size 0 _ _ Try.underlying84 Try.underlying73 (ck k) (by rw [← World.alloc_eq]; simp), set_last]
theorem next_one {P : Program} (w : World) (n bm ty : Nat) (k v : Value) (hn : n = w.heap.size) (hb : w.heap[bm]? = some (.map #[{ key := k, val := v, born := 0 }] 1)) :
    (Instr.next (.pointer (some ⟨n, 0, none⟩)) false ty).run P (w.alloc (.mapIter (some bm) 1 #[] 1)) = .ok (.tuple #[.bool true, k, v]) (w.alloc (.mapIter (some bm) 1 #[0] 1)) := by
  subst hn
  have hlt : bm < w.heap.size := by
    rcases Nat.lt_or_ge bm w.heap.size with h | h
    · exact h
    · simp [Array.getElem?_eq_none h] at hb
  have hb' : (w.alloc (.mapIter (some bm) 1 #[] 1)).heap[bm]? = some (.map #[{ key := k, val := v, born := 0 }] 1) := by rw [heap_alloc_old w _ hlt, hb]
  simp only [Instr.next, getObj, Sem.run_bind, Sem.run, heap_alloc_new, hb', Result.andThen]
  have hs : (setObj w.heap.size (.mapIter (some bm) 1 #[0] 1)).run P (w.alloc (.mapIter (some bm) 1 #[] 1)) = .ok () (w.alloc (.mapIter (some bm) 1 #[0] 1)) := by
    rw [run_setObj_at (heap_alloc_new _ _), set_last]
  simp [choose, Question.forced, Sem.run, hs]
theorem entry_one {P : Program} (w : World) (n bm : Nat) (k v : Value) (hn : n = w.heap.size) (hb : w.heap[bm]? = some (.map #[{ key := k, val := v, born := 0 }] 1)) :
    (Instr.entry (.pointer (some ⟨n, 0, none⟩))).run P (w.alloc (.mapIter (some bm) 1 #[0] 1)) = .ok (.tuple #[k, v]) (w.alloc (.mapIter (some bm) 1 #[0] 1)) := by
  subst hn
  exact run_entry_map w bm 1 #[] _ 1 { key := k, val := v, born := 0 } hb (by simp) (by simp)

/-- a half edge's cells that tell where it lies -/
def HE (w : World) (p : Nat) (l r i : Bool) : Prop := ∃ f t g : Nat, w.cell? ⟨p, 2, none⟩ = some (.pointer (some ⟨f, 0, none⟩)) ∧ w.cell? ⟨f, 1, none⟩ = some (.bool l) ∧
  w.cell? ⟨p, 1, none⟩ = some (.pointer (some ⟨t, 0, none⟩)) ∧ w.cell? ⟨t, 2, none⟩ = some (.pointer (some ⟨g, 0, none⟩)) ∧ w.cell? ⟨g, 1, none⟩ = some (.bool r) ∧ w.cell? ⟨p, 11, none⟩ = some (.bool i)
theorem cell_lt {w : World} {a : Addr} {v : Value} (h : w.cell? a = some v) : a.block < w.heap.size := by
  rcases Nat.lt_or_ge a.block w.heap.size with h' | h'
  · exact h'
  · unfold World.cell? at h
    simp [Array.getElem?_eq_none h'] at h
theorem HE.mono {w w' : World} {p : Nat} {l r i : Bool} (h : HE w p l r i) (hb : Below w.heap.size w w') : HE w' p l r i := by
  obtain ⟨f, t, g, h1, h2, h3, h4, h5, h6⟩ := h
  exact ⟨f, t, g, by rw [hb.cell (cell_lt h1)]; exact h1, by rw [hb.cell (cell_lt h2)]; exact h2, by rw [hb.cell (cell_lt h3)]; exact h3, by rw [hb.cell (cell_lt h4)]; exact h4, by rw [hb.cell (cell_lt h5)]; exact h5, by rw [hb.cell (cell_lt h6)]; exact h6⟩
def edgeI (l r i : Bool) : Int := if l && r then 0 else if l || r then 1 else if i then 0 else 2
set_option maxRecDepth 100000 in
set_option maxHeartbeats 1000000 in
theorem loc44 (w : World) (p : Nat) (l r i : Bool) (h : HE w p l r i) : Calls Try.prog 44 #[.pointer (some ⟨p, 0, none⟩), .int .i64 0] w fun e w' => e = .returned (.int .u32 (edgeI l r i)) ∧ w = w' := by
  obtain ⟨f, t, g, h1, h2, h3, h4, h5, h6⟩ := h
  cases l <;> cases r <;> cases i
  all_goals
    go_enter Try.func44, Try.ntmps44
    go_wp2
    go_ret
    exact ⟨rfl, rfl⟩
set_option maxRecDepth 100000 in
set_option maxHeartbeats 1000000 in
theorem edge42 (w : World) (l r i : Bool) : Calls Try.prog 42 #[.agg #[.bool l, .bool false], .agg #[.bool r, .bool false], .agg #[.bool i, .bool false]] w fun e w' => 
    ∃ p, e = .returned (.pointer (some ⟨p, 0, none⟩)) ∧ Below w.heap.size w w' ∧ p < w'.heap.size ∧ HE w' p l r i := by
  go_enter Try.func42, Try.ntmps42
  go_wp2
  go_ret
  exact ⟨_, rfl, by repeat (first | exact Below.refl _ _ | refine Below.alloc ?_ (by first | (simp; done) | (simp; omega)) _), by simp, w.heap.size+1+1+1, w.heap.size+1+1+1+1+1+1, w.heap.size+1+1+1+1+1, by go_simp, by go_simp, by go_simp, by go_simp, by go_simp, by go_simp⟩

def vert (b it : Bool) (x : Int) : Int := if b then 1 else if it then 0 else x
set_option maxRecDepth 100000 in
set_option maxHeartbeats 1000000 in
theorem loc43 (w : World) (p m q : Nat) (b it l r i : Bool) (h1 : w.cell? ⟨p, 8, none⟩ = some (.bool b)) (h2 : w.cell? ⟨p, 7, none⟩ = some (.bool it)) (h3 : w.cell? ⟨p, 2, none⟩ = some (.map (some m)))
    (h4 : w.heap[m]? = some (.map #[{ key := .pointer (some ⟨q, 0, none⟩), val := .agg #[], born := 0 }] 1)) (h5 : HE w q l r i) :
    Calls Try.prog 43 #[.pointer (some ⟨p, 0, none⟩), .int .i64 0] w fun e w' => e = .returned (.int .u32 (vert b it (edgeI l r i))) ∧ Below w.heap.size w w' := by
  cases b
  · cases it
    · have hlt : m < w.heap.size := by
        rcases Nat.lt_or_ge m w.heap.size with h | h
        · exact h
        · simp [Array.getElem?_eq_none h] at h4
      have hr := run_range_map (P := Try.prog) w 84 73 83 m _ _ Try.underlying84 h4
      have hn := next_one (P := Try.prog) w w.heap.size m 0 _ _ rfl h4
      have he := entry_one (P := Try.prog) w w.heap.size m _ _ rfl h4
      go_enter Try.func43, Try.ntmps43
      go_wp2
      refine wp_loop_rounds 1 ?_
      rw [rounds_succ]
      go_wp2_with (go_at_call 44; refine (loc44 _ _ _ _ _ (h5.mono ((Below.refl _ _).alloc (Nat.le_refl _) _))).mono ?_; rintro e w' ⟨rfl, rfl⟩)
      go_ret
      exact ⟨rfl, (Below.refl _ _).alloc (Nat.le_refl _) _⟩
    · go_enter Try.func43, Try.ntmps43
      go_wp2
      go_ret
      exact ⟨rfl, Below.refl _ _⟩
  · go_enter Try.func43, Try.ntmps43
    go_wp2
    go_ret
    exact ⟨rfl, Below.refl _ _⟩
end Go.Proofs.Ytkpbapemeiigbaa
