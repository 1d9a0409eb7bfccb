/-
  Rows of places: as numbers, and copied. No condition.
-/
import Derived.Test.YtkpbapemeiigbaaProg
import Derived.Test.YtkpbapemeiigbaaFl
import Derived.Test.YtkpbapemeiigbaaStab
import Derived.Test.YtkpbapemeiigbaaSl
import Derived.WalkKit
import Derived.WalkSpells
import Derived.WalkLawsBesides
import Derived.Lib.Hide
import Derived.BigQuiet
set_option linter.unusedVariables false
set_option linter.unusedSimpArgs false
namespace Go.Proofs.Ytkpbapemeiigbaa
open Go.RowKit Go.Fl Go.Sl
def fi (n : Int) : Nat := floatOfInt .f64 n
def encP (l : List (Int × Int)) : List Value := l.flatMap fun p => [.int .i64 p.1, .int .i64 p.2]
def encF (l : List (Nat × Nat)) : List Value := l.flatMap fun p => [.float .f64 p.1, .float .f64 p.2]
def fp (p : Int × Int) : Nat × Nat := (fi p.1, fi p.2)
def SlPost (w : World) (n k : Nat) (xs : List Value) (e : Ending) (w' : World) : Prop := ∃ a cap, e = .returned (.slice a n cap) ∧ Stab.Keeps w w' ∧ Sl w' a n cap k xs ∧ ∀ x, a = some x → w.heap.size ≤ x.block
theorem infoXY : (Try.prog.info? 47).map (fun i => (i.zero, i.size, i.bytes)) = some (some (.agg #[.float .f64 0, .float .f64 0]), 2, 16) := by kernel_rfl
theorem enc2_get0 {α : Type} (f g : α → Value) : ∀ (l : List α) (k : Nat) (h : k < l.length), (l.flatMap fun p => [f p, g p])[k * 2 + 0]? = some (f l[k])
  | p :: l, 0, _ => rfl
  | p :: l, k + 1, h => by
    have := enc2_get0 f g l k (by simpa using h)
    simp only [List.flatMap_cons, Nat.add_mul]
    simpa using this
theorem enc2_get1 {α : Type} (f g : α → Value) : ∀ (l : List α) (k : Nat) (h : k < l.length), (l.flatMap fun p => [f p, g p])[k * 2 + 1]? = some (g l[k])
  | p :: l, 0, _ => rfl
  | p :: l, k + 1, h => by
    have := enc2_get1 f g l k (by simpa using h)
    simp only [List.flatMap_cons, Nat.add_mul]
    simpa using this
theorem encF_append (l m : List (Nat × Nat)) : encF (l ++ m) = encF l ++ encF m := by simp only [encF, List.flatMap_append]
theorem encP_append (l m : List (Int × Int)) : encP (l ++ m) = encP l ++ encP m := by simp only [encP, List.flatMap_append]
theorem encP_get0 (l : List (Int × Int)) (k : Nat) (h : k < l.length) : (encP l)[k * 2 + 0]? = some (.int .i64 (l[k]).1) := enc2_get0 _ _ l k h
theorem encP_get1 (l : List (Int × Int)) (k : Nat) (h : k < l.length) : (encP l)[k * 2 + 1]? = some (.int .i64 (l[k]).2) := enc2_get1 _ _ l k h
theorem encF_get0 (l : List (Nat × Nat)) (k : Nat) (h : k < l.length) : (encF l)[k * 2 + 0]? = some (.float .f64 (l[k]).1) := enc2_get0 _ _ l k h
theorem encF_get1 (l : List (Nat × Nat)) (k : Nat) (h : k < l.length) : (encF l)[k * 2 + 1]? = some (.float .f64 (l[k]).2) := enc2_get1 _ _ l k h
set_option maxRecDepth 100000 in
set_option maxHeartbeats 1000000 in
theorem row_ (a : Option Addr) (n cap : Nat) (l : List (Int × Int)) (w : World) (hn : l.length = n) (hs : n ≤ 1000000) (h : Sl w a n cap 2 (encP l)) :
    Calls Try.prog 11 #[.slice a n cap] w (SlPost w n 2 (encF (l.map fp))) := by
  obtain ⟨i0, hi, hz0, hz1, hz2⟩ := info_parts infoXY
  have hle := h.le
  have hm := h.max
  unfold maxLen at hm
  go_enter Try.func11, Try.ntmps11
  go_wp2
  go_loopw [3, 8] (fun v i wr => ∃ k : Nat, k ≤ n ∧ i = .int .i64 k ∧ Stab.Keeps w wr ∧ ∃ al c, v = .slice al k c ∧ wr.ownsRow w.heap.size 47 2 (.slice al k c) k (encF ((l.map fp).take k))) (fun _ i _ => n - (intOf i).toNat)
  case atStart => exact ⟨0, Nat.zero_le _, rfl, by repeat (first | (with_reducible exact Stab.Keeps.refl _) | (with_reducible assumption) | (with_reducible refine Stab.Keeps.alloc ?_ _) | (with_reducible refine Stab.Keeps.drew ?_) | (with_reducible refine Stab.Keeps.drewN ?_ _) | ((with_reducible refine Stab.Keeps.setCell ?_ ?_ _); focus (first | (simp; done) | (simp; omega))) | (with_reducible refine Stab.Keeps.trans ?_ (by with_reducible assumption))), none, 0, rfl, World.ownsRow_nil _ _ _ _⟩
  case round =>
    obtain ⟨k, hk, rfl, hK, al, c, rfl, hown⟩ := hrel
    by_cases hlt : k < n
    · have hS := h.keep hK
      obtain ⟨b, off, ha, hb, hc⟩ := hS.elem hlt
      subst ha
      have c0 : wr.cell? ⟨b, off + k * 2, none⟩ = some (.int .i64 (l[k]).1) := hc 0 _ (by omega) (encP_get0 l k (by omega))
      have c1 : wr.cell? ⟨b, off + k * 2 + 1, none⟩ = some (.int .i64 (l[k]).2) := hc 1 _ (by omega) (encP_get1 l k (by omega))
      have hsz := hK.size
      clear hc hS
      go_wp2_with (at_builtin; (refine Sl.append_own (w0 := w) rfl _ _ 29 rfl w.heap.size 47 i0 _ 2 16 Try.underlying29 hi hz0 hz1 hz2 rfl (by decide) _ k _ rfl ((hown.alloc _).alloc _) ⟨wr.heap.size + 1, 0, none⟩ 1 1 [.float .f64 (fi l[k].1), .float .f64 (fi l[k].2)] rfl rfl ?c1 ?c2 ?c3 ?c4 ?c5 ?c6 ?_))
      case c1 => exact new_cells _ _ _ _ (by simp)
      case c2 => intro u hu; simp at hu; rcases hu with rfl | rfl <;> rfl
      case c3 => unfold maxLen; omega
      case c4 => omega
      case c5 => simp; omega
      case c6 => exact (hK.alloc _).alloc _
      intro al' cap' w1 hown' hk1 hsz1 _
      go_wp2
      go_roundw
      case rel =>
        refine ⟨k + 1, by omega, by go_num, hk1, al', cap', rfl, ?_⟩
        rw [List.take_succ_eq_append_getElem (by simp; omega), encF_append, List.getElem_map]
        exact hown'
      case measure => simp [intOf]; omega
    · have hkn : k = n := by omega
      subst hkn
      go_wp2
      go_ret
      obtain ⟨al', c', he, hs', _, hfr⟩ := of_owns hown
      cases he
      refine ⟨_, _, rfl, hK, ?_, hfr⟩
      rw [List.take_of_length_le (by simp; omega)] at hs'
      exact hs'
end Go.Proofs.Ytkpbapemeiigbaa
