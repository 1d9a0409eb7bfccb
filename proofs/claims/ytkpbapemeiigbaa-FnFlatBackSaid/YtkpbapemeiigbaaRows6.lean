/-
  A line whose places lie within a bound. No condition.
-/
import Derived.Test.YtkpbapemeiigbaaRows5
set_option linter.unusedVariables false
set_option linter.unusedSimpArgs false
namespace Go.Proofs.Ytkpbapemeiigbaa
open Go.RowKit Go.Fl Go.Sl
/-- a place within the bound -/
def inB (most : Int) (p : Int × Int) : Bool := !(decide ((if p.1 ≤ p.2 then p.1 else p.2) < -most) || decide ((if p.1 ≤ p.2 then p.2 else p.1) > most))
theorem inB_spec {most : Int} {p : Int × Int} (h : inB most p = true) : -most ≤ p.1 ∧ p.1 ≤ most ∧ -most ≤ p.2 ∧ p.2 ≤ most := by
  simp only [inB, Bool.not_eq_true', Bool.or_eq_false_iff, decide_eq_false_iff_not] at h
  obtain ⟨h1, h2⟩ := h
  split at h1 <;> split at h2 <;> omega
set_option maxRecDepth 100000 in
set_option maxHeartbeats 1000000 in
theorem formedBelow_ (a : Option Addr) (n cap : Nat) (l : List (Int × Int)) (most : Int) (w : World) (hn : l.length = n) (hs : n ≤ 1000000) (h : Sl w a n cap 2 (encP l)) (h0 : 0 ≤ most) (h1 : most ≤ 2 ^ 40) :
    Calls Try.prog 40 #[.agg #[.int .i64 2, .slice a n cap, .slice none 0 0], .int .i64 most, .int .i64 100] w (OneV w (.bool (l.all (inB most)))) := by
  have hle := h.le
  have hm := h.max
  unfold maxLen at hm
  go_enter Try.func40, Try.ntmps40
  go_wp2
  have e0 : (w.alloc (.cells #[.int .i64 2, .slice a n cap, .slice none 0 0] 56)).cell? ⟨w.heap.size, 0, none⟩ = some (.int .i64 2) := by go_simp
  have e1 : (w.alloc (.cells #[.int .i64 2, .slice a n cap, .slice none 0 0] 56)).cell? ⟨w.heap.size, 2, none⟩ = some (.slice none 0 0) := by go_simp
  have hlt0 : w.heap.size < (w.alloc (.cells #[.int .i64 2, .slice a n cap, .slice none 0 0] 56)).heap.size := by simp
  have hkp : Stab.Keeps w (w.alloc (.cells #[.int .i64 2, .slice a n cap, .slice none 0 0] 56)) := by repeat (first | (with_reducible exact Stab.Keeps.refl _) | (with_reducible assumption) | (with_reducible refine Stab.Keeps.alloc ?_ _) | (with_reducible refine Stab.Keeps.drew ?_) | (with_reducible refine Stab.Keeps.drewN ?_ _) | ((with_reducible refine Stab.Keeps.setCell ?_ ?_ _); focus (first | (simp; done) | (simp; omega))) | (with_reducible refine Stab.Keeps.trans ?_ (by with_reducible assumption)))
  generalize (w.alloc (.cells #[.int .i64 2, .slice a n cap, .slice none 0 0] 56)) = w1 at *
  go_loopw [17] (fun i wr => ∃ k : Nat, k ≤ n ∧ i = .int .i64 k ∧ Stab.Keeps w1 wr ∧ (l.take k).all (inB most) = true) (fun i _ => n - (intOf i).toNat)
  case atStart => exact ⟨0, Nat.zero_le _, rfl, by repeat (first | (with_reducible exact Stab.Keeps.refl _) | (with_reducible assumption) | (with_reducible refine Stab.Keeps.alloc ?_ _) | (with_reducible refine Stab.Keeps.drew ?_) | (with_reducible refine Stab.Keeps.drewN ?_ _) | ((with_reducible refine Stab.Keeps.setCell ?_ ?_ _); focus (first | (simp; done) | (simp; omega))) | (with_reducible refine Stab.Keeps.trans ?_ (by with_reducible assumption))), by simp⟩
  case round =>
    obtain ⟨k, hk, rfl, hK, hA⟩ := hrel
    have hK2 : Stab.Keeps w wr := Stab.Keeps.trans hkp hK
    by_cases hlt : k < n
    · have hS := h.keep hK2
      obtain ⟨b, off, ha, hb, hc⟩ := hS.elem hlt
      subst ha
      have c0 : wr.cell? ⟨b, off + k * 2, none⟩ = some (.int .i64 (l[k]).1) := hc 0 _ (by omega) (encP_get0 l k (by omega))
      have c1 : wr.cell? ⟨b, off + k * 2 + 1, none⟩ = some (.int .i64 (l[k]).2) := hc 1 _ (by omega) (encP_get1 l k (by omega))
      have ht : (l.take (k + 1)).all (inB most) = inB most l[k] := by
        rw [List.take_succ_eq_append_getElem (by omega), List.all_append, hA]; simp
      have hl : inB most l[k] = false → l.all (inB most) = false := fun h => by
        rw [List.all_eq_false]; exact ⟨l[k], List.getElem_mem _, by simp [h]⟩
      have hF : (l[k].1 < -most ∨ l[k].2 < -most ∨ most < l[k].1 ∨ most < l[k].2) → l.all (inB most) = false := fun h => hl (by
        simp only [inB]; split <;> simp <;> omega)
      have hT : (-most ≤ l[k].1 ∧ -most ≤ l[k].2 ∧ l[k].1 ≤ most ∧ l[k].2 ≤ most) → (l.take (k + 1)).all (inB most) = true := fun h => by
        rw [ht]; simp only [inB]; split <;> simp <;> omega
      clear ht hl
      generalize l[k] = p at *
      obtain ⟨p0, p1⟩ := p
      simp only at c0 c1 hF hT
      clear hc hS h
      have hng : IntKind.i64.wrap (-most) = -most := IntWalk.i64_in _ (by omega)
      go_wp2_with fail
      all_goals first
        | (refine ⟨⟨k + 1, by omega, by go_num, ?_, hT ?_⟩, by simp [intOf]; omega⟩
           · repeat (first | (with_reducible exact Stab.Keeps.refl _) | (with_reducible assumption) | (with_reducible refine Stab.Keeps.alloc ?_ _) | (with_reducible refine Stab.Keeps.drew ?_) | (with_reducible refine Stab.Keeps.drewN ?_ _) | ((with_reducible refine Stab.Keeps.setCell ?_ ?_ _); focus (first | (simp; done) | (simp; omega))) | (with_reducible refine Stab.Keeps.trans ?_ (by with_reducible assumption)))
           · simp_all <;> omega)
        | (go_ret
           refine ⟨?_, ?_⟩
           · first
               | rfl
               | (refine congrArg (fun b => Ending.returned (.bool b)) (hF ?_).symm; clear hF hT; simp_all <;> omega)
           · repeat (first | (with_reducible exact Stab.Keeps.refl _) | (with_reducible assumption) | (with_reducible refine Stab.Keeps.alloc ?_ _) | (with_reducible refine Stab.Keeps.drew ?_) | (with_reducible refine Stab.Keeps.drewN ?_ _) | ((with_reducible refine Stab.Keeps.setCell ?_ ?_ _); focus (first | (simp; done) | (simp; omega))) | (with_reducible refine Stab.Keeps.trans ?_ (by with_reducible assumption))))
    · have hkn : k = n := by omega
      subst hkn
      rw [List.take_of_length_le (by omega)] at hA
      obtain ⟨hc0, hf0⟩ := Stab.own_cell hK w.heap.size hlt0
      have m0 : wr.cell? ⟨w.heap.size, 0, none⟩ = some (.int .i64 2) := by rw [hc0]; exact e0
      have m1 : wr.cell? ⟨w.heap.size, 2, none⟩ = some (.slice none 0 0) := by rw [hc0]; exact e1
      clear hc0 e0 e1
      go_wp2
      go_ret
      exact ⟨congrArg (fun b => Ending.returned (.bool b)) hA.symm, hK2⟩
end Go.Proofs.Ytkpbapemeiigbaa
