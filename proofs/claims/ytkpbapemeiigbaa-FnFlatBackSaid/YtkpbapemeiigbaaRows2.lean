/-
  Rows of places copied into the package's own and back. No condition.
-/
import Derived.Test.YtkpbapemeiigbaaRows1
set_option linter.unusedVariables false
set_option linter.unusedSimpArgs false
namespace Go.Proofs.Ytkpbapemeiigbaa
open Go.RowKit Go.Fl Go.Sl
def OneV (w : World) (v : Value) (e : Ending) (w' : World) : Prop := e = .returned v ∧ Stab.Keeps w w'
theorem xy_ (x y : Nat) (w : World) : Calls Try.prog 35 #[.agg #[.float .f64 x, .float .f64 y]] w (OneV w (.agg #[.float .f64 x, .float .f64 y])) := by
  go_enter Try.func35, Try.ntmps35
  go_wp2
  refine bodyPost_ret (v := .agg #[.float .f64 x, .float .f64 y]) (by simp [results, Try.results35, go_sem]) rfl ⟨rfl, ?_⟩
  repeat (first | (with_reducible exact Stab.Keeps.refl _) | (with_reducible assumption) | (with_reducible refine Stab.Keeps.alloc ?_ _) | (with_reducible refine Stab.Keeps.drew ?_) | (with_reducible refine Stab.Keeps.drewN ?_ _) | ((with_reducible refine Stab.Keeps.setCell ?_ ?_ _); focus (first | (simp; done) | (simp; omega))) | (with_reducible refine Stab.Keeps.trans ?_ (by with_reducible assumption)))
theorem infoGXY : (Try.prog.info? 62).map (fun i => (i.zero, i.size, i.bytes)) = some (some (.agg #[.float .f64 0, .float .f64 0]), 2, 16) := by kernel_rfl
set_option maxRecDepth 100000 in
set_option maxHeartbeats 1000000 in
theorem xys_ (a : Option Addr) (n cap : Nat) (l : List (Nat × Nat)) (w : World) (hn : l.length = n) (hs : n ≤ 1000000) (h : Sl w a n cap 2 (encF l)) :
    Calls Try.prog 26 #[.slice a n cap] w (SlPost w n 2 (encF l)) := by
  obtain ⟨i0, hi, hz0, hz1, hz2⟩ := info_parts infoGXY
  have hle := h.le
  have hm := h.max
  unfold maxLen at hm
  have hmk : ∀ w : World, (Instr.makeSlice 57 (.int .i64 n) (.int .i64 n)).run Try.prog w = .ok (.slice (some ⟨w.heap.size, 0, none⟩) n n) (w.alloc (.cells (madeCells #[.float .f64 0, .float .f64 0] (n * 2)) 62)) := fun w => by
    have := run_make (P := Try.prog) w 57 62 i0 _ Try.underlying57 hi hz0 .i64 .i64 n n (by omega) (Int.le_refl _) (by rw [hz2]; omega) (by omega)
    rw [hz1] at this
    simpa [Value.cells] using this
  clear hz0 hz1 hz2
  go_enter Try.func26, Try.ntmps26
  go_wp2
  have hroom := room_new w (madeCells #[.float .f64 0, .float .f64 0] (n * 2)) 62 w.heap.size (n * 2) rfl (size_madeCells _ _).symm
  have hlt : w.heap.size < (w.alloc (.cells (madeCells #[.float .f64 0, .float .f64 0] (n * 2)) 62)).heap.size := by simp
  have hkp : Stab.Keeps w (w.alloc (.cells (madeCells #[.float .f64 0, .float .f64 0] (n * 2)) 62)) := by repeat (first | (with_reducible exact Stab.Keeps.refl _) | (with_reducible assumption) | (with_reducible refine Stab.Keeps.alloc ?_ _) | (with_reducible refine Stab.Keeps.drew ?_) | (with_reducible refine Stab.Keeps.drewN ?_ _) | ((with_reducible refine Stab.Keeps.setCell ?_ ?_ _); focus (first | (simp; done) | (simp; omega))) | (with_reducible refine Stab.Keeps.trans ?_ (by with_reducible assumption)))
  generalize (w.alloc (.cells (madeCells #[.float .f64 0, .float .f64 0] (n * 2)) 62)) = w1 at *
  clear hmk
  go_loopw [11] (fun i wr => ∃ k : Nat, k ≤ n ∧ i = .int .i64 k ∧ Stab.Keeps w wr ∧ w.heap.size < wr.heap.size ∧ Room wr w.heap.size (n * 2) ∧ Filled wr w.heap.size (k * 2) (encF l)) (fun i _ => n - (intOf i).toNat)
  case atStart => exact ⟨0, Nat.zero_le _, rfl, hkp, hlt, hroom, fun j u hj _ => by omega⟩
  case round =>
    obtain ⟨k, hk, rfl, hK, hlt', hR, hF⟩ := hrel
    by_cases hlt : k < n
    · have hS := h.keep hK
      obtain ⟨b, off, ha, hb, hc⟩ := hS.elem hlt
      subst ha
      have c0 : wr.cell? ⟨b, off + k * 2, none⟩ = some (.float .f64 (l[k]).1) := hc 0 _ (by omega) (encF_get0 l k (by omega))
      have c1 : wr.cell? ⟨b, off + k * 2 + 1, none⟩ = some (.float .f64 (l[k]).2) := hc 1 _ (by omega) (encF_get1 l k (by omega))
      clear hc hS
      go_wp2_with fail
      refine (xy_ _ _ _).mono ?_
      rintro e w2 ⟨rfl, hk2⟩
      have hk3 : Stab.Keeps wr w2 := Stab.Keeps.trans (Stab.Keeps.alloc (Stab.Keeps.refl _) _) hk2
      have hR2 := hR.keep hk3 hlt'
      have hF2 := hF.keep hk3 hlt'
      have hsz := hk3.size
      obtain ⟨u0, r0⟩ := hR2.cell (k * 2) (by omega)
      obtain ⟨u1, r1⟩ := hR2.cell (k * 2 + 1) (by omega)
      have f0 := hR2.free (k * 2)
      have f1 := hR2.free (k * 2 + 1)
      clear hR hF c0 c1
      go_wp2_with fail
      go_roundw
      case rel =>
        refine ⟨k + 1, by omega, by go_num, ?_, by simp; omega, (hR2.set _ _ _).set _ _ _, ?_⟩
        · repeat (first | (with_reducible exact Stab.Keeps.refl _) | (with_reducible assumption) | (with_reducible refine Stab.Keeps.alloc ?_ _) | (with_reducible refine Stab.Keeps.drew ?_) | (with_reducible refine Stab.Keeps.drewN ?_ _) | ((with_reducible refine Stab.Keeps.setCell ?_ ?_ _); focus (first | (simp; done) | (simp; omega))) | (with_reducible refine Stab.Keeps.trans ?_ (by with_reducible assumption)))
        · rw [show (k + 1) * 2 = k * 2 + 1 + 1 by omega]
          exact (hF2.set hR2 (by omega) (encF_get0 l k (by omega))).set (hR2.set _ _ _) (by omega) (encF_get1 l k (by omega))
      case measure => simp [intOf]; omega
    · have hkn : k = n := by omega
      subst hkn
      go_wp2
      go_ret
      refine ⟨_, _, rfl, hK, ?_⟩
      exact ⟨hF.sl h.len (by unfold maxLen; omega) hlt', fun x hx => by cases hx; exact Nat.le_refl _⟩
theorem plainXY_ (x y : Nat) (w : World) : Calls Try.prog 37 #[.agg #[.float .f64 x, .float .f64 y]] w (OneV w (.agg #[.float .f64 x, .float .f64 y])) := by
  go_enter Try.func37, Try.ntmps37
  go_wp2
  refine bodyPost_ret (v := .agg #[.float .f64 x, .float .f64 y]) (by simp [results, Try.results37, go_sem]) rfl ⟨rfl, ?_⟩
  repeat (first | (with_reducible exact Stab.Keeps.refl _) | (with_reducible assumption) | (with_reducible refine Stab.Keeps.alloc ?_ _) | (with_reducible refine Stab.Keeps.drew ?_) | (with_reducible refine Stab.Keeps.drewN ?_ _) | ((with_reducible refine Stab.Keeps.setCell ?_ ?_ _); focus (first | (simp; done) | (simp; omega))) | (with_reducible refine Stab.Keeps.trans ?_ (by with_reducible assumption)))
set_option maxRecDepth 100000 in
set_option maxHeartbeats 1000000 in
theorem plainXYs_ (a : Option Addr) (n cap : Nat) (l : List (Nat × Nat)) (w : World) (hn : l.length = n) (hs : n ≤ 1000000) (h : Sl w a n cap 2 (encF l)) :
    Calls Try.prog 27 #[.slice a n cap] w (SlPost w n 2 (encF l)) := by
  obtain ⟨i0, hi, hz0, hz1, hz2⟩ := info_parts infoXY
  have hle := h.le
  have hm := h.max
  unfold maxLen at hm
  have hmk : ∀ w : World, (Instr.makeSlice 29 (.int .i64 n) (.int .i64 n)).run Try.prog w = .ok (.slice (some ⟨w.heap.size, 0, none⟩) n n) (w.alloc (.cells (madeCells #[.float .f64 0, .float .f64 0] (n * 2)) 47)) := fun w => by
    have := run_make (P := Try.prog) w 29 47 i0 _ Try.underlying29 hi hz0 .i64 .i64 n n (by omega) (Int.le_refl _) (by rw [hz2]; omega) (by omega)
    rw [hz1] at this
    simpa [Value.cells] using this
  clear hz0 hz1 hz2
  go_enter Try.func27, Try.ntmps27
  go_wp2
  have hroom := room_new w (madeCells #[.float .f64 0, .float .f64 0] (n * 2)) 47 w.heap.size (n * 2) rfl (size_madeCells _ _).symm
  have hlt : w.heap.size < (w.alloc (.cells (madeCells #[.float .f64 0, .float .f64 0] (n * 2)) 47)).heap.size := by simp
  have hkp : Stab.Keeps w (w.alloc (.cells (madeCells #[.float .f64 0, .float .f64 0] (n * 2)) 47)) := by repeat (first | (with_reducible exact Stab.Keeps.refl _) | (with_reducible assumption) | (with_reducible refine Stab.Keeps.alloc ?_ _) | (with_reducible refine Stab.Keeps.drew ?_) | (with_reducible refine Stab.Keeps.drewN ?_ _) | ((with_reducible refine Stab.Keeps.setCell ?_ ?_ _); focus (first | (simp; done) | (simp; omega))) | (with_reducible refine Stab.Keeps.trans ?_ (by with_reducible assumption)))
  generalize (w.alloc (.cells (madeCells #[.float .f64 0, .float .f64 0] (n * 2)) 47)) = w1 at *
  clear hmk
  go_loopw [11] (fun i wr => ∃ k : Nat, k ≤ n ∧ i = .int .i64 k ∧ Stab.Keeps w wr ∧ w.heap.size < wr.heap.size ∧ Room wr w.heap.size (n * 2) ∧ Filled wr w.heap.size (k * 2) (encF l)) (fun i _ => n - (intOf i).toNat)
  case atStart => exact ⟨0, Nat.zero_le _, rfl, hkp, hlt, hroom, fun j u hj _ => by omega⟩
  case round =>
    obtain ⟨k, hk, rfl, hK, hlt', hR, hF⟩ := hrel
    by_cases hlt : k < n
    · have hS := h.keep hK
      obtain ⟨b, off, ha, hb, hc⟩ := hS.elem hlt
      subst ha
      have c0 : wr.cell? ⟨b, off + k * 2, none⟩ = some (.float .f64 (l[k]).1) := hc 0 _ (by omega) (encF_get0 l k (by omega))
      have c1 : wr.cell? ⟨b, off + k * 2 + 1, none⟩ = some (.float .f64 (l[k]).2) := hc 1 _ (by omega) (encF_get1 l k (by omega))
      clear hc hS
      go_wp2_with fail
      refine (plainXY_ _ _ _).mono ?_
      rintro e w2 ⟨rfl, hk2⟩
      have hk3 : Stab.Keeps wr w2 := Stab.Keeps.trans (Stab.Keeps.alloc (Stab.Keeps.refl _) _) hk2
      have hR2 := hR.keep hk3 hlt'
      have hF2 := hF.keep hk3 hlt'
      have hsz := hk3.size
      obtain ⟨u0, r0⟩ := hR2.cell (k * 2) (by omega)
      obtain ⟨u1, r1⟩ := hR2.cell (k * 2 + 1) (by omega)
      have f0 := hR2.free (k * 2)
      have f1 := hR2.free (k * 2 + 1)
      clear hR hF c0 c1
      go_wp2_with fail
      go_roundw
      case rel =>
        refine ⟨k + 1, by omega, by go_num, ?_, by simp; omega, (hR2.set _ _ _).set _ _ _, ?_⟩
        · repeat (first | (with_reducible exact Stab.Keeps.refl _) | (with_reducible assumption) | (with_reducible refine Stab.Keeps.alloc ?_ _) | (with_reducible refine Stab.Keeps.drew ?_) | (with_reducible refine Stab.Keeps.drewN ?_ _) | ((with_reducible refine Stab.Keeps.setCell ?_ ?_ _); focus (first | (simp; done) | (simp; omega))) | (with_reducible refine Stab.Keeps.trans ?_ (by with_reducible assumption)))
        · rw [show (k + 1) * 2 = k * 2 + 1 + 1 by omega]
          exact (hF2.set hR2 (by omega) (encF_get0 l k (by omega))).set (hR2.set _ _ _) (by omega) (encF_get1 l k (by omega))
      case measure => simp [intOf]; omega
    · have hkn : k = n := by omega
      subst hkn
      go_wp2
      go_ret
      refine ⟨_, _, rfl, hK, ?_⟩
      exact ⟨hF.sl h.len (by unfold maxLen; omega) hlt', fun x hx => by cases hx; exact Nat.le_refl _⟩
end Go.Proofs.Ytkpbapemeiigbaa
