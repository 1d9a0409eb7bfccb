/-
  The tree of boxes: whether items lie in a row; items split in two. No condition.
-/
import Derived.Test.YtokofimfinhnbaaDoorTr6
import Derived.Test.YtokofimfinhnbaaDoorTr7
set_option linter.unusedVariables false
set_option linter.unusedSimpArgs false
namespace Go.Proofs.YtokofimfinhnbaaDoor
open Go.RowKit Go.Fl Go.Sl Go.Ch
set_option maxRecDepth 100000 in
set_option maxHeartbeats 1000000 in
theorem horiz_ (B o5 n cap : Nat) (L : List It) (w : World) (h : Row w B o5 n L) (hc : n ≤ cap) (hm : cap ≤ maxLen) (hn : 2 ≤ n) :
    Calls Tryd.prog 42 #[.slice (some ⟨B, o5, none⟩) n cap] w (SomeB w) := by
  obtain ⟨t, _, c0, c1, c2, c3, _⟩ := h.cell (i := 0) (by omega)
  simp only [Nat.zero_mul, Nat.add_zero] at c0 c1 c2 c3
  have hB := h.blk.lt
  unfold maxLen at hm
  go_enter Tryd.func42, Tryd.ntmps42
  go_wp2
  have hX : BoxI w w.heap.size t.box (w.alloc (.cells #[.float .f64 t.box.a, .float .f64 t.box.b, .float .f64 t.box.c, .float .f64 t.box.d] 56)) := ⟨by repeat (first | (with_reducible exact Stab.Keeps.refl _) | (with_reducible assumption) | (with_reducible refine Stab.Keeps.alloc ?_ _) | (with_reducible refine Stab.Keeps.drew ?_) | (with_reducible refine Stab.Keeps.drewN ?_ _) | ((with_reducible refine Stab.Keeps.setCell ?_ ?_ _); focus (first | (simp; done) | (simp; omega))) | (with_reducible refine Stab.Keeps.trans ?_ (by with_reducible assumption))), Blk.new w [_, _, _, _] _ _ rfl⟩
  generalize (w.alloc (.cells #[.float .f64 t.box.a, .float .f64 t.box.b, .float .f64 t.box.c, .float .f64 t.box.d] 56)) = W at hX ⊢
  generalize t.box = bt at hX
  clear c0 c1 c2 c3
  go_loopw [13] (fun iv wr => ∃ k : Nat, k ≤ n - 1 ∧ iv = .int .i64 k ∧ ∃ x, BoxI w w.heap.size x wr) (fun iv _ => n - (intOf iv).toNat)
  case atStart => exact ⟨0, by omega, rfl, bt, hX⟩
  case round =>
    clear hX
    obtain ⟨k, k2, rfl, ⟨y0, y1, y2, y3⟩, hX⟩ := hrel
    obtain ⟨m0, m1, m2, m3, mf⟩ := hX.cells
    have hbl := hX.blk.lt
    have hK := hX.k
    simp only at m0 m1 m2 m3
    by_cases hlt : k < n - 1
    · have hr : Row wr B o5 n L := ⟨h.blk.keep hX.k, h.off⟩
      obtain ⟨u, _, c0, c1, c2, c3, c4⟩ := hr.cell (i := k + 1) (by omega)
      rw [show o5 + (k + 1) * 5 = o5 + 5 + k * 5 by omega] at c0 c1 c2 c3 c4
      have hBl := hr.blk.lt
      obtain ⟨⟨x0, x1, x2, x3⟩, id⟩ := u
      simp only at c0 c1 c2 c3 c4
      have hC := fun w => combine_ ⟨y0, y1, y2, y3⟩ ⟨x0, x1, x2, x3⟩ w
      simp only [B4.val] at hC
      go_wp2_with fail
      refine (hC _).mono ?_
      rintro e w3 ⟨rfl, hk3⟩
      have hk : Stab.Keeps wr w3 := by repeat (first | (with_reducible exact Stab.Keeps.refl _) | (with_reducible assumption) | (with_reducible refine Stab.Keeps.alloc ?_ _) | (with_reducible refine Stab.Keeps.drew ?_) | (with_reducible refine Stab.Keeps.drewN ?_ _) | ((with_reducible refine Stab.Keeps.setCell ?_ ?_ _); focus (first | (simp; done) | (simp; omega))) | (with_reducible refine Stab.Keeps.trans ?_ (by with_reducible assumption)))
      have hX3 := hX.keep hk
      have hS3 := hX3.set (by omega) (cmb ⟨y0, y1, y2, y3⟩ ⟨x0, x1, x2, x3⟩)
      obtain ⟨q0, q1, q2, q3, qf⟩ := hX3.cells
      simp only at q0 q1 q2 q3
      clear hC m0 m1 m2 m3 mf hX hk3 hk hX3 c0 c1 c2 c3 c4 hK
      go_wp2_with fail
      go_roundw
      case rel => exact ⟨k + 1, by omega, by go_num, _, hS3⟩
      case measure => simp [intOf]; omega
    · clear hX
      go_wp2
      go_ret
      refine ⟨_, rfl, ?_⟩
      repeat (first | (with_reducible exact Stab.Keeps.refl _) | (with_reducible assumption) | (with_reducible refine Stab.Keeps.alloc ?_ _) | (with_reducible refine Stab.Keeps.drew ?_) | (with_reducible refine Stab.Keeps.drewN ?_ _) | ((with_reducible refine Stab.Keeps.setCell ?_ ?_ _); focus (first | (simp; done) | (simp; omega))) | (with_reducible refine Stab.Keeps.trans ?_ (by with_reducible assumption)))
def SplitPost (w : World) (B o5 n cap : Nat) (L : List It) (e : Ending) (w' : World) : Prop :=
  e = .returned (.tuple #[.slice (some ⟨B, o5, none⟩) (n / 2) cap, .slice (some ⟨B, o5 + (n / 2) * 5, none⟩) (n - n / 2) (cap - n / 2)]) ∧ ∃ L', Row w' B o5 n L' ∧ SubPerm (o5 / 5) n L L' ∧ Ch no (· = B) w w'
set_option maxRecDepth 100000 in
set_option maxHeartbeats 1000000 in
theorem split_ (B o5 n cap : Nat) (L : List It) (w : World) (h : Row w B o5 n L) (hc : n ≤ cap) (hm : cap ≤ maxLen) (hn : 2 ≤ n) (hn2 : n ≤ 2147483647) :
    Calls Tryd.prog 35 #[.slice (some ⟨B, o5, none⟩) n cap] w (SplitPost w B o5 n cap L) := by
  have hm' := hm
  unfold maxLen at hm'
  go_enter Tryd.func35, Tryd.ntmps35
  go_wp2_with fail
  refine (horiz_ B o5 n cap L w h hc hm hn).mono ?_
  rintro e w2 ⟨hz, rfl, hk2⟩
  have h2 : Row w2 B o5 n L := ⟨h.blk.keep hk2, h.off⟩
  have hQ := quick_ B o5 n cap (n / 2) hz L w2 h2 hc hm (by omega) hn2
  go_wp2_with fail
  simp only [show (n : Int) / 2 = ((n / 2 : Nat) : Int) by omega]
  refine hQ.mono ?_
  rintro e w3 ⟨rfl, L3, h3, p3, k3⟩
  clear hQ h2
  go_wp2_with fail
  have b1 : (0 : Int) ≤ ((n / 2 : Nat) : Int) := by omega
  have b2 : ((n / 2 : Nat) : Int) ≤ cap := by omega
  have b3 : ((n / 2 : Nat) : Int) ≤ n := by omega
  have b4 : (((n / 2 : Nat) : Int)).toNat = n / 2 := by omega
  have b5 : n / 2 ≤ n := by omega
  have b6 : n / 2 < cap := by omega
  go_quiet (fail)
  go_wp2
  go_ret2
  exact ⟨rfl, L3, ⟨h3.blk, h3.off⟩, p3, (Ch.of_keeps hk2).trans (k3.drewN _)⟩
end Go.Proofs.YtokofimfinhnbaaDoor
