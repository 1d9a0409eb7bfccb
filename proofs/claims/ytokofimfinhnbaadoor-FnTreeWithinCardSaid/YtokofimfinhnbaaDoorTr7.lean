/-
  The tree of boxes: nodes; the box around a node's entries; whether items lie in a row. No condition.
-/
import Derived.Test.YtokofimfinhnbaaDoorTr1
import Derived.Test.YtokofimfinhnbaaDoorTr2
set_option linter.unusedVariables false
set_option linter.unusedSimpArgs false
namespace Go.Proofs.YtokofimfinhnbaaDoor
open Go.RowKit Go.Fl Go.Sl Go.Ch
structure Ent where
  box : B4
  child : Option Nat
  id : Int
def Ent.cells (e : Ent) : List Value := [.float .f64 e.box.a, .float .f64 e.box.b, .float .f64 e.box.c, .float .f64 e.box.d, .pointer (e.child.map fun p => ⟨p, 0, none⟩), .int .i64 e.id]
theorem Ent.cells_len (e : Ent) : e.cells.length = 6 := rfl
def Ent.zero : Ent := ⟨⟨0, 0, 0, 0⟩, none, 0⟩
def pad (es : List Ent) : List Ent := es ++ List.replicate (4 - es.length) Ent.zero
theorem pad_len (es : List Ent) (h : es.length ≤ 4) : (pad es).length = 4 := by simp [pad]; omega
def nodeC (es : List Ent) (n : Nat) : List Value := (pad es).flatMap Ent.cells ++ [.int .i64 n]
theorem nodeC_ent (es : List Ent) (n i j : Nat) (h4 : es.length ≤ 4) (hi : i < es.length) (hj : j < 6) : (nodeC es n)[i * 6 + j]? = (Ent.cells es[i])[j]? := by
  have hl := flat_len Ent.cells 6 Ent.cells_len (pad es)
  have hp := pad_len es h4
  unfold nodeC
  rw [List.getElem?_append_left (by rw [hl]; omega), flat_get Ent.cells 6 Ent.cells_len (pad es) i j (by omega) hj]
  congr 2
  unfold pad
  rw [List.getElem_append_left hi]
theorem nodeC_num (es : List Ent) (n : Nat) (h4 : es.length ≤ 4) : (nodeC es n)[24]? = some (.int .i64 n) := by
  have hl := flat_len Ent.cells 6 Ent.cells_len (pad es)
  have hp := pad_len es h4
  unfold nodeC
  rw [List.getElem?_append_right (by rw [hl]; omega)]
  simp [hl, hp]
def bnd : List B4 → B4
  | [] => ⟨0, 0, 0, 0⟩
  | x :: l => l.foldl cmb x
theorem bnd_snoc (l : List B4) (h : 0 < l.length) (x : B4) : bnd (l ++ [x]) = cmb (bnd l) x := by
  cases l with
  | nil => simp at h
  | cons y l => simp [bnd]
/-- what is read of an entry -/
theorem ent_cells {w : World} {p n : Nat} {es : List Ent} (h : Blk w p 84 (nodeC es n)) (h4 : es.length ≤ 4) {i : Nat} (hi : i < es.length) :
    w.cell? ⟨p, i * 6, none⟩ = some (.float .f64 es[i].box.a) ∧ w.cell? ⟨p, i * 6 + 1, none⟩ = some (.float .f64 es[i].box.b) ∧ w.cell? ⟨p, i * 6 + 2, none⟩ = some (.float .f64 es[i].box.c) ∧ w.cell? ⟨p, i * 6 + 3, none⟩ = some (.float .f64 es[i].box.d) ∧
    w.cell? ⟨p, i * 6 + 4, none⟩ = some (.pointer (es[i].child.map fun p => ⟨p, 0, none⟩)) ∧ w.cell? ⟨p, i * 6 + 5, none⟩ = some (.int .i64 es[i].id) :=
  ⟨h.cell (by rw [← Nat.add_zero (i * 6), nodeC_ent es n i 0 h4 hi (by omega)]; rfl), h.cell (by rw [nodeC_ent es n i 1 h4 hi (by omega)]; rfl), h.cell (by rw [nodeC_ent es n i 2 h4 hi (by omega)]; rfl), h.cell (by rw [nodeC_ent es n i 3 h4 hi (by omega)]; rfl),
    h.cell (by rw [nodeC_ent es n i 4 h4 hi (by omega)]; rfl), h.cell (by rw [nodeC_ent es n i 5 h4 hi (by omega)]; rfl)⟩
/-- a box in a block of its own, and what was there kept -/
structure BoxI (w : World) (b : Nat) (x : B4) (wr : World) : Prop where
  k : Stab.Keeps w wr
  blk : Blk wr b 56 x.cells
theorem BoxI.set {w : World} {b : Nat} {x : B4} {wr : World} (h : BoxI w b x wr) (hb : w.heap.size ≤ b) (y : B4) :
    BoxI w b y ((((wr.setCell ⟨b, 0, none⟩ (.float .f64 y.a)).setCell ⟨b, 1, none⟩ (.float .f64 y.b)).setCell ⟨b, 2, none⟩ (.float .f64 y.c)).setCell ⟨b, 3, none⟩ (.float .f64 y.d)) :=
  ⟨by refine Stab.Keeps.setCell hb (Stab.Keeps.setCell hb (Stab.Keeps.setCell hb (Stab.Keeps.setCell hb h.k _) _) _) _, (((h.blk.set 0 _).set 1 _).set 2 _).set 3 _⟩
theorem BoxI.keep {w : World} {b : Nat} {x : B4} {wr w' : World} (h : BoxI w b x wr) (hk : Stab.Keeps wr w') : BoxI w b x w' := ⟨Stab.Keeps.trans h.k hk, h.blk.keep hk⟩
theorem BoxI.cells {w : World} {b : Nat} {x : B4} {wr : World} (h : BoxI w b x wr) : wr.cell? ⟨b, 0, none⟩ = some (.float .f64 x.a) ∧ wr.cell? ⟨b, 1, none⟩ = some (.float .f64 x.b) ∧ wr.cell? ⟨b, 2, none⟩ = some (.float .f64 x.c) ∧ wr.cell? ⟨b, 3, none⟩ = some (.float .f64 x.d) ∧ ∀ j, wr.frozen? ⟨b, j, none⟩ = false :=
  ⟨h.blk.cell rfl, h.blk.cell rfl, h.blk.cell rfl, h.blk.cell rfl, h.blk.free⟩
set_option maxRecDepth 100000 in
set_option maxHeartbeats 1000000 in
theorem calc_ (p : Nat) (es : List Ent) (w : World) (h : Blk w p 84 (nodeC es es.length)) (h4 : es.length ≤ 4) (h0 : 0 < es.length) :
    Calls Tryd.prog 34 #[.pointer (some ⟨p, 0, none⟩)] w (One w (bnd (es.map Ent.box)).val) := by
  obtain ⟨e0, e1, e2, e3, _, _⟩ := ent_cells h h4 h0
  simp only [Nat.zero_mul, Nat.zero_add] at e0 e1 e2 e3
  have hl := h.lt
  go_enter Tryd.func34, Tryd.ntmps34
  go_wp2
  have hx : bnd ((es.map Ent.box).take 1) = es[0].box := by cases es with | nil => simp at h0 | cons x l => rfl
  have hB : BoxI w (w.heap.size + 1) (bnd ((es.map Ent.box).take 1)) ((w.alloc (.cells #[.float .f64 0, .float .f64 0, .float .f64 0, .float .f64 0] 56)).alloc (.cells #[.float .f64 es[0].box.a, .float .f64 es[0].box.b, .float .f64 es[0].box.c, .float .f64 es[0].box.d] 56)) := by
    rw [hx]
    exact ⟨by repeat (first | (with_reducible exact Stab.Keeps.refl _) | (with_reducible assumption) | (with_reducible refine Stab.Keeps.alloc ?_ _) | (with_reducible refine Stab.Keeps.drew ?_) | (with_reducible refine Stab.Keeps.drewN ?_ _) | ((with_reducible refine Stab.Keeps.setCell ?_ ?_ _); focus (first | (simp; done) | (simp; omega))) | (with_reducible refine Stab.Keeps.trans ?_ (by with_reducible assumption))), Blk.new _ [_, _, _, _] _ _ (by simp)⟩
  have hR : Blk ((w.alloc (.cells #[.float .f64 0, .float .f64 0, .float .f64 0, .float .f64 0] 56)).alloc (.cells #[.float .f64 es[0].box.a, .float .f64 es[0].box.b, .float .f64 es[0].box.c, .float .f64 es[0].box.d] 56)) w.heap.size 56 (B4.cells ⟨0, 0, 0, 0⟩) := (Blk.new w [_, _, _, _] _ _ rfl).alloc _
  generalize ((w.alloc (.cells #[.float .f64 0, .float .f64 0, .float .f64 0, .float .f64 0] 56)).alloc (.cells #[.float .f64 es[0].box.a, .float .f64 es[0].box.b, .float .f64 es[0].box.c, .float .f64 es[0].box.d] 56)) = W at hB hR ⊢
  clear e0 e1 e2 e3 hx
  go_loopw [4] (fun iv wr => ∃ k : Nat, 1 ≤ k ∧ k ≤ es.length ∧ iv = .int .i64 k ∧ BoxI w (w.heap.size + 1) (bnd ((es.map Ent.box).take k)) wr ∧ Blk wr w.heap.size 56 (B4.cells ⟨0, 0, 0, 0⟩)) (fun iv _ => es.length - (intOf iv).toNat)
  case atStart => exact ⟨1, by omega, by omega, rfl, hB, hR⟩
  case round =>
    clear hB hR
    obtain ⟨k, k1, k2, rfl, hB, hR⟩ := hrel
    obtain ⟨m0, m1, m2, m3, mf⟩ := hB.cells
    have hbl := hB.blk.lt
    have hpr := h.keep hB.k
    have hn : wr.cell? ⟨p, 24, none⟩ = some (.int .i64 es.length) := hpr.cell (nodeC_num es _ h4)
    have hpl := hpr.lt
    by_cases hlt : k < es.length
    · obtain ⟨e0, e1, e2, e3, _, _⟩ := ent_cells hpr h4 hlt
      have ht : (es.map Ent.box).take (k + 1) = (es.map Ent.box).take k ++ [es[k].box] := by
        rw [List.take_succ_eq_append_getElem (by simpa using hlt)]; simp
      have hnx : bnd ((es.map Ent.box).take (k + 1)) = cmb (bnd ((es.map Ent.box).take k)) es[k].box := by
        rw [ht]; exact bnd_snoc _ (by simp; omega) _
      clear ht
      generalize es[k] = en at *
      obtain ⟨⟨x0, x1, x2, x3⟩, _, _⟩ := en
      simp only at e0 e1 e2 e3 hnx
      generalize hbx : bnd ((es.map Ent.box).take k) = bx at *
      obtain ⟨y0, y1, y2, y3⟩ := bx
      have hC := fun w => combine_ ⟨y0, y1, y2, y3⟩ ⟨x0, x1, x2, x3⟩ w
      simp only [B4.val] at hC
      simp only at m0 m1 m2 m3
      clear hbx hpr
      go_wp2_with fail
      refine Stab.keep_tail 8 (fun _ _ _ => True) (fun _ => false) (fun k => false) Stab.pre_none (by kernel_rfl) (by kernel_rfl) fun hcx => ?_
      simp only [List.take_succ_cons, List.take_zero, List.drop_succ_cons, List.drop_zero]
      repeat (first
        | (refine Stab.quiet rfl rfl rfl (fun K hK => ?_); go_big_quiet_op; refine hK _ ?_; clear hK K)
        | (refine Stab.one rfl rfl rfl ?_
           apply Exists.intro
           refine ⟨fun w1 hw1 => ?_, fun K hK => ?_⟩
           · go_simp
             first | fail
           go_simp
           refine hK _ ?_
           clear hK K)
        | (refine Stab.skip rfl (fun K hK => ?_); go_simp; refine hK _ ?_; clear hK K))
      refine Stab.nil fun w' hw' _ => ?_
      clear hcx
      go_wp2_with fail
      refine (hC _).mono ?_
      rintro e w3 ⟨rfl, hk3⟩
      have hk := Stab.Keeps.trans hw' hk3
      have hB3 := hB.keep hk
      have hR3 := hR.keep hk
      have hS3 := hB3.set (by omega) (cmb ⟨y0, y1, y2, y3⟩ ⟨x0, x1, x2, x3⟩)
      obtain ⟨q0, q1, q2, q3, qf⟩ := hB3.cells
      simp only at q0 q1 q2 q3
      clear hC m0 m1 m2 m3 mf hB hR hw' hk3 hk hB3 hn e0 e1 e2 e3
      go_wp2_with fail
      go_roundw
      case rel =>
        refine ⟨k + 1, by omega, by omega, by go_num, by rw [hnx]; exact hS3, ?_⟩
        exact (((hR3.past (by simp) _).past (by simp) _).past (by simp) _).past (by simp) _
      case measure => simp [intOf]; omega
    · have hk : k = es.length := by omega
      subst hk
      rw [List.take_of_length_le (by simp)] at hB m0 m1 m2 m3
      have r0 := hR.cell (i := 0) rfl
      have r1 := hR.cell (i := 1) rfl
      have r2 := hR.cell (i := 2) rfl
      have r3 := hR.cell (i := 3) rfl
      have rf := hR.free
      have hrl := hR.lt
      have hK := hB.k
      generalize bnd (es.map Ent.box) = bx at *
      obtain ⟨y0, y1, y2, y3⟩ := bx
      simp only at m0 m1 m2 m3
      clear hB hR hpr
      go_wp2
      refine bodyPost_ret (v := .agg #[.float .f64 y0, .float .f64 y1, .float .f64 y2, .float .f64 y3]) (by simp [results, Tryd.results34, go_sem, *]) rfl ⟨rfl, ?_⟩
      repeat (first | (with_reducible exact Stab.Keeps.refl _) | (with_reducible assumption) | (with_reducible refine Stab.Keeps.alloc ?_ _) | (with_reducible refine Stab.Keeps.drew ?_) | (with_reducible refine Stab.Keeps.drewN ?_ _) | ((with_reducible refine Stab.Keeps.setCell ?_ ?_ _); focus (first | (simp; done) | (simp; omega))) | (with_reducible refine Stab.Keeps.trans ?_ (by with_reducible assumption)))
end Go.Proofs.YtokofimfinhnbaaDoor
