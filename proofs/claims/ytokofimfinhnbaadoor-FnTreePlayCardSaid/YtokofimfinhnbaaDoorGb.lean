/-
  The tree of boxes: the partition, walked. No condition.
  The tree of boxes: nodes; the box around a node's entries; whether items lie in a row. No condition.
  The tree of boxes: whether items lie in a row; items split in two. No condition.
  The tree of boxes: what a node stands for; parts of a list in any order. No condition.
  The tree of boxes: a leaf made of up to four items. No condition.
  The tree of boxes: a node made of parts. No condition.
  The tree of boxes: it is made of the items that it is loaded with. No condition.
-/
import Derived.Test.YtokofimfinhnbaaDoorGa
import Derived.Outline
set_option linter.unusedVariables false
set_option linter.unusedSimpArgs false
namespace Go.Proofs.YtokofimfinhnbaaDoor
open Go.RowKit Go.Fl Go.Sl Go.Ch
set_option maxRecDepth 100000 in
set_option maxHeartbeats 2000000 in
theorem quick_ (B o5 n cap k0 : Nat) (hz : Bool) (L : List It) (w : World) (h : Row w B o5 n L) (hc : n ≤ cap) (hm : cap ≤ maxLen) (hk0 : k0 < n) (hn : n ≤ 2147483647) :
    Calls Tryd.prog 43 #[.slice (some ⟨B, o5, none⟩) n cap, .int .i64 k0, .bool hz] w (QPost w B o5 n L) := by
  have hmf : ∀ (fn : Fn) (first cap : Array Value) (w : World), (Instr.makeFunc fn first cap).run Tryd.prog w = .ok (.func fn first cap) w := fun _ _ _ _ => rfl
  have hB := h.blk.lt
  have w1 : IntKind.i64.wrap ((n : Int) - 1) = (n : Int) - 1 := IntWalk.i64_in _ (by omega)
  go_enter Tryd.func43, Tryd.ntmps43
  go_wp2_with fail
  go_quiet (fail)
  clear w1
  go_wp2_with fail
  have hQ : QI w B o5 n cap hz L ((((w.alloc (.cells #[.slice (some ⟨B, o5, none⟩) n cap] 55)).alloc (.cells #[.bool hz] 4)).alloc (.cells #[.int .u32 0] 128)).drewN nq) L := by
    refine ⟨⟨((h.blk.alloc _).alloc _).alloc _, h.off⟩, ?_, ?_, ⟨0, ?_, by omega, by omega⟩, ?_, SubPerm.refl _ _ _⟩
    · exact ((Blk.new w [_] _ _ rfl).alloc _).alloc _
    · exact (Blk.new _ [_] _ _ (by simp)).alloc _
    · exact Blk.new _ [_] _ _ (by simp)
    · exact ((((Ch.refl no (· = B) w).alloc _).alloc _).alloc _).drewN _
  generalize ((((w.alloc (.cells #[.slice (some ⟨B, o5, none⟩) n cap] 55)).alloc (.cells #[.bool hz] 4)).alloc (.cells #[.int .u32 0] 128)).drewN nq) = W at hQ ⊢
  clear h hmf
  go_loopw [1, 10, 11] (fun kv lv rv wr => ∃ k l r : Int, 0 ≤ l ∧ l ≤ r ∧ r < n ∧ 0 ≤ k ∧ k ≤ r - l ∧ kv = .int .i64 k ∧ lv = .int .i64 l ∧ rv = .int .i64 r ∧ ∃ L', QI w B o5 n cap hz L wr L') (fun _ lv rv _ => (intOf rv - intOf lv).toNat)
  case atStart => exact ⟨_, _, _, by omega, by omega, by omega, by omega, by omega, rfl, rfl, rfl, L, hQ⟩
  case round =>
    clear hQ
    obtain ⟨k, l, r, b1, b2, b3, b4, b5, rfl, rfl, rfl, L', hI⟩ := hrel
    by_cases c1 : r = l + 1
    · subst c1
      go_wp2_with fail
      refine (hI.lessC hc hm _ _ (by omega) (by omega) (by omega) (by omega)).mono ?_
      rintro e w2 ⟨t, rfl, hI2⟩
      clear hI
      cases t with
      | false =>
        go_wp2_with fail
        go_end0
        exact hI2.post
      | true =>
        go_wp2_with fail
        refine (hI2.swapC hB hc hm _ _ (by omega) (by omega) (by omega) (by omega)).mono ?_
        rintro e w3 ⟨rfl, L3, hI3⟩
        go_wp2_with fail
        go_end0
        exact hI3.post
    by_cases c2 : r = l + 2
    · subst c2
      go_wp2_with fail
      refine (hI.lessC hc hm _ _ (by omega) (by omega) (by omega) (by omega)).mono ?_
      rintro e w2 ⟨t, rfl, hI2⟩
      clear hI
      cases t with
      | false =>
        go_wp2_with fail
        refine (hI2.lessC hc hm _ _ (by omega) (by omega) (by omega) (by omega)).mono ?_
        rintro e w5 ⟨t5, rfl, hI5⟩
        clear hI2
        cases t5 with
        | false =>
          go_wp2_with fail
          go_end0
          exact hI5.post
        | true =>
          go_wp2_with fail
          refine (hI5.swapC hB hc hm _ _ (by omega) (by omega) (by omega) (by omega)).mono ?_
          rintro e w6 ⟨rfl, L6, hI6⟩
          clear hI5
          go_wp2_with fail
          refine (hI6.lessC hc hm _ _ (by omega) (by omega) (by omega) (by omega)).mono ?_
          rintro e w7 ⟨t7, rfl, hI7⟩
          clear hI6
          cases t7 with
          | false =>
            go_wp2_with fail
            go_end0
            exact hI7.post
          | true =>
            go_wp2_with fail
            refine (hI7.swapC hB hc hm _ _ (by omega) (by omega) (by omega) (by omega)).mono ?_
            rintro e w8 ⟨rfl, L8, hI8⟩
            clear hI7
            go_wp2_with fail
            go_end0
            exact hI8.post
      | true =>
        go_wp2_with fail
        refine (hI2.swapC hB hc hm _ _ (by omega) (by omega) (by omega) (by omega)).mono ?_
        rintro e w3 ⟨rfl, L3, hI3⟩
        clear hI2
        go_wp2_with fail
        refine (hI3.lessC hc hm _ _ (by omega) (by omega) (by omega) (by omega)).mono ?_
        rintro e w5 ⟨t5, rfl, hI5⟩
        clear hI3
        cases t5 with
        | false =>
          go_wp2_with fail
          go_end0
          exact hI5.post
        | true =>
          go_wp2_with fail
          refine (hI5.swapC hB hc hm _ _ (by omega) (by omega) (by omega) (by omega)).mono ?_
          rintro e w6 ⟨rfl, L6, hI6⟩
          clear hI5
          go_wp2_with fail
          refine (hI6.lessC hc hm _ _ (by omega) (by omega) (by omega) (by omega)).mono ?_
          rintro e w7 ⟨t7, rfl, hI7⟩
          clear hI6
          cases t7 with
          | false =>
            go_wp2_with fail
            go_end0
            exact hI7.post
          | true =>
            go_wp2_with fail
            refine (hI7.swapC hB hc hm _ _ (by omega) (by omega) (by omega) (by omega)).mono ?_
            rintro e w8 ⟨rfl, L8, hI8⟩
            clear hI7
            go_wp2_with fail
            go_end0
            exact hI8.post
    go_wp2_with fail
    refine (hI.rndC hB _ (by omega) (by omega)).mono ?_
    rintro e w2 ⟨x, rfl, x0, x1, hI2⟩
    clear hI
    obtain ⟨wo, rfl⟩ : ∃ wo : World, wo = wr := ⟨_, rfl⟩
    by_cases hx : l + x = r
    · go_wp2_with fail
      have hJ := hI2
      clear hI2
      go_loopw [13, 14] (fun jv iv wr' => ∃ j i : Int, l ≤ j ∧ j ≤ i ∧ i ≤ r ∧ jv = .int .i64 j ∧ iv = .int .i64 i ∧ ∃ L', QI w B o5 n cap hz L wr' L') (fun _ iv _ => (r - intOf iv).toNat)
      case atStart => exact ⟨l, l, by omega, by omega, by omega, rfl, rfl, _, hJ⟩
      case round =>
        clear hJ
        obtain ⟨j, i, d1, d2, d3, rfl, rfl, L4, hI4⟩ := hrel
        by_cases hlt : i < r
        · go_wp2_with fail
          refine (hI4.lessC hc hm _ _ (by omega) (by omega) (by omega) (by omega)).mono ?_
          rintro e w5 ⟨t, rfl, hI5⟩
          clear hI4
          cases t with
          | false =>
            go_wp2_with fail
            go_roundw
            case rel => exact ⟨j, i + 1, by omega, by omega, by omega, rfl, rfl, _, hI5⟩
            case measure => simp [intOf]; omega
          | true =>
            go_wp2_with fail
            refine (hI5.swapC hB hc hm _ _ (by omega) (by omega) (by omega) (by omega)).mono ?_
            rintro e w6 ⟨rfl, L6, hI6⟩
            clear hI5
            go_wp2_with fail
            go_roundw
            case rel => exact ⟨j + 1, i + 1, by omega, by omega, by omega, rfl, rfl, _, hI6⟩
            case measure => simp [intOf]; omega
        · have hir : i = r := by omega
          subst hir
          go_wp2_with fail
          refine (hI4.swapC hB hc hm _ _ (by omega) (by omega) (by omega) (by omega)).mono ?_
          rintro e w5 ⟨rfl, L5, hI5⟩
          clear hI4
          rcases Int.lt_trichotomy (j - l) k with h3 | h3 | h3
          · go_wp2_with fail
            go_roundw
            case rel => exact ⟨k - (j - l + 1), j + 1, i, by omega, by omega, by omega, by omega, by omega, rfl, rfl, rfl, _, hI5⟩
            case measure => simp [intOf]; omega
          · go_wp2_with fail
            go_end0
            exact hI5.post
          · go_wp2_with fail
            go_roundw
            case rel => exact ⟨k, l, j - 1, by omega, by omega, by omega, by omega, by omega, rfl, rfl, rfl, _, hI5⟩
            case measure => simp [intOf]; omega
    · go_wp2_with fail
      refine (hI2.swapC hB hc hm _ _ (by omega) (by omega) (by omega) (by omega)).mono ?_
      rintro e w3 ⟨rfl, L3, hJ⟩
      clear hI2
      go_wp2_with fail
      go_loopw [13, 14] (fun jv iv wr' => ∃ j i : Int, l ≤ j ∧ j ≤ i ∧ i ≤ r ∧ jv = .int .i64 j ∧ iv = .int .i64 i ∧ ∃ L', QI w B o5 n cap hz L wr' L') (fun _ iv _ => (r - intOf iv).toNat)
      case atStart => exact ⟨l, l, by omega, by omega, by omega, rfl, rfl, _, hJ⟩
      case round =>
        clear hJ
        obtain ⟨j, i, d1, d2, d3, rfl, rfl, L4, hI4⟩ := hrel
        by_cases hlt : i < r
        · go_wp2_with fail
          refine (hI4.lessC hc hm _ _ (by omega) (by omega) (by omega) (by omega)).mono ?_
          rintro e w5 ⟨t, rfl, hI5⟩
          clear hI4
          cases t with
          | false =>
            go_wp2_with fail
            go_roundw
            case rel => exact ⟨j, i + 1, by omega, by omega, by omega, rfl, rfl, _, hI5⟩
            case measure => simp [intOf]; omega
          | true =>
            go_wp2_with fail
            refine (hI5.swapC hB hc hm _ _ (by omega) (by omega) (by omega) (by omega)).mono ?_
            rintro e w6 ⟨rfl, L6, hI6⟩
            clear hI5
            go_wp2_with fail
            go_roundw
            case rel => exact ⟨j + 1, i + 1, by omega, by omega, by omega, rfl, rfl, _, hI6⟩
            case measure => simp [intOf]; omega
        · have hir : i = r := by omega
          subst hir
          go_wp2_with fail
          refine (hI4.swapC hB hc hm _ _ (by omega) (by omega) (by omega) (by omega)).mono ?_
          rintro e w5 ⟨rfl, L5, hI5⟩
          clear hI4
          rcases Int.lt_trichotomy (j - l) k with h3 | h3 | h3
          · go_wp2_with fail
            go_roundw
            case rel => exact ⟨k - (j - l + 1), j + 1, i, by omega, by omega, by omega, by omega, by omega, rfl, rfl, rfl, _, hI5⟩
            case measure => simp [intOf]; omega
          · go_wp2_with fail
            go_end0
            exact hI5.post
          · go_wp2_with fail
            go_roundw
            case rel => exact ⟨k, l, j - 1, by omega, by omega, by omega, by omega, by omega, rfl, rfl, rfl, _, hI5⟩
            case measure => simp [intOf]; omega
end Go.Proofs.YtokofimfinhnbaaDoor
set_option linter.unusedVariables false
set_option linter.unusedSimpArgs false
namespace Go.Proofs.YtokofimfinhnbaaDoor
open Go.RowKit Go.Fl Go.Sl Go.Ch
structure Ent where
  box : B4
  child : Option Nat
  id : Int
def Ent.cells (e : Ent) : List Value := [.float .f64 e.box.a, .float .f64 e.box.b, .float .f64 e.box.c, .float .f64 e.box.d, .pointer (e.child.map fun p => ⟨p, 0, none⟩), .int .i64 e.id]
theorem Ent.cells_len (e : Ent) : e.cells.length = 6 := rfl
def Ent.zero : Ent := ⟨⟨0, 0, 0, 0⟩, none, 0⟩
def pad (es : List Ent) : List Ent := es ++ List.replicate (4 - es.length) Ent.zero
theorem pad_len (es : List Ent) (h : es.length ≤ 4) : (pad es).length = 4 := by simp [pad]; omega
def nodeC (es : List Ent) (n : Nat) : List Value := (pad es).flatMap Ent.cells ++ [.int .i64 n]
theorem nodeC_ent (es : List Ent) (n i j : Nat) (h4 : es.length ≤ 4) (hi : i < es.length) (hj : j < 6) : (nodeC es n)[i * 6 + j]? = (Ent.cells es[i])[j]? := by
  have hl := flat_len Ent.cells 6 Ent.cells_len (pad es)
  have hp := pad_len es h4
  unfold nodeC
  rw [List.getElem?_append_left (by rw [hl]; omega), flat_get Ent.cells 6 Ent.cells_len (pad es) i j (by omega) hj]
  congr 2
  unfold pad
  rw [List.getElem_append_left hi]
theorem nodeC_num (es : List Ent) (n : Nat) (h4 : es.length ≤ 4) : (nodeC es n)[24]? = some (.int .i64 n) := by
  have hl := flat_len Ent.cells 6 Ent.cells_len (pad es)
  have hp := pad_len es h4
  unfold nodeC
  rw [List.getElem?_append_right (by rw [hl]; omega)]
  simp [hl, hp]
def bnd : List B4 → B4
  | [] => ⟨0, 0, 0, 0⟩
  | x :: l => l.foldl cmb x
theorem bnd_snoc (l : List B4) (h : 0 < l.length) (x : B4) : bnd (l ++ [x]) = cmb (bnd l) x := by
  cases l with
  | nil => simp at h
  | cons y l => simp [bnd]
/-- what is read of an entry -/
theorem ent_cells {w : World} {p n : Nat} {es : List Ent} (h : Blk w p 84 (nodeC es n)) (h4 : es.length ≤ 4) {i : Nat} (hi : i < es.length) :
    w.cell? ⟨p, i * 6, none⟩ = some (.float .f64 es[i].box.a) ∧ w.cell? ⟨p, i * 6 + 1, none⟩ = some (.float .f64 es[i].box.b) ∧ w.cell? ⟨p, i * 6 + 2, none⟩ = some (.float .f64 es[i].box.c) ∧ w.cell? ⟨p, i * 6 + 3, none⟩ = some (.float .f64 es[i].box.d) ∧
    w.cell? ⟨p, i * 6 + 4, none⟩ = some (.pointer (es[i].child.map fun p => ⟨p, 0, none⟩)) ∧ w.cell? ⟨p, i * 6 + 5, none⟩ = some (.int .i64 es[i].id) :=
  ⟨h.cell (by rw [← Nat.add_zero (i * 6), nodeC_ent es n i 0 h4 hi (by omega)]; rfl), h.cell (by rw [nodeC_ent es n i 1 h4 hi (by omega)]; rfl), h.cell (by rw [nodeC_ent es n i 2 h4 hi (by omega)]; rfl), h.cell (by rw [nodeC_ent es n i 3 h4 hi (by omega)]; rfl),
    h.cell (by rw [nodeC_ent es n i 4 h4 hi (by omega)]; rfl), h.cell (by rw [nodeC_ent es n i 5 h4 hi (by omega)]; rfl)⟩
/-- a box in a block of its own, and what was there kept -/
structure BoxI (w : World) (b : Nat) (x : B4) (wr : World) : Prop where
  k : Stab.Keeps w wr
  blk : Blk wr b 56 x.cells
theorem BoxI.set {w : World} {b : Nat} {x : B4} {wr : World} (h : BoxI w b x wr) (hb : w.heap.size ≤ b) (y : B4) :
    BoxI w b y ((((wr.setCell ⟨b, 0, none⟩ (.float .f64 y.a)).setCell ⟨b, 1, none⟩ (.float .f64 y.b)).setCell ⟨b, 2, none⟩ (.float .f64 y.c)).setCell ⟨b, 3, none⟩ (.float .f64 y.d)) :=
  ⟨by refine Stab.Keeps.setCell hb (Stab.Keeps.setCell hb (Stab.Keeps.setCell hb (Stab.Keeps.setCell hb h.k _) _) _) _, (((h.blk.set 0 _).set 1 _).set 2 _).set 3 _⟩
theorem BoxI.keep {w : World} {b : Nat} {x : B4} {wr w' : World} (h : BoxI w b x wr) (hk : Stab.Keeps wr w') : BoxI w b x w' := ⟨Stab.Keeps.trans h.k hk, h.blk.keep hk⟩
theorem BoxI.cells {w : World} {b : Nat} {x : B4} {wr : World} (h : BoxI w b x wr) : wr.cell? ⟨b, 0, none⟩ = some (.float .f64 x.a) ∧ wr.cell? ⟨b, 1, none⟩ = some (.float .f64 x.b) ∧ wr.cell? ⟨b, 2, none⟩ = some (.float .f64 x.c) ∧ wr.cell? ⟨b, 3, none⟩ = some (.float .f64 x.d) ∧ ∀ j, wr.frozen? ⟨b, j, none⟩ = false :=
  ⟨h.blk.cell rfl, h.blk.cell rfl, h.blk.cell rfl, h.blk.cell rfl, h.blk.free⟩
set_option maxRecDepth 100000 in
set_option maxHeartbeats 1000000 in
theorem calc_ (p : Nat) (es : List Ent) (w : World) (h : Blk w p 84 (nodeC es es.length)) (h4 : es.length ≤ 4) (h0 : 0 < es.length) :
    Calls Tryd.prog 34 #[.pointer (some ⟨p, 0, none⟩)] w (One w (bnd (es.map Ent.box)).val) := by
  obtain ⟨e0, e1, e2, e3, _, _⟩ := ent_cells h h4 h0
  simp only [Nat.zero_mul, Nat.zero_add] at e0 e1 e2 e3
  have hl := h.lt
  go_enter Tryd.func34, Tryd.ntmps34
  go_wp2
  have hx : bnd ((es.map Ent.box).take 1) = es[0].box := by cases es with | nil => simp at h0 | cons x l => rfl
  have hB : BoxI w (w.heap.size + 1) (bnd ((es.map Ent.box).take 1)) ((w.alloc (.cells #[.float .f64 0, .float .f64 0, .float .f64 0, .float .f64 0] 56)).alloc (.cells #[.float .f64 es[0].box.a, .float .f64 es[0].box.b, .float .f64 es[0].box.c, .float .f64 es[0].box.d] 56)) := by
    rw [hx]
    exact ⟨by repeat (first | (with_reducible exact Stab.Keeps.refl _) | (with_reducible assumption) | (with_reducible refine Stab.Keeps.alloc ?_ _) | (with_reducible refine Stab.Keeps.drew ?_) | (with_reducible refine Stab.Keeps.drewN ?_ _) | ((with_reducible refine Stab.Keeps.setCell ?_ ?_ _); focus (first | (simp; done) | (simp; omega))) | (with_reducible refine Stab.Keeps.trans ?_ (by with_reducible assumption))), Blk.new _ [_, _, _, _] _ _ (by simp)⟩
  have hR : Blk ((w.alloc (.cells #[.float .f64 0, .float .f64 0, .float .f64 0, .float .f64 0] 56)).alloc (.cells #[.float .f64 es[0].box.a, .float .f64 es[0].box.b, .float .f64 es[0].box.c, .float .f64 es[0].box.d] 56)) w.heap.size 56 (B4.cells ⟨0, 0, 0, 0⟩) := (Blk.new w [_, _, _, _] _ _ rfl).alloc _
  generalize ((w.alloc (.cells #[.float .f64 0, .float .f64 0, .float .f64 0, .float .f64 0] 56)).alloc (.cells #[.float .f64 es[0].box.a, .float .f64 es[0].box.b, .float .f64 es[0].box.c, .float .f64 es[0].box.d] 56)) = W at hB hR ⊢
  clear e0 e1 e2 e3 hx
  go_loopw [4] (fun iv wr => ∃ k : Nat, 1 ≤ k ∧ k ≤ es.length ∧ iv = .int .i64 k ∧ BoxI w (w.heap.size + 1) (bnd ((es.map Ent.box).take k)) wr ∧ Blk wr w.heap.size 56 (B4.cells ⟨0, 0, 0, 0⟩)) (fun iv _ => es.length - (intOf iv).toNat)
  case atStart => exact ⟨1, by omega, by omega, rfl, hB, hR⟩
  case round =>
    clear hB hR
    obtain ⟨k, k1, k2, rfl, hB, hR⟩ := hrel
    obtain ⟨m0, m1, m2, m3, mf⟩ := hB.cells
    have hbl := hB.blk.lt
    have hpr := h.keep hB.k
    have hn : wr.cell? ⟨p, 24, none⟩ = some (.int .i64 es.length) := hpr.cell (nodeC_num es _ h4)
    have hpl := hpr.lt
    by_cases hlt : k < es.length
    · obtain ⟨e0, e1, e2, e3, _, _⟩ := ent_cells hpr h4 hlt
      have ht : (es.map Ent.box).take (k + 1) = (es.map Ent.box).take k ++ [es[k].box] := by
        rw [List.take_succ_eq_append_getElem (by simpa using hlt)]; simp
      have hnx : bnd ((es.map Ent.box).take (k + 1)) = cmb (bnd ((es.map Ent.box).take k)) es[k].box := by
        rw [ht]; exact bnd_snoc _ (by simp; omega) _
      clear ht
      generalize es[k] = en at *
      obtain ⟨⟨x0, x1, x2, x3⟩, _, _⟩ := en
      simp only at e0 e1 e2 e3 hnx
      generalize hbx : bnd ((es.map Ent.box).take k) = bx at *
      obtain ⟨y0, y1, y2, y3⟩ := bx
      have hC := fun w => combine_ ⟨y0, y1, y2, y3⟩ ⟨x0, x1, x2, x3⟩ w
      simp only [B4.val] at hC
      simp only at m0 m1 m2 m3
      clear hbx hpr
      go_wp2_with fail
      refine Stab.keep_tail 8 (fun _ _ _ => True) (fun _ => false) (fun k => false) Stab.pre_none (by kernel_rfl) (by kernel_rfl) fun hcx => ?_
      simp only [List.take_succ_cons, List.take_zero, List.drop_succ_cons, List.drop_zero]
      repeat (first
        | (refine Stab.quiet rfl rfl rfl (fun K hK => ?_); go_big_quiet_op; refine hK _ ?_; clear hK K)
        | (refine Stab.one rfl rfl rfl ?_
           apply Exists.intro
           refine ⟨fun w1 hw1 => ?_, fun K hK => ?_⟩
           · go_simp
             first | fail
           go_simp
           refine hK _ ?_
           clear hK K)
        | (refine Stab.skip rfl (fun K hK => ?_); go_simp; refine hK _ ?_; clear hK K))
      refine Stab.nil fun w' hw' _ => ?_
      clear hcx
      go_wp2_with fail
      refine (hC _).mono ?_
      rintro e w3 ⟨rfl, hk3⟩
      have hk := Stab.Keeps.trans hw' hk3
      have hB3 := hB.keep hk
      have hR3 := hR.keep hk
      have hS3 := hB3.set (by omega) (cmb ⟨y0, y1, y2, y3⟩ ⟨x0, x1, x2, x3⟩)
      obtain ⟨q0, q1, q2, q3, qf⟩ := hB3.cells
      simp only at q0 q1 q2 q3
      clear hC m0 m1 m2 m3 mf hB hR hw' hk3 hk hB3 hn e0 e1 e2 e3
      go_wp2_with fail
      go_roundw
      case rel =>
        refine ⟨k + 1, by omega, by omega, by go_num, by rw [hnx]; exact hS3, ?_⟩
        exact (((hR3.past (by simp) _).past (by simp) _).past (by simp) _).past (by simp) _
      case measure => simp [intOf]; omega
    · have hk : k = es.length := by omega
      subst hk
      rw [List.take_of_length_le (by simp)] at hB m0 m1 m2 m3
      have r0 := hR.cell (i := 0) rfl
      have r1 := hR.cell (i := 1) rfl
      have r2 := hR.cell (i := 2) rfl
      have r3 := hR.cell (i := 3) rfl
      have rf := hR.free
      have hrl := hR.lt
      have hK := hB.k
      generalize bnd (es.map Ent.box) = bx at *
      obtain ⟨y0, y1, y2, y3⟩ := bx
      simp only at m0 m1 m2 m3
      clear hB hR hpr
      go_wp2
      refine bodyPost_ret (v := .agg #[.float .f64 y0, .float .f64 y1, .float .f64 y2, .float .f64 y3]) (by simp [results, Tryd.results34, go_sem, *]) rfl ⟨rfl, ?_⟩
      repeat (first | (with_reducible exact Stab.Keeps.refl _) | (with_reducible assumption) | (with_reducible refine Stab.Keeps.alloc ?_ _) | (with_reducible refine Stab.Keeps.drew ?_) | (with_reducible refine Stab.Keeps.drewN ?_ _) | ((with_reducible refine Stab.Keeps.setCell ?_ ?_ _); focus (first | (simp; done) | (simp; omega))) | (with_reducible refine Stab.Keeps.trans ?_ (by with_reducible assumption)))
end Go.Proofs.YtokofimfinhnbaaDoor
set_option linter.unusedVariables false
set_option linter.unusedSimpArgs false
namespace Go.Proofs.YtokofimfinhnbaaDoor
open Go.RowKit Go.Fl Go.Sl Go.Ch
set_option maxRecDepth 100000 in
set_option maxHeartbeats 1000000 in
theorem horiz_ (B o5 n cap : Nat) (L : List It) (w : World) (h : Row w B o5 n L) (hc : n ≤ cap) (hm : cap ≤ maxLen) (hn : 2 ≤ n) :
    Calls Tryd.prog 42 #[.slice (some ⟨B, o5, none⟩) n cap] w (SomeB w) := by
  obtain ⟨t, _, c0, c1, c2, c3, _⟩ := h.cell (i := 0) (by omega)
  simp only [Nat.zero_mul, Nat.add_zero] at c0 c1 c2 c3
  have hB := h.blk.lt
  unfold maxLen at hm
  go_enter Tryd.func42, Tryd.ntmps42
  go_wp2
  have hX : BoxI w w.heap.size t.box (w.alloc (.cells #[.float .f64 t.box.a, .float .f64 t.box.b, .float .f64 t.box.c, .float .f64 t.box.d] 56)) := ⟨by repeat (first | (with_reducible exact Stab.Keeps.refl _) | (with_reducible assumption) | (with_reducible refine Stab.Keeps.alloc ?_ _) | (with_reducible refine Stab.Keeps.drew ?_) | (with_reducible refine Stab.Keeps.drewN ?_ _) | ((with_reducible refine Stab.Keeps.setCell ?_ ?_ _); focus (first | (simp; done) | (simp; omega))) | (with_reducible refine Stab.Keeps.trans ?_ (by with_reducible assumption))), Blk.new w [_, _, _, _] _ _ rfl⟩
  generalize (w.alloc (.cells #[.float .f64 t.box.a, .float .f64 t.box.b, .float .f64 t.box.c, .float .f64 t.box.d] 56)) = W at hX ⊢
  generalize t.box = bt at hX
  clear c0 c1 c2 c3
  go_loopw [13] (fun iv wr => ∃ k : Nat, k ≤ n - 1 ∧ iv = .int .i64 k ∧ ∃ x, BoxI w w.heap.size x wr) (fun iv _ => n - (intOf iv).toNat)
  case atStart => exact ⟨0, by omega, rfl, bt, hX⟩
  case round =>
    clear hX
    obtain ⟨k, k2, rfl, ⟨y0, y1, y2, y3⟩, hX⟩ := hrel
    obtain ⟨m0, m1, m2, m3, mf⟩ := hX.cells
    have hbl := hX.blk.lt
    have hK := hX.k
    simp only at m0 m1 m2 m3
    by_cases hlt : k < n - 1
    · have hr : Row wr B o5 n L := ⟨h.blk.keep hX.k, h.off⟩
      obtain ⟨u, _, c0, c1, c2, c3, c4⟩ := hr.cell (i := k + 1) (by omega)
      rw [show o5 + (k + 1) * 5 = o5 + 5 + k * 5 by omega] at c0 c1 c2 c3 c4
      have hBl := hr.blk.lt
      obtain ⟨⟨x0, x1, x2, x3⟩, id⟩ := u
      simp only at c0 c1 c2 c3 c4
      have hC := fun w => combine_ ⟨y0, y1, y2, y3⟩ ⟨x0, x1, x2, x3⟩ w
      simp only [B4.val] at hC
      go_wp2_with fail
      refine (hC _).mono ?_
      rintro e w3 ⟨rfl, hk3⟩
      have hk : Stab.Keeps wr w3 := by repeat (first | (with_reducible exact Stab.Keeps.refl _) | (with_reducible assumption) | (with_reducible refine Stab.Keeps.alloc ?_ _) | (with_reducible refine Stab.Keeps.drew ?_) | (with_reducible refine Stab.Keeps.drewN ?_ _) | ((with_reducible refine Stab.Keeps.setCell ?_ ?_ _); focus (first | (simp; done) | (simp; omega))) | (with_reducible refine Stab.Keeps.trans ?_ (by with_reducible assumption)))
      have hX3 := hX.keep hk
      have hS3 := hX3.set (by omega) (cmb ⟨y0, y1, y2, y3⟩ ⟨x0, x1, x2, x3⟩)
      obtain ⟨q0, q1, q2, q3, qf⟩ := hX3.cells
      simp only at q0 q1 q2 q3
      clear hC m0 m1 m2 m3 mf hX hk3 hk hX3 c0 c1 c2 c3 c4 hK
      go_wp2_with fail
      go_roundw
      case rel => exact ⟨k + 1, by omega, by go_num, _, hS3⟩
      case measure => simp [intOf]; omega
    · clear hX
      go_wp2
      go_ret
      refine ⟨_, rfl, ?_⟩
      repeat (first | (with_reducible exact Stab.Keeps.refl _) | (with_reducible assumption) | (with_reducible refine Stab.Keeps.alloc ?_ _) | (with_reducible refine Stab.Keeps.drew ?_) | (with_reducible refine Stab.Keeps.drewN ?_ _) | ((with_reducible refine Stab.Keeps.setCell ?_ ?_ _); focus (first | (simp; done) | (simp; omega))) | (with_reducible refine Stab.Keeps.trans ?_ (by with_reducible assumption)))
def SplitPost (w : World) (B o5 n cap : Nat) (L : List It) (e : Ending) (w' : World) : Prop :=
  e = .returned (.tuple #[.slice (some ⟨B, o5, none⟩) (n / 2) cap, .slice (some ⟨B, o5 + (n / 2) * 5, none⟩) (n - n / 2) (cap - n / 2)]) ∧ ∃ L', Row w' B o5 n L' ∧ SubPerm (o5 / 5) n L L' ∧ Ch no (· = B) w w'
set_option maxRecDepth 100000 in
set_option maxHeartbeats 1000000 in
theorem split_ (B o5 n cap : Nat) (L : List It) (w : World) (h : Row w B o5 n L) (hc : n ≤ cap) (hm : cap ≤ maxLen) (hn : 2 ≤ n) (hn2 : n ≤ 2147483647) :
    Calls Tryd.prog 35 #[.slice (some ⟨B, o5, none⟩) n cap] w (SplitPost w B o5 n cap L) := by
  have hm' := hm
  unfold maxLen at hm'
  go_enter Tryd.func35, Tryd.ntmps35
  go_wp2_with fail
  refine (horiz_ B o5 n cap L w h hc hm hn).mono ?_
  rintro e w2 ⟨hz, rfl, hk2⟩
  have h2 : Row w2 B o5 n L := ⟨h.blk.keep hk2, h.off⟩
  have hQ := quick_ B o5 n cap (n / 2) hz L w2 h2 hc hm (by omega) hn2
  go_wp2_with fail
  simp only [show (n : Int) / 2 = ((n / 2 : Nat) : Int) by omega]
  refine hQ.mono ?_
  rintro e w3 ⟨rfl, L3, h3, p3, k3⟩
  clear hQ h2
  go_wp2_with fail
  have b1 : (0 : Int) ≤ ((n / 2 : Nat) : Int) := by omega
  have b2 : ((n / 2 : Nat) : Int) ≤ cap := by omega
  have b3 : ((n / 2 : Nat) : Int) ≤ n := by omega
  have b4 : (((n / 2 : Nat) : Int)).toNat = n / 2 := by omega
  have b5 : n / 2 ≤ n := by omega
  have b6 : n / 2 < cap := by omega
  go_quiet (fail)
  go_wp2
  go_ret2
  exact ⟨rfl, L3, ⟨h3.blk, h3.off⟩, p3, (Ch.of_keeps hk2).trans (k3.drewN _)⟩
end Go.Proofs.YtokofimfinhnbaaDoor
set_option linter.unusedVariables false
set_option linter.unusedSimpArgs false
namespace Go.Proofs.YtokofimfinhnbaaDoor
open Go.RowKit Go.Fl Go.Sl Go.Ch
inductive RT where
  | leaf (l : List It)
  | two (a b : RT)
  | four (a b c d : RT)
def RT.box : RT → B4
  | .leaf l => bnd (l.map It.box)
  | .two a b => bnd [a.box, b.box]
  | .four a b c d => bnd [a.box, b.box, c.box, d.box]
def RT.items : RT → List It
  | .leaf l => l
  | .two a b => a.items ++ b.items
  | .four a b c d => a.items ++ (b.items ++ (c.items ++ d.items))
def leafE (l : List It) : List Ent := l.map fun t => ⟨t.box, none, t.id⟩
/-- the node at p stands for t; all its blocks are from lo on -/
def NodeAt (w : World) (lo : Nat) : Nat → RT → Prop
  | p, .leaf l => lo ≤ p ∧ 0 < l.length ∧ l.length ≤ 4 ∧ Blk w p 84 (nodeC (leafE l) l.length)
  | p, .two a b => (lo ≤ p ∧ 5 ≤ a.items.length + b.items.length) ∧ ∃ pa pb, Blk w p 84 (nodeC [⟨a.box, some pa, 0⟩, ⟨b.box, some pb, 0⟩] 2) ∧ NodeAt w lo pa a ∧ NodeAt w lo pb b
  | p, .four a b c d => (lo ≤ p ∧ 5 ≤ a.items.length + (b.items.length + (c.items.length + d.items.length))) ∧ ∃ pa pb pc pd, Blk w p 84 (nodeC [⟨a.box, some pa, 0⟩, ⟨b.box, some pb, 0⟩, ⟨c.box, some pc, 0⟩, ⟨d.box, some pd, 0⟩] 4) ∧ NodeAt w lo pa a ∧ NodeAt w lo pb b ∧ NodeAt w lo pc c ∧ NodeAt w lo pd d
/-- a node's own block -/
theorem NodeAt.blk {w : World} {lo : Nat} : ∀ {p : Nat} {t : RT}, NodeAt w lo p t → ∃ es : List Ent, 0 < es.length ∧ es.length ≤ 4 ∧ Blk w p 84 (nodeC es es.length) ∧ bnd (es.map Ent.box) = t.box
  | p, .leaf l, h => by
    obtain ⟨_, h1, h2, h3⟩ := h
    refine ⟨leafE l, by simpa [leafE] using h1, by simpa [leafE] using h2, by simpa [leafE] using h3, ?_⟩
    simp [leafE, RT.box, Function.comp_def]
  | p, .two a b, h => by
    obtain ⟨_, pa, pb, h1, _⟩ := h
    exact ⟨_, by simp, by simp, h1, rfl⟩
  | p, .four a b c d, h => by
    obtain ⟨_, pa, pb, pc, pd, h1, _⟩ := h
    exact ⟨_, by simp, by simp, h1, rfl⟩
/-- a node over at most four items has no node below it -/
theorem NodeAt.small {w : World} {lo p : Nat} {t : RT} (h : NodeAt w lo p t) (h4 : t.items.length ≤ 4) : ∃ l, t = .leaf l := by
  cases t with
  | leaf l => exact ⟨l, rfl⟩
  | two a b =>
    obtain ⟨⟨_, h5⟩, _⟩ := h
    simp only [RT.items, List.length_append] at h4
    omega
  | four a b c d =>
    obtain ⟨⟨_, h5⟩, _⟩ := h
    simp only [RT.items, List.length_append] at h4
    omega
/-- what holds of a node's world holds of each world that changes no node from lo on; the bound may be lowered -/
theorem NodeAt.of {w w' : World} {lo lo' : Nat} (hl : lo' ≤ lo) (hk : ∀ b vs, lo ≤ b → Blk w b 84 vs → Blk w' b 84 vs) : ∀ {t : RT} {p : Nat}, NodeAt w lo p t → NodeAt w' lo' p t
  | .leaf l, p, h => ⟨Nat.le_trans hl h.1, h.2.1, h.2.2.1, hk _ _ h.1 h.2.2.2⟩
  | .two a b, p, h => by
    obtain ⟨h0, pa, pb, h1, ha, hb⟩ := h
    exact ⟨⟨Nat.le_trans hl h0.1, h0.2⟩, pa, pb, hk _ _ h0.1 h1, NodeAt.of hl hk ha, NodeAt.of hl hk hb⟩
  | .four a b c d, p, h => by
    obtain ⟨h0, pa, pb, pc, pd, h1, ha, hb, hc, hd⟩ := h
    exact ⟨⟨Nat.le_trans hl h0.1, h0.2⟩, pa, pb, pc, pd, hk _ _ h0.1 h1, NodeAt.of hl hk ha, NodeAt.of hl hk hb, NodeAt.of hl hk hc, NodeAt.of hl hk hd⟩
theorem NodeAt.ch {B lo : Nat} {vs : List Value} {w w' : World} (hk : Ch no (· = B) w w') (hB : Blk w B 59 vs) {t : RT} {p : Nat} (h : NodeAt w lo p t) : NodeAt w' lo p t :=
  NodeAt.of (Nat.le_refl _) (fun b vs' _ hb => hk.blk hb (hb.ne hB (by decide)) (fun e => e)) h
theorem NodeAt.past {r i lo : Nat} {u : Value} {w : World} {t : RT} {p : Nat} (h : NodeAt w lo p t) (hr : r < lo) : NodeAt (w.setCell ⟨r, i, none⟩ u) lo p t :=
  NodeAt.of (Nat.le_refl _) (fun b vs' hl hb => hb.past (by simp; omega) _) h
theorem NodeAt.keep {w w' : World} {lo : Nat} (hk : Stab.Keeps w w') {t : RT} {p : Nat} (h : NodeAt w lo p t) : NodeAt w' lo p t := NodeAt.of (Nat.le_refl _) (fun b vs _ hb => hb.keep hk) h
theorem NodeAt.low {w : World} {lo lo' : Nat} (hl : lo' ≤ lo) {t : RT} {p : Nat} (h : NodeAt w lo p t) : NodeAt w lo' p t := NodeAt.of hl (fun b vs _ hb => hb) h

theorem sub_append (L : List It) (off a b : Nat) : sub L off (a + b) = sub L off a ++ sub L (off + a) b := by
  unfold sub
  rw [List.take_add, List.drop_drop]
theorem sub_out {L L' : List It} {off n : Nat} (h : L'.length = L.length) (hk : ∀ i, off ≤ i → i < off + n → L'[i]? = L[i]?) : sub L' off n = sub L off n := by
  apply List.ext_getElem?
  intro i
  by_cases hi : i < n
  · rw [sub_get _ _ _ _ hi, sub_get _ _ _ _ hi]; exact hk _ (by omega) (by omega)
  · unfold sub
    rw [List.getElem?_eq_none (by simp; omega), List.getElem?_eq_none (by simp; omega)]
theorem SubPerm.app {off a b : Nat} {L L' L'' : List It} (h : SubPerm off a L L') (k : SubPerm (off + a) b L' L'') : SubPerm off (a + b) L L'' := by
  refine ⟨k.len.trans h.len, fun i hi => (k.out i (by omega)).trans (h.out i (by omega)), ?_⟩
  rw [sub_append, sub_append]
  refine List.Perm.append ?_ ?_
  · rw [sub_out k.len (fun i h1 h2 => k.out i (by omega))]; exact h.perm
  · refine k.perm.trans ?_
    rw [sub_out h.len (fun i h1 h2 => h.out i (by omega))]
theorem SubPerm.widen {off a b n : Nat} {L L' : List It} (h : SubPerm (off + a) b L L') (hn : a + b ≤ n) : SubPerm off n L L' := by
  have h1 := ((SubPerm.refl off a L).app h).app (SubPerm.refl (off + (a + b)) (n - (a + b)) L')
  rwa [show a + b + (n - (a + b)) = n by omega] at h1
theorem Row.part {w : World} {B o5 n : Nat} {L : List It} (h : Row w B o5 n L) (a m : Nat) (hm : a + m ≤ n) : Row w B (o5 + a * 5) m L := by
  obtain ⟨off, e, hl⟩ := h.off
  exact ⟨h.blk, off + a, by omega, by omega⟩
theorem Row.whole {w : World} {B o5 n a m : Nat} {L L' : List It} {w0 : World} (h0 : Row w0 B o5 n L) (h : Row w B (o5 + a * 5) m L') (hl : L'.length = L.length) : Row w B o5 n L' := by
  obtain ⟨off, e, hl0⟩ := h0.off
  exact ⟨h.blk, off, e, by omega⟩
theorem Row.div {w : World} {B o5 n : Nat} {L : List It} (h : Row w B o5 n L) (a : Nat) : (o5 + a * 5) / 5 = o5 / 5 + a := by omega
/-- what 'bulkInsert' leaves -/
def BIPost (w : World) (B o5 n : Nat) (L : List It) (e : Ending) (w' : World) : Prop :=
  ∃ p t L', e = .returned (.pointer (some ⟨p, 0, none⟩)) ∧ Row w' B o5 n L' ∧ SubPerm (o5 / 5) n L L' ∧ Ch no (· = B) w w' ∧ NodeAt w' w.heap.size p t ∧ t.items.Perm (sub L (o5 / 5) n)
def BIC (B o5 n cap : Nat) : Prop := ∀ (L : List It) (w : World), Row w B o5 n L → Calls Tryd.prog 26 #[.slice (some ⟨B, o5, none⟩) n cap] w (BIPost w B o5 n L)
end Go.Proofs.YtokofimfinhnbaaDoor
set_option linter.unusedVariables false
set_option linter.unusedSimpArgs false
namespace Go.Proofs.YtokofimfinhnbaaDoor
open Go.RowKit Go.Fl Go.Sl Go.Ch
theorem pad_snoc (es : List Ent) (e : Ent) (h : es.length < 4) : pad (es ++ [e]) = (pad es).set es.length e := by
  unfold pad
  rw [List.set_append_right _ _ (Nat.le_refl _), Nat.sub_self]
  have : 4 - es.length = (4 - (es ++ [e]).length) + 1 := by simp; omega
  rw [this, List.replicate_succ]
  simp
/-- an entry written into its place -/
theorem nodeC_set (es : List Ent) (n : Nat) (e : Ent) (h : es.length < 4) :
    ((((((nodeC es n).set (es.length * 6) (.float .f64 e.box.a)).set (es.length * 6 + 1) (.float .f64 e.box.b)).set (es.length * 6 + 2) (.float .f64 e.box.c)).set (es.length * 6 + 3) (.float .f64 e.box.d)).set (es.length * 6 + 4) (.pointer (e.child.map fun p => ⟨p, 0, none⟩))).set (es.length * 6 + 5) (.int .i64 e.id) = nodeC (es ++ [e]) n := by
  have hp := pad_len es (by omega)
  have hl := flat_len Ent.cells 6 Ent.cells_len (pad es)
  have hl' : ((pad es).flatMap Ent.cells).length = 24 := by rw [hl, hp]
  apply List.ext_getElem?
  intro k
  have hlen : (nodeC es n).length = 25 := by unfold nodeC; simp only [List.length_append, hl', List.length_cons, List.length_nil]
  have hp2 := pad_len (es ++ [e]) (by simp; omega)
  have hl2 : ((pad (es ++ [e])).flatMap Ent.cells).length = 24 := by rw [flat_len Ent.cells 6 Ent.cells_len, hp2]
  by_cases hk : k < 24
  · obtain ⟨q, r, hr, rfl⟩ : ∃ q r, r < 6 ∧ k = q * 6 + r := ⟨k / 6, k % 6, Nat.mod_lt _ (by omega), by omega⟩
    have g2 : (nodeC (es ++ [e]) n)[q * 6 + r]? = (Ent.cells ((pad (es ++ [e]))[q]'(by omega)))[r]? := by
      unfold nodeC
      rw [List.getElem?_append_left (by omega), flat_get Ent.cells 6 Ent.cells_len _ q r (by omega) hr]
    have g1 : (nodeC es n)[q * 6 + r]? = (Ent.cells ((pad es)[q]'(by omega)))[r]? := by
      unfold nodeC
      rw [List.getElem?_append_left (by omega), flat_get Ent.cells 6 Ent.cells_len _ q r (by omega) hr]
    rw [g2]
    simp only [pad_snoc es e h, List.getElem?_set, List.length_set, hlen]
    by_cases he : es.length = q
    · subst he
      rw [List.getElem_set_self]
      have : r = 0 ∨ r = 1 ∨ r = 2 ∨ r = 3 ∨ r = 4 ∨ r = 5 := by omega
      rcases this with rfl | rfl | rfl | rfl | rfl | rfl <;> simp [Ent.cells] <;> omega
    · rw [List.getElem_set_ne he]
      rw [if_neg (by omega), if_neg (by omega), if_neg (by omega), if_neg (by omega), if_neg (by omega), if_neg (by omega), g1]
  · by_cases hk2 : k = 24
    · subst hk2
      rw [nodeC_num _ _ (by simp; omega)]
      simp only [List.getElem?_set, List.length_set, hlen]
      rw [if_neg (by omega), if_neg (by omega), if_neg (by omega), if_neg (by omega), if_neg (by omega), if_neg (by omega), nodeC_num _ _ (by omega)]
    · rw [List.getElem?_eq_none (by simp [hlen]; omega), List.getElem?_eq_none (by unfold nodeC; simp only [List.length_append, hl2, List.length_cons, List.length_nil]; omega)]
theorem nodeC_len (es : List Ent) (n : Nat) (h : es.length ≤ 4) : (nodeC es n).length = 25 := by
  have hl := flat_len Ent.cells 6 Ent.cells_len (pad es)
  rw [pad_len es h] at hl
  unfold nodeC
  simp only [List.length_append, hl, List.length_cons, List.length_nil]
theorem _root_.Go.Ch.Blk.some {w : World} {b : Nat} {e : TypeId} {vs : List Value} (h : Blk w b e vs) {i : Nat} (hi : i < vs.length) : ∃ u, w.cell? ⟨b, i, none⟩ = .some u := ⟨vs[i], h.cell (by simp [hi])⟩
theorem leafE_snoc (l : List It) (t : It) : leafE (l ++ [t]) = leafE l ++ [⟨t.box, none, t.id⟩] := by simp [leafE]
set_option maxRecDepth 100000 in
set_option maxHeartbeats 1000000 in
theorem insert_leaf (B o5 n cap : Nat) (hc : n ≤ cap) (hm : cap ≤ maxLen) (h1 : 1 ≤ n) (h4 : n ≤ 4) : BIC B o5 n cap := by
  intro L w h
  have hB := h.blk.lt
  unfold maxLen at hm
  have g1 : decide ((n : Int) ≤ 4) = true := by simp; omega
  have g2 : ((n : Int) == 0) = false := by simp; omega
  go_enter Tryd.func26, Tryd.ntmps26
  go_wp2
  have hR : Blk (w.alloc (.cells #[.float .f64 0, .float .f64 0, .float .f64 0, .float .f64 0, .pointer none, .int .i64 0, .float .f64 0, .float .f64 0, .float .f64 0, .float .f64 0, .pointer none, .int .i64 0, .float .f64 0, .float .f64 0, .float .f64 0, .float .f64 0, .pointer none, .int .i64 0, .float .f64 0, .float .f64 0, .float .f64 0, .float .f64 0, .pointer none, .int .i64 0, .int .i64 n] 84)) w.heap.size 84 (nodeC (leafE ((sub L (o5 / 5) n).take 0)) n) := Blk.new w (nodeC [] n) _ _ rfl
  have hK : Stab.Keeps w (w.alloc (.cells #[.float .f64 0, .float .f64 0, .float .f64 0, .float .f64 0, .pointer none, .int .i64 0, .float .f64 0, .float .f64 0, .float .f64 0, .float .f64 0, .pointer none, .int .i64 0, .float .f64 0, .float .f64 0, .float .f64 0, .float .f64 0, .pointer none, .int .i64 0, .float .f64 0, .float .f64 0, .float .f64 0, .float .f64 0, .pointer none, .int .i64 0, .int .i64 n] 84)) := by repeat (first | (with_reducible exact Stab.Keeps.refl _) | (with_reducible assumption) | (with_reducible refine Stab.Keeps.alloc ?_ _) | (with_reducible refine Stab.Keeps.drew ?_) | (with_reducible refine Stab.Keeps.drewN ?_ _) | ((with_reducible refine Stab.Keeps.setCell ?_ ?_ _); focus (first | (simp; done) | (simp; omega))) | (with_reducible refine Stab.Keeps.trans ?_ (by with_reducible assumption)))
  generalize (w.alloc (.cells #[.float .f64 0, .float .f64 0, .float .f64 0, .float .f64 0, .pointer none, .int .i64 0, .float .f64 0, .float .f64 0, .float .f64 0, .float .f64 0, .pointer none, .int .i64 0, .float .f64 0, .float .f64 0, .float .f64 0, .float .f64 0, .pointer none, .int .i64 0, .float .f64 0, .float .f64 0, .float .f64 0, .float .f64 0, .pointer none, .int .i64 0, .int .i64 n] 84)) = W at hR hK ⊢
  have hsl : (sub L (o5 / 5) n).length = n := by obtain ⟨off, ho, hl⟩ := h.off; unfold sub; simp; omega
  have HS := Lib.hid hsl
  clear hsl
  go_loopw [27] (fun iv wr => ∃ k : Nat, k ≤ n ∧ iv = .int .i64 k ∧ Stab.Keeps w wr ∧ Blk wr w.heap.size 84 (nodeC (leafE ((sub L (o5 / 5) n).take k)) n)) (fun iv _ => n - (intOf iv).toNat)
  case atStart => exact ⟨0, by omega, rfl, hK, hR⟩
  case round =>
    clear hR hK
    obtain ⟨k, k2, rfl, hK, hR⟩ := hrel
    have hr : Row wr B o5 n L := ⟨h.blk.keep hK, h.off⟩
    have hRl := hR.lt
    have hsl := HS.out
    by_cases hlt : k < n
    · obtain ⟨t, ht, c0, c1, c2, c3, c4⟩ := hr.cell (i := k) hlt
      have hBl := hr.blk.lt
      have hes : (leafE ((sub L (o5 / 5) n).take k)).length = k := by simp [leafE]; omega
      have hnx : (sub L (o5 / 5) n).take (k + 1) = (sub L (o5 / 5) n).take k ++ [t] := by
        rw [List.take_succ_eq_append_getElem (by omega)]
        have := sub_get L (o5 / 5) n k hlt
        rw [ht, List.getElem?_eq_getElem (by omega)] at this
        simp only [Option.some.injEq] at this
        rw [this]
      have hS := fun x => nodeC_set (leafE ((sub L (o5 / 5) n).take k)) n x (by omega)
      rw [hes] at hS
      have hN : leafE ((sub L (o5 / 5) n).take k) ++ [⟨t.box, none, t.id⟩] = leafE ((sub L (o5 / 5) n).take (k + 1)) := by rw [hnx, leafE_snoc]
      generalize hgl : leafE ((sub L (o5 / 5) n).take k) = es at *
      have hlen : (nodeC es n).length = 25 := nodeC_len es n (by omega)
      have hS' := hS ⟨t.box, none, t.id⟩
      have HL := Lib.hid hlen
      clear hS hnx hlen hsl
      have HN := Lib.hid hN
      clear hN
      have HE := Lib.hid hes
      clear hes
      have HS' := Lib.hid hS'
      clear hS' hgl ht
      go_wp2_with fail
      have k0 : (0 : Int) ≤ k := by omega
      have k4 : (k : Int) < 4 := by omega
      have kk : ((k : Int)).toNat = k := by omega
      refine Stab.keep_tail 10 (fun _ _ _ => True) (fun _ => false) (fun k => false) Stab.pre_none (by kernel_rfl) (by kernel_rfl) fun hcx => ?_
      simp only [List.take_succ_cons, List.take_zero, List.drop_succ_cons, List.drop_zero]
      repeat (first
        | (refine Stab.quiet rfl rfl rfl (fun K hK => ?_); go_big_quiet_op; refine hK _ ?_; clear hK K)
        | (refine Stab.one rfl rfl rfl ?_
           apply Exists.intro
           refine ⟨fun w1 hw1 => ?_, fun K hK => ?_⟩
           · go_simp
             first | fail
           go_simp
           refine hK _ ?_
           clear hK K)
        | (refine Stab.skip rfl (fun K hK => ?_); go_simp; refine hK _ ?_; clear hK K))
      refine Stab.nil fun w' hw' _ => ?_
      clear hcx
      have hk : Stab.Keeps wr w' := by repeat (first | (with_reducible exact Stab.Keeps.refl _) | (with_reducible assumption) | (with_reducible refine Stab.Keeps.alloc ?_ _) | (with_reducible refine Stab.Keeps.drew ?_) | (with_reducible refine Stab.Keeps.drewN ?_ _) | ((with_reducible refine Stab.Keeps.setCell ?_ ?_ _); focus (first | (simp; done) | (simp; omega))) | (with_reducible refine Stab.Keeps.trans ?_ (by with_reducible assumption)))
      have hR' := hR.keep hk
      have hlen := HL.out
      obtain ⟨u0, r0⟩ := hR'.some (i := k * 6) (by omega)
      obtain ⟨u1, r1⟩ := hR'.some (i := k * 6 + 1) (by omega)
      obtain ⟨u2, r2⟩ := hR'.some (i := k * 6 + 2) (by omega)
      obtain ⟨u3, r3⟩ := hR'.some (i := k * 6 + 3) (by omega)
      obtain ⟨u4, r4⟩ := hR'.some (i := k * 6 + 4) (by omega)
      obtain ⟨u5, r5⟩ := hR'.some (i := k * 6 + 5) (by omega)
      have rf := hR'.free
      have hKw := Stab.Keeps.trans hK hk
      have hnew : Blk ((((((w'.setCell ⟨w.heap.size, k * 6, none⟩ (.float .f64 t.box.a)).setCell ⟨w.heap.size, k * 6 + 1, none⟩ (.float .f64 t.box.b)).setCell ⟨w.heap.size, k * 6 + 2, none⟩ (.float .f64 t.box.c)).setCell ⟨w.heap.size, k * 6 + 3, none⟩ (.float .f64 t.box.d)).setCell ⟨w.heap.size, k * 6 + 4, none⟩ (.pointer none)).setCell ⟨w.heap.size, k * 6 + 5, none⟩ (.int .i64 t.id)) w.heap.size 84 (nodeC (leafE ((sub L (o5 / 5) n).take (k + 1))) n) := by
        rw [← HN.out, ← HS'.out]
        exact (((((hR'.set _ _).set _ _).set _ _).set _ _).set _ _).set _ _
      have hnl := hR'.lt
      clear hw' hk hR' hlen c0 c1 c2 c3 c4 hr hR hK
      go_wp2_with fail
      go_roundw
      case rel => exact ⟨k + 1, by omega, by go_num, by repeat (first | (with_reducible exact Stab.Keeps.refl _) | (with_reducible assumption) | (with_reducible refine Stab.Keeps.alloc ?_ _) | (with_reducible refine Stab.Keeps.drew ?_) | (with_reducible refine Stab.Keeps.drewN ?_ _) | ((with_reducible refine Stab.Keeps.setCell ?_ ?_ _); focus (first | (simp; done) | (simp; omega))) | (with_reducible refine Stab.Keeps.trans ?_ (by with_reducible assumption))), hnew⟩
      case measure => simp [intOf]; omega
    · have hkn : k = n := by omega
      subst hkn
      have e1 : (sub L (o5 / 5) k).take k = sub L (o5 / 5) k := List.take_of_length_le (by omega)
      rw [e1] at hR
      clear e1
      have HS2 := Lib.hid hsl
      clear hsl
      go_wp2_with fail
      go_ret
      exact ⟨w.heap.size, .leaf (sub L (o5 / 5) k), L, rfl, hr, SubPerm.refl _ _ _, Ch.of_keeps hK, ⟨Nat.le_refl _, by have := HS2.out; omega, by have := HS2.out; omega, by rw [HS2.out]; exact hR⟩, List.Perm.refl _⟩
end Go.Proofs.YtokofimfinhnbaaDoor
set_option linter.unusedVariables false
set_option linter.unusedSimpArgs false
namespace Go.Proofs.YtokofimfinhnbaaDoor
open Go.RowKit Go.Fl Go.Sl Go.Ch
theorem nodeC_pad (es : List Ent) (n i : Nat) (h : es.length ≤ i) (hi : i < 4) : (nodeC es n)[i * 6 + 5]? = some (.int .i64 0) := by
  have hp := pad_len es (by omega)
  have hl := flat_len Ent.cells 6 Ent.cells_len (pad es)
  unfold nodeC
  rw [List.getElem?_append_left (by omega), flat_get Ent.cells 6 Ent.cells_len _ i 5 (by omega) (by omega)]
  have : (pad es)[i]'(by omega) = Ent.zero := by
    unfold pad
    rw [List.getElem_append_right h]
    simp
  rw [this]
  rfl
theorem nodeC_set2 (es : List Ent) (n p : Nat) (x : B4) (h : es.length < 4) :
    (((((nodeC es n).set (es.length * 6 + 4) (.pointer (some ⟨p, 0, none⟩))).set (es.length * 6) (.float .f64 x.a)).set (es.length * 6 + 1) (.float .f64 x.b)).set (es.length * 6 + 2) (.float .f64 x.c)).set (es.length * 6 + 3) (.float .f64 x.d) = nodeC (es ++ [⟨x, some p, 0⟩]) n := by
  rw [← nodeC_set es n ⟨x, some p, 0⟩ h]
  have hlen := nodeC_len es n (by omega)
  have h5 := nodeC_pad es n es.length (Nat.le_refl _) h
  apply List.ext_getElem?
  intro k
  simp only [List.getElem?_set, List.length_set, hlen]
  by_cases k5 : es.length * 6 + 5 = k
  · subst k5
    rw [if_neg (by omega), if_neg (by omega), if_neg (by omega), if_neg (by omega), if_neg (by omega), if_pos rfl, if_pos (by omega), h5]
  rw [if_neg k5]
  by_cases k4 : es.length * 6 + 4 = k
  · subst k4
    rw [if_neg (by omega), if_neg (by omega), if_neg (by omega), if_neg (by omega), if_pos rfl, if_pos rfl]
    simp
  rw [if_neg k4, if_neg k4]
def partV (B : Nat) (p : Nat × Nat × Nat) : Value := .slice (some ⟨B, p.1, none⟩) p.2.1 p.2.2
def cnt (ps : List (Nat × Nat × Nat)) (k : Nat) : Nat := ((ps.take k).map (·.2.1)).sum
theorem cnt_succ (ps : List (Nat × Nat × Nat)) (k : Nat) (h : k < ps.length) : cnt ps (k + 1) = cnt ps k + ps[k].2.1 := by
  unfold cnt
  rw [List.take_succ_eq_append_getElem h, List.map_append, List.sum_append]
  rfl
theorem cnt_le (ps : List (Nat × Nat × Nat)) : ∀ (j k : Nat), k ≤ j → cnt ps k ≤ cnt ps j := by
  intro j
  induction j with
  | zero => intro k h; have : k = 0 := by omega
            subst this; exact Nat.le_refl _
  | succ j ih =>
    intro k h
    by_cases hk : k = j + 1
    · subst hk; exact Nat.le_refl _
    · have h1 := ih k (by omega)
      by_cases hj : j < ps.length
      · have := cnt_succ ps j hj; omega
      · have : cnt ps (j + 1) = cnt ps j := by unfold cnt; rw [List.take_of_length_le (by omega), List.take_of_length_le (by omega)]
        omega
def entOf (x : Nat × RT) : Ent := ⟨x.2.box, some x.1, 0⟩
/-- how things stand within 'bulkNode' -/
structure BNI (w : World) (B o5 n m : Nat) (L : List It) (c : Nat) (ts : List (Nat × RT)) (wr : World) : Prop where
  lst : ∃ L', Row wr B o5 n L' ∧ SubPerm (o5 / 5) c L L'
  ch : Ch no (· = B) w wr
  root : Blk wr w.heap.size 84 (nodeC (ts.map entOf) m)
  nodes : ∀ x ∈ ts, NodeAt wr (w.heap.size + 1) x.1 x.2
  items : (ts.flatMap (·.2.items)).Perm (sub L (o5 / 5) c)
def BNPost (w : World) (B o5 n m : Nat) (L : List It) (e : Ending) (w' : World) : Prop := ∃ (r : Nat) (ts : List (Nat × RT)), e = .returned (.pointer (some ⟨r, 0, none⟩)) ∧ ts.length = m ∧ (∃ L', Row w' B o5 n L' ∧ SubPerm (o5 / 5) n L L') ∧ Ch no (· = B) w w' ∧
  Blk w' r 84 (nodeC (ts.map entOf) m) ∧ (∀ x ∈ ts, NodeAt w' (w.heap.size + 1) x.1 x.2) ∧ r = w.heap.size ∧ (ts.flatMap (·.2.items)).Perm (sub L (o5 / 5) n)
theorem BNI.step {w : World} {B o5 n m : Nat} {L : List It} {c d : Nat} {ts : List (Nat × RT)} {wr w' : World} {p : Nat} {t : RT} {L1 L2 : List It} (h : BNI w B o5 n m L c ts wr) (hcd : c + d ≤ n) (hr : Row wr B o5 n L1) (hs : SubPerm (o5 / 5) c L L1)
    (hr2 : Row w' B (o5 + c * 5) d L2) (hs2 : SubPerm ((o5 + c * 5) / 5) d L1 L2) (hk : Ch no (· = B) wr w') (hn : NodeAt w' wr.heap.size p t) (hi : t.items.Perm (sub L1 ((o5 + c * 5) / 5) d)) :
    (∃ L', Row w' B o5 n L' ∧ SubPerm (o5 / 5) (c + d) L L') ∧ Ch no (· = B) w w' ∧ Blk w' w.heap.size 84 (nodeC (ts.map entOf) m) ∧ (∀ x ∈ ts ++ [(p, t)], NodeAt w' (w.heap.size + 1) x.1 x.2) ∧ ((ts ++ [(p, t)]).flatMap (·.2.items)).Perm (sub L (o5 / 5) (c + d)) := by
  have hd := hr.div c
  rw [hd] at hs2 hi
  have hBl := hr.blk
  refine ⟨⟨L2, hr.whole hr2 hs2.len, hs.app hs2⟩, h.ch.trans hk, hk.blk h.root (h.root.ne hBl (by decide)) (fun e => e), ?_, ?_⟩
  · intro x hx
    rcases List.mem_append.1 hx with hx | hx
    · exact NodeAt.ch hk hBl (h.nodes x hx)
    · simp at hx; subst hx; exact hn.low h.root.lt
  · rw [sub_append, List.flatMap_append]
    refine List.Perm.append h.items ?_
    simp only [List.flatMap_cons, List.flatMap_nil, List.append_nil]
    refine hi.trans ?_
    rw [sub_out hs.len (fun i h1 h2 => hs.out i (by omega))]
set_option maxRecDepth 100000 in
set_option maxHeartbeats 2000000 in
theorem node_ (B o5 n Q m : Nat) (ps : List (Nat × Nat × Nat)) (hm : ps.length = m) (hm1 : 1 ≤ m) (hm4 : m ≤ 4) (hIH : ∀ p ∈ ps, BIC B p.1 p.2.1 p.2.2) (hof : ∀ i (h : i < ps.length), ps[i].1 = o5 + cnt ps i * 5) (hn : cnt ps m = n)
    (L : List It) (w : World) (h : Row w B o5 n L) (hQ : Blk w Q 55 (ps.map (partV B))) :
    Calls Tryd.prog 36 #[.slice (some ⟨Q, 0, none⟩) m m] w (BNPost w B o5 n m L) := by
  have hB := h.blk.lt
  have hQl := hQ.lt
  go_enter Tryd.func36, Tryd.ntmps36
  go_wp2
  have hI : BNI w B o5 n m L 0 [] (w.alloc (.cells #[.float .f64 0, .float .f64 0, .float .f64 0, .float .f64 0, .pointer none, .int .i64 0, .float .f64 0, .float .f64 0, .float .f64 0, .float .f64 0, .pointer none, .int .i64 0, .float .f64 0, .float .f64 0, .float .f64 0, .float .f64 0, .pointer none, .int .i64 0, .float .f64 0, .float .f64 0, .float .f64 0, .float .f64 0, .pointer none, .int .i64 0, .int .i64 m] 84)) := by
    refine ⟨⟨L, ⟨h.blk.alloc _, h.off⟩, SubPerm.refl _ _ _⟩, (Ch.refl _ _ w).alloc _, Blk.new w (nodeC [] m) _ _ rfl, fun x hx => by simp at hx, ?_⟩
    unfold sub; simp
  generalize (w.alloc (.cells #[.float .f64 0, .float .f64 0, .float .f64 0, .float .f64 0, .pointer none, .int .i64 0, .float .f64 0, .float .f64 0, .float .f64 0, .float .f64 0, .pointer none, .int .i64 0, .float .f64 0, .float .f64 0, .float .f64 0, .float .f64 0, .pointer none, .int .i64 0, .float .f64 0, .float .f64 0, .float .f64 0, .float .f64 0, .pointer none, .int .i64 0, .int .i64 m] 84)) = W at hI ⊢
  have HN := Lib.hid hn
  have HM := Lib.hid hm
  clear hn hm
  go_loopw [13] (fun iv wr => ∃ (k : Nat) (ts : List (Nat × RT)), k ≤ m ∧ iv = .int .i64 k ∧ ts.length = k ∧ BNI w B o5 n m L (cnt ps k) ts wr) (fun iv _ => m - (intOf iv).toNat)
  case atStart => exact ⟨0, [], by omega, rfl, rfl, hI⟩
  case round =>
    clear hI
    obtain ⟨k, ts, k2, rfl, htl, hI⟩ := hrel
    have HT := Lib.hid htl
    clear htl
    by_cases hlt : k < m
    · have hkp : k < ps.length := by have := HM.out; omega
      have hQr : Blk wr Q 55 (ps.map (partV B)) := hI.ch.blk hQ (hQ.ne h.blk (by decide)) (fun e => e)
      have hQrl := hQr.lt
      have cq : wr.cell? ⟨Q, k, none⟩ = some (.slice (some ⟨B, ps[k].1, none⟩) ps[k].2.1 ps[k].2.2) := hQr.cell (by simp [hkp, partV])
      obtain ⟨L1, hr1, hs1⟩ := hI.lst
      have hcn := cnt_succ ps k hkp
      have hcm := cnt_le ps m (k + 1) (by omega)
      have hpk := hof k hkp
      have hC := hIH ps[k] (List.getElem_mem _) L1 wr (by rw [hpk]; exact hr1.part _ _ (by have := HN.out; omega))
      have HP := Lib.hid hpk
      have HC := Lib.hid hcn
      clear hpk hcn
      generalize hpp : ps[k] = pp at *
      obtain ⟨po, pn, pc⟩ := pp
      simp only at hC cq
      clear hpp
      go_wp2_with fail
      refine hC.mono ?_
      clear hC
      rintro e w2 ⟨p, t, L2, rfl, hr2, hs2, hk2, hn2, hi2⟩
      have hpo : po = o5 + cnt ps k * 5 := HP.out
      have hpn : cnt ps (k + 1) = cnt ps k + pn := HC.out
      rw [hpo] at hr2 hs2 hi2
      have hst := hI.step (by have := HN.out; omega) hr1 hs1 hr2 hs2 hk2 hn2 hi2
      rw [← hpn] at hst
      clear hpo hpn
      obtain ⟨hL3, hc3, hroot, hnodes, hitems⟩ := hst
      clear hr1 hs1 hr2 hs2 hk2 hn2 hi2 hI hQr hcm
      have hml : (ts.map entOf).length = k := by rw [List.length_map]; exact HT.out
      have hS := nodeC_set2 (ts.map entOf) m p t.box (by omega)
      have hlen : (nodeC (ts.map entOf) m).length = 25 := nodeC_len _ _ (by omega)
      rw [hml] at hS
      have hsn : ts.map entOf ++ [⟨t.box, some p, 0⟩] = (ts ++ [(p, t)]).map entOf := by simp [entOf]
      rw [hsn] at hS
      generalize nodeC (ts.map entOf) m = cs at *
      clear hsn
      obtain ⟨u4, r4⟩ := hroot.some (i := k * 6 + 4) (by omega)
      have rf := hroot.free
      have hrl := hroot.lt
      have HS := Lib.hid hS
      have HL := Lib.hid hlen
      have HM2 := Lib.hid hml
      clear hS hlen hml
      have k0 : (0 : Int) ≤ k := by omega
      have k4 : (k : Int) < 4 := by omega
      have kk : ((k : Int)).toNat = k := by omega
      go_wp2_with fail
      have hroot3 := hroot.set (k * 6 + 4) (.pointer (some ⟨p, 0, none⟩))
      have hnodes3 : ∀ x ∈ ts ++ [(p, t)], NodeAt (w2.setCell ⟨w.heap.size, k * 6 + 4, none⟩ (.pointer (some ⟨p, 0, none⟩))) (w.heap.size + 1) x.1 x.2 := fun x hx => (hnodes x hx).past (by omega)
      have hc4 : Ch no (· = B) w (w2.setCell ⟨w.heap.size, k * 6 + 4, none⟩ (.pointer (some ⟨p, 0, none⟩))) := hc3.setCell (.inr (Nat.le_refl _)) _
      have hL4 : ∃ L', Row (w2.setCell ⟨w.heap.size, k * 6 + 4, none⟩ (.pointer (some ⟨p, 0, none⟩))) B o5 n L' ∧ SubPerm (o5 / 5) (cnt ps (k + 1)) L L' := by
        obtain ⟨L', h1, h2⟩ := hL3
        exact ⟨L', ⟨h1.blk.past (by simp; omega) _, h1.off⟩, h2⟩
      clear hroot hnodes hc3 hL3 r4 rf hrl u4
      generalize (w2.setCell ⟨w.heap.size, k * 6 + 4, none⟩ (.pointer (some ⟨p, 0, none⟩))) = W3 at *
      obtain ⟨es, z1, z2, z3, z4⟩ := (hnodes3 (p, t) (by simp)).blk
      have hcal := fun w' (hk : Stab.Keeps W3 w') => calc_ p es w' (z3.keep hk) z2 z1
      have hbx : (bnd (es.map Ent.box)).val = t.box.val := by rw [z4]
      simp only [hbx] at hcal
      simp only [B4.val] at hcal
      clear z1 z2 z3 z4 hbx es
      have hRl := hroot3.lt
      refine Stab.keep_tail 8 (fun _ _ _ => True) (fun _ => false) (fun k => k == 3) Stab.pre_none (by kernel_rfl) (by kernel_rfl) fun hcx => ?_
      simp only [List.take_succ_cons, List.take_zero, List.drop_succ_cons, List.drop_zero]
      repeat (first
        | (refine Stab.quiet rfl rfl rfl (fun K hK => ?_); go_big_quiet_op; refine hK _ ?_; clear hK K)
        | (refine Stab.one rfl rfl rfl ?_
           apply Exists.intro
           refine ⟨fun w1 hw1 => ?_, fun K hK => ?_⟩
           · go_simp
             first | (go_at_call 34; exact hcal _ (by with_reducible assumption))
           go_simp
           refine hK _ ?_
           clear hK K)
        | (refine Stab.skip rfl (fun K hK => ?_); go_simp; refine hK _ ?_; clear hK K))
      refine Stab.nil fun w' hw' _ => ?_
      clear hcx hcal
      have hlen := HL.out
      have hR' := hroot3.keep hw'
      have hl5 : (cs.set (k * 6 + 4) (.pointer (some ⟨p, 0, none⟩))).length = 25 := by rw [List.length_set]; exact hlen
      obtain ⟨u0, r0⟩ := hR'.some (i := k * 6) (by omega)
      obtain ⟨u1, r1⟩ := hR'.some (i := k * 6 + 1) (by omega)
      obtain ⟨u2, r2⟩ := hR'.some (i := k * 6 + 2) (by omega)
      obtain ⟨u3, r3⟩ := hR'.some (i := k * 6 + 3) (by omega)
      have rf := hR'.free
      have hrl := hR'.lt
      have hfin : BNI w B o5 n m L (cnt ps (k + 1)) (ts ++ [(p, t)]) ((((w'.setCell ⟨w.heap.size, k * 6, none⟩ (.float .f64 t.box.a)).setCell ⟨w.heap.size, k * 6 + 1, none⟩ (.float .f64 t.box.b)).setCell ⟨w.heap.size, k * 6 + 2, none⟩ (.float .f64 t.box.c)).setCell ⟨w.heap.size, k * 6 + 3, none⟩ (.float .f64 t.box.d)) := by
        refine ⟨?_, ?_, ?_, ?_, hitems⟩
        · obtain ⟨L', h1, h2⟩ := hL4
          exact ⟨L', ⟨((((h1.blk.keep hw').past (by simp; omega) _).past (by simp; omega) _).past (by simp; omega) _).past (by simp; omega) _, h1.off⟩, h2⟩
        · exact ((((hc4.trans (Ch.of_keeps hw')).setCell (.inr (Nat.le_refl _)) _).setCell (.inr (Nat.le_refl _)) _).setCell (.inr (Nat.le_refl _)) _).setCell (.inr (Nat.le_refl _)) _
        · rw [← HS.out]
          exact (((hR'.set _ _).set _ _).set _ _).set _ _
        · exact fun x hx => (((((hnodes3 x hx).keep hw').past (by omega)).past (by omega)).past (by omega)).past (by omega)
      clear hroot3 hnodes3 hc4 hL4 hw' hR' hl5 hlen hitems
      go_wp2_with fail
      go_roundw
      case rel => exact ⟨k + 1, ts ++ [(p, t)], by omega, by go_num, by have := HT.out; simp; omega, hfin⟩
      case measure => simp [intOf]; omega
    · have hkm : k = m := by omega
      subst hkm
      go_wp2_with fail
      go_ret
      have hn := HN.out
      rw [hn] at hI
      exact ⟨w.heap.size, ts, rfl, HT.out, hI.lst, hI.ch, hI.root, hI.nodes, rfl, hI.items⟩
end Go.Proofs.YtokofimfinhnbaaDoor
set_option linter.unusedVariables false
set_option linter.unusedSimpArgs false
namespace Go.Proofs.YtokofimfinhnbaaDoor
open Go.RowKit Go.Fl Go.Sl Go.Ch
theorem list2' {α : Type} {l : List α} (h : l.length = 2) : ∃ a b, l = [a, b] := by match l, h with | [a, b], _ => exact ⟨a, b, rfl⟩
theorem list4' {α : Type} {l : List α} (h : l.length = 4) : ∃ a b c d, l = [a, b, c, d] := by match l, h with | [a, b, c, d], _ => exact ⟨a, b, c, d, rfl⟩
set_option maxRecDepth 100000 in
set_option maxHeartbeats 2000000 in
theorem insert_two (B o5 n cap : Nat) (hc : n ≤ cap) (hm : cap ≤ maxLen) (h5 : 5 ≤ n) (h8 : n ≤ 8) (h1 : BIC B o5 (n / 2) cap) (h2 : BIC B (o5 + n / 2 * 5) (n - n / 2) (cap - n / 2)) : BIC B o5 n cap := by
  intro L w h
  have hB := h.blk.lt
  have hm' := hm
  unfold maxLen at hm'
  have hS := split_ B o5 n cap L w h hc hm (by omega) (by omega)
  have hN := fun w2 Q L2 => node_ B o5 n Q 2 [(o5, n / 2, cap), (o5 + n / 2 * 5, n - n / 2, cap - n / 2)] rfl (by omega) (by omega) (by
      intro p hp
      simp at hp
      rcases hp with rfl | rfl
      · exact h1
      · exact h2) (by
      intro i hi
      have : i = 0 ∨ i = 1 := by simp at hi; omega
      rcases this with rfl | rfl <;> simp [cnt]) (by simp [cnt]; omega) L2 w2
  have g1 : decide ((n : Int) ≤ 4) = false := by simp; omega
  have g2 : ((n : Int) == 0) = false := by simp; omega
  have g3 : decide ((n : Int) ≤ 8) = true := by simp; omega
  go_enter Tryd.func26, Tryd.ntmps26
  go_wp2_with fail
  refine hS.mono ?_
  clear hS
  rintro e w2 ⟨rfl, L2, hr2, hp2, hk2⟩
  go_wp2_with fail
  refine (hN _ w2.heap.size L2 ⟨hr2.blk.alloc _, hr2.off⟩ (Blk.new w2 [_, _] _ _ rfl)).mono ?_
  clear hN
  rintro e w3 ⟨r, ts, rfl, htl, ⟨L3, hr3, hp3⟩, hk3, hroot, hnodes, hr, hitems⟩
  have HR := Lib.hid hr
  clear hr
  obtain ⟨⟨pa, ta⟩, ⟨pb, tb⟩, rfl⟩ := list2' htl
  go_wp2_with fail
  go_ret
  have hsz := hk2.size
  have h5' : 5 ≤ ta.items.length + tb.items.length := by
    have e := hitems.length_eq
    obtain ⟨off, eo, hl⟩ := hr2.off
    have hs : (sub L2 (o5 / 5) n).length = n := by unfold sub; rw [List.length_take, List.length_drop]; omega
    rw [hs] at e
    simp only [List.flatMap_cons, List.flatMap_nil, List.append_nil, List.length_append] at e
    omega
  refine ⟨r, .two ta tb, L3, rfl, hr3, hp2.trans hp3, hk2.trans ((Ch.of_keeps (Below.alloc (Below.refl _ _) (Nat.le_refl _) _)).trans hk3), ⟨⟨by rw [HR.out]; simp; omega, h5'⟩, pa, pb, hroot, (hnodes (pa, ta) (by simp)).low (by simp; omega), (hnodes (pb, tb) (by simp)).low (by simp; omega)⟩, ?_⟩
  simp only [List.flatMap_cons, List.flatMap_nil, List.append_nil] at hitems
  exact hitems.trans hp2.perm
set_option maxRecDepth 100000 in
set_option maxHeartbeats 2000000 in
theorem insert_four (B o5 n cap : Nat) (hc : n ≤ cap) (hm : cap ≤ maxLen) (h9 : 9 ≤ n) (hn2 : n ≤ 2147483647)
    (h1 : BIC B o5 (n / 2 / 2) cap) (h2 : BIC B (o5 + n / 2 / 2 * 5) (n / 2 - n / 2 / 2) (cap - n / 2 / 2))
    (h3 : BIC B (o5 + n / 2 * 5) ((n - n / 2) / 2) (cap - n / 2)) (h4 : BIC B (o5 + n / 2 * 5 + (n - n / 2) / 2 * 5) (n - n / 2 - (n - n / 2) / 2) (cap - n / 2 - (n - n / 2) / 2)) : BIC B o5 n cap := by
  intro L w h
  have hB := h.blk.lt
  have hm' := hm
  unfold maxLen at hm'
  have hS := split_ B o5 n cap L w h hc hm (by omega) (by omega)
  have hS2 := fun L2 w2 hr => split_ B o5 (n / 2) cap L2 w2 hr (by omega) hm (by omega) (by omega)
  have hS3 := fun L2 w2 hr => split_ B (o5 + n / 2 * 5) (n - n / 2) (cap - n / 2) L2 w2 hr (by omega) (by omega) (by omega) (by omega)
  have hN := fun w2 Q L2 => node_ B o5 n Q 4 [(o5, n / 2 / 2, cap), (o5 + n / 2 / 2 * 5, n / 2 - n / 2 / 2, cap - n / 2 / 2), (o5 + n / 2 * 5, (n - n / 2) / 2, cap - n / 2), (o5 + n / 2 * 5 + (n - n / 2) / 2 * 5, n - n / 2 - (n - n / 2) / 2, cap - n / 2 - (n - n / 2) / 2)] rfl (by omega) (by omega) (by
      intro p hp
      simp at hp
      rcases hp with rfl | rfl | rfl | rfl
      · exact h1
      · exact h2
      · exact h3
      · exact h4) (by
      intro i hi
      have : i = 0 ∨ i = 1 ∨ i = 2 ∨ i = 3 := by simp at hi; omega
      rcases this with rfl | rfl | rfl | rfl <;> simp [cnt] <;> omega) (by simp [cnt]; omega) L2 w2
  have g1 : decide ((n : Int) ≤ 4) = false := by simp; omega
  have g2 : ((n : Int) == 0) = false := by simp; omega
  have g3 : decide ((n : Int) ≤ 8) = false := by simp; omega
  go_enter Tryd.func26, Tryd.ntmps26
  go_wp2_with fail
  refine hS.mono ?_
  clear hS
  rintro e w2 ⟨rfl, L2, hr2, hp2, hk2⟩
  have hq3 := hr2.part 0 (n / 2) (by omega)
  rw [show o5 + 0 * 5 = o5 by omega] at hq3
  go_wp2_with fail
  refine (hS2 L2 w2 hq3).mono ?_
  clear hS2
  rintro e w3 ⟨rfl, L3, hr3, hp3, hk3⟩
  have hr3' : Row w3 B o5 n L3 := ⟨hr3.blk, by obtain ⟨off, e, hl⟩ := hr2.off; exact ⟨off, e, by rw [hp3.len]; exact hl⟩⟩
  have hq4 := hr3'.part (n / 2) (n - n / 2) (by omega)
  go_wp2_with fail
  refine (hS3 L3 w3 hq4).mono ?_
  clear hS3
  rintro e w4 ⟨rfl, L4, hr4, hp4, hk4⟩
  have hr4' : Row w4 B o5 n L4 := ⟨hr4.blk, by obtain ⟨off, e, hl⟩ := hr3'.off; exact ⟨off, e, by rw [hp4.len]; exact hl⟩⟩
  have hp3' : SubPerm (o5 / 5) n L2 L3 := SubPerm.widen (a := 0) (b := n / 2) hp3 (by omega)
  rw [hr4'.div] at hp4
  have hp4' : SubPerm (o5 / 5) n L3 L4 := SubPerm.widen hp4 (by omega)
  go_wp2_with fail
  refine (hN _ w4.heap.size L4 ⟨hr4'.blk.alloc _, hr4'.off⟩ (Blk.new w4 [_, _, _, _] _ _ rfl)).mono ?_
  clear hN
  rintro e w5 ⟨r, ts, rfl, htl, ⟨L5, hr5, hp5⟩, hk5, hroot, hnodes, hr, hitems⟩
  have HR := Lib.hid hr
  clear hr
  obtain ⟨⟨pa, ta⟩, ⟨pb, tb⟩, ⟨pc, tc⟩, ⟨pd, td⟩, rfl⟩ := list4' htl
  go_wp2_with fail
  go_ret
  have hsz := ((hk2.trans hk3).trans hk4).size
  have h5' : 5 ≤ ta.items.length + (tb.items.length + (tc.items.length + td.items.length)) := by
    have e := hitems.length_eq
    obtain ⟨off, eo, hl⟩ := hr4'.off
    have hs : (sub L4 (o5 / 5) n).length = n := by unfold sub; rw [List.length_take, List.length_drop]; omega
    rw [hs] at e
    simp only [List.flatMap_cons, List.flatMap_nil, List.append_nil, List.length_append] at e
    omega
  refine ⟨r, .four ta tb tc td, L5, rfl, hr5, ((hp2.trans hp3').trans hp4').trans hp5, ((hk2.trans hk3).trans hk4).trans ((Ch.of_keeps (Below.alloc (Below.refl _ _) (Nat.le_refl _) _)).trans hk5),
    ⟨⟨by rw [HR.out]; simp; omega, h5'⟩, pa, pb, pc, pd, hroot, (hnodes (pa, ta) (by simp)).low (by simp; omega), (hnodes (pb, tb) (by simp)).low (by simp; omega), (hnodes (pc, tc) (by simp)).low (by simp; omega), (hnodes (pd, td) (by simp)).low (by simp; omega)⟩, ?_⟩
  simp only [List.flatMap_cons, List.flatMap_nil, List.append_nil] at hitems
  exact hitems.trans (((hp2.trans hp3').trans hp4').perm)
theorem insert_ (k : Nat) : ∀ (B o5 n cap : Nat), n ≤ k → n ≤ cap → cap ≤ maxLen → 1 ≤ n → n ≤ 2147483647 → BIC B o5 n cap := by
  induction k with
  | zero => intro B o5 n cap h; omega
  | succ k ih =>
    intro B o5 n cap hk hc hm h1 h2
    by_cases h4 : n ≤ 4
    · exact insert_leaf B o5 n cap hc hm h1 h4
    · by_cases h8 : n ≤ 8
      · exact insert_two B o5 n cap hc hm (by omega) h8 (ih _ _ _ _ (by omega) (by omega) hm (by omega) (by omega)) (ih _ _ _ _ (by omega) (by omega) (by omega) (by omega) (by omega))
      · exact insert_four B o5 n cap hc hm (by omega) h2 (ih _ _ _ _ (by omega) (by omega) hm (by omega) (by omega)) (ih _ _ _ _ (by omega) (by omega) (by omega) (by omega) (by omega)) (ih _ _ _ _ (by omega) (by omega) (by omega) (by omega) (by omega)) (ih _ _ _ _ (by omega) (by omega) (by omega) (by omega) (by omega))
end Go.Proofs.YtokofimfinhnbaaDoor
