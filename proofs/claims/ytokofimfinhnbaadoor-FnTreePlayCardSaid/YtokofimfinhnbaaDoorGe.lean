/-
  The search by distance: the square of the distance of two boxes, walked. No condition.
  The search by distance: the queue, its methods, walked. No condition.
  The search by distance: the queue's methods that put in and take out, walked. No condition.
  The search by distance: container/heap's up, walked. No condition.
  The search by distance: container/heap's down, walked. No condition.
  The search by distance: container/heap's Push and Pop, walked. No condition.
-/
import Derived.Test.YtokofimfinhnbaaDoorGd
import Derived.WalkSmall
import Derived.Deep.RegionLaw
import Derived.Test.YtokofimfinhnbaaDoorHp
import Derived.IntWalk
set_option linter.unusedVariables false
set_option linter.unusedSimpArgs false
namespace Go.Proofs.YtokofimfinhnbaaDoor
open Go.RowKit Go.Fl Go.Sl Go.Ch Go.Fr Go.Mb
/-- how far two rows of places lie apart -/
def gap (a c a' c' : Int) : Int := max 0 (max (a - c') (a' - c))
/-- the square of the distance of two boxes -/
def far (p q : Q4) : Int := gap p.a p.c q.a q.c * gap p.a p.c q.a q.c + gap p.b p.d q.b q.d * gap p.b p.d q.b q.d
theorem fmaxZ {x y : Nat} {a b : Int} (hx : Z x a) (hy : Z y b) : Z (fmx x y) (max a b) := by
  unfold fmx
  rw [hx.gt hy]
  by_cases h : b < a
  · simp only [h, decide_true, if_true]
    rw [show max a b = a by omega]; exact hx
  · simp only [h, decide_false, Bool.false_eq_true, if_false]
    rw [show max a b = b by omega]; exact hy
theorem Z_zero : Z 0 0 := by
  have h := Z.ofInt 0 (by decide)
  have e : floatOfInt .f64 0 = 0 := by kernel_rfl
  rw [e] at h
  exact h
theorem gap_ok {p q : Q4} (hp : p.ok) (hq : q.ok) : 0 ≤ gap p.a p.c q.a q.c ∧ gap p.a p.c q.a q.c ≤ 2097152 ∧ 0 ≤ gap p.b p.d q.b q.d ∧ gap p.b p.d q.b q.d ≤ 2097152 := by
  obtain ⟨h1, h2, h3, h4, h5, h6⟩ := hp
  obtain ⟨k1, k2, k3, k4, k5, k6⟩ := hq
  unfold gap
  omega
theorem sq_bound {x : Int} (h0 : 0 ≤ x) (h1 : x ≤ 2097152) : 0 ≤ x * x ∧ x * x ≤ 4398046511104 := by
  constructor
  · exact Int.mul_nonneg h0 h0
  · have := Int.mul_le_mul h1 h1 h0 (by omega)
    omega
theorem far_ok {p q : Q4} (hp : p.ok) (hq : q.ok) : 0 ≤ far p q ∧ far p q ≤ 8796093022208 := by
  obtain ⟨h1, h2, h3, h4⟩ := gap_ok hp hq
  have := sq_bound h1 h2
  have := sq_bound h3 h4
  unfold far
  omega
set_option maxHeartbeats 1000000 in
theorem sqd_ (x y : B4) (p q : Q4) (hx : ZB x p) (hy : ZB y q) (hp : p.ok) (hq : q.ok) :
    ∃ r, Z r (far p q) ∧ ∀ w, Calls Tryd.prog 73 #[x.val, y.val] w (One w (.float .f64 r)) := by
  obtain ⟨g1, g2, g3, g4⟩ := gap_ok hp hq
  have b1 := sq_bound g1 g2
  have b2 := sq_bound g3 g4
  obtain ⟨h1, h2, h3, h4, h5, h6⟩ := id hp
  obtain ⟨k1, k2, k3, k4, k5, k6⟩ := id hq
  obtain ⟨x0, x1, x2, x3⟩ := x
  obtain ⟨y0, y1, y2, y3⟩ := y
  obtain ⟨zx0, zx1, zx2, zx3⟩ := hx
  obtain ⟨zy0, zy1, zy2, zy3⟩ := hy
  simp only at zx0 zx1 zx2 zx3 zy0 zy1 zy2 zy3
  simp only [B4.val]
  obtain ⟨r1, e1, z1⟩ := zx0.sub zy2 (by omega)
  obtain ⟨r2, e2, z2⟩ := zy0.sub zx2 (by omega)
  obtain ⟨r3, e3, z3⟩ := zx1.sub zy3 (by omega)
  obtain ⟨r4, e4, z4⟩ := zy1.sub zx3 (by omega)
  have zg1 := fmaxZ Z_zero (fmaxZ z1 z2)
  have zg2 := fmaxZ Z_zero (fmaxZ z3 z4)
  obtain ⟨r5, e5, z5⟩ := zg1.mul zg1 (by show (gap p.a p.c q.a q.c * gap p.a p.c q.a q.c).natAbs < _; omega)
  obtain ⟨r6, e6, z6⟩ := zg2.mul zg2 (by show (gap p.b p.d q.b q.d * gap p.b p.d q.b q.d).natAbs < _; omega)
  obtain ⟨r7, e7, z7⟩ := z5.add z6 (by show (gap p.a p.c q.a q.c * gap p.a p.c q.a q.c + gap p.b p.d q.b q.d * gap p.b p.d q.b q.d).natAbs < _; omega)
  have z8 : Z r7 (far p q) := z7
  have v1 := fun w => opV_some e1 w
  have v2 := fun w => opV_some e2 w
  have v3 := fun w => opV_some e3 w
  have v4 := fun w => opV_some e4 w
  have v5 := fun w => opV_some e5 w
  have v6 := fun w => opV_some e6 w
  have v7 := fun w => opV_some e7 w
  have n1 := opN_some e1
  have n2 := opN_some e2
  have n3 := opN_some e3
  have n4 := opN_some e4
  have n5 := opN_some e5
  have n6 := opN_some e6
  have n7 := opN_some e7
  clear e1 e2 e3 e4 e5 e6 e7 z1 z2 z3 z4 z5 z6 z7 zg1 zg2 zx0 zx1 zx2 zx3 zy0 zy1 zy2 zy3 b1 b2 g1 g2 g3 g4 h1 h2 h3 h4 h5 h6 k1 k2 k3 k4 k5 k6
  refine ⟨r7, z8, fun w => ?_⟩
  go_enter Tryd.func73, Tryd.ntmps73
  go_wp2_with fail
  refine (fmax_ _ _ _).mono ?_
  rintro e w1 ⟨rfl, rfl⟩
  go_wp2_with fail
  refine (fmax_ _ _ _).mono ?_
  rintro e w1 ⟨rfl, rfl⟩
  go_wp2_with fail
  refine (fmax_ _ _ _).mono ?_
  rintro e w1 ⟨rfl, rfl⟩
  go_wp2_with fail
  refine (fmax_ _ _ _).mono ?_
  rintro e w1 ⟨rfl, rfl⟩
  go_wp2_with fail
  go_ret
  refine ⟨rfl, ?_⟩
  repeat (first | (with_reducible exact Stab.Keeps.refl _) | (with_reducible assumption) | (with_reducible refine Stab.Keeps.alloc ?_ _) | (with_reducible refine Stab.Keeps.drew ?_) | (with_reducible refine Stab.Keeps.drewN ?_ _) | ((with_reducible refine Stab.Keeps.setCell ?_ ?_ _); focus (first | (simp; done) | (simp; omega))) | (with_reducible refine Stab.Keeps.trans ?_ (by with_reducible assumption)))
end Go.Proofs.YtokofimfinhnbaaDoor
set_option linter.unusedVariables false
set_option linter.unusedSimpArgs false
namespace Go.Proofs.YtokofimfinhnbaaDoor
open Go.RowKit Go.Fl Go.Sl Go.Ch Go.Fr Go.Mb
/-- an entry in the queue: where it lies, what it holds, how far it is -/
structure QE where
  p : Nat
  o : Nat
  box : B4
  child : Option Nat
  id : Int
  d : Int
def QE.ptr (e : QE) : Value := .pointer (some ⟨e.p, e.o, none⟩)
def encQ (l : List QE) : List Value := l.map QE.ptr
structure QE.At (w : World) (B : Nat) (y : Q4) (e : QE) : Prop where
  lt : e.p < B
  c0 : w.cell? ⟨e.p, e.o, none⟩ = some (.float .f64 e.box.a)
  c1 : w.cell? ⟨e.p, e.o + 1, none⟩ = some (.float .f64 e.box.b)
  c2 : w.cell? ⟨e.p, e.o + 2, none⟩ = some (.float .f64 e.box.c)
  c3 : w.cell? ⟨e.p, e.o + 3, none⟩ = some (.float .f64 e.box.d)
  c4 : w.cell? ⟨e.p, e.o + 4, none⟩ = some (.pointer (e.child.map fun p => ⟨p, 0, none⟩))
  c5 : w.cell? ⟨e.p, e.o + 5, none⟩ = some (.int .i64 e.id)
  z : ∃ p, ZB e.box p ∧ p.ok ∧ e.d = far p y
theorem QE.At.below {w w' : World} {B : Nat} {y : Q4} {e : QE} (h : e.At w B y) (hk : Below B w w') : e.At w' B y := by
  have hc := fun o => hk.cell (p := ⟨e.p, o, none⟩) h.lt
  exact ⟨h.lt, (hc _).trans h.c0, (hc _).trans h.c1, (hc _).trans h.c2, (hc _).trans h.c3, (hc _).trans h.c4, (hc _).trans h.c5, h.z⟩
theorem encQ_get (l : List QE) (i : Nat) (h : i < l.length) : (encQ l)[i]? = some l[i].ptr := by simp [encQ, h]
theorem encQ_len (l : List QE) : (encQ l).length = l.length := by simp [encQ]
/-- the queue in its block, its row -/
def QAt (w : World) (base q : Nat) (l : List QE) (y : B4) : Prop :=
  ∃ a cap, Blk w q 89 (.slice a l.length cap :: y.cells) ∧ w.ownsRow base 92 1 (.slice a l.length cap) l.length (encQ l)
theorem QAt.blk {w : World} {base q : Nat} {l : List QE} {y : B4} (h : QAt w base q l y) (hl : 0 < l.length) :
    ∃ g rest cap, Blk w q 89 (.slice (some ⟨g, 0, none⟩) l.length cap :: y.cells) ∧ base ≤ g ∧ Blk w g 92 (encQ l ++ rest) ∧ (encQ l ++ rest).length = cap ∧ l.length ≤ cap ∧ cap ≤ maxLen := by
  obtain ⟨a, cap, h1, h2, h3⟩ := h
  rcases h3 with ⟨h4, h5⟩ | ⟨g, cap', cur, h4, h5, h6, h7, h8, h9, h10⟩
  · omega
  · cases h4
    refine ⟨g, cur.toList.drop l.length, cap, h1, h5, ?_, ?_, h7, h8⟩
    · rw [Nat.mul_one] at h10
      rw [← h10, List.take_append_drop]
      unfold Blk
      rw [h6]
    · rw [Nat.mul_one] at h10
      rw [← h10, List.take_append_drop]
      simp [h9]
theorem QAt.of {w : World} {base q g cap : Nat} {l : List QE} {rest : List Value} {y : B4} (h1 : Blk w q 89 (.slice (some ⟨g, 0, none⟩) l.length cap :: y.cells)) (h2 : base ≤ g) (h3 : Blk w g 92 (encQ l ++ rest)) (h4 : (encQ l ++ rest).length = cap) (h5 : cap ≤ maxLen) : QAt w base q l y := by
  refine ⟨_, cap, h1, by simp [encQ], .inr ⟨g, cap, _, rfl, h2, h3, ?_, h5, by simp [← h4], ?_⟩⟩
  · rw [← h4]; simp [encQ]
  · simp only [Nat.mul_one]
    rw [List.take_append_of_le_length (by simp [encQ]), List.take_of_length_le (by simp [encQ])]
/-- what the queue's methods may change: the queue, and rows of entries -/
structure Kq (base q : Nat) (w w' : World) : Prop where
  ch : Ch (· = 92) (· = q) w w'
  bel : Below base w w'
theorem Kq.refl (base q : Nat) (w : World) : Kq base q w w := ⟨Ch.refl _ _ _, Below.refl _ _⟩
theorem Kq.trans {base q : Nat} {a b c : World} (h : Kq base q a b) (k : Kq base q b c) : Kq base q a c := ⟨h.ch.trans k.ch, h.bel.trans k.bel⟩
theorem Kq.of_keeps {base q : Nat} {a b : World} (h : Stab.Keeps a b) (hb : base ≤ a.heap.size) : Kq base q a b := ⟨Ch.of_keeps h, Below.mono h hb⟩
theorem QAt.keep {w w' : World} {base q : Nat} {l : List QE} {y : B4} (h : QAt w base q l y) (hk : Stab.Keeps w w') : QAt w' base q l y := by
  obtain ⟨a, cap, h1, h2⟩ := h
  exact ⟨a, cap, h1.keep hk, owns_keep h2 hk⟩
theorem QAt.lt {w : World} {base q : Nat} {l : List QE} {y : B4} (h : QAt w base q l y) : q < w.heap.size := by
  obtain ⟨a, cap, h1, h2⟩ := h
  exact h1.lt
theorem Ch.setT {T X : Nat → Prop} {w : World} {g : Nat} {e : TypeId} {vs : List Value} (h : Blk w g e vs) (hT : T e) (i : Nat) (u : Value) : Ch T X w (w.setCell ⟨g, i, none⟩ u) := by
  have k := (Ch.refl T (fun b => X b ∨ b = g) w).setCell (p := ⟨g, i, none⟩) (.inl (.inr rfl)) u
  refine ⟨k.os, k.tape, k.output, k.size, fun b hb hx ht => k.block b hb (fun hh => ?_) ht⟩
  rcases hh with hh | hh
  · exact hx hh
  · subst hh
    unfold Blk at h
    exact ht _ _ _ h hT
theorem qlen_ (base q : Nat) (l : List QE) (y : B4) (w : World) (h : QAt w base q l y) : Calls Tryd.prog 68 #[.pointer (some ⟨q, 0, none⟩)] w fun e w' => e = .returned (.int .i64 l.length) ∧ w = w' := by
  obtain ⟨a, cap, h1, h2⟩ := h
  have q0 := h1.cell (i := 0) rfl
  have ql := h1.lt
  go_enter Tryd.func68, Tryd.ntmps68
  go_wp2
  go_ret
  exact ⟨rfl, rfl⟩
set_option maxRecDepth 100000 in
set_option maxHeartbeats 1000000 in
theorem qless_ (base q i j : Nat) (l : List QE) (y : B4) (yq : Q4) (w : World) (h : QAt w base q l y) (hi : i < l.length) (hj : j < l.length) (hy : ZB y yq) (hyo : yq.ok) (hB : base ≤ w.heap.size) (hq : base ≤ q) (ha : ∀ e ∈ l, e.At w base yq) :
    Calls Tryd.prog 69 #[.pointer (some ⟨q, 0, none⟩), .int .i64 i, .int .i64 j] w (One w (.bool (decide (l[i].d < l[j].d)))) := by
  obtain ⟨g, rest, cap, h1, h2, h3, h4, h5, h6⟩ := h.blk (by omega)
  obtain ⟨y0, y1, y2, y3⟩ := y
  have q0 := h1.cell (i := 0) rfl
  have q1 := h1.cell (i := 1) rfl
  have q2 := h1.cell (i := 2) rfl
  have q3 := h1.cell (i := 3) rfl
  have q4 := h1.cell (i := 4) rfl
  have ql := h1.lt
  have gl := h3.lt
  have g1 : w.cell? ⟨g, i, none⟩ = some l[i].ptr := h3.cell (by rw [List.getElem?_append_left (by simp [encQ, hi])]; exact encQ_get l i hi)
  have g2 : w.cell? ⟨g, j, none⟩ = some l[j].ptr := h3.cell (by rw [List.getElem?_append_left (by simp [encQ, hj])]; exact encQ_get l j hj)
  have A1 := ha _ (List.getElem_mem hi)
  have A2 := ha _ (List.getElem_mem hj)
  generalize l[i] = e1 at *
  generalize l[j] = e2 at *
  obtain ⟨p1, o1, ⟨x0, x1, x2, x3⟩, ch1, id1, d1⟩ := e1
  obtain ⟨p2, o2, ⟨z0, z1, z2, z3⟩, ch2, id2, d2⟩ := e2
  obtain ⟨u1, a0, a1, a2, a3, _, _, b1, zb1, ok1, e1⟩ := A1
  obtain ⟨u2, c0, c1, c2, c3, _, _, b2, zb2, ok2, e2⟩ := A2
  simp only [QE.ptr] at g1 g2
  simp only at u1 a0 a1 a2 a3 u2 c0 c1 c2 c3 e1 e2 zb1 zb2
  obtain ⟨r1, zr1, hc1⟩ := sqd_ _ _ b1 yq zb1 hy ok1 hyo
  obtain ⟨r2, zr2, hc2⟩ := sqd_ _ _ b2 yq zb2 hy ok2 hyo
  have hlt : lt r1 r2 = decide (d1 < d2) := by rw [e1, e2]; exact zr1.lt zr2
  simp only [B4.val] at hc1 hc2
  have hpl1 : p1 < w.heap.size := by omega
  have hpl2 : p2 < w.heap.size := by omega
  unfold maxLen at h6
  have hin : i < l.length := hi
  have hjn : j < l.length := hj
  clear h h1 h3 h4 zr1 zr2 zb1 zb2 ok1 ok2 ha e1 e2 hy hyo
  simp only
  rw [← hlt]
  generalize l.length = n at *
  unfold lt
  go_enter Tryd.func69, Tryd.ntmps69
  go_wp2_with fail
  refine Stab.keep_region (fun _ _ _ => True) (fun _ => false) (fun k => k == 14) Stab.pre_none (by kernel_rfl) (by kernel_rfl) fun hcx => ?_
  repeat (first
    | (refine Stab.quiet rfl rfl rfl (fun K hK => ?_); go_big_quiet_op; refine hK _ ?_; clear hK K)
    | (refine Stab.one rfl rfl rfl ?_
       apply Exists.intro
       refine ⟨fun w1 hw1 => ?_, fun K hK => ?_⟩
       · go_simp
         first | (go_at_call 73; exact hc1 _)
       go_simp
       refine hK _ ?_
       clear hK K)
    | (refine Stab.skip rfl (fun K hK => ?_); go_simp; refine hK _ ?_; clear hK K))
  refine Stab.nil fun w' hw' _ => ?_
  clear hcx
  obtain ⟨qc_, qf_⟩ := Stab.own_cell hw' (q) (by first | (simp; done) | (simp; omega) | omega | (apply Stab.cell_lt (a := ⟨q, 0, none⟩); assumption))
  have q0 : w'.cell? ⟨q, 0, none⟩ = some (.slice (some ⟨g, 0, none⟩) n cap) := by rw [qc_]; first | assumption | (go_simp; done)
  have q1 : w'.cell? ⟨q, 1, none⟩ = some (.float .f64 y0) := by rw [qc_]; first | assumption | (go_simp; done)
  have q2 : w'.cell? ⟨q, 2, none⟩ = some (.float .f64 y1) := by rw [qc_]; first | assumption | (go_simp; done)
  have q3 : w'.cell? ⟨q, 3, none⟩ = some (.float .f64 y2) := by rw [qc_]; first | assumption | (go_simp; done)
  have q4 : w'.cell? ⟨q, 4, none⟩ = some (.float .f64 y3) := by rw [qc_]; first | assumption | (go_simp; done)
  clear qc_ qf_
  have k1 : ∀ o, w'.cell? ⟨p2, o, none⟩ = w.cell? ⟨p2, o, none⟩ := (Stab.own_cell hw' p2 hpl2).1
  have k2 : ∀ o, w'.cell? ⟨g, o, none⟩ = w.cell? ⟨g, o, none⟩ := (Stab.own_cell hw' g gl).1
  have hsz := hw'.size
  replace g2 := (k2 _).trans g2
  replace c0 := (k1 _).trans c0
  replace c1 := (k1 _).trans c1
  replace c2 := (k1 _).trans c2
  replace c3 := (k1 _).trans c3
  clear k1 k2 g1 a0 a1 a2 a3
  have hpl2' : p2 < w'.heap.size := by omega
  have gl' : g < w'.heap.size := by omega
  have ql' : q < w'.heap.size := by omega
  go_wp2_with fail
  refine Stab.keep_region (fun _ _ _ => True) (fun _ => false) (fun k => k == 14) Stab.pre_none (by kernel_rfl) (by kernel_rfl) fun hcx => ?_
  repeat (first
    | (refine Stab.quiet rfl rfl rfl (fun K hK => ?_); go_big_quiet_op; refine hK _ ?_; clear hK K)
    | (refine Stab.one rfl rfl rfl ?_
       apply Exists.intro
       refine ⟨fun w1 hw1 => ?_, fun K hK => ?_⟩
       · go_simp
         first | (go_at_call 73; exact hc2 _)
       go_simp
       refine hK _ ?_
       clear hK K)
    | (refine Stab.skip rfl (fun K hK => ?_); go_simp; refine hK _ ?_; clear hK K))
  refine Stab.nil fun w3 hw3 _ => ?_
  clear hcx
  go_wp2_with fail
  go_ret
  refine ⟨rfl, ?_⟩
  repeat (first | (with_reducible exact Stab.Keeps.refl _) | (with_reducible assumption) | (with_reducible refine Stab.Keeps.alloc ?_ _) | (with_reducible refine Stab.Keeps.drew ?_) | (with_reducible refine Stab.Keeps.drewN ?_ _) | ((with_reducible refine Stab.Keeps.setCell ?_ ?_ _); focus (first | (simp; done) | (simp; omega))) | (with_reducible refine Stab.Keeps.trans ?_ (by with_reducible assumption)))
set_option maxRecDepth 100000 in
set_option maxHeartbeats 1000000 in
theorem qswap_ (base q i j : Nat) (l : List QE) (y : B4) (w : World) (h : QAt w base q l y) (hi : i < l.length) (hj : j < l.length) (hB : base ≤ w.heap.size) (hq : base ≤ q) :
    Calls Tryd.prog 72 #[.pointer (some ⟨q, 0, none⟩), .int .i64 i, .int .i64 j] w (fun e w' => e = .returned (.tuple #[]) ∧ QAt w' base q ((l.set i l[j]).set j l[i]) y ∧ Kq base q w w') := by
  obtain ⟨g, rest, cap, h1, h2, h3, h4, h5, h6⟩ := h.blk (by omega)
  have q0 := h1.cell (i := 0) rfl
  have ql := h1.lt
  have gl := h3.lt
  have gf := h3.free
  have g1 : w.cell? ⟨g, i, none⟩ = some l[i].ptr := h3.cell (by rw [List.getElem?_append_left (by simp [encQ, hi])]; exact encQ_get l i hi)
  have g2 : w.cell? ⟨g, j, none⟩ = some l[j].ptr := h3.cell (by rw [List.getElem?_append_left (by simp [encQ, hj])]; exact encQ_get l j hj)
  have hqg : q ≠ g := h1.ne h3 (by decide)
  have hgq : g ≠ q := hqg.symm
  have hfin : QAt (((w.setCell ⟨g, i, none⟩ l[j].ptr).setCell ⟨g, j, none⟩ l[i].ptr).drew) base q ((l.set i l[j]).set j l[i]) y := by
    have e1 : encQ ((l.set i l[j]).set j l[i]) ++ rest = ((encQ l ++ rest).set i l[j].ptr).set j l[i].ptr := by
      rw [List.set_append_left _ _ (by simp [encQ, hi]), List.set_append_left _ _ (by simp [encQ, hj])]
      simp [encQ, List.map_set]
    have hlen : ((l.set i l[j]).set j l[i]).length = l.length := by simp
    refine QAt.of (g := g) (rest := rest) (cap := cap) ?_ h2 ?_ ?_ h6
    · rw [hlen]; exact ((h1.past hqg _).past hqg _).drew
    · rw [e1]; exact ((h3.set _ _).set _ _).drew
    · rw [e1]; simpa using h4
  have hch : Kq base q w (((w.setCell ⟨g, i, none⟩ l[j].ptr).setCell ⟨g, j, none⟩ l[i].ptr).drew) := by
    have s1 := Ch.setT (T := (· = 92)) (X := (· = q)) h3 rfl i l[j].ptr
    have s2 := Ch.setT (T := (· = 92)) (X := (· = q)) (h3.set i l[j].ptr) rfl j l[i].ptr
    exact ⟨(s1.trans s2).drew, Below.drew (((Below.refl _ _).setCell h2 _).setCell h2 _)⟩
  simp only [QE.ptr] at g1 g2 hfin hch
  by_cases heq : i = j
  · subst heq
    have hin : i < l.length := hi
    generalize l[i] = e1 at *
    clear h h1 h3
    go_enter Tryd.func72, Tryd.ntmps72
    go_wp2
    go_region
    go_end0
    exact ⟨rfl, hfin, hch⟩
  generalize l[i] = e1 at *
  generalize l[j] = e2 at *
  have hin : i < l.length := hi
  have hjn : j < l.length := hj
  clear h h1 h3
  rcases Nat.lt_trichotomy i j with hij | hij | hij
  · go_enter Tryd.func72, Tryd.ntmps72
    go_wp2
    go_region
    go_end0
    exact ⟨rfl, hfin, hch⟩
  · exact absurd hij heq
  · go_enter Tryd.func72, Tryd.ntmps72
    go_wp2
    go_region
    go_end0
    exact ⟨rfl, hfin, hch⟩
end Go.Proofs.YtokofimfinhnbaaDoor
set_option linter.unusedVariables false
set_option linter.unusedSimpArgs false
namespace Go.Proofs.YtokofimfinhnbaaDoor
open Go.RowKit Go.Fl Go.Sl Go.Ch Go.Fr Go.Mb
theorem assert_e (p o : Nat) (w : World) : (Instr.typeAssert (.iface 92 (.pointer (some ⟨p, o, none⟩))) 20 92 false).run Tryd.prog w = .ok (.pointer (some ⟨p, o, none⟩)) w := by kernel_rfl
theorem infoPtr : (Tryd.prog.info? 92).map (fun i => (i.zero, i.size, i.bytes)) = some (some (.pointer none), 1, 8) := by kernel_rfl
theorem step_append_own {P : Program} {ops : Array Oper} {o : Oper} {a : Act} {w : World} {K : Act → World → Prop} {Q : Exit → Act → World → Prop} {E : Prop}
    (hg : o.guard = none) (s x : Operand) (t : TypeId) (hop : o.op = Op.call { callee := Callee.builtin Builtin.append, args := #[s, x], argTypes := #[t, t] })
    (base : Nat) (e : TypeId) (i : TypeInfo) (z : Value) (size bytes : Nat) (h1 : P.underlying t = some (.slice e)) (h2 : P.info? e = some i) (h3 : i.zero = some z) (h4 : i.size = size) (h5 : i.bytes = bytes) (h6 : z.cells.size = size) (h7 : 0 < size)
    (v : Value) (n : Nat) (xs : List Value) (hs : a.eval s = v) (hown : w.ownsRow base e size v n xs)
    (ad : Addr) (m c : Nat) (news : List Value) (hx : a.eval x = .slice (some ad) m c) (hn : news.length = m * size) (hc : ∀ j u, news[j]? = some u → w.cell? (ad.add j) = some u) (h1c : ∀ u ∈ news, u.oneCell' = true)
    (b1 : n + m ≤ maxLen) (b2 : (n + m) * bytes ≤ 140737488355328) (hbase : base ≤ w.heap.size)
    (hK : ∀ al cap w', w'.ownsRow base e size (.slice al (n + m) cap) (n + m) (xs ++ news) → w.grownBy w' v.ownBlock → K (a.put o.dst (.slice al (n + m) cap)) w') :
    if Region.wanted o (yielded ops a.tmps) = true then Oper.wp P o a w K Q else E := by
  have hw : Region.wanted o (yielded ops a.tmps) = true := by simp [Region.wanted, hg]
  rw [if_pos hw]
  obtain ⟨v', w', hrun, r1, r2, _⟩ := run_append_own (P := P) w base t o.type e i z size bytes h1 h2 h3 h4 h5 h6 h7 v n xs hown ad m c news hn hc h1c b1 b2 hbase
  obtain ⟨al, cap, rfl, _, _, _⟩ := of_owns r1
  unfold Oper.wp
  simp [execOp, hop, resolve, invoke, builtin, hs, hx, hrun, Result.andThen]
  exact hK al cap w' r1 r2
set_option maxRecDepth 100000 in
set_option maxHeartbeats 1000000 in
theorem qpush_ (base q : Nat) (e : QE) (l : List QE) (y : B4) (w : World) (h : QAt w base q l y) (hB : base ≤ w.heap.size) (hq : base ≤ q) (hl : l.length < 1000000) :
    Calls Tryd.prog 71 #[.pointer (some ⟨q, 0, none⟩), .iface 92 e.ptr] w (fun e' w' => e' = .returned (.tuple #[]) ∧ QAt w' base q (l ++ [e]) y ∧ Kq base q w w') := by
  obtain ⟨i0, hi, hz0, hz1, hz2⟩ := info_parts infoPtr
  obtain ⟨a, cap, h1, hown⟩ := h
  have q0 := h1.cell (i := 0) rfl
  have ql := h1.lt
  have ta := assert_e e.p e.o
  simp only [QE.ptr]
  have hown1 : (w.drew.alloc (.cells #[.pointer (some ⟨e.p, e.o, none⟩)] 92)).ownsRow base 92 1 (.slice a l.length cap) l.length (encQ l) := hown.drew.alloc _
  have hb1 : Blk (w.drew.alloc (.cells #[.pointer (some ⟨e.p, e.o, none⟩)] 92)) q 89 (.slice a l.length cap :: y.cells) := h1.drew.alloc _
  have hch1 : Ch (· = 92) (· = q) w (w.drew.alloc (.cells #[.pointer (some ⟨e.p, e.o, none⟩)] 92)) := (Ch.refl _ _ w).drew.alloc _
  have hbl1 : Below base w (w.drew.alloc (.cells #[.pointer (some ⟨e.p, e.o, none⟩)] 92)) := (Below.refl _ _).drew.alloc hB _
  have hB1 : base ≤ (w.drew.alloc (.cells #[.pointer (some ⟨e.p, e.o, none⟩)] 92)).heap.size := by simp; omega
  have hnew : ∀ j u, [Value.pointer (some ⟨e.p, e.o, none⟩)][j]? = some u → (w.drew.alloc (.cells #[.pointer (some ⟨e.p, e.o, none⟩)] 92)).cell? ((⟨w.heap.size, 0, none⟩ : Addr).add j) = some u := new_cells w.drew [_] _ _ rfl
  have HI := Lib.hid hi
  have HZ := Lib.hid hz0
  have HZ1 := Lib.hid hz1
  have HZ2 := Lib.hid hz2
  clear hi hz0 hz1 hz2 hB
  go_enter Tryd.func71, Tryd.ntmps71
  go_wp2_with fail
  go_region_law (refine step_append_own rfl (.tmp 8) (.tmp 11) 87 rfl base 92 i0 (.pointer none) 1 8 Tryd.underlying87 HI.out HZ.out HZ1.out HZ2.out rfl (by decide) (.slice a l.length cap) l.length (encQ l) (by simp [Act.eval, Act.put]) hown1 ⟨w.heap.size, 0, none⟩ 1 1 [.pointer (some ⟨e.p, e.o, none⟩)] (by simp [Act.eval, Act.put]) rfl hnew (by intro u hu; simp at hu; subst hu; rfl) (by unfold maxLen; omega) (by omega) hB1 ?_; intro al c' w' hown' hgr; have hbw' := hb1.grown hgr (owns_ne hown1 hb1 (by decide)); have p0 := hbw'.cell (i := 0) rfl; have pf := hbw'.free; have pl := hbw'.lt)
  all_goals
    go_end0
    have hne := owns_ne hown' hbw' (by decide)
    refine ⟨rfl, ⟨al, c', ?_, ?_⟩, ?_, ?_⟩
    · have := hbw'.set 0 (.slice al (l.length + 1) c')
      simpa using this
    · have := ownsRow_setCell_other hown' (a := ⟨q, 0, none⟩) (fun e => hne e.symm) (.slice al (l.length + 1) c')
      simpa [encQ, QE.ptr] using this
    · exact (hch1.grown hgr (fun g hg => .inr (.inr (owns_row hown1 g hg)))).setCell (.inl rfl) _
    · exact (hbl1.grown hgr hB1 fun k hk' => (hown1.lt k hk').1).setCell hq _
set_option maxRecDepth 100000 in
set_option maxHeartbeats 1000000 in
theorem qpop_ (base q : Nat) (l : List QE) (e : QE) (y : B4) (w : World) (h : QAt w base q (l ++ [e]) y) (hB : base ≤ w.heap.size) (hq : base ≤ q) (hl : l.length < 1000000) :
    Calls Tryd.prog 70 #[.pointer (some ⟨q, 0, none⟩)] w (fun e' w' => e' = .returned (.iface 92 e.ptr) ∧ QAt w' base q l y ∧ Kq base q w w') := by
  obtain ⟨g, rest, cap, h1, h2, h3, h4, h5, h6⟩ := h.blk (by simp)
  have hlen : (l ++ [e]).length = l.length + 1 := by simp
  rw [hlen] at h1 h5
  have he : encQ (l ++ [e]) ++ rest = encQ l ++ (e.ptr :: rest) := by simp [encQ]
  rw [he] at h3 h4
  have q0 := h1.cell (i := 0) rfl
  have ql := h1.lt
  have qf := h1.free
  have gl := h3.lt
  have g0 : w.cell? ⟨g, l.length, none⟩ = some e.ptr := h3.cell (by rw [List.getElem?_append_right (by simp [encQ])]; simp [encQ])
  have hqg : g ≠ q := fun hh => h1.ne h3 (by decide) hh.symm
  simp only [QE.ptr] at g0
  unfold maxLen at h6
  have hfin : QAt ((w.setCell ⟨q, 0, none⟩ (.slice (some ⟨g, 0, none⟩) l.length cap)).drewN 0) base q l y := by
    refine QAt.of (g := g) (rest := e.ptr :: rest) (cap := cap) ?_ h2 ?_ h4 (by unfold maxLen; omega)
    · have := h1.set 0 (.slice (some ⟨g, 0, none⟩) l.length cap)
      exact this
    · exact h3.past hqg _
  have hk : Kq base q w (w.setCell ⟨q, 0, none⟩ (.slice (some ⟨g, 0, none⟩) l.length cap)) := ⟨(Ch.refl (· = 92) (· = q) w).setCell (p := ⟨q, 0, none⟩) (.inl rfl) _, (Below.refl _ _).setCell hq _⟩
  simp only [QE.ptr]
  clear h h1 h3 he
  go_enter Tryd.func70, Tryd.ntmps70
  go_wp2
  go_region
  go_wp2
  go_region
  go_wp2
  go_ret
  exact ⟨rfl, hfin, hk.ch.drew.drew, hk.bel.drew.drew⟩
end Go.Proofs.YtokofimfinhnbaaDoor
set_option linter.unusedVariables false
set_option linter.unusedSimpArgs false
namespace Go.Proofs.YtokofimfinhnbaaDoor
open Go.RowKit Go.Fl Go.Sl Go.Ch Go.Fr Go.Mb Go.Hp
def keys (l : List QE) : Nat → Int := fun i => (l[i]?.map QE.d).getD 0
def qsw (l : List QE) (i j : Nat) : List QE := match l[i]?, l[j]? with
  | some a, some b => (l.set i b).set j a
  | _, _ => l
theorem qsw_eq {l : List QE} {i j : Nat} (hi : i < l.length) (hj : j < l.length) : (l.set i l[j]).set j l[i] = qsw l i j := by
  unfold qsw
  rw [List.getElem?_eq_getElem hi, List.getElem?_eq_getElem hj]
theorem qsw_len (l : List QE) (i j : Nat) : (qsw l i j).length = l.length := by
  unfold qsw
  split <;> simp
theorem keys_get {l : List QE} {i : Nat} (hi : i < l.length) : keys l i = l[i].d := by simp [keys, hi]
theorem keys_qsw {l : List QE} {i j : Nat} (hi : i < l.length) (hj : j < l.length) : keys (qsw l i j) = sw (keys l) i j := by
  rw [← qsw_eq hi hj]
  funext k
  unfold sw
  by_cases hk : k < l.length
  · rw [keys_get (by simpa using hk), List.getElem_set]
    by_cases h1 : k = j
    · subst h1
      rw [if_pos rfl]
      by_cases h2 : k = i
      · subst h2; rw [if_pos rfl, keys_get hk]
      · rw [if_neg h2, if_pos rfl, keys_get hi]
    · rw [if_neg (fun e => h1 e.symm), List.getElem_set]
      by_cases h2 : k = i
      · subst h2; rw [if_pos rfl, if_pos rfl, keys_get hj]
      · rw [if_neg (fun e => h2 e.symm), if_neg h2, if_neg h1, keys_get hk]
  · have e1 : keys ((l.set i l[j]).set j l[i]) k = 0 := by unfold keys; rw [List.getElem?_eq_none (by simp; omega)]; rfl
    have e2 : keys l k = 0 := by unfold keys; rw [List.getElem?_eq_none (by omega)]; rfl
    rw [e1, if_neg (by omega), if_neg (by omega), e2]
theorem qsw_perm {l : List QE} {i j : Nat} (hi : i < l.length) (hj : j < l.length) : (qsw l i j).Perm l := by
  rw [← qsw_eq hi hj]
  exact List.set_set_perm hi hj
/-- the queue, put into another order -/
def QP (base q : Nat) (y : B4) (l : List QE) (w w' : World) (l' : List QE) : Prop := l'.Perm l ∧ QAt w' base q l' y ∧ Kq base q w w'
theorem QP.less {base q : Nat} {y : B4} {yq : Q4} {l l' : List QE} {w wr : World} (h : QP base q y l w wr l') (hy : ZB y yq) (hyo : yq.ok) (hB : base ≤ w.heap.size) (hq : base ≤ q) (ha : ∀ e ∈ l, e.At w base yq) (i j : Int) (i' j' : Nat) (hi' : i = i') (hj' : j = j') (hi : i' < l.length) (hj : j' < l.length) :
    Calls Tryd.prog 69 #[.pointer (some ⟨q, 0, none⟩), .int .i64 i, .int .i64 j] wr (fun e w' => e = .returned (.bool (decide (keys l' i' < keys l' j'))) ∧ QP base q y l w w' l') := by
  subst hi' hj'
  obtain ⟨h1, h2, h3⟩ := h
  have hl := h1.length_eq
  have h4 := Nat.le_trans hB h3.ch.size
  rw [keys_get (by omega), keys_get (by omega)]
  refine (qless_ base q i' j' l' y yq wr h2 (by omega) (by omega) hy hyo h4 hq (fun e he => (ha e (h1.mem_iff.1 he)).below h3.bel)).mono ?_
  rintro e w' ⟨rfl, hk⟩
  exact ⟨rfl, h1, h2.keep hk, h3.trans (Kq.of_keeps hk h4)⟩
theorem QP.swap {base q : Nat} {y : B4} {l l' : List QE} {w wr : World} (h : QP base q y l w wr l') (hB : base ≤ w.heap.size) (hq : base ≤ q) (i j : Int) (i' j' : Nat) (hi' : i = i') (hj' : j = j') (hi : i' < l.length) (hj : j' < l.length) :
    Calls Tryd.prog 72 #[.pointer (some ⟨q, 0, none⟩), .int .i64 i, .int .i64 j] wr (fun e w' => e = .returned (.tuple #[]) ∧ QP base q y l w w' (qsw l' i' j')) := by
  subst hi' hj'
  obtain ⟨h1, h2, h3⟩ := h
  have hl := h1.length_eq
  have h4 := Nat.le_trans hB h3.ch.size
  rw [← qsw_eq (by omega) (by omega)]
  refine (qswap_ base q i' j' l' y wr h2 (by omega) (by omega) h4 hq).mono ?_
  rintro e w' ⟨rfl, hQ, hk⟩
  refine ⟨rfl, ?_, hQ, h3.trans hk⟩
  rw [qsw_eq (by omega) (by omega)]
  exact (qsw_perm (by omega) (by omega)).trans h1
theorem m_less (q : Nat) (w : World) : (method 269 91 (.pointer (some ⟨q, 0, none⟩)) "Less").run Tryd.prog w = .ok (69, .pointer (some ⟨q, 0, none⟩)) w := by kernel_rfl
theorem m_swap (q : Nat) (w : World) : (method 269 91 (.pointer (some ⟨q, 0, none⟩)) "Swap").run Tryd.prog w = .ok (72, .pointer (some ⟨q, 0, none⟩)) w := by kernel_rfl
theorem m_len (q : Nat) (w : World) : (method 269 91 (.pointer (some ⟨q, 0, none⟩)) "Len").run Tryd.prog w = .ok (68, .pointer (some ⟨q, 0, none⟩)) w := by kernel_rfl
theorem m_push (q : Nat) (w : World) : (method 269 91 (.pointer (some ⟨q, 0, none⟩)) "Push").run Tryd.prog w = .ok (71, .pointer (some ⟨q, 0, none⟩)) w := by kernel_rfl
theorem m_pop (q : Nat) (w : World) : (method 269 91 (.pointer (some ⟨q, 0, none⟩)) "Pop").run Tryd.prog w = .ok (70, .pointer (some ⟨q, 0, none⟩)) w := by kernel_rfl
set_option maxRecDepth 100000 in
set_option maxHeartbeats 1000000 in
theorem up_ (base q j : Nat) (l : List QE) (y : B4) (yq : Q4) (w : World) (h : QAt w base q l y) (hy : ZB y yq) (hyo : yq.ok) (hB : base ≤ w.heap.size) (hq : base ≤ q) (ha : ∀ e ∈ l, e.At w base yq) (hj : j < l.length) (hl : l.length ≤ 1000000) (hU : UpI (keys l) l.length j) :
    Calls Tryd.prog 39 #[.iface 91 (.pointer (some ⟨q, 0, none⟩)), .int .i64 j] w (fun e w' => e = .returned (.tuple #[]) ∧ ∃ l', QP base q y l w w' l' ∧ HpI (keys l') l'.length) := by
  have hQ : QP base q y l w w l := ⟨List.Perm.refl _, h, Kq.refl _ _ _⟩
  clear h
  go_enter Tryd.func39, Tryd.ntmps39
  go_wp2_with fail
  go_loopw [1] (fun jv wr => ∃ (j : Nat) (l' : List QE), j < l.length ∧ jv = .int .i64 j ∧ QP base q y l w wr l' ∧ UpI (keys l') l.length j) (fun jv _ => (intOf jv).toNat)
  case atStart => exact ⟨j, l, hj, rfl, hQ, hU⟩
  case round =>
    clear hQ hU hj
    obtain ⟨j, l', hj, rfl, hQ, hU⟩ := hrel
    by_cases h0 : j = 0
    · subst h0
      go_wp2_with fail
      go_end0
      exact ⟨rfl, l', hQ, by rw [hQ.1.length_eq]; exact hU.done (.inl rfl)⟩
    · obtain ⟨p, hp⟩ : ∃ p : Nat, p = (j - 1) / 2 := ⟨_, rfl⟩
      have hpl : p < l.length := by omega
      have hpn : p ≠ j := by omega
      have hpj : ((p : Int) == j) = false := by simp; omega
      have hL := hQ.less hy hyo hB hq ha j p j p rfl rfl hj hpl
      have w1 : IntKind.i64.wrap ((j : Int) - 1) = (j : Int) - 1 := IntWalk.i64_in _ (by omega)
      have w2 : ((j : Int) - 1).tdiv 2 = p := by rw [Int.tdiv_eq_ediv_of_nonneg (by omega)]; omega
      have w3 : wrap64 (p : Int) = p := IntWalk.wrap64_in _ ⟨by omega, by omega⟩
      have HU := Lib.hid hU
      have HP := Lib.hid hp
      clear hU hp
      have hS := fun w' (hw : QP base q y l w w' l') => hw.swap hB hq p j p j rfl rfl hpl hj
      have ms := m_swap q
      have ml := m_less q
      go_wp2_with fail
      refine hL.mono ?_
      rintro e w2 ⟨rfl, hQ2⟩
      clear hL hQ
      by_cases hlt : keys l' j < keys l' p
      · have hlt2 := decide_eq_true hlt
        have HLT := Lib.hid hlt
        clear hlt
        go_wp2_with fail
        refine (hS _ hQ2).mono ?_
        clear hS
        rintro e w3 ⟨rfl, hQ3⟩
        clear hlt2
        go_wp2_with fail
        go_round
        case rel =>
          refine ⟨p, qsw l' p j, hpl, rfl, hQ3, ?_⟩
          have hl' := hQ2.1.length_eq
          have e1 := HP.out
          rw [keys_qsw (by omega) (by omega), e1]
          exact HU.out.step hj (by omega) (by rw [← e1]; exact HLT.out)
        case measure => have := HP.out; simp [intOf]; omega
      · have hlt2 := decide_eq_false hlt
        have HLT := Lib.hid hlt
        clear hlt
        go_wp2_with fail
        go_end0
        refine ⟨rfl, l', hQ2, ?_⟩
        rw [hQ2.1.length_eq]
        refine HU.out.done (.inr ?_)
        have := HLT.out
        rw [← HP.out]
        omega
end Go.Proofs.YtokofimfinhnbaaDoor
set_option linter.unusedVariables false
set_option linter.unusedSimpArgs false
namespace Go.Proofs.YtokofimfinhnbaaDoor
open Go.RowKit Go.Fl Go.Sl Go.Ch Go.Fr Go.Mb Go.Hp
/-- the part ahead of n is put into another order, the rest is left -/
def QPn (base q : Nat) (y : B4) (n : Nat) (l : List QE) (w w' : World) (l' : List QE) : Prop := QP base q y l w w' l' ∧ ∀ i, n ≤ i → l'[i]? = l[i]?
theorem qsw_out {l : List QE} {i j n : Nat} (hi : i < n) (hj : j < n) (k : Nat) (hk : n ≤ k) : (qsw l i j)[k]? = l[k]? := by
  unfold qsw
  split
  · rw [List.getElem?_set_ne (by omega), List.getElem?_set_ne (by omega)]
  · rfl
set_option maxRecDepth 100000 in
set_option maxHeartbeats 1000000 in
theorem down_ (base q n : Nat) (l : List QE) (y : B4) (yq : Q4) (w : World) (h : QAt w base q l y) (hy : ZB y yq) (hyo : yq.ok) (hB : base ≤ w.heap.size) (hq : base ≤ q) (ha : ∀ e ∈ l, e.At w base yq) (hn : n ≤ l.length) (hl : l.length ≤ 1000000) (hD : DnI (keys l) n 0) :
    Calls Tryd.prog 40 #[.iface 91 (.pointer (some ⟨q, 0, none⟩)), .int .i64 0, .int .i64 n] w (fun e w' => (∃ b, e = .returned (.bool b)) ∧ ∃ l', QPn base q y n l w w' l' ∧ HpI (keys l') n) := by
  have hQ : QPn base q y n l w w l := ⟨⟨List.Perm.refl _, h, Kq.refl _ _ _⟩, fun _ _ => rfl⟩
  clear h
  go_enter Tryd.func40, Tryd.ntmps40
  go_wp2_with fail
  go_loopw [7] (fun iv wr => ∃ (i : Nat) (l' : List QE), i ≤ n ∧ iv = .int .i64 i ∧ QPn base q y n l w wr l' ∧ DnI (keys l') n i) (fun iv _ => n - (intOf iv).toNat)
  case atStart => exact ⟨0, l, by omega, rfl, hQ, hD⟩
  case round =>
    clear hQ hD
    obtain ⟨i, l', hi, rfl, ⟨hQ, hO⟩, hD⟩ := hrel
    by_cases h0 : n ≤ 2 * i + 1
    · have hdone := hD.done (fun k k0 k1 k2 => by omega)
      have w1 : IntKind.i64.wrap (2 * (i : Int)) = 2 * (i : Int) := IntWalk.i64_in _ (by omega)
      have w2 : IntKind.i64.wrap (2 * (i : Int) + 1) = 2 * (i : Int) + 1 := IntWalk.i64_in _ (by omega)
      have g1 : decide ((n : Int) ≤ 2 * (i : Int) + 1) = true := decide_eq_true (by omega)
      clear hD
      go_wp2_with fail
      go_ret
      exact ⟨⟨_, rfl⟩, l', ⟨hQ, hO⟩, hdone⟩
    · obtain ⟨c, hc⟩ : ∃ c : Nat, c = 2 * i + 1 := ⟨_, rfl⟩
      have hlen := hQ.1.length_eq
      have HD := Lib.hid hD
      clear hD
      have hcn : c < n := by omega
      have hci : (c - 1) / 2 = i := by omega
      have g1 : decide ((n : Int) ≤ 2 * (i : Int) + 1) = false := decide_eq_false (by omega)
      have g2 : decide (2 * (i : Int) + 1 < 0) = false := decide_eq_false (by omega)
      have HP := Lib.hid hc
      have hcc : 2 * i + 1 = c := hc.symm
      clear hc
      by_cases h2 : c + 1 < n
      · have g3 : decide (2 * (i : Int) + 1 + 1 < (n : Int)) = true := decide_eq_true (by omega)
        have hL1 := hQ.less hy hyo hB hq ha (2 * (i : Int) + 1 + 1) (2 * (i : Int) + 1) (c + 1) c (by omega) (by omega) (by omega) (by omega)
        have w1 : IntKind.i64.wrap (2 * (i : Int)) = 2 * (i : Int) := IntWalk.i64_in _ (by omega)
        have w2 : IntKind.i64.wrap (2 * (i : Int) + 1) = 2 * (i : Int) + 1 := IntWalk.i64_in _ (by omega)
        have w3 : IntKind.i64.wrap (2 * (i : Int) + 1 + 1) = 2 * (i : Int) + 1 + 1 := IntWalk.i64_in _ (by omega)
        have ml1 := m_less q
        go_wp2_with fail
        refine hL1.mono ?_
        rintro e w4 ⟨rfl, hQ1⟩
        clear hL1 ml1
        by_cases hm : keys l' (c + 1) < keys l' c
        · have hm2 := decide_eq_true hm
          have HMIN : Hid (∀ k, 0 < k → k < n → (k - 1) / 2 = i → keys l' (c + 1) ≤ keys l' k) := Lib.hid (fun k k0 k1 k2 => by
            have h5 := HP.out
            have : k = c ∨ k = c + 1 := by omega
            rcases this with rfl | rfl <;> omega)
          clear hm
          clear w1 w2 w3
          have hL := hQ1.less hy hyo hB hq ha (2 * (i : Int) + 1 + 1) i (c + 1) i (by omega) rfl (by omega) (by omega)
          have hS := fun w' (hw : QP base q y l w w' l') => hw.swap hB hq i (2 * (i : Int) + 1 + 1) i (c + 1) rfl (by omega) (by omega) (by omega)
          have ms := m_swap q
          have ml := m_less q
          go_wp2_with fail
          refine hL.mono ?_
          rintro e w5 ⟨rfl, hQ5⟩
          clear hL
          by_cases hlt : keys l' (c + 1) < keys l' i
          · have hlt2 := decide_eq_true hlt
            have HLT := Lib.hid hlt
            clear hlt
            go_wp2_with fail
            refine (hS _ hQ5).mono ?_
            clear hS
            rintro e w6 ⟨rfl, hQ6⟩
            clear hlt2
            go_wp2_with fail
            go_round
            case rel =>
              have hl' := hQ5.1.length_eq
              have e1 := HP.out
              refine ⟨(c + 1), qsw l' i (c + 1), by omega, by go_num, ⟨hQ6, fun k hk => (qsw_out (n := n) (by omega) (by omega) k hk).trans (hO k hk)⟩, ?_⟩
              rw [keys_qsw (by omega) (by omega)]
              exact HD.out.step (by omega) (by omega) (by omega) HLT.out HMIN.out
            case measure => have := HP.out; simp [intOf]; omega
          · have hlt2 := decide_eq_false hlt
            have HLT := Lib.hid hlt
            clear hlt
            go_wp2_with fail
            go_ret
            refine ⟨⟨_, rfl⟩, l', ⟨hQ5, hO⟩, HD.out.done fun k k0 k1 k2 => ?_⟩
            have h3 := HMIN.out k k0 k1 k2
            have h4 := HLT.out
            omega
        · have hm2 := decide_eq_false hm
          have HMIN : Hid (∀ k, 0 < k → k < n → (k - 1) / 2 = i → keys l' c ≤ keys l' k) := Lib.hid (fun k k0 k1 k2 => by
            have h5 := HP.out
            have : k = c ∨ k = c + 1 := by omega
            rcases this with rfl | rfl <;> omega)
          clear hm
          clear w1 w2 w3
          have hL := hQ1.less hy hyo hB hq ha (2 * (i : Int) + 1) i c i (by omega) rfl (by omega) (by omega)
          have hS := fun w' (hw : QP base q y l w w' l') => hw.swap hB hq i (2 * (i : Int) + 1) i c rfl (by omega) (by omega) (by omega)
          have ms := m_swap q
          have ml := m_less q
          go_wp2_with fail
          refine hL.mono ?_
          rintro e w5 ⟨rfl, hQ5⟩
          clear hL
          by_cases hlt : keys l' c < keys l' i
          · have hlt2 := decide_eq_true hlt
            have HLT := Lib.hid hlt
            clear hlt
            go_wp2_with fail
            refine (hS _ hQ5).mono ?_
            clear hS
            rintro e w6 ⟨rfl, hQ6⟩
            clear hlt2
            go_wp2_with fail
            go_round
            case rel =>
              have hl' := hQ5.1.length_eq
              have e1 := HP.out
              refine ⟨c, qsw l' i c, by omega, by go_num, ⟨hQ6, fun k hk => (qsw_out (n := n) (by omega) (by omega) k hk).trans (hO k hk)⟩, ?_⟩
              rw [keys_qsw (by omega) (by omega)]
              exact HD.out.step (by omega) (by omega) (by omega) HLT.out HMIN.out
            case measure => have := HP.out; simp [intOf]; omega
          · have hlt2 := decide_eq_false hlt
            have HLT := Lib.hid hlt
            clear hlt
            go_wp2_with fail
            go_ret
            refine ⟨⟨_, rfl⟩, l', ⟨hQ5, hO⟩, HD.out.done fun k k0 k1 k2 => ?_⟩
            have h3 := HMIN.out k k0 k1 k2
            have h4 := HLT.out
            omega
      · have g3 : decide (2 * (i : Int) + 1 + 1 < (n : Int)) = false := decide_eq_false (by omega)
        have HMIN : Hid (∀ k, 0 < k → k < n → (k - 1) / 2 = i → keys l' c ≤ keys l' k) := Lib.hid (fun k k0 k1 k2 => by
          have : k = c := by omega
          subst this
          exact Int.le_refl _)
        have w1 : IntKind.i64.wrap (2 * (i : Int)) = 2 * (i : Int) := IntWalk.i64_in _ (by omega)
        have w2 : IntKind.i64.wrap (2 * (i : Int) + 1) = 2 * (i : Int) + 1 := IntWalk.i64_in _ (by omega)
        have w3 : IntKind.i64.wrap (2 * (i : Int) + 1 + 1) = 2 * (i : Int) + 1 + 1 := IntWalk.i64_in _ (by omega)
        clear w1 w2 w3
        have hL := hQ.less hy hyo hB hq ha (2 * (i : Int) + 1) i c i (by omega) rfl (by omega) (by omega)
        have hS := fun w' (hw : QP base q y l w w' l') => hw.swap hB hq i (2 * (i : Int) + 1) i c rfl (by omega) (by omega) (by omega)
        have ms := m_swap q
        have ml := m_less q
        go_wp2_with fail
        refine hL.mono ?_
        rintro e w5 ⟨rfl, hQ5⟩
        clear hL
        by_cases hlt : keys l' c < keys l' i
        · have hlt2 := decide_eq_true hlt
          have HLT := Lib.hid hlt
          clear hlt
          go_wp2_with fail
          refine (hS _ hQ5).mono ?_
          clear hS
          rintro e w6 ⟨rfl, hQ6⟩
          clear hlt2
          go_wp2_with fail
          go_round
          case rel =>
            have hl' := hQ5.1.length_eq
            have e1 := HP.out
            refine ⟨c, qsw l' i c, by omega, by go_num, ⟨hQ6, fun k hk => (qsw_out (n := n) (by omega) (by omega) k hk).trans (hO k hk)⟩, ?_⟩
            rw [keys_qsw (by omega) (by omega)]
            exact HD.out.step (by omega) (by omega) (by omega) HLT.out HMIN.out
          case measure => have := HP.out; simp [intOf]; omega
        · have hlt2 := decide_eq_false hlt
          have HLT := Lib.hid hlt
          clear hlt
          go_wp2_with fail
          go_ret
          refine ⟨⟨_, rfl⟩, l', ⟨hQ5, hO⟩, HD.out.done fun k k0 k1 k2 => ?_⟩
          have h3 := HMIN.out k k0 k1 k2
          have h4 := HLT.out
          omega
end Go.Proofs.YtokofimfinhnbaaDoor
set_option linter.unusedVariables false
set_option linter.unusedSimpArgs false
namespace Go.Proofs.YtokofimfinhnbaaDoor
open Go.RowKit Go.Fl Go.Sl Go.Ch Go.Fr Go.Mb Go.Hp
theorem keys_left {l m : List QE} {i : Nat} (h : i < l.length) : keys (l ++ m) i = keys l i := by
  unfold keys
  rw [List.getElem?_append_left h]
theorem heap_left {l m : List QE} (h : HpI (keys l) l.length) : HpI (keys (l ++ m)) l.length := fun i h0 hi => by
  rw [keys_left hi, keys_left (by omega)]
  exact h i h0 hi
/-- the queue as a heap -/
def HQ (w : World) (base q : Nat) (l : List QE) (y : B4) : Prop := QAt w base q l y ∧ HpI (keys l) l.length
set_option maxRecDepth 100000 in
set_option maxHeartbeats 1000000 in
theorem hpush_ (base q : Nat) (e : QE) (l : List QE) (y : B4) (yq : Q4) (w : World) (h : HQ w base q l y) (hy : ZB y yq) (hyo : yq.ok) (hB : base ≤ w.heap.size) (hq : base ≤ q) (ha : ∀ x ∈ l ++ [e], x.At w base yq) (hl : l.length < 1000000) :
    Calls Tryd.prog 31 #[.iface 91 (.pointer (some ⟨q, 0, none⟩)), .iface 92 e.ptr] w (fun e' w' => e' = .returned (.tuple #[]) ∧ ∃ l', l'.Perm (l ++ [e]) ∧ HQ w' base q l' y ∧ Kq base q w w') := by
  obtain ⟨hQ, hH⟩ := h
  have hp := qpush_ base q e l y w hQ hB hq hl
  have hU : UpI (keys (l ++ [e])) (l.length + 1) l.length := UpI.start (heap_left hH)
  have hlen : (l ++ [e]).length = l.length + 1 := by simp
  have mp := m_push q
  have mn := m_len q
  simp only [QE.ptr] at hp ⊢
  go_enter Tryd.func31, Tryd.ntmps31
  go_wp2_with fail
  refine hp.mono ?_
  rintro e' w2 ⟨rfl, hQ2, hk2⟩
  clear hp
  have hB2 := Nat.le_trans hB hk2.ch.size
  have hn := qlen_ base q (l ++ [e]) y w2 hQ2
  rw [hlen] at hn
  have hup := up_ base q l.length (l ++ [e]) y yq w2 hQ2 hy hyo hB2 hq (fun x hx => (ha x hx).below hk2.bel) (by omega) (by omega) (by rw [hlen]; exact hU)
  go_wp2_with fail
  refine hn.mono ?_
  rintro e' w3 ⟨rfl, rfl⟩
  clear hn
  go_wp2_with fail
  refine hup.mono ?_
  rintro e' w4 ⟨rfl, l', ⟨h1, h2, h3⟩, h4⟩
  clear hup
  go_wp2_with fail
  go_end0
  exact ⟨rfl, l', h1, ⟨h2, h4⟩, hk2.trans h3⟩
end Go.Proofs.YtokofimfinhnbaaDoor
