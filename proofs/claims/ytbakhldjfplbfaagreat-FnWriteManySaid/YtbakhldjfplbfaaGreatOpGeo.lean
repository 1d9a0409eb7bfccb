/-
  An argument of geometries opened. No condition.
-/
import Derived.Test.YtbakhldjfplbfaaGreatGeo
import Derived.Test.YtbakhldjfplbfaaGreatOpRows2
import Derived.ProofKit
import Derived.OpenShut
set_option linter.unusedVariables false
set_option linter.unusedSimpArgs false
namespace Go.Proofs.YtbakhldjfplbfaaGreat
open Go.ChangeShapes Go.WideShapes Go.ChangeAt Go.Op2 Go.RowKit Go.Sl
theorem cGeom : Tryz.prog.cellsOf 25 = 4 := by kernel_rfl
theorem cInt : Tryz.prog.cellsOf 3 = 1 := by kernel_rfl
theorem cFloat : Tryz.prog.cellsOf 45 = 1 := by kernel_rfl
theorem cFloats : Tryz.prog.cellsOf 22 = 1 := by kernel_rfl
theorem cGeoms : Tryz.prog.cellsOf 23 = 1 := by kernel_rfl
theorem choose_list {α β : Type} {p : α → β → Prop} : ∀ (l : List α), (∀ a ∈ l, ∃ b, p a b) → ∃ m : List β, m.length = l.length ∧ ∀ (i : Nat) (h : i < l.length) (h' : i < m.length), p l[i] m[i]
  | [], _ => ⟨[], rfl, fun i h _ => by simp at h⟩
  | a :: l, h => by
    obtain ⟨b, hb⟩ := h a (by simp)
    obtain ⟨m, h1, h2⟩ := choose_list l (fun x hx => h x (by simp [hx]))
    exact ⟨b :: m, by simp [h1], fun i h h' => by
      cases i with
      | zero => exact hb
      | succ i => exact h2 i (by simpa using h) (by simpa using h')⟩
theorem chunks_eq {α : Type} (f : α → List Value) (k : Nat) : ∀ (n : Nat) (xs : List Value) (q : List α) (hq : q.length = n), xs.length = n * k → (∀ i (h : i < n), (xs.drop (i * k)).take k = f (q[i]'(by omega))) → xs = q.flatMap f
  | 0, xs, q, hq, hl, _ => by
    have h1 : xs.length = 0 := by rw [hl]; simp
    rw [List.length_eq_zero_iff.1 h1, List.length_eq_zero_iff.1 hq]; rfl
  | n + 1, xs, a :: q, hq, hl, h => by
    have h0 := h 0 (by omega)
    simp at h0
    have := chunks_eq f k n (xs.drop k) q (by simpa using hq) (by rw [List.length_drop, hl, Nat.add_mul]; omega) (fun i hi => by
      have := h (i + 1) (by omega)
      rw [List.drop_drop, show k + i * k = (i + 1) * k by rw [Nat.add_mul]; omega, this]
      rfl)
    rw [List.flatMap_cons, ← h0, ← this, List.take_append_drop]
theorem open_floats {H : Type} {enc : TypeId × Value → H} {W : World} {b2 : Nat} {sp : Nat → Bool} {hd : Bool} {fuel : Nat} {cs : List Value} {x : DataW H × List MemPlace}
    (h : DataW.trod enc Tryz.prog W b2 sp hd fuel 22 cs = some x) : ∃ a n cap, cs = [.slice a n cap] ∧ (a = none → cap = 0) ∧ ∃ l : List Nat, l.length = n ∧ Sz W a n cap 1 (encN l) := by
  obtain ⟨a, n, cap, rfl, xs, hS, hn, m, _, hm⟩ := trod_rows (by decide) Tryz.underlying22 cFloat h
  obtain ⟨l, h1, h2⟩ := chunks (α := Nat) (fun p => [.float .f64 p]) 1 (fun _ => rfl) n xs hS.len (fun i hi => by
    obtain ⟨y, hy⟩ := hm i hi
    obtain ⟨b, e, _⟩ := trod_float Tryz.underlying45 hy
    exact ⟨b, e⟩)
  refine ⟨a, n, cap, rfl, hn, l, h1, ?_⟩
  rw [h2] at hS
  have : l.flatMap (fun p => [Value.float .f64 p]) = encN l := by
    unfold encN; clear h1 h2 hS
    induction l with
    | nil => rfl
    | cons a l ih => simp [List.flatMap_cons, ih]
  rw [this] at hS
  exact hS
theorem open_geom {H : Type} {enc : TypeId × Value → H} {W : World} {b2 : Nat} {sp : Nat → Bool} {hd : Bool} : ∀ (fuel : Nat) {cs : List Value} {x : DataW H × List MemPlace},
    DataW.trod enc Tryz.prog W b2 sp hd fuel 25 cs = some x → ∃ t : GT, cs = t.cells ∧ t.At W := by
  intro fuel
  induction fuel using Nat.strongRecOn with
  | _ fuel ih =>
  intro cs x h
  obtain ⟨hl, m, hm, hf⟩ := trod_structF Tryz.underlying25 cGeom h
  obtain ⟨c0, c1, c2, c3, rfl⟩ := list4 hl
  obtain ⟨y0, g0⟩ := hf 0 _ rfl
  obtain ⟨y1, g1⟩ := hf 1 _ rfl
  obtain ⟨y2, g2⟩ := hf 2 _ rfl
  obtain ⟨y3, g3⟩ := hf 3 _ rfl
  simp [cInt] at g0 g1
  simp [cFloats] at g2
  simp [cGeoms] at g3
  obtain ⟨kind, e0, _⟩ := trod_int' Tryz.underlying3 g0
  obtain ⟨dim, e1, _⟩ := trod_int' Tryz.underlying3 g1
  obtain ⟨na, nn, nc, e2, _, nums, hn, hN⟩ := open_floats g2
  obtain ⟨ka, kn, kc, e3, xs, hS, _, m', hm', hk⟩ := trod_rows (by decide) Tryz.underlying23 cGeom g3
  obtain ⟨q, hq1, hq2⟩ := choose_list (p := fun (i : Nat) (t : GT) => (xs.drop (i * 4)).take 4 = t.cells ∧ t.At W) (List.range kn) (fun i hi => by
    obtain ⟨y, hy⟩ := hk i (by simpa using hi)
    exact ih m' (by omega) hy)
  simp at hq1
  have hx : xs = q.flatMap GT.cells := by
    refine chunks_eq GT.cells 4 kn xs q hq1 hS.len (fun i hi => ?_)
    have := (hq2 i (by simp; omega) (by omega)).1
    simpa using this
  injection e0 with e0; injection e1 with e1; injection e2 with e2; injection e3 with e3
  subst e0 e1 e2 e3
  refine ⟨.node ⟨kind, dim, na, nn, nc, ka, kn, kc⟩ nums q, rfl, .mk _ _ _ hn hq1 hN (by rw [← hx]; exact hS) (fun t ht => ?_)⟩
  obtain ⟨j, hj, rfl⟩ := List.getElem_of_mem ht
  have := (hq2 j (by simpa [hq1] using hj) hj).2
  exact this
set_option maxRecDepth 100000 in
theorem open_geoms {H : Type} {enc : TypeId × Value → H} {W : World} {base b2 : Nat} {sp : Nat → Bool} {hd : Bool} {r : Reach} {v : Value} {d : DataW H} {p : List MemPlace}
    (o : Value.okWide Tryz.prog W r base 23 v) (h : DataW.Trod enc Tryz.prog W b2 sp hd 23 v d p) :
    ∃ a n cap, v = .slice a n cap ∧ ∃ ts : List GT, ts.length = n ∧ Sz W a n cap 4 (ts.flatMap GT.cells) ∧ ∀ t ∈ ts, t.At W := by
  obtain ⟨a, n, cap, rfl⟩ := okWide_slice Tryz.underlying23 o
  obtain ⟨fuel, hf⟩ := h
  obtain ⟨a', n', cap', h1, xs, hS, _, m, _, hk⟩ := trod_rows (by decide) Tryz.underlying23 cGeom hf
  simp [Value.cells] at h1
  obtain ⟨rfl, rfl, rfl⟩ := h1
  obtain ⟨q, hq1, hq2⟩ := choose_list (p := fun (i : Nat) (t : GT) => (xs.drop (i * 4)).take 4 = t.cells ∧ t.At W) (List.range n) (fun i hi => by
    obtain ⟨y, hy⟩ := hk i (by simpa using hi)
    exact open_geom m hy)
  simp at hq1
  have hx : xs = q.flatMap GT.cells := by
    refine chunks_eq GT.cells 4 n xs q hq1 hS.len (fun i hi => ?_)
    have := (hq2 i (by simp; omega) (by omega)).1
    simpa using this
  refine ⟨a, n, cap, rfl, q, hq1, by rw [← hx]; exact hS, fun t ht => ?_⟩
  obtain ⟨j, hj, rfl⟩ := List.getElem_of_mem ht
  exact (hq2 j (by simpa [hq1] using hj) hj).2
end Go.Proofs.YtbakhldjfplbfaaGreat
