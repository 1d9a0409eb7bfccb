/-
  An argument that is a shape opened, with its bulk. No condition.
-/
import Derived.Test.YtbakhldjfplbfaaGreatV13
import Derived.Test.YtbakhldjfplbfaaGreatOpSz0
import Derived.Test.YtbakhldjfplbfaaGreatRows
set_option linter.unusedVariables false
set_option linter.unusedSimpArgs false
namespace Go.Proofs.YtbakhldjfplbfaaGreat
open Go.ChangeShapes Go.WideShapes Go.ChangeAt Go.Op2 Go.RowKit Go.Sl
theorem bulk_one {H : Type} (d : DataW H) : 1 ≤ Rows.uptoBulk d := by
  cases d with
  | lit l => cases l <;> simp [Rows.uptoBulk]
  | _ => simp [Rows.uptoBulk]
theorem bulk_len {H : Type} (l : List (DataW H)) : l.length ≤ Rows.uptoBulkAll l := by
  induction l with
  | nil => simp [Rows.uptoBulkAll]
  | cons x r ih => have := bulk_one x; simp only [Rows.uptoBulkAll, List.length_cons]; omega
theorem totals_bulk {H : Type} : ∀ (q : List ST) (l : List (DataW H)), q.length = l.length → (∀ i (h1 : i < q.length) (h2 : i < l.length), q[i].total ≤ Rows.uptoBulk l[i]) → ST.totals q ≤ Rows.uptoBulkAll l
  | [], l, _, _ => by simp [ST.totals]
  | a :: q, [], h, _ => by simp at h
  | a :: q, d :: l, h, hi => by
    have h0 := hi 0 (by simp) (by simp)
    have := totals_bulk q l (by simpa using h) (fun i h1 h2 => by have := hi (i + 1) (by simp; omega) (by simp; omega); simpa using this)
    simp only [List.getElem_cons_zero] at h0
    simp only [ST.totals, Rows.uptoBulkAll]
    omega
theorem cShape : Tryz.prog.cellsOf 34 = 3 := by kernel_rfl
theorem cPt : Tryz.prog.cellsOf 44 = 2 := by kernel_rfl
theorem cPts : Tryz.prog.cellsOf 31 = 1 := by kernel_rfl
theorem cShapes : Tryz.prog.cellsOf 32 = 1 := by kernel_rfl
theorem list2 {l : List Value} (h : l.length = 2) : ∃ a b, l = [a, b] := by
  match l, h with
  | [a, b], _ => exact ⟨a, b, rfl⟩
theorem list3 {l : List Value} (h : l.length = 3) : ∃ a b c, l = [a, b, c] := by
  match l, h with
  | [a, b, c], _ => exact ⟨a, b, c, rfl⟩
theorem open_pts {H : Type} {enc : TypeId × Value → H} {W : World} {b2 : Nat} {sp : Nat → Bool} {hd : Bool} {fuel : Nat} {cs : List Value} {x : DataW H × List MemPlace}
    (h : DataW.trod enc Tryz.prog W b2 sp hd fuel 31 cs = some x) : ∃ a n cap, cs = [.slice a n cap] ∧ (∃ l : List (Int × Int), l.length = n ∧ Sz W a n cap 2 (l.flatMap ptCells)) ∧ n ≤ Rows.uptoBulk x.1 := by
  obtain ⟨a, n, cap, rfl, xs, hS, hn, m, _, es, hle, hxe, hm⟩ := trod_rowsS (by decide) Tryz.underlying31 cPt h
  refine ⟨a, n, cap, rfl, ?_, ?_⟩
  · obtain ⟨l, h1, h2⟩ := chunks (α := Int × Int) ptCells 2 (fun _ => rfl) n xs hS.len (fun i hi => by
      obtain ⟨y, _, hy⟩ := hm i hi
      obtain ⟨hl, m2, hm2, hf⟩ := trod_structF Tryz.underlying44 cPt hy
      obtain ⟨c0, c1, e⟩ := list2 hl
      rw [e] at hf
      obtain ⟨y0, g0⟩ := hf 0 _ rfl
      obtain ⟨y1, g1⟩ := hf 1 _ rfl
      simp [cInt] at g0 g1
      obtain ⟨p, e0, _⟩ := trod_int' Tryz.underlying3 g0
      obtain ⟨q, e1, _⟩ := trod_int' Tryz.underlying3 g1
      injection e0 with e0
      injection e1 with e1
      subst e0 e1
      exact ⟨(p, q), e⟩)
    rw [h2] at hS
    exact ⟨l, h1, hS⟩
  · rcases hxe with rfl | ⟨rest, hx⟩
    · omega
    · rw [hx]
      have := bulk_len (es.map (·.1))
      simp only [Rows.uptoBulk]
      rw [List.length_map] at this
      omega
theorem open_shape {H : Type} {enc : TypeId × Value → H} {W : World} {b2 : Nat} {sp : Nat → Bool} {hd : Bool} : ∀ (fuel : Nat) {cs : List Value} {x : DataW H × List MemPlace},
    DataW.trod enc Tryz.prog W b2 sp hd fuel 34 cs = some x → ∃ t : ST, cs = t.cells ∧ t.At W ∧ t.total ≤ Rows.uptoBulk x.1 := by
  intro fuel
  induction fuel using Nat.strongRecOn with
  | _ fuel ih =>
  intro cs x h
  obtain ⟨ys, m, hm, hxe, hl2, hlen, hx⟩ := DataW.trod_struct Tryz.underlying34 h
  have hl : cs.length = 3 := by rw [hl2]; exact cShape
  obtain ⟨c0, c1, c2, rfl⟩ := list3 hl
  have hy3 : ys.length = 3 := hlen
  match ys, hy3 with
  | [y0, y1, y2], _ =>
  have g0 := hx 0 _ rfl
  have g1 := hx 1 _ rfl
  have g2 := hx 2 _ rfl
  simp [cInt] at g0
  simp [cPts] at g1
  simp [cShapes] at g2
  obtain ⟨kind, e0, _⟩ := trod_int' Tryz.underlying3 g0
  obtain ⟨pa, pn, pc, e1, ⟨pts, hn, hN⟩, hb1⟩ := open_pts g1
  obtain ⟨ka, kn, kc, e2, xs, hS, _, m', hm', es, hle, hxe2, hk⟩ := trod_rowsS (by decide) Tryz.underlying32 cShape g2
  obtain ⟨q, hq1, hq2⟩ := choose_list (p := fun (i : Nat) (t : ST) => (xs.drop (i * 3)).take 3 = t.cells ∧ t.At W ∧ ∀ (h : i < es.length), t.total ≤ Rows.uptoBulk es[i].1) (List.range kn) (fun i hi => by
    obtain ⟨y, hy0, hy⟩ := hk i (by simpa using hi)
    obtain ⟨t, t1, t2, t3⟩ := ih m' (by omega) hy
    refine ⟨t, t1, t2, fun h => ?_⟩
    rw [List.getElem?_eq_getElem h] at hy0
    cases hy0
    exact t3)
  simp at hq1
  have hxx : xs = q.flatMap ST.cells := by
    refine chunks_eq ST.cells 3 kn xs q hq1 hS.len (fun i hi => ?_)
    have := (hq2 i (by simp; omega) (by omega)).1
    simpa using this
  injection e0 with e0; injection e1 with e1; injection e2 with e2
  subst e0 e1 e2
  refine ⟨.node ⟨kind, pa, pn, pc, ka, kn, kc⟩ pts q, rfl, .mk _ _ _ hn hq1 hN (by rw [← hxx]; exact hS) (fun t ht => ?_), ?_⟩
  · obtain ⟨j, hj, rfl⟩ := List.getElem_of_mem ht
    exact (hq2 j (by simpa [hq1] using hj) hj).2.1
  · have hb2 : ST.totals q ≤ Rows.uptoBulk y2.1 := by
      rcases hxe2 with rfl | ⟨rest, hx2⟩
      · have : q = [] := List.eq_nil_of_length_eq_zero hq1
        subst this
        simp [ST.totals]
      · have := totals_bulk q (es.map (·.1)) (by rw [List.length_map]; omega) (fun i h1 h2 => by
          rw [List.getElem_map]
          have := (hq2 i (by simpa [hq1] using h1) h1).2.2 (by simpa using h2)
          simpa using this)
        rw [hx2]
        simp only [Rows.uptoBulk]
        omega
    rw [hxe]
    simp only [ST.total, List.map_cons, List.map_nil, Rows.uptoBulk, Rows.uptoBulkAll]
    omega
set_option maxRecDepth 100000 in
theorem open_shapeV {H : Type} {enc : TypeId × Value → H} {W : World} {base b2 : Nat} {sp : Nat → Bool} {hd : Bool} {r : Reach} {v : Value} {d : DataW H} {p : List MemPlace}
    (o : Value.okWide Tryz.prog W r base 34 v) (h : DataW.Trod enc Tryz.prog W b2 sp hd 34 v d p) : ∃ t : ST, v = t.hd.val ∧ t.At W ∧ t.total ≤ Rows.uptoBulk d := by
  obtain ⟨cs, rfl, _⟩ := okWide_struct Tryz.underlying34 o
  obtain ⟨fuel, hf⟩ := h
  obtain ⟨t, ht, hA, hR⟩ := open_shape fuel hf
  refine ⟨t, ?_, hA, hR⟩
  obtain ⟨⟨kind, pa, pn, pc, ka, kn, kc⟩, pts, kids⟩ := t
  simp only [Value.cells, ST.cells, ST.hd, Sm.cells, Sm.val] at ht ⊢
  cases cs
  simp at ht
  rw [ht]
namespace fnHullPlaces
set_option maxRecDepth 100000 in
theorem walkT {H : Type} (enc : TypeId × Value → H) (W : World) (base : Nat) {v0 : Value} {d0 : DataW H} {p0 : List MemPlace}
    (o0 : Value.okWide Tryz.prog W .any base 34 v0) (h0 : DataW.Trod enc Tryz.prog W 0 (fun _ => true) true 34 v0 d0 p0) (hk : Rows.uptoSmall H [d0] = true) :
    Calls Tryz.prog 4 #[v0] W (LawPost W) := by
  obtain ⟨t, rfl, hA, hR⟩ := open_shapeV o0 h0
  have h : Rows.uptoBulkAll [d0] ≤ 1048576 := of_decide_eq_true hk
  simp only [Rows.uptoBulkAll] at h
  exact hullLaw_ t W hA (by omega)
end fnHullPlaces
end Go.Proofs.YtbakhldjfplbfaaGreat
