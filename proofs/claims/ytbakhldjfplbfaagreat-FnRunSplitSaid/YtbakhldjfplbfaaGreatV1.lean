/-
  Shapes: what the law's small functions tell of them. No condition.
-/
import Derived.Test.YtbakhldjfplbfaaGreatHb
set_option linter.unusedVariables false
set_option linter.unusedSimpArgs false
namespace Go.Proofs.YtbakhldjfplbfaaGreat
open Go.RowKit Go.Fl Go.Sl Go.Pg Go.Ch Go.Kf
structure Sm where
  kind : Int
  pa : Option Addr
  pn : Nat
  pc : Nat
  ka : Option Addr
  kn : Nat
  kc : Nat
def Sm.cells (g : Sm) : List Value := [.int .i64 g.kind, .slice g.pa g.pn g.pc, .slice g.ka g.kn g.kc]
def Sm.val (g : Sm) : Value := .agg #[.int .i64 g.kind, .slice g.pa g.pn g.pc, .slice g.ka g.kn g.kc]
inductive ST where
  | node (hd : Sm) (pts : List (Int × Int)) (kids : List ST)
def ST.hd : ST → Sm | .node h _ _ => h
def ST.pts : ST → List (Int × Int) | .node _ p _ => p
def ST.kids : ST → List ST | .node _ _ k => k
def ST.cells (t : ST) : List Value := t.hd.cells
theorem ST.cells_len (t : ST) : t.cells.length = 3 := rfl
def ptCells (p : Int × Int) : List Value := [.int .i64 p.1, .int .i64 p.2]
theorem ptCells_len (p : Int × Int) : (ptCells p).length = 2 := rfl
theorem ST.ind {P : ST → Prop} (h : ∀ g pts kids, (∀ c ∈ kids, P c) → P (.node g pts kids)) : ∀ p, P p := by
  intro p
  refine ST.rec (motive_1 := P) (motive_2 := fun l => ∀ c ∈ l, P c) ?_ ?_ ?_ p
  · exact fun g pts kids ih => h g pts kids ih
  · exact fun c hc => by simp at hc
  · intro a l ha hl c hc
    rcases List.mem_cons.1 hc with rfl | hc
    · exact ha
    · exact hl c hc
inductive ST.At (w : World) : ST → Prop where
  | mk (h : Sm) (pts : List (Int × Int)) (kids : List ST) (hn : pts.length = h.pn) (hk : kids.length = h.kn) (h1 : Sz w h.pa h.pn h.pc 2 (pts.flatMap ptCells)) (h2 : Sz w h.ka h.kn h.kc 3 (kids.flatMap ST.cells)) (h3 : ∀ t ∈ kids, ST.At w t) : ST.At w (.node h pts kids)
theorem ST.At.keep {w w' : World} (hk : Stab.Keeps w w') {t : ST} (h : ST.At w t) : ST.At w' t := by
  induction h with
  | mk h nums kids hn hk' h1 h2 _ ih => exact .mk h nums kids hn hk' (h1.keep hk) (h2.keep hk) ih
theorem skid_cells {w : World} {b off k kn : Nat} {kids : List ST} (hk : k < kids.length) (hc : ∀ (j : Nat) (v : Value), j < 3 → (kids.flatMap ST.cells)[k * 3 + j]? = some v → w.cell? ⟨b, off + k * 3 + j, none⟩ = some v) :
    w.cell? ⟨b, off + k * 3, none⟩ = some (.int .i64 kids[k].hd.kind) ∧ w.cell? ⟨b, off + k * 3 + 1, none⟩ = some (.slice kids[k].hd.pa kids[k].hd.pn kids[k].hd.pc) ∧ w.cell? ⟨b, off + k * 3 + 2, none⟩ = some (.slice kids[k].hd.ka kids[k].hd.kn kids[k].hd.kc) :=
  ⟨hc 0 _ (by omega) (by rw [flat_get ST.cells 3 ST.cells_len kids k 0 hk (by omega)]; rfl), hc 1 _ (by omega) (by rw [flat_get ST.cells 3 ST.cells_len kids k 1 hk (by omega)]; rfl), hc 2 _ (by omega) (by rw [flat_get ST.cells 3 ST.cells_len kids k 2 hk (by omega)]; rfl)⟩
theorem pt_cells {w : World} {b off k : Nat} {pts : List (Int × Int)} (hk : k < pts.length) (hc : ∀ (j : Nat) (v : Value), j < 2 → (pts.flatMap ptCells)[k * 2 + j]? = some v → w.cell? ⟨b, off + k * 2 + j, none⟩ = some v) :
    w.cell? ⟨b, off + k * 2, none⟩ = some (.int .i64 pts[k].1) ∧ w.cell? ⟨b, off + k * 2 + 1, none⟩ = some (.int .i64 pts[k].2) :=
  ⟨hc 0 _ (by omega) (by rw [flat_get ptCells 2 ptCells_len pts k 0 hk (by omega)]; rfl), hc 1 _ (by omega) (by rw [flat_get ptCells 2 ptCells_len pts k 1 hk (by omega)]; rfl)⟩
mutual
/-- how many places and parts -/
def ST.total : ST → Nat
  | .node _ pts kids => 1 + pts.length + ST.totals kids
def ST.totals : List ST → Nat
  | [] => 0
  | t :: r => t.total + ST.totals r
end
theorem stotals_snoc (l : List ST) (t : ST) : ST.totals (l ++ [t]) = ST.totals l + t.total := by
  induction l with
  | nil => simp [ST.totals]
  | cons a l ih => simp only [List.cons_append, ST.totals, ih]; omega
theorem stotals_take (l : List ST) (k : Nat) (hk : k < l.length) : ST.totals (l.take k) + l[k].total ≤ ST.totals l := by
  induction l generalizing k with
  | nil => simp at hk
  | cons a l ih =>
    cases k with
    | zero => simp [ST.totals]
    | succ k =>
      have := ih k (by simpa using hk)
      simp only [List.take_succ_cons, ST.totals, List.getElem_cons_succ]
      omega
theorem stotals_mem {l : List ST} {t : ST} (h : t ∈ l) : t.total ≤ ST.totals l := by
  induction l with
  | nil => simp at h
  | cons a l ih =>
    simp only [ST.totals]
    rcases List.mem_cons.1 h with rfl | h
    · omega
    · have := ih h; omega
theorem stotals_len (l : List ST) : l.length ≤ ST.totals l := by
  induction l with
  | nil => simp [ST.totals]
  | cons a l ih =>
    have : 1 ≤ a.total := by cases a; simp only [ST.total]; omega
    simp only [ST.totals, List.length_cons]; omega
set_option maxRecDepth 100000 in
theorem fits1_ (t : ST) (w : World) : Calls Tryz.prog 15 #[t.hd.val] w (Tells w True) := by
  obtain ⟨⟨kind, pa, pn, pc, ka, kn, kc⟩, pts, kids⟩ := t
  simp only [ST.hd, Sm.val]
  by_cases h1 : (2147483647 : Int) < pn
  · go_enter Tryz.func15, Tryz.ntmps15
    go_wp2_with fail
    go_ret
    refine ⟨⟨false, rfl, fun _ => trivial⟩, ?_⟩
    with_reducible (repeat (first | exact Kx.r _ | assumption | refine Kx.a ?_ _ | refine Kx.d ?_ | refine Kx.e ?_ _ | (refine Kx.s ?_ ?_ _; focus (first | (simp; done) | (simp; omega))) | refine Kx.t ?_ (by assumption)))
  by_cases h2 : (2147483647 : Int) < kn
  · go_enter Tryz.func15, Tryz.ntmps15
    go_wp2_with fail
    go_ret
    refine ⟨⟨false, rfl, fun _ => trivial⟩, ?_⟩
    with_reducible (repeat (first | exact Kx.r _ | assumption | refine Kx.a ?_ _ | refine Kx.d ?_ | refine Kx.e ?_ _ | (refine Kx.s ?_ ?_ _; focus (first | (simp; done) | (simp; omega))) | refine Kx.t ?_ (by assumption)))
  · go_enter Tryz.func15, Tryz.ntmps15
    go_wp2_with fail
    go_ret
    refine ⟨⟨true, rfl, fun _ => trivial⟩, ?_⟩
    with_reducible (repeat (first | exact Kx.r _ | assumption | refine Kx.a ?_ _ | refine Kx.d ?_ | refine Kx.e ?_ _ | (refine Kx.s ?_ ?_ _; focus (first | (simp; done) | (simp; omega))) | refine Kx.t ?_ (by assumption)))
/-- a size as told -/
def Sizes (w : World) (t : ST) (e : Ending) (w' : World) : Prop := (∃ v : Nat, e = .returned (.int .i64 v) ∧ v ≤ t.total + 1048576 * t.total ∧ (v ≤ 1000 → v = t.total)) ∧ Stab.Keeps w w'
set_option maxRecDepth 100000 in
set_option maxHeartbeats 2000000 in
theorem sizeBelow_ (w0 : World) (t : ST) (h : ST.At w0 t) : ∀ (m : Int) (w : World), -1 ≤ m → m ≤ 100 → t.total ≤ 1048576 → Stab.Keeps w0 w → Calls Tryz.prog 48 #[t.hd.val, .int .i64 m] w (Sizes w t) := by
  induction h with
  | mk hd pts kids hn hkn h1 h2 h3 ih =>
  intro m w hm0 hm1 hT hK0
  have s2 := h2.keep hK0
  have hle1 := h1.le
  have hmx1 := h1.max
  clear h1 h2 h3
  obtain ⟨kind, pa, pn, pc, ka, kn, kc⟩ := hd
  simp only at hn hkn s2 hle1 hmx1
  have hle2 := s2.le
  have hm2 := s2.max
  unfold maxLen at hm2 hmx1
  simp only [ST.hd, Sm.val]
  unfold Sizes
  simp only [ST.total] at hT ⊢
  have HN := Lib.hid hn
  have hTk : ST.totals kids ≤ 1048575 := by omega
  have hpn : pn ≤ 1048575 := by omega
  have HT := Lib.hid hT
  clear hT hn
  by_cases hneg : m < 0
  · have hd : decide (m < 0) = true := by simpa using hneg
    go_enter Tryz.func48, Tryz.ntmps48
    go_wp2
    go_ret
    refine ⟨⟨1048576, rfl, by omega, fun h => by omega⟩, ?_⟩
    with_reducible (repeat (first | exact Kx.r _ | assumption | refine Kx.a ?_ _ | refine Kx.d ?_ | refine Kx.e ?_ _ | (refine Kx.s ?_ ?_ _; focus (first | (simp; done) | (simp; omega))) | refine Kx.t ?_ (by assumption)))
  · have hd : decide (m < 0) = false := by simpa using hneg
    have hw : wrap64 (m - 1) = m - 1 := IntWalk.wrap64_in _ (by omega)
    go_enter Tryz.func48, Tryz.ntmps48
    go_wp2
    have hkp : Stab.Keeps w (w.alloc (.cells #[.int .i64 kind, .slice pa pn pc, .slice ka kn kc] 34)) := by with_reducible (repeat (first | exact Kx.r _ | assumption | refine Kx.a ?_ _ | refine Kx.d ?_ | refine Kx.e ?_ _ | (refine Kx.s ?_ ?_ _; focus (first | (simp; done) | (simp; omega))) | refine Kx.t ?_ (by assumption)))
    generalize (w.alloc (.cells #[.int .i64 kind, .slice pa pn pc, .slice ka kn kc] 34)) = w1 at *
    go_loopw [5, 17] (fun nv iv wr => ∃ k n : Nat, k ≤ kn ∧ iv = .int .i64 k ∧ nv = .int .i64 n ∧ Stab.Keeps w wr ∧ n ≤ (1 + pn + ST.totals (kids.take k)) + 1048576 * ST.totals (kids.take k) ∧ (n ≤ 1000 → n = 1 + pn + ST.totals (kids.take k))) (fun _ i _ => kn - (intOf i).toNat)
    case atStart => exact ⟨0, 1 + pn, Nat.zero_le _, rfl, by simp, hkp, by simp [ST.totals], fun _ => by simp [ST.totals]⟩
    case round =>
      obtain ⟨k, n, hk, rfl, rfl, hK, hn2, hn3⟩ := hrel
      have HN3 := Lib.hid hn3
      clear hn3
      by_cases hlt : k < kn
      · obtain ⟨b, off, ha, hb, hc⟩ := (s2.keep hK).elem hlt
        subst ha
        have hki : k < kids.length := by omega
        obtain ⟨c0, c1, c2⟩ := skid_cells (kn := kn) hki hc
        have hs : ST.totals (kids.take (k + 1)) = ST.totals (kids.take k) + kids[k].total := by rw [List.take_succ_eq_append_getElem hki, stotals_snoc]
        have htk := stotals_take kids k hki
        have HS := Lib.hid hs
        have hI := fun w' => ih kids[k] (List.getElem_mem _) (m - 1) w' (by omega) (by omega) (by omega)
        unfold Sizes at hI
        clear hc hs
        generalize kids[k].total = xt at *
        generalize kids[k] = x at *
        obtain ⟨⟨xk, xpa, xpn, xpc, xka, xkn, xkc⟩, xpts, xkids⟩ := x
        simp only [ST.hd, Sm.val] at c0 c1 c2 hI
        generalize ST.totals (kids.take k) = tk at *
        go_wp2_with fail
        refine (hI _ ?_).mono ?_
        · with_reducible (repeat (first | exact Kx.r _ | assumption | refine Kx.a ?_ _ | refine Kx.d ?_ | refine Kx.e ?_ _ | (refine Kx.s ?_ ?_ _; focus (first | (simp; done) | (simp; omega))) | refine Kx.t ?_ (by assumption)))
        rintro e w3 ⟨⟨v, rfl, hv2, hv3⟩, hk3⟩
        clear hI
        have hv4 : (v : Int) ≤ 2000000000000 := by omega
        have hn4 : (n : Int) ≤ 2000000000000 := by omega
        have HV3 := Lib.hid hv3
        have HV2 := Lib.hid hv2
        have HN2 := Lib.hid hn2
        clear hv3 hv2 hn2
        go_wp2_with fail
        refine ⟨⟨k + 1, n + v, by omega, by go_num, by go_num, ?_, by have := HS.out; have := HV2.out; have := HN2.out; omega, fun h => ?_⟩, by simp [intOf]; omega⟩
        · with_reducible (repeat (first | exact Kx.r _ | assumption | refine Kx.a ?_ _ | refine Kx.d ?_ | refine Kx.e ?_ _ | (refine Kx.s ?_ ?_ _; focus (first | (simp; done) | (simp; omega))) | refine Kx.t ?_ (by assumption)))
        · have a1 := HV3.out (by omega)
          have a2 := HN3.out (by omega)
          have a3 := HS.out
          omega
      · have hkn2 : k = kn := by omega
        subst hkn2
        rw [List.take_of_length_le (by omega)] at hn2 HN3
        go_wp2
        go_ret
        refine ⟨⟨n, rfl, by have := HN.out; omega, fun h => ?_⟩, hK⟩
        have a2 := HN3.out h
        have := HN.out
        omega
set_option maxRecDepth 100000 in
theorem size_ (t : ST) (w : World) (hA : t.At w) (hT : t.total ≤ 1048576) : Calls Tryz.prog 17 #[t.hd.val] w (Sizes w t) := by
  have hS := fun w' => sizeBelow_ w t hA 100 w' (by omega) (by omega) hT
  unfold Sizes at hS ⊢
  generalize t.total = tt at *
  obtain ⟨⟨kind, pa, pn, pc, ka, kn, kc⟩, pts, kids⟩ := t
  simp only [ST.hd, Sm.val] at hS ⊢
  clear hA
  go_enter Tryz.func17, Tryz.ntmps17
  go_wp2_with fail
  refine (hS _ (by with_reducible (repeat (first | exact Kx.r _ | assumption | refine Kx.a ?_ _ | refine Kx.d ?_ | refine Kx.e ?_ _ | (refine Kx.s ?_ ?_ _; focus (first | (simp; done) | (simp; omega))) | refine Kx.t ?_ (by assumption))))).mono ?_
  rintro e w3 ⟨⟨v, rfl, hv2, hv3⟩, hk3⟩
  have HV2 := Lib.hid hv2
  have HV3 := Lib.hid hv3
  clear hS hv2 hv3
  go_wp2_with fail
  go_ret
  refine ⟨⟨v, rfl, HV2.out, HV3.out⟩, ?_⟩
  with_reducible (repeat (first | exact Kx.r _ | assumption | refine Kx.a ?_ _ | refine Kx.d ?_ | refine Kx.e ?_ _ | (refine Kx.s ?_ ?_ _; focus (first | (simp; done) | (simp; omega))) | refine Kx.t ?_ (by assumption)))
end Go.Proofs.YtbakhldjfplbfaaGreat
