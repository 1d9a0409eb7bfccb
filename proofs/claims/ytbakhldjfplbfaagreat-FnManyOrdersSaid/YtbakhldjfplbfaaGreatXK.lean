/-
  Which plain data are small: deep, weight. No condition.
  All numbers of plain data. No condition.
  Plain data compared: like data are alike. No condition.
  Which plain data a law speaks of. No condition.
-/
import Derived.Test.YtbakhldjfplbfaaGreatXS7
import Derived.Test.YtbakhldjfplbfaaGreatXOpGeo
import Derived.Test.YtbakhldjfplbfaaGreatXHb
set_option linter.unusedVariables false
set_option linter.unusedSimpArgs false
namespace Go.Proofs.YtbakhldjfplbfaaGreat
open Go.RowKit Go.Fl Go.Sl Go.Pg Go.Ch Go.Kf
/-- at most m deep -/
inductive GT.Deep : Int → GT → Prop where
  | mk (m : Int) (h : Gm) (nums : List Nat) (kids : List GT) (h0 : 0 ≤ m) (h1 : ∀ t ∈ kids, GT.Deep (m - 1) t) : GT.Deep m (.node h nums kids)
/-- no slice of it is beyond the reach -/
inductive GT.Reach : GT → Prop where
  | mk (h : Gm) (nums : List Nat) (kids : List GT) (h1 : nums.length * 8 ≤ 140737488351232) (h2 : kids.length * 64 ≤ 140737488351232) (h3 : ∀ t ∈ kids, GT.Reach t) : GT.Reach (.node h nums kids)
theorem kid_cells {w : World} {b off k kn : Nat} {kids : List GT} {T : List Value} (hk : k < kids.length) (hkn : kids.length = kn) (hc : ∀ (j : Nat) (v : Value), j < 4 → (kids.flatMap GT.cells)[k * 4 + j]? = some v → w.cell? ⟨b, off + k * 4 + j, none⟩ = some v) :
    w.cell? ⟨b, off + k * 4, none⟩ = some (.int .i64 kids[k].hd.kind) ∧ w.cell? ⟨b, off + k * 4 + 1, none⟩ = some (.int .i64 kids[k].hd.dim) ∧ w.cell? ⟨b, off + k * 4 + 2, none⟩ = some (.slice kids[k].hd.na kids[k].hd.nn kids[k].hd.nc) ∧ w.cell? ⟨b, off + k * 4 + 3, none⟩ = some (.slice kids[k].hd.ka kids[k].hd.kn kids[k].hd.kc) :=
  ⟨hc 0 _ (by omega) (by rw [flat_get GT.cells 4 GT.cells_len kids k 0 hk (by omega)]; rfl), hc 1 _ (by omega) (by rw [flat_get GT.cells 4 GT.cells_len kids k 1 hk (by omega)]; rfl),
   hc 2 _ (by omega) (by rw [flat_get GT.cells 4 GT.cells_len kids k 2 hk (by omega)]; rfl), hc 3 _ (by omega) (by rw [flat_get GT.cells 4 GT.cells_len kids k 3 hk (by omega)]; rfl)⟩
set_option maxRecDepth 100000 in
set_option maxHeartbeats 2000000 in
theorem pDeep_ (w0 : World) (t : GT) (h : GT.At w0 t) : ∀ (m : Int) (w : World), -1 ≤ m → m ≤ 100 → Stab.Keeps w0 w → Calls Tryz.prog 38 #[t.hd.val, .int .i64 m] w (Tells w (t.Deep m)) := by
  induction h with
  | mk hd nums kids hn hkn h1 h2 h3 ih =>
  intro m w hm0 hm1 hK0
  have s2 := h2.keep hK0
  clear h1 h2 h3
  obtain ⟨kind, dim, na, nn, nc, ka, kn, kc⟩ := hd
  simp only at hn hkn s2
  have hle2 := s2.le
  have hm2 := s2.max
  unfold maxLen at hm2
  simp only [GT.hd, Gm.val]
  by_cases hneg : m < 0
  · have hd : decide (m < 0) = true := by simpa using hneg
    go_enter Tryz.func38, Tryz.ntmps38
    go_wp2
    go_ret
    refine ⟨⟨false, rfl, fun h => by cases h⟩, ?_⟩
    with_reducible (repeat first | exact Kx.r _ | assumption | refine Kx.a ?_ _ | refine Kx.d ?_ | refine Kx.e ?_ _ | refine Kx.s (by simp <;> omega) ?_ _ | refine Kx.t ?_ (by assumption))
  · have hd : decide (m < 0) = false := by simpa using hneg
    have hw : wrap64 (m - 1) = m - 1 := IntWalk.wrap64_in _ (by omega)
    go_enter Tryz.func38, Tryz.ntmps38
    go_wp2
    have hkp : Stab.Keeps w (w.alloc (.cells #[.int .i64 kind, .int .i64 dim, .slice na nn nc, .slice ka kn kc] 25)) := by with_reducible (repeat first | exact Kx.r _ | assumption | refine Kx.a ?_ _ | refine Kx.d ?_ | refine Kx.e ?_ _ | refine Kx.s (by simp <;> omega) ?_ _ | refine Kx.t ?_ (by assumption))
    generalize (w.alloc (.cells #[.int .i64 kind, .int .i64 dim, .slice na nn nc, .slice ka kn kc] 25)) = w1 at *
    go_loopw [12] (fun i wr => ∃ k : Nat, k ≤ kn ∧ i = .int .i64 k ∧ Stab.Keeps w wr ∧ ∀ j (hj : j < kids.length), j < k → kids[j].Deep (m - 1)) (fun i _ => kn - (intOf i).toNat)
    case atStart => exact ⟨0, Nat.zero_le _, rfl, hkp, fun j _ hj => by omega⟩
    case round =>
      obtain ⟨k, hk, rfl, hK, hB⟩ := hrel
      by_cases hlt : k < kn
      · obtain ⟨b, off, ha, hb, hc⟩ := (s2.keep hK).elem hlt
        subst ha
        have hki : k < kids.length := by omega
        obtain ⟨c0, c1, c2, c3⟩ := kid_cells (T := []) hki hkn hc
        have hs : ∀ j (hj : j < kids.length), kids[k].Deep (m - 1) → j < k + 1 → kids[j].Deep (m - 1) := fun j hj h hl => by
          rcases Nat.lt_or_ge j k with h1 | h1
          · exact hB j hj h1
          · have : j = k := by omega
            subst this; exact h
        have hI := fun w' => ih kids[k] (List.getElem_mem _) (m - 1) w' (by omega) (by omega)
        clear hc
        generalize kids[k] = x at *
        obtain ⟨⟨xk, xd, xna, xnn, xnc, xka, xkn, xkc⟩, xnums, xkids⟩ := x
        simp only [GT.hd, Gm.val] at c0 c1 c2 c3 hI
        go_wp2_with fail
        refine (hI _ ?_).mono ?_
        · with_reducible (repeat first | exact Kx.r _ | assumption | refine Kx.a ?_ _ | refine Kx.d ?_ | refine Kx.e ?_ _ | refine Kx.s (by simp <;> omega) ?_ _ | refine Kx.t ?_ (by assumption))
        rintro e w3 ⟨⟨r, rfl, hr⟩, hk3⟩
        clear hI
        cases r with
        | false =>
          go_wp2_with fail
          go_ret
          refine ⟨⟨false, rfl, fun h => by cases h⟩, ?_⟩
          with_reducible (repeat first | exact Kx.r _ | assumption | refine Kx.a ?_ _ | refine Kx.d ?_ | refine Kx.e ?_ _ | refine Kx.s (by simp <;> omega) ?_ _ | refine Kx.t ?_ (by assumption))
        | true =>
          go_wp2_with fail
          refine ⟨⟨k + 1, by omega, by go_num, ?_, fun j hj hl => hs j hj (hr (by simp)) hl⟩, by simp [intOf]; omega⟩
          with_reducible (repeat first | exact Kx.r _ | assumption | refine Kx.a ?_ _ | refine Kx.d ?_ | refine Kx.e ?_ _ | refine Kx.s (by simp <;> omega) ?_ _ | refine Kx.t ?_ (by assumption))
      · have hkn2 : k = kn := by omega
        subst hkn2
        go_wp2
        go_ret
        refine ⟨⟨true, rfl, fun _ => .mk _ _ _ _ (by omega) (fun t ht => ?_)⟩, hK⟩
        obtain ⟨j, hj, rfl⟩ := List.getElem_of_mem ht
        exact hB j hj (by omega)
mutual
/-- how many numbers and parts -/
def GT.total : GT → Nat
  | .node _ nums kids => 1 + nums.length + GT.totals kids
def GT.totals : List GT → Nat
  | [] => 0
  | t :: r => t.total + GT.totals r
end
theorem totals_snoc (l : List GT) (t : GT) : GT.totals (l ++ [t]) = GT.totals l + t.total := by
  induction l with
  | nil => simp [GT.totals]
  | cons a l ih => simp only [List.cons_append, GT.totals, ih]; omega
theorem totals_mem {l : List GT} {t : GT} (h : t ∈ l) : t.total ≤ GT.totals l := by
  induction l with
  | nil => simp at h
  | cons a l ih =>
    simp only [GT.totals]
    rcases List.mem_cons.1 h with rfl | h
    · omega
    · have := ih h; omega
theorem totals_len (l : List GT) : l.length ≤ GT.totals l := by
  induction l with
  | nil => simp [GT.totals]
  | cons a l ih =>
    have : 1 ≤ a.total := by cases a; simp only [GT.total]; omega
    simp only [GT.totals, List.length_cons]; omega
theorem small_of_total : ∀ t : GT, t.total ≤ 600 → t.Small := GT.ind fun h nums kids ih hs => by
  simp only [GT.total] at hs
  have := totals_len kids
  exact .mk _ _ _ (by omega) (by omega) (fun c hc => ih c hc (by have := totals_mem hc; omega))
end Go.Proofs.YtbakhldjfplbfaaGreat
set_option linter.unusedVariables false
set_option linter.unusedSimpArgs false
set_option linter.unusedVariables false
set_option linter.unusedSimpArgs false
namespace Go.Proofs.YtbakhldjfplbfaaGreat
open Go.RowKit Go.Fl Go.Sl Go.Pg Go.Ch Go.Kf
/-- no number of a place is NaN -/
structure PlReal (p : Pl) : Prop where
  x : isNaN p.x = false
  y : isNaN p.y = false
  z : isNaN p.z = false
  m : isNaN p.m = false
inductive PgReal : Pg → Prop where
  | mk (k d : Nat) (ps : List Pl) (kids : List Pg) (h1 : ∀ p ∈ ps, PlReal p) (h2 : ∀ c ∈ kids, PgReal c) : PgReal (.node k d ps kids)
theorem isNaN_0 : isNaN 0 = false := by decide +kernel
theorem PlReal.nums {p : Pl} (h : PlReal p) (d : Nat) : ∀ x ∈ p.nums d, isNaN x = false := by
  intro x hx
  unfold Pl.nums at hx
  rcases List.mem_cons.1 hx with rfl | hx
  · exact h.x
  rcases List.mem_cons.1 hx with rfl | hx
  · exact h.y
  rcases List.mem_append.1 hx with hx | hx
  · split at hx
    · simp at hx; rw [hx]; exact h.z
    · simp at hx
  · split at hx
    · simp at hx; rw [hx]; exact h.m
    · simp at hx
theorem PlReal.force {p : Pl} (h : PlReal p) (d : Nat) : PlReal (p.force d) := by
  unfold Pl.force
  exact ⟨h.x, h.y, by simp only; split; exact h.z; exact isNaN_0, by simp only; split; exact h.m; exact isNaN_0⟩
theorem PgReal.force (d : Nat) : ∀ {p : Pg}, PgReal p → PgReal (forceP d p) := by
  intro p h
  induction h with
  | mk k d0 ps kids h1 h2 ih =>
    rw [forceP_eq]
    refine .mk _ _ _ _ (fun q hq => ?_) (fun c hc => ?_)
    · obtain ⟨r, hr, rfl⟩ := List.mem_map.1 hq
      exact (h1 r hr).force d
    · obtain ⟨r, hr, rfl⟩ := List.mem_map.1 hc
      exact ih r hr
theorem getD_real {nums : List Nat} (h : ∀ x ∈ nums, isNaN x = false) (i : Nat) : isNaN (nums.getD i 0) = false := by
  rw [List.getD_eq_getElem?_getD]
  cases hq : nums[i]? with
  | none => exact isNaN_0
  | some x => exact h x (List.mem_of_getElem? hq)
theorem placesOf_real (d : Nat) {nums : List Nat} (h : ∀ x ∈ nums, isNaN x = false) : ∀ p ∈ placesOf d nums, PlReal p := by
  intro p hp
  obtain ⟨i, _, rfl⟩ := List.mem_map.1 hp
  unfold plAt
  exact ⟨getD_real h _, getD_real h _, by simp only; split; exact getD_real h _; exact isNaN_0, by simp only; split; exact getD_real h _; exact isNaN_0⟩
theorem wholeP_real (k d : Nat) {l : List Pg} (h : ∀ p ∈ l, PgReal p) : PgReal (wholeP k d l) := by
  unfold wholeP
  split
  · exact .mk _ _ _ _ (by simp) (by simp)
  · refine .mk _ _ _ _ (by simp) (fun c hc => ?_)
    obtain ⟨r, hr, rfl⟩ := List.mem_map.1 hc
    exact (h r hr).force _
theorem newP_real : ∀ t : GT, t.Real → PgReal (newP t) := GT.ind fun h nums kids ih hs => by
  have h1 : (∀ x ∈ nums, isNaN x = false) ∧ ∀ t ∈ kids, GT.Real t := by cases hs; exact ⟨by assumption, by assumption⟩
  rw [newP]
  split
  · exact .mk _ _ _ _ (fun q hq => placesOf_real _ h1.1 q (List.mem_of_mem_take hq)) (by simp)
  · split
    · exact .mk _ _ _ _ (placesOf_real _ h1.1) (by simp)
    · rw [newPs_eq]
      refine wholeP_real _ _ fun p hp => ?_
      obtain ⟨r, hr, rfl⟩ := List.mem_map.1 (List.mem_filter.1 hp).1
      exact ih r hr (h1.2 r hr)
end Go.Proofs.YtbakhldjfplbfaaGreat
set_option linter.unusedVariables false
set_option linter.unusedSimpArgs false
