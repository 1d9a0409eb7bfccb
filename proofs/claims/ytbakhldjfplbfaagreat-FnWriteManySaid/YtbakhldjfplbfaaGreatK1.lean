/-
  Which plain data are small: deep, weight. No condition.
-/
import Derived.Test.YtbakhldjfplbfaaGreatS7
set_option linter.unusedVariables false
set_option linter.unusedSimpArgs false
namespace Go.Proofs.YtbakhldjfplbfaaGreat
open Go.RowKit Go.Fl Go.Sl Go.Pg Go.Ch Go.Kf
/-- at most m deep -/
inductive GT.Deep : Int → GT → Prop where
  | mk (m : Int) (h : Gm) (nums : List Nat) (kids : List GT) (h0 : 0 ≤ m) (h1 : ∀ t ∈ kids, GT.Deep (m - 1) t) : GT.Deep m (.node h nums kids)
/-- no slice of it is beyond the reach -/
inductive GT.Reach : GT → Prop where
  | mk (h : Gm) (nums : List Nat) (kids : List GT) (h1 : nums.length * 8 ≤ 140737488351232) (h2 : kids.length * 64 ≤ 140737488351232) (h3 : ∀ t ∈ kids, GT.Reach t) : GT.Reach (.node h nums kids)
theorem kid_cells {w : World} {b off k kn : Nat} {kids : List GT} {T : List Value} (hk : k < kids.length) (hkn : kids.length = kn) (hc : ∀ (j : Nat) (v : Value), j < 4 → (kids.flatMap GT.cells)[k * 4 + j]? = some v → w.cell? ⟨b, off + k * 4 + j, none⟩ = some v) :
    w.cell? ⟨b, off + k * 4, none⟩ = some (.int .i64 kids[k].hd.kind) ∧ w.cell? ⟨b, off + k * 4 + 1, none⟩ = some (.int .i64 kids[k].hd.dim) ∧ w.cell? ⟨b, off + k * 4 + 2, none⟩ = some (.slice kids[k].hd.na kids[k].hd.nn kids[k].hd.nc) ∧ w.cell? ⟨b, off + k * 4 + 3, none⟩ = some (.slice kids[k].hd.ka kids[k].hd.kn kids[k].hd.kc) :=
  ⟨hc 0 _ (by omega) (by rw [flat_get GT.cells 4 GT.cells_len kids k 0 hk (by omega)]; rfl), hc 1 _ (by omega) (by rw [flat_get GT.cells 4 GT.cells_len kids k 1 hk (by omega)]; rfl),
   hc 2 _ (by omega) (by rw [flat_get GT.cells 4 GT.cells_len kids k 2 hk (by omega)]; rfl), hc 3 _ (by omega) (by rw [flat_get GT.cells 4 GT.cells_len kids k 3 hk (by omega)]; rfl)⟩
set_option maxRecDepth 100000 in
set_option maxHeartbeats 2000000 in
theorem pDeep_ (w0 : World) (t : GT) (h : GT.At w0 t) : ∀ (m : Int) (w : World), -1 ≤ m → m ≤ 100 → Stab.Keeps w0 w → Calls Tryz.prog 38 #[t.hd.val, .int .i64 m] w (Tells w (t.Deep m)) := by
  induction h with
  | mk hd nums kids hn hkn h1 h2 h3 ih =>
  intro m w hm0 hm1 hK0
  have s2 := h2.keep hK0
  clear h1 h2 h3
  obtain ⟨kind, dim, na, nn, nc, ka, kn, kc⟩ := hd
  simp only at hn hkn s2
  have hle2 := s2.le
  have hm2 := s2.max
  unfold maxLen at hm2
  simp only [GT.hd, Gm.val]
  by_cases hneg : m < 0
  · have hd : decide (m < 0) = true := by simpa using hneg
    go_enter Tryz.func38, Tryz.ntmps38
    go_wp2
    go_ret
    refine ⟨⟨false, rfl, fun h => by cases h⟩, ?_⟩
    with_reducible (repeat (first | exact Kx.r _ | assumption | refine Kx.a ?_ _ | refine Kx.d ?_ | refine Kx.e ?_ _ | (refine Kx.s ?_ ?_ _; focus (first | (simp; done) | (simp; omega))) | refine Kx.t ?_ (by assumption)))
  · have hd : decide (m < 0) = false := by simpa using hneg
    have hw : wrap64 (m - 1) = m - 1 := IntWalk.wrap64_in _ (by omega)
    go_enter Tryz.func38, Tryz.ntmps38
    go_wp2
    have hkp : Stab.Keeps w (w.alloc (.cells #[.int .i64 kind, .int .i64 dim, .slice na nn nc, .slice ka kn kc] 25)) := by with_reducible (repeat (first | exact Kx.r _ | assumption | refine Kx.a ?_ _ | refine Kx.d ?_ | refine Kx.e ?_ _ | (refine Kx.s ?_ ?_ _; focus (first | (simp; done) | (simp; omega))) | refine Kx.t ?_ (by assumption)))
    generalize (w.alloc (.cells #[.int .i64 kind, .int .i64 dim, .slice na nn nc, .slice ka kn kc] 25)) = w1 at *
    go_loopw [12] (fun i wr => ∃ k : Nat, k ≤ kn ∧ i = .int .i64 k ∧ Stab.Keeps w wr ∧ ∀ j (hj : j < kids.length), j < k → kids[j].Deep (m - 1)) (fun i _ => kn - (intOf i).toNat)
    case atStart => exact ⟨0, Nat.zero_le _, rfl, hkp, fun j _ hj => by omega⟩
    case round =>
      obtain ⟨k, hk, rfl, hK, hB⟩ := hrel
      by_cases hlt : k < kn
      · obtain ⟨b, off, ha, hb, hc⟩ := (s2.keep hK).elem hlt
        subst ha
        have hki : k < kids.length := by omega
        obtain ⟨c0, c1, c2, c3⟩ := kid_cells (T := []) hki hkn hc
        have hs : ∀ j (hj : j < kids.length), kids[k].Deep (m - 1) → j < k + 1 → kids[j].Deep (m - 1) := fun j hj h hl => by
          rcases Nat.lt_or_ge j k with h1 | h1
          · exact hB j hj h1
          · have : j = k := by omega
            subst this; exact h
        have hI := fun w' => ih kids[k] (List.getElem_mem _) (m - 1) w' (by omega) (by omega)
        clear hc
        generalize kids[k] = x at *
        obtain ⟨⟨xk, xd, xna, xnn, xnc, xka, xkn, xkc⟩, xnums, xkids⟩ := x
        simp only [GT.hd, Gm.val] at c0 c1 c2 c3 hI
        go_wp2_with fail
        refine (hI _ ?_).mono ?_
        · with_reducible (repeat (first | exact Kx.r _ | assumption | refine Kx.a ?_ _ | refine Kx.d ?_ | refine Kx.e ?_ _ | (refine Kx.s ?_ ?_ _; focus (first | (simp; done) | (simp; omega))) | refine Kx.t ?_ (by assumption)))
        rintro e w3 ⟨⟨r, rfl, hr⟩, hk3⟩
        clear hI
        cases r with
        | false =>
          go_wp2_with fail
          go_ret
          refine ⟨⟨false, rfl, fun h => by cases h⟩, ?_⟩
          with_reducible (repeat (first | exact Kx.r _ | assumption | refine Kx.a ?_ _ | refine Kx.d ?_ | refine Kx.e ?_ _ | (refine Kx.s ?_ ?_ _; focus (first | (simp; done) | (simp; omega))) | refine Kx.t ?_ (by assumption)))
        | true =>
          go_wp2_with fail
          refine ⟨⟨k + 1, by omega, by go_num, ?_, fun j hj hl => hs j hj (hr (by simp)) hl⟩, by simp [intOf]; omega⟩
          with_reducible (repeat (first | exact Kx.r _ | assumption | refine Kx.a ?_ _ | refine Kx.d ?_ | refine Kx.e ?_ _ | (refine Kx.s ?_ ?_ _; focus (first | (simp; done) | (simp; omega))) | refine Kx.t ?_ (by assumption)))
      · have hkn2 : k = kn := by omega
        subst hkn2
        go_wp2
        go_ret
        refine ⟨⟨true, rfl, fun _ => .mk _ _ _ _ (by omega) (fun t ht => ?_)⟩, hK⟩
        obtain ⟨j, hj, rfl⟩ := List.getElem_of_mem ht
        exact hB j hj (by omega)
mutual
/-- how many numbers and parts -/
def GT.total : GT → Nat
  | .node _ nums kids => 1 + nums.length + GT.totals kids
def GT.totals : List GT → Nat
  | [] => 0
  | t :: r => t.total + GT.totals r
end
theorem totals_snoc (l : List GT) (t : GT) : GT.totals (l ++ [t]) = GT.totals l + t.total := by
  induction l with
  | nil => simp [GT.totals]
  | cons a l ih => simp only [List.cons_append, GT.totals, ih]; omega
theorem totals_mem {l : List GT} {t : GT} (h : t ∈ l) : t.total ≤ GT.totals l := by
  induction l with
  | nil => simp at h
  | cons a l ih =>
    simp only [GT.totals]
    rcases List.mem_cons.1 h with rfl | h
    · omega
    · have := ih h; omega
theorem totals_len (l : List GT) : l.length ≤ GT.totals l := by
  induction l with
  | nil => simp [GT.totals]
  | cons a l ih =>
    have : 1 ≤ a.total := by cases a; simp only [GT.total]; omega
    simp only [GT.totals, List.length_cons]; omega
theorem small_of_total : ∀ t : GT, t.total ≤ 600 → t.Small := GT.ind fun h nums kids ih hs => by
  simp only [GT.total] at hs
  have := totals_len kids
  exact .mk _ _ _ (by omega) (by omega) (fun c hc => ih c hc (by have := totals_mem hc; omega))
/-- a weight as told -/
def Weighs (w : World) (m : Int) (t : GT) (e : Ending) (w' : World) : Prop := (∃ v : Nat, e = .returned (.int .i64 v) ∧ 1 ≤ v ∧ (v : Int) ≤ 20000000000000 + 601 * (m + 1) ∧ (v ≤ 600 → v = t.total)) ∧ Stab.Keeps w w'
set_option maxRecDepth 100000 in
set_option maxHeartbeats 2000000 in
theorem weight_ (w0 : World) (t : GT) (h : GT.At w0 t) : ∀ (m : Int) (w : World), m ≤ 100 → t.Deep m → t.Reach → Stab.Keeps w0 w → Calls Tryz.prog 39 #[t.hd.val, .int .i64 600] w (Weighs w m t) := by
  induction h with
  | mk hd nums kids hn hkn h1 h2 h3 ih =>
  intro m w hm1 hD hR hK0
  have s2 := h2.keep hK0
  have hle1 := h1.le
  have hmx1 := h1.max
  clear h1 h2 h3
  have hm0 : 0 ≤ m ∧ ∀ t ∈ kids, GT.Deep (m - 1) t := by cases hD; exact ⟨by assumption, by assumption⟩
  have hr : nums.length * 8 ≤ 140737488351232 ∧ ∀ t ∈ kids, GT.Reach t := by cases hR; exact ⟨by assumption, by assumption⟩
  clear hD hR
  obtain ⟨hm0, hDk⟩ := hm0
  obtain ⟨hr1, hRk⟩ := hr
  obtain ⟨kind, dim, na, nn, nc, ka, kn, kc⟩ := hd
  simp only at hn hkn s2 hle1 hmx1
  have hle2 := s2.le
  have hm2 := s2.max
  unfold maxLen at hm2 hmx1
  have HN := Lib.hid hn
  have hnb : nn ≤ 17592186043904 := by omega
  simp only [GT.hd, Gm.val]
  clear hr1 hn
  go_enter Tryz.func39, Tryz.ntmps39
  go_wp2
  have hkp : Stab.Keeps w (w.alloc (.cells #[.int .i64 kind, .int .i64 dim, .slice na nn nc, .slice ka kn kc] 25)) := by with_reducible (repeat (first | exact Kx.r _ | assumption | refine Kx.a ?_ _ | refine Kx.d ?_ | refine Kx.e ?_ _ | (refine Kx.s ?_ ?_ _; focus (first | (simp; done) | (simp; omega))) | refine Kx.t ?_ (by assumption)))
  generalize (w.alloc (.cells #[.int .i64 kind, .int .i64 dim, .slice na nn nc, .slice ka kn kc] 25)) = w1 at *
  go_loopw [5, 15] (fun nv iv wr => ∃ k n : Nat, k ≤ kn ∧ iv = .int .i64 k ∧ nv = .int .i64 n ∧ Stab.Keeps w wr ∧ 1 ≤ n ∧ (n : Int) ≤ 20000000000000 + 601 * (m + 1) ∧ (n ≤ 600 → n = 1 + nums.length + GT.totals (kids.take k))) (fun _ i _ => kn - (intOf i).toNat)
  case atStart => exact ⟨0, 1 + nn, Nat.zero_le _, rfl, by simp, hkp, by omega, by omega, fun _ => by rw [HN.out]; simp [GT.totals]⟩
  case round =>
    obtain ⟨k, n, hk, rfl, rfl, hK, hn1, hn2, hn3⟩ := hrel
    have HN3 := Lib.hid hn3
    clear hn3
    by_cases hlt : k < kn
    · obtain ⟨b, off, ha, hb, hc⟩ := (s2.keep hK).elem hlt
      subst ha
      have hki : k < kids.length := by omega
      obtain ⟨c0, c1, c2, c3⟩ := kid_cells (T := []) hki hkn hc
      have hs : GT.totals (kids.take (k + 1)) = GT.totals (kids.take k) + kids[k].total := by rw [List.take_succ_eq_append_getElem hki, totals_snoc]
      have HS := Lib.hid hs
      have hI := fun w' => ih kids[k] (List.getElem_mem _) (m - 1) w' (by omega) (hDk _ (List.getElem_mem _)) (hRk _ (List.getElem_mem _))
      clear hc hs hDk hRk
      generalize kids[k] = x at *
      obtain ⟨⟨xk, xd, xna, xnn, xnc, xka, xkn, xkc⟩, xnums, xkids⟩ := x
      simp only [GT.hd, Gm.val] at c0 c1 c2 c3 hI
      by_cases hbig : 600 < n
      · have hd1 : decide ((600 : Int) < (n : Int)) = true := by simp; omega
        have hd2 : decide ((n : Int) > 600) = true := by simp; omega
        have hd3 : decide (600 < n) = true := by simp; omega
        have HB := Lib.hid hbig
        clear hbig hI
        go_wp2_with fail
        go_ret
        refine ⟨⟨n, rfl, hn1, hn2, fun h => by have := HB.out; omega⟩, ?_⟩
        with_reducible (repeat (first | exact Kx.r _ | assumption | refine Kx.a ?_ _ | refine Kx.d ?_ | refine Kx.e ?_ _ | (refine Kx.s ?_ ?_ _; focus (first | (simp; done) | (simp; omega))) | refine Kx.t ?_ (by assumption)))
      · have hd1 : decide ((600 : Int) < (n : Int)) = false := by simp; omega
        have hd2 : decide ((n : Int) > 600) = false := by simp; omega
        have hd3 : decide (600 < n) = false := by simp; omega
        have hbig2 : n ≤ 600 := by omega
        clear hbig
        go_wp2_with fail
        refine (hI _ ?_).mono ?_
        · with_reducible (repeat (first | exact Kx.r _ | assumption | refine Kx.a ?_ _ | refine Kx.d ?_ | refine Kx.e ?_ _ | (refine Kx.s ?_ ?_ _; focus (first | (simp; done) | (simp; omega))) | refine Kx.t ?_ (by assumption)))
        rintro e w3 ⟨⟨v, rfl, hv1, hv2, hv3⟩, hk3⟩
        clear hI
        have hv4 : (v : Int) ≤ 30000000000000 := by omega
        have HV3 := Lib.hid hv3
        clear hv3
        go_wp2_with fail
        refine ⟨⟨k + 1, n + v, by omega, by go_num, by go_num, ?_, by omega, by omega, fun h => ?_⟩, by simp [intOf]; omega⟩
        · with_reducible (repeat (first | exact Kx.r _ | assumption | refine Kx.a ?_ _ | refine Kx.d ?_ | refine Kx.e ?_ _ | (refine Kx.s ?_ ?_ _; focus (first | (simp; done) | (simp; omega))) | refine Kx.t ?_ (by assumption)))
        · have a1 := HV3.out (by omega)
          have a2 := HN3.out (by omega)
          have a3 := HS.out
          omega
    · have hkn2 : k = kn := by omega
      subst hkn2
      go_wp2
      go_ret
      refine ⟨⟨n, rfl, hn1, hn2, fun h => ?_⟩, hK⟩
      have a2 := HN3.out h
      rw [List.take_of_length_le (by omega)] at a2
      rw [a2]
      rfl
end Go.Proofs.YtbakhldjfplbfaaGreat
