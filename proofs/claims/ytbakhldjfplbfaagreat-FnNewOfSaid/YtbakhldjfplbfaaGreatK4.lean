/-
  Which plain data a law speaks of. No condition.
-/
import Derived.Test.YtbakhldjfplbfaaGreatK3
set_option linter.unusedVariables false
set_option linter.unusedSimpArgs false
namespace Go.Proofs.YtbakhldjfplbfaaGreat
open Go.RowKit Go.Fl Go.Sl Go.Pg Go.Ch Go.Kf
theorem allNs_mem {l : List GT} {t : GT} (h : t ∈ l) : ∀ x ∈ t.allN, x ∈ GT.allNs l := by
  induction l with
  | nil => simp at h
  | cons a l ih =>
    intro x hx
    simp only [GT.allNs, List.mem_append]
    rcases List.mem_cons.1 h with rfl | h
    · exact .inl hx
    · exact .inr (ih h x hx)
theorem real_of_allN : ∀ t : GT, (∀ x ∈ t.allN, isNaN x = false) → t.Real := GT.ind fun h nums kids ih hs => by
  simp only [GT.allN, List.mem_append] at hs
  exact .mk _ _ _ (fun x hx => hs x (.inl hx)) (fun c hc => ih c hc (fun x hx => hs x (.inr (allNs_mem hc x hx))))
theorem allNs_total (l : List GT) (h : ∀ t ∈ l, t.allN.length ≤ t.total) : (GT.allNs l).length ≤ GT.totals l := by
  induction l with
  | nil => simp [GT.allNs]
  | cons a l ih =>
    have h1 := h a (by simp)
    have h2 := ih (fun t ht => h t (by simp [ht]))
    simp only [GT.allNs, GT.totals, List.length_append]
    omega
theorem allN_total : ∀ t : GT, t.allN.length ≤ t.total := GT.ind fun h nums kids ih => by
  simp only [GT.allN, GT.total, List.length_append]
  have := allNs_total kids ih
  omega
/-- small, and no number of it is NaN -/
structure GT.Any (t : GT) : Prop where
  total : t.total ≤ 600
  deep : t.Deep 8
  real : t.Real
theorem GT.Any.small {t : GT} (h : t.Any) : t.Small := small_of_total t h.total
set_option maxRecDepth 100000 in
set_option maxHeartbeats 2000000 in
theorem kAny_ (t : GT) (w0 w : World) (hA0 : t.At w0) (hR : t.Reach) (hK0 : Stab.Keeps w0 w) : Calls Tryz.prog 10 #[t.hd.val] w (Tells w t.Any) := by
  have hA : t.At w := hA0.keep hK0
  clear hA0 hK0
  have hP := fun w' => pDeep_ w t hA 8 w' (by omega) (by omega)
  have hW := fun w' (hd : t.Deep 8) => weight_ w t hA 8 w' (by omega) hd hR
  have hN := fun w' => allNums_ w t hA w'
  have ht := allN_total t
  have hreal := real_of_allN t
  have hany := fun a b c => GT.Any.mk (t := t) a b c
  unfold Weighs at hW
  generalize hxs : t.allN = xs at *
  generalize GT.Deep 8 t = PD at *
  generalize t.total = tt at *
  obtain ⟨⟨kind, dim, na, nn, nc, ka, kn, kc⟩, nums, kids⟩ := t
  simp only [GT.hd, Gm.val] at hP hW hN ⊢
  have HW := Lib.hid hW
  have HN := Lib.hid hN
  have HT := Lib.hid ht
  have HRL := Lib.hid hreal
  have HANY := Lib.hid hany
  clear hW hN hxs hA hR ht hreal hany
  have hkA : Stab.Keeps w (w.alloc (.cells #[.int .i64 kind, .int .i64 dim, .slice na nn nc, .slice ka kn kc] 25)) := by with_reducible (repeat (first | exact Kx.r _ | assumption | refine Kx.a ?_ _ | refine Kx.d ?_ | refine Kx.e ?_ _ | (refine Kx.s ?_ ?_ _; focus (first | (simp; done) | (simp; omega))) | refine Kx.t ?_ (by assumption)))
  have hB0 : Blk (w.alloc (.cells #[.int .i64 kind, .int .i64 dim, .slice na nn nc, .slice ka kn kc] 25)) w.heap.size 25 [.int .i64 kind, .int .i64 dim, .slice na nn nc, .slice ka kn kc] := by with_reducible (repeat (first | assumption | ((refine Bx.n ⟨?_, ?_⟩) <;> focus (first | rfl | (simp; done) | omega)) | refine Bx.a ?_ _ | refine Bx.d ?_ | refine Bx.e ?_ _ | (refine Bx.p ?_ ?_; focus (first | (simp; done) | (simp; omega) | omega))))
  go_enter Tryz.func10, Tryz.ntmps10
  go_upto_region 1 with (fail)
  generalize (w.alloc (.cells #[.int .i64 kind, .int .i64 dim, .slice na nn nc, .slice ka kn kc] 25)) = w1 at *
  have t0 := hB0.cell (i := 0) rfl
  have t1 := hB0.cell (i := 1) rfl
  have t2 := hB0.cell (i := 2) rfl
  have t3 := hB0.cell (i := 3) rfl
  have tf := hB0.free
  have tl := hB0.lt
  go_wp2_with fail
  refine (hP _ hkA).mono ?_
  clear hP
  rintro e w2 ⟨⟨b, rfl, hb⟩, hk2⟩
  have hK2 := Stab.Keeps.trans hkA hk2
  cases b with
  | false =>
    clear hB0 hkA hk2 hb t0 t1 t2 t3 tf tl
    go_wp2_with fail
    go_ret
    exact ⟨⟨false, rfl, fun h => by cases h⟩, hK2⟩
  | true =>
    have hD := hb rfl
    have hB2 := hB0.keep hk2
    clear hB0 hkA hk2 hb t0 t1 t2 t3 tf tl
    have t0 := hB2.cell (i := 0) rfl
    have t1 := hB2.cell (i := 1) rfl
    have t2 := hB2.cell (i := 2) rfl
    have t3 := hB2.cell (i := 3) rfl
    have tf := hB2.free
    have tl := hB2.lt
    go_wp2_with fail
    refine (HW.out _ hD hK2).mono ?_
    rintro e w3 ⟨⟨v, rfl, hv1, hv2, hv3⟩, hk3⟩
    have hK3 := Stab.Keeps.trans hK2 hk3
    have hB3 := hB2.keep hk3
    have HV3 := Lib.hid hv3
    clear hB2 hK2 hk3 hv3 t0 t1 t2 t3 tf tl
    by_cases hbig : 600 < v
    · have hd1 : decide ((600 : Int) < (v : Int)) = true := by simp; omega
      have hd2 : decide ((v : Int) > 600) = true := by simp; omega
      have hd3 : decide (600 < v) = true := by simp; omega
      clear hbig
      go_wp2_with fail
      go_ret
      exact ⟨⟨false, rfl, fun h => by cases h⟩, hK3⟩
    · have hd1 : decide ((600 : Int) < (v : Int)) = false := by simp; omega
      have hd2 : decide ((v : Int) > 600) = false := by simp; omega
      have hd3 : decide (600 < v) = false := by simp; omega
      have hv6 := HV3.out (by omega)
      have htt : tt ≤ 600 := by omega
      have hlen : xs.length ≤ 600 := Nat.le_trans HT.out htt
      clear hbig hv6
      have t0 := hB3.cell (i := 0) rfl
      have t1 := hB3.cell (i := 1) rfl
      have t2 := hB3.cell (i := 2) rfl
      have t3 := hB3.cell (i := 3) rfl
      have tf := hB3.free
      have tl := hB3.lt
      go_wp2_with fail
      refine (HN.out _ (by omega) hK3).mono ?_
      rintro e w4 ⟨a4, c4, rfl, hk4, hz4⟩
      have hK4 := Stab.Keeps.trans hK3 hk4
      have hS4 := hz4.sz
      clear hB3 hK3 hk4 hz4 t0 t1 t2 t3 tf tl
      generalize hxl : xs.length = n at *
      go_wp2_with fail
      go_loopw [16] (fun i wr => ∃ k : Nat, k ≤ n ∧ i = .int .i64 k ∧ Stab.Keeps w4 wr ∧ ∀ j (hj : j < xs.length), j < k → isNaN xs[j] = false) (fun i _ => n - (intOf i).toNat)
      case atStart => exact ⟨0, Nat.zero_le _, rfl, by with_reducible (repeat (first | exact Kx.r _ | assumption | refine Kx.a ?_ _ | refine Kx.d ?_ | refine Kx.e ?_ _ | (refine Kx.s ?_ ?_ _; focus (first | (simp; done) | (simp; omega))) | refine Kx.t ?_ (by assumption))), fun j _ hj => by omega⟩
      case round =>
        obtain ⟨k, hk, rfl, hK, hC⟩ := hrel
        have hKw := Stab.Keeps.trans hK4 hK
        by_cases hlt : k < n
        · obtain ⟨bx, ox, ha, hbx, hcx⟩ := (hS4.keep hK).elem hlt
          subst ha
          have c0 : wr.cell? ⟨bx, ox + k, none⟩ = some (.float .f64 xs[k]) := by have := hcx 0 _ (by omega) (encN_get xs k (by omega)); simpa using this
          have hs : ∀ x, x = xs[k] → ∀ j (hj : j < xs.length), isNaN x = false → j < k + 1 → isNaN xs[j] = false := fun x hx j hj h hl => by
            subst hx
            rcases Nat.lt_or_ge j k with h1 | h1
            · exact hC j hj h1
            · have : j = k := by omega
              subst this; exact h
          clear hcx
          replace hs := hs _ rfl
          generalize xs[k] = x at c0 hs
          go_wp2_with fail
          · go_ret
            exact ⟨⟨false, rfl, fun h => by cases h⟩, hKw⟩
          · rename_i ho
            refine ⟨⟨k + 1, by omega, by go_num, hK, fun j hj hl => hs j hj ?_ hl⟩, by simp [intOf]; omega⟩
            rw [← isNaN_neq, ho]
        · have hkn2 : k = n := by omega
          subst hkn2
          go_wp2
          go_ret
          exact ⟨⟨true, rfl, fun _ => HANY.out htt hD (HRL.out (fun x hx => by obtain ⟨j, hj, rfl⟩ := List.getElem_of_mem hx; exact hC j hj (by omega)))⟩, hKw⟩
set_option maxRecDepth 100000 in
theorem fits_ (t : GT) (w : World) : Calls Tryz.prog 9 #[t.hd.val] w (Tells w True) := by
  obtain ⟨⟨kind, dim, na, nn, nc, ka, kn, kc⟩, nums, kids⟩ := t
  simp only [GT.hd, Gm.val]
  by_cases h1 : (2147483647 : Int) < nn
  · go_enter Tryz.func9, Tryz.ntmps9
    go_wp2_with fail
    go_ret
    refine ⟨⟨false, rfl, fun _ => trivial⟩, ?_⟩
    with_reducible (repeat (first | exact Kx.r _ | assumption | refine Kx.a ?_ _ | refine Kx.d ?_ | refine Kx.e ?_ _ | (refine Kx.s ?_ ?_ _; focus (first | (simp; done) | (simp; omega))) | refine Kx.t ?_ (by assumption)))
  by_cases h2 : (2147483647 : Int) < kn
  · go_enter Tryz.func9, Tryz.ntmps9
    go_wp2_with fail
    go_ret
    refine ⟨⟨false, rfl, fun _ => trivial⟩, ?_⟩
    with_reducible (repeat (first | exact Kx.r _ | assumption | refine Kx.a ?_ _ | refine Kx.d ?_ | refine Kx.e ?_ _ | (refine Kx.s ?_ ?_ _; focus (first | (simp; done) | (simp; omega))) | refine Kx.t ?_ (by assumption)))
  · go_enter Tryz.func9, Tryz.ntmps9
    go_wp2_with fail
    go_ret
    refine ⟨⟨true, rfl, fun _ => trivial⟩, ?_⟩
    with_reducible (repeat (first | exact Kx.r _ | assumption | refine Kx.a ?_ _ | refine Kx.d ?_ | refine Kx.e ?_ _ | (refine Kx.s ?_ ?_ _; focus (first | (simp; done) | (simp; omega))) | refine Kx.t ?_ (by assumption)))
end Go.Proofs.YtbakhldjfplbfaaGreat
