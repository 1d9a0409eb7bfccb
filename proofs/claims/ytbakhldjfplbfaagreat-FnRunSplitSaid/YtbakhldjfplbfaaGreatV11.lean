/-
  The hull's places of what a formed shape makes; small functions of the law. No condition.
-/
import Derived.Test.YtbakhldjfplbfaaGreatV10
import Derived.Test.YtbakhldjfplbfaaGreatFwl
import Derived.Test.YtbakhldjfplbfaaGreatR5
set_option linter.unusedVariables false
set_option linter.unusedSimpArgs false
namespace Go.Proofs.YtbakhldjfplbfaaGreat
open Go.RowKit Go.Fl Go.Sl Go.Pg Go.Ch Go.Kf
theorem real_int (n : Int) (h : -1048576 ≤ n ∧ n ≤ 1048576) : (FloatKind.f64.format.order (floatOfInt .f64 n) (floatOfInt .f64 n) != some .eq) = false := by
  have hf := (Go.Fw.is_fi (n := n) (by omega) (by omega)).fin
  obtain ⟨s, m, e, hr⟩ := fin_read hf
  rw [isNaN_neq]
  unfold Go.Fl.isNaN
  rw [hr]
  rfl
theorem geomP_eq (h : Sm) (pts : List (Int × Int)) (kids : List ST) : geomP (.node h pts kids) = .node h.kind.toNat 0 (pts.map ptP) (kids.map geomP) := by rw [geomP, geomPs_eq]
theorem geomP_kind (t : ST) : (geomP t).kind = t.hd.kind.toNat := by obtain ⟨h, p, k⟩ := t; rw [geomP_eq]; rfl
theorem geomP_dim (t : ST) : (geomP t).dim = 0 := by obtain ⟨h, p, k⟩ := t; rw [geomP_eq]; rfl
theorem geomP_ps (t : ST) : (geomP t).ps = t.pts.map ptP := by obtain ⟨h, p, k⟩ := t; rw [geomP_eq]; rfl
theorem made_geomP {t : ST} (h : t.Formed) : PgMade (geomP t) := by
  induction h with
  | leaf hd pts hk hp =>
    rw [geomP_eq]
    rcases hk with ⟨h1, h2⟩ | h1
    · rw [h1]
      exact .pt 0 _ (by omega) (by simpa using h2) (fun q hq => by obtain ⟨r, _, rfl⟩ := List.mem_map.1 hq; exact ptP_norm r)
    · rw [h1]
      exact .ls 0 _ (by omega) (fun q hq => by obtain ⟨r, _, rfl⟩ := List.mem_map.1 hq; exact ptP_norm r)
  | many hd kids hk hg hf ih =>
    rw [geomP_eq]
    refine .wh _ 0 _ (by omega) (by omega) (by omega) (by omega) (fun c hc => ?_) (fun c hc => ?_) (fun c hc => ?_)
    · obtain ⟨r, _, rfl⟩ := List.mem_map.1 hc; exact geomP_dim r
    · obtain ⟨r, hr, rfl⟩ := List.mem_map.1 hc
      have h1 := hg r hr
      unfold goodKid at h1
      unfold takes
      rw [geomP_kind]
      generalize hd.kind = K at *
      generalize r.hd.kind = C at *
      split
      · simp; omega
      · split
        · simp; omega
        · split
          · simp; omega
          · rfl
    · obtain ⟨r, hr, rfl⟩ := List.mem_map.1 hc; exact ih r hr
theorem hull_geomP {t : ST} (h : t.Formed) : hullL (geomP t) = t.hp.map ptP := by
  induction h with
  | leaf hd pts hk hp =>
    rw [geomP_eq]
    have h3 : ¬ hd.kind = 3 := by omega
    have h1 : hd.kind.toNat = 1 ∨ hd.kind.toNat = 2 := by omega
    simp [hullL, ST.hp, ST.hps, h3, h1]
  | many hd kids hk hg hf ih =>
    rw [geomP_eq]
    have h1 : ¬ (hd.kind.toNat = 1 ∨ hd.kind.toNat = 2) := by omega
    by_cases h3 : hd.kind = 3
    · have h4 : hd.kind.toNat = 3 := by omega
      cases kids with
      | nil => simp [hullL, ST.hp, h3]
      | cons k r => simp [hullL, ST.hp, h3, geomP_ps]
    · have h4 : ¬ hd.kind.toNat = 3 := by omega
      have hA : ∀ l : List ST, (∀ k ∈ l, hullL (geomP k) = k.hp.map ptP) → hullLs (l.map geomP) = (ST.hps l).map ptP := by
        intro l
        induction l with
        | nil => intro _; simp [hullLs, ST.hps]
        | cons a l ih2 =>
          intro hl
          simp only [List.map_cons, hullLs, ST.hps, List.map_append]
          rw [hl a (List.mem_cons_self ..), ih2 fun c hc => hl c (List.mem_cons_of_mem _ hc)]
      simp only [hullL, ST.hp, if_neg h1, if_neg h3, if_neg h4, List.nil_append]
      exact hA kids ih
theorem num_geomP : ∀ t : ST, t.total ≤ 400 → PgNum 1000 (geomP t) := ST.ind fun h pts kids ih ht => by
  rw [geomP_eq]
  simp only [ST.total] at ht
  have hl := stotals_len kids
  refine .mk _ _ _ _ ?_ (by simp; omega) (fun c hc => ?_)
  · rw [List.length_map]
    rw [show wid 0 = 2 from rfl]
    omega
  · obtain ⟨r, hr, rfl⟩ := List.mem_map.1 hc
    exact ih r hr (by have := stotals_mem hr; omega)
theorem hp_ok {t : ST} (h : t.Formed) : ∀ p ∈ t.hp, PtOk p := by
  have hpt : ∀ {t : ST}, t.Formed → ∀ p ∈ t.pts, PtOk p := fun {t} h => by
    cases h with
    | leaf _ _ _ hp => exact hp
    | many => intro p hp; simp [ST.pts] at hp
  induction h with
  | leaf hd pts hk hp =>
    have h3 : ¬ hd.kind = 3 := by omega
    simpa [ST.hp, ST.hps, h3] using hp
  | many hd kids hk hg hf ih =>
    by_cases h3 : hd.kind = 3
    · cases kids with
      | nil => simp [ST.hp, h3]
      | cons k r =>
        simp only [ST.hp, if_pos h3]
        exact hpt (hf k (List.mem_cons_self ..))
    · have hA : ∀ l : List ST, (∀ k ∈ l, ∀ p ∈ k.hp, PtOk p) → ∀ p ∈ ST.hps l, PtOk p := by
        intro l
        induction l with
        | nil => intro _ p hp; simp [ST.hps] at hp
        | cons a l ih2 =>
          intro hl p hp
          simp only [ST.hps, List.mem_append] at hp
          rcases hp with hp | hp
          · exact hl a (List.mem_cons_self ..) p hp
          · exact ih2 (fun c hc => hl c (List.mem_cons_of_mem _ hc)) p hp
      simp only [ST.hp, if_neg h3, List.nil_append]
      exact hA kids ih
set_option maxRecDepth 100000 in
theorem formed_ (t : ST) (w : World) (hA : t.At w) : Calls Tryz.prog 16 #[t.hd.val, .int .i64 1048576] w (Tells w t.Formed) := by
  have hS := fun w' hk => formedBelow_ w t hA 100 w' (by omega) (by omega) hk
  generalize t.Formed = P at *
  obtain ⟨⟨kind, pa, pn, pc, ka, kn, kc⟩, pts, kids⟩ := t
  simp only [ST.hd, Sm.val] at hS ⊢
  clear hA
  go_enter Tryz.func16, Tryz.ntmps16
  go_wp2_with fail
  refine (hS _ (by with_reducible (repeat (first | exact Kx.r _ | assumption | refine Kx.a ?_ _ | refine Kx.d ?_ | refine Kx.e ?_ _ | (refine Kx.s ?_ ?_ _; focus (first | (simp; done) | (simp; omega))) | refine Kx.t ?_ (by assumption))))).mono ?_
  rintro e w3 ⟨⟨v, rfl, hv⟩, hk3⟩
  have HV := Lib.hid hv
  clear hS hv
  go_wp2_with fail
  go_ret
  refine ⟨⟨v, rfl, HV.out⟩, ?_⟩
  with_reducible (repeat (first | exact Kx.r _ | assumption | refine Kx.a ?_ _ | refine Kx.d ?_ | refine Kx.e ?_ _ | (refine Kx.s ?_ ?_ _; focus (first | (simp; done) | (simp; omega))) | refine Kx.t ?_ (by assumption)))
set_option maxRecDepth 100000 in
theorem figure_ (t : ST) (w : World) (hA : t.At w) (hT : t.total ≤ 1000) (hF : t.Formed) : Calls Tryz.prog 20 #[t.hd.val] w (RetR w no GmR (geomP t)) := by
  have hS := fun w' hk => geomOf_ w t hA w' hT hF hk
  generalize geomP t = P at *
  obtain ⟨⟨kind, pa, pn, pc, ka, kn, kc⟩, pts, kids⟩ := t
  simp only [ST.hd, Sm.val] at hS ⊢
  clear hA hT hF
  go_enter Tryz.func20, Tryz.ntmps20
  go_wp2_with fail
  refine (hS _ (by with_reducible (repeat (first | exact Kx.r _ | assumption | refine Kx.a ?_ _ | refine Kx.d ?_ | refine Kx.e ?_ _ | (refine Kx.s ?_ ?_ _; focus (first | (simp; done) | (simp; omega))) | refine Kx.t ?_ (by assumption))))).mono ?_
  clear hS
  rintro e w3 ⟨cs, rfl, hk3, hx⟩
  obtain ⟨zk, zd, zna, znn, znc, zka, zkn, zkc, rfl⟩ := hx.four
  have hB := (show Blk _ (w.heap.size + 1) 25 [.int .i64 0, .int .i64 0, .slice none 0 0, .slice none 0 0] from by with_reducible (repeat (first | assumption | ((refine Bx.n ⟨?_, ?_⟩) <;> focus (first | rfl | (simp; done) | omega)) | refine Bx.a ?_ _ | refine Bx.d ?_ | refine Bx.e ?_ _ | (refine Bx.p ?_ ?_; focus (first | (simp; done) | (simp; omega) | omega))))).keep hk3
  have hkw : Stab.Keeps w w3 := by with_reducible (repeat (first | exact Kx.r _ | assumption | refine Kx.a ?_ _ | refine Kx.d ?_ | refine Kx.e ?_ _ | (refine Kx.s ?_ ?_ _; focus (first | (simp; done) | (simp; omega))) | refine Kx.t ?_ (by assumption)))
  clear hk3
  have g0 := hB.cell (i := 0) rfl
  have g1 := hB.cell (i := 1) rfl
  have g2 := hB.cell (i := 2) rfl
  have g3 := hB.cell (i := 3) rfl
  have gf := hB.free
  have gl := hB.lt
  have hkz : Stab.Keeps w ((((w3.setCell ⟨w.heap.size + 1, 0, none⟩ (.int .i64 zk)).setCell ⟨w.heap.size + 1, 1, none⟩ (.int .i64 zd)).setCell ⟨w.heap.size + 1, 2, none⟩ (.slice zna znn znc)).setCell ⟨w.heap.size + 1, 3, none⟩ (.slice zka zkn zkc)) := by with_reducible (repeat (first | exact Kx.r _ | assumption | refine Kx.a ?_ _ | refine Kx.d ?_ | refine Kx.e ?_ _ | (refine Kx.s ?_ ?_ _; focus (first | (simp; done) | (simp; omega))) | refine Kx.t ?_ (by assumption)))
  have hxz := gmS.kf (w' := (((w3.setCell ⟨w.heap.size + 1, 0, none⟩ (.int .i64 zk)).setCell ⟨w.heap.size + 1, 1, none⟩ (.int .i64 zd)).setCell ⟨w.heap.size + 1, 2, none⟩ (.slice zna znn znc)).setCell ⟨w.heap.size + 1, 3, none⟩ (.slice zka zkn zkc)) hx (((((KF.refl _ _).set (fun h => by simp [orNew, no] at h; omega)).set (fun h => by simp [orNew, no] at h; omega)).set (fun h => by simp [orNew, no] at h; omega)).set (fun h => by simp [orNew, no] at h; omega))
  clear hx hB
  go_wp2_with fail
  refine bodyPost_ret (v := .agg #[.int .i64 zk, .int .i64 zd, .slice zna znn znc, .slice zka zkn zkc]) (by simp [results, Tryz.results20, go_sem, *]) rfl ⟨[.int .i64 zk, .int .i64 zd, .slice zna znn znc, .slice zka zkn zkc], rfl, hkz, ?_⟩
  exact gmS.mono hxz (fun b _ hb => by simp [orNew, no] at hb; exact .inr (by omega))
end Go.Proofs.YtbakhldjfplbfaaGreat
