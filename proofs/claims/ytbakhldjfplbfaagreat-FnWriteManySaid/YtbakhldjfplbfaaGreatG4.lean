/-
  Lines and points brought to another type of coordinates, and made of plain data. No condition.
-/
import Derived.Test.YtbakhldjfplbfaaGreatG3
set_option linter.unusedVariables false
set_option linter.unusedSimpArgs false
namespace Go.Proofs.YtbakhldjfplbfaaGreat
open Go.RowKit Go.Fl Go.Sl Go.Pg Go.Ch Go.Kf
set_option maxRecDepth 100000 in
theorem lineForce_ {F : Nat → Prop} (d d' : Nat) (hd' : d' < 4) (ps : List Pl) (a : Option Addr) (n cap : Nat) (w : World) (h : SeqAt w F d ps a n cap) :
    Calls Tryz.prog 171 #[.agg #[.int .u8 d, .slice a n cap], .int .u8 d'] w (SeqRet w F d' (ps.map (Pl.force d'))) := by
  have hF := fun w' (hk : Stab.Keeps w w') => seqForce_ d d' hd' ps a n cap w' (h.old.keep hk)
  go_enter Tryz.func171, Tryz.ntmps171
  go_wp2_with fail
  refine (hF _ (by with_reducible (repeat (first | exact Kx.r _ | assumption | refine Kx.a ?_ _ | refine Kx.d ?_ | refine Kx.e ?_ _ | (refine Kx.s ?_ ?_ _; focus (first | (simp; done) | (simp; omega))) | refine Kx.t ?_ (by assumption))))).mono ?_
  clear hF
  rintro e w2 ⟨a2, n2, cap2, rfl, hk2, h2⟩
  obtain ⟨rc_, rf_⟩ := Stab.own_cell hk2 (w.heap.size + 1) (by first | (simp; done) | (simp; omega) | omega | (apply Stab.cell_lt (a := ⟨w.heap.size + 1, 0, none⟩); assumption))
  have r0 : w2.cell? ⟨w.heap.size + 1, 0, none⟩ = some (.int .u8 0) := by rw [rc_]; first | assumption | (go_simp; done)
  have r1 : w2.cell? ⟨w.heap.size + 1, 1, none⟩ = some (.slice none 0 0) := by rw [rc_]; first | assumption | (go_simp; done)
  have rf : ∀ j, w2.frozen? ⟨w.heap.size + 1, j, none⟩ = false := fun j => by rw [rf_]; first | (go_simp; done) | (apply_assumption)
  clear rc_ rf_
  have hl := Stab.cell_lt r0
  simp only at hl
  go_wp2_with fail
  refine bodyPost_ret (v := .agg #[.int .u8 d', .slice a2 n2 cap2]) (by simp [results, Tryz.results171, go_sem, *]) rfl ⟨a2, n2, cap2, rfl, ?_, ?_⟩
  · with_reducible (repeat (first | exact Kx.r _ | assumption | refine Kx.a ?_ _ | refine Kx.d ?_ | refine Kx.e ?_ _ | (refine Kx.s ?_ ?_ _; focus (first | (simp; done) | (simp; omega))) | refine Kx.t ?_ (by assumption)))
  · refine (h2.kf (w' := _) ?_).mono fun b _ hb => on_mono (by first | (simp; done) | (simp; omega)) hb
    repeat (first | (with_reducible exact KF.refl _ _) | (with_reducible assumption) | (with_reducible refine KF.alloc ?_ _) | (with_reducible refine KF.drew ?_) | (with_reducible refine KF.drewN ?_ _) | ((with_reducible refine KF.set ?_ ?_); focus (first | assumption | (simp [orNew, old]; done) | (simp [orNew, old]; omega) | (simp [orNew, old] at *; omega))) | (with_reducible refine KF.trans ?_ (KF.keeps (by with_reducible assumption))))
set_option maxRecDepth 100000 in
set_option maxHeartbeats 4000000 in
theorem ptForce_ (d d' : Nat) (hd : d < 4) (hd' : d' < 4) (l : List Pl) (hl : ∀ p ∈ l, p.norm d) (w : World) :
    Calls Tryz.prog 200 #[.agg (ptC d l).toArray, .int .u8 d'] w (One w (.agg (ptC d' (l.map (Pl.force d'))).toArray)) := by
  have hE := fun w' => newEmpty_ d' w'
  have h3 := fun w' => is3D_ d hd w'
  have h3' := fun w' => is3D_ d' hd' w'
  have hM := fun w' => isM_ d hd w'
  have hM' := fun w' => isM_ d' hd' w'
  cases l with
  | nil =>
    unfold ptC at hE ⊢
    go_enter Tryz.func200, Tryz.ntmps200
    go_wp2_with fail
    refine (hE _).mono ?_
    rintro e w2 ⟨rfl, hk2⟩
    obtain ⟨rc_, rf_⟩ := Stab.own_cell hk2 (w.heap.size + 1) (by first | (simp; done) | (simp; omega) | omega | (apply Stab.cell_lt (a := ⟨w.heap.size + 1, 0, none⟩); assumption))
    have r0 : w2.cell? ⟨w.heap.size + 1, 0, none⟩ = some (.float .f64 0) := by rw [rc_]; first | assumption | (go_simp; done)
    have r1 : w2.cell? ⟨w.heap.size + 1, 1, none⟩ = some (.float .f64 0) := by rw [rc_]; first | assumption | (go_simp; done)
    have r2 : w2.cell? ⟨w.heap.size + 1, 2, none⟩ = some (.float .f64 0) := by rw [rc_]; first | assumption | (go_simp; done)
    have r3 : w2.cell? ⟨w.heap.size + 1, 3, none⟩ = some (.float .f64 0) := by rw [rc_]; first | assumption | (go_simp; done)
    have r4 : w2.cell? ⟨w.heap.size + 1, 4, none⟩ = some (.int .u8 0) := by rw [rc_]; first | assumption | (go_simp; done)
    have r5 : w2.cell? ⟨w.heap.size + 1, 5, none⟩ = some (.bool false) := by rw [rc_]; first | assumption | (go_simp; done)
    have rf : ∀ j, w2.frozen? ⟨w.heap.size + 1, j, none⟩ = false := fun j => by rw [rf_]; first | (go_simp; done) | (apply_assumption)
    clear rc_ rf_
    have hl := Stab.cell_lt r0
    simp only at hl
    go_wp2_with fail
    refine bodyPost_ret (v := .agg #[.float .f64 0, .float .f64 0, .float .f64 0, .float .f64 0, .int .u8 d', .bool false]) (by simp [results, Tryz.results200, go_sem, *]) rfl ⟨rfl, ?_⟩
    with_reducible (repeat (first | exact Kx.r _ | assumption | refine Kx.a ?_ _ | refine Kx.d ?_ | refine Kx.e ?_ _ | (refine Kx.s ?_ ?_ _; focus (first | (simp; done) | (simp; omega))) | refine Kx.t ?_ (by assumption)))
  | cons p l =>
    have hn := hl p (by simp)
    obtain ⟨px, py, pz, pm⟩ := p
    obtain ⟨hz, hm⟩ := hn
    simp only at hz hm
    have zz : (if has3 d' then pz else 0) = if (has3 d' != has3 d) = true then 0 else pz := by
      cases h : has3 d <;> cases h' : has3 d' <;> simp <;> (have := hz h; omega)
    have mm : (if hasM d' then pm else 0) = if (hasM d' != hasM d) = true then 0 else pm := by
      cases h : hasM d <;> cases h' : hasM d' <;> simp <;> (have := hm h; omega)
    simp only [List.map_cons, ptC, Pl.force, zz, mm]
    clear zz mm hz hm hl hE hd hd'
    generalize has3 d' = a3' at *
    generalize has3 d = a3 at *
    generalize hasM d' = am' at *
    generalize hasM d = am at *
    cases a3' <;> cases a3 <;> cases am' <;> cases am
    all_goals
      simp only [if_true, if_false, Bool.false_eq_true, bne_self_eq_false, show (true != false) = true from rfl, show (false != true) = true from rfl]
      go_enter Tryz.func200, Tryz.ntmps200
      go_wp2_with fail
      refine Stab.keep_region (fun _ _ _ => True) (fun _ => false) (fun k => k == 1 || k == 5) Stab.pre_none (by kernel_rfl) (by kernel_rfl) fun hcx => ?_
      repeat (first
        | (refine Stab.quiet rfl rfl rfl (fun K hK => ?_); go_big_quiet_op; refine hK _ ?_; clear hK K)
        | (refine Stab.one rfl rfl rfl ?_
           apply Exists.intro
           refine ⟨fun w1 hw1 => ?_, fun K hK => ?_⟩
           · go_simp
             first | (go_at_call 141; first | exact h3 _ | exact h3' _)
           go_simp
           refine hK _ ?_
           clear hK K)
        | (refine Stab.skip rfl (fun K hK => ?_); go_simp; refine hK _ ?_; clear hK K))
      refine Stab.nil fun w2 hk2 _ => ?_
      clear hcx
      have hB : Blk w2 w.heap.size 141 [.float .f64 px, .float .f64 py, .float .f64 pz, .float .f64 pm, .int .u8 d, .bool true] := Blk.keep (by with_reducible (repeat (first | assumption | ((refine Bx.n ⟨?_, ?_⟩) <;> focus (first | rfl | (simp; done) | omega)) | refine Bx.a ?_ _ | refine Bx.d ?_ | refine Bx.e ?_ _ | (refine Bx.p ?_ ?_; focus (first | (simp; done) | (simp; omega) | omega))))) hk2
      have hR : Blk w2 (w.heap.size + 1) 141 [.float .f64 0, .float .f64 0, .float .f64 0, .float .f64 0, .int .u8 0, .bool false] := Blk.keep (by with_reducible (repeat (first | assumption | ((refine Bx.n ⟨?_, ?_⟩) <;> focus (first | rfl | (simp; done) | omega)) | refine Bx.a ?_ _ | refine Bx.d ?_ | refine Bx.e ?_ _ | (refine Bx.p ?_ ?_; focus (first | (simp; done) | (simp; omega) | omega))))) hk2
      have hkk : Stab.Keeps w w2 := by with_reducible (repeat (first | exact Kx.r _ | assumption | refine Kx.a ?_ _ | refine Kx.d ?_ | refine Kx.e ?_ _ | (refine Kx.s ?_ ?_ _; focus (first | (simp; done) | (simp; omega))) | refine Kx.t ?_ (by assumption)))
      have m0 := hB.cell (i := 0) rfl
      have m1 := hB.cell (i := 1) rfl
      have m2 := hB.cell (i := 2) rfl
      have m3 := hB.cell (i := 3) rfl
      have m4 := hB.cell (i := 4) rfl
      have m5 := hB.cell (i := 5) rfl
      have mf := hB.free
      have hl := hR.lt
      have hl' := hB.lt
      clear hk2
      go_wp2_with fail
      refine Stab.keep_region (fun _ _ _ => True) (fun _ => false) (fun k => k == 1 || k == 5) Stab.pre_none (by kernel_rfl) (by kernel_rfl) fun hcx => ?_
      repeat (first
        | (refine Stab.quiet rfl rfl rfl (fun K hK => ?_); go_big_quiet_op; refine hK _ ?_; clear hK K)
        | (refine Stab.one rfl rfl rfl ?_
           apply Exists.intro
           refine ⟨fun w1 hw1 => ?_, fun K hK => ?_⟩
           · go_simp
             first | (go_at_call 142; first | exact hM _ | exact hM' _)
           go_simp
           refine hK _ ?_
           clear hK K)
        | (refine Stab.skip rfl (fun K hK => ?_); go_simp; refine hK _ ?_; clear hK K))
      refine Stab.nil fun w3 hk3 _ => ?_
      clear hcx
      have hkf : Stab.Keeps w w3 := by with_reducible (repeat (first | exact Kx.r _ | assumption | refine Kx.a ?_ _ | refine Kx.d ?_ | refine Kx.e ?_ _ | (refine Kx.s ?_ ?_ _; focus (first | (simp; done) | (simp; omega))) | refine Kx.t ?_ (by assumption)))
      first
        | (have hB3 : Blk w3 w.heap.size 141 [.float .f64 px, .float .f64 py, .float .f64 pz, .float .f64 pm, .int .u8 d, .bool true] := Blk.keep hB hk3)
        | (have hB3 : Blk w3 w.heap.size 141 [.float .f64 px, .float .f64 py, .float .f64 0, .float .f64 pm, .int .u8 d, .bool true] := Blk.keep (hB.set 2 (.float .f64 0)) hk3)
      have hR3 : Blk w3 (w.heap.size + 1) 141 [.float .f64 0, .float .f64 0, .float .f64 0, .float .f64 0, .int .u8 0, .bool false] := Blk.keep (by with_reducible (repeat (first | assumption | ((refine Bx.n ⟨?_, ?_⟩) <;> focus (first | rfl | (simp; done) | omega)) | refine Bx.a ?_ _ | refine Bx.d ?_ | refine Bx.e ?_ _ | (refine Bx.p ?_ ?_; focus (first | (simp; done) | (simp; omega) | omega))))) hk3
      clear m0 m1 m2 m3 m4 m5 mf hl hl' hB hR hk3
      have m0 := hB3.cell (i := 0) rfl
      have m1 := hB3.cell (i := 1) rfl
      have m2 := hB3.cell (i := 2) rfl
      have m3 := hB3.cell (i := 3) rfl
      have m4 := hB3.cell (i := 4) rfl
      have m5 := hB3.cell (i := 5) rfl
      have mf := hB3.free
      have r0 := hR3.cell (i := 0) rfl
      have r1 := hR3.cell (i := 1) rfl
      have r2 := hR3.cell (i := 2) rfl
      have r3 := hR3.cell (i := 3) rfl
      have r4 := hR3.cell (i := 4) rfl
      have r5 := hR3.cell (i := 5) rfl
      have rf := hR3.free
      have hl := hR3.lt
      have hl' := hB3.lt
      clear hB3 hR3
      go_wp2_with fail
      refine bodyPost_ret (by simp [results, Tryz.results200, go_sem, *]; done) rfl ⟨rfl, ?_⟩
      with_reducible (repeat (first | exact Kx.r _ | assumption | refine Kx.a ?_ _ | refine Kx.d ?_ | refine Kx.e ?_ _ | (refine Kx.s ?_ ?_ _; focus (first | (simp; done) | (simp; omega))) | refine Kx.t ?_ (by assumption)))
end Go.Proofs.YtbakhldjfplbfaaGreat
