/-
  Sequences of places: a line's, one place of them, and told as plain numbers. No condition.
-/
import Derived.Test.YtinbkonmlgediaaGreatXSeq
set_option linter.unusedVariables false
set_option linter.unusedSimpArgs false
namespace Go.Proofs.YtinbkonmlgediaaGreat
open Go.RowKit Go.Fl Go.Sl
/-- a block of coordinates that was made at B or later -/
def CoordF (B : Nat) (k : Nat) (v : Value) (w : World) : Prop := k = 19 → ∃ g, v = .pointer (some ⟨g, 0, none⟩) ∧ B ≤ g ∧ g < w.heap.size ∧ (∀ j, j < 4 → w.cell? ⟨g, j, none⟩ = some (.float .f64 0)) ∧ w.cell? ⟨g, 4, none⟩ = some (.int .u8 0) ∧ ∀ j, w.frozen? ⟨g, j, none⟩ = false
theorem coordPre (B : Nat) : Stab.Pre Stab.Keeps (CoordF B) :=
  ⟨Stab.Keeps.refl, Stab.Keeps.trans, fun k v w w' hk hF e => by
    obtain ⟨g, h1, h2, h3, h4, h5, h6⟩ := hF e
    obtain ⟨hc, hf⟩ := Stab.own_cell hk g h3
    exact ⟨g, h1, h2, Nat.lt_of_lt_of_le h3 hk.size, fun j hj => by rw [hc]; exact h4 j hj, by rw [hc]; exact h5, fun j => by rw [hf]; exact h6 j⟩⟩
set_option maxRecDepth 100000 in
set_option maxHeartbeats 600000 in
theorem get2_ (b off n cap i x0 x1 : Nat) (w : World) (hc : n ≤ cap) (hm : cap ≤ maxLen) (hs : n ≤ 1000000) (hi : i * 2 + 2 ≤ n) (hb : b < w.heap.size)
    (c0 : w.cell? ⟨b, off + i * 2, none⟩ = some (.float .f64 x0)) (c1 : w.cell? ⟨b, off + (i * 2 + 1), none⟩ = some (.float .f64 x1)) :
    Calls Tryz.prog 78 #[.agg #[.int .u8 0, .slice (some ⟨b, off, none⟩) n cap], .int .i64 i] w (One w (.agg #[.float .f64 x0, .float .f64 x1, .float .f64 0, .float .f64 0, .int .u8 0])) := by
  have hD := fun w' => dimension_ 0 (by omega) w'
  rw [show dimN 0 = 2 from rfl] at hD
  simp only [Int.natCast_zero, Int.cast_ofNat_Int] at hD
  unfold maxLen at hm
  go_enter Tryz.func78, Tryz.ntmps78
  go_wp2_with fail
  refine (hD _).mono ?_
  rintro e w2 ⟨rfl, hk2⟩
  obtain ⟨mc_, mf_⟩ := Stab.own_cell hk2 (w.heap.size) (by first | (simp; done) | (simp; omega) | omega | (apply Stab.cell_lt (a := ⟨w.heap.size, 0, none⟩); assumption))
  have m0 : w2.cell? ⟨w.heap.size, 0, none⟩ = some (.int .u8 0) := by rw [mc_]; first | assumption | (go_simp; done)
  have m1 : w2.cell? ⟨w.heap.size, 1, none⟩ = some (.slice (some ⟨b, off, none⟩) n cap) := by rw [mc_]; first | assumption | (go_simp; done)
  have mf : ∀ j, w2.frozen? ⟨w.heap.size, j, none⟩ = false := fun j => by rw [mf_]; first | (go_simp; done) | (apply_assumption)
  clear mc_ mf_
  obtain ⟨rc_, rf_⟩ := Stab.own_cell hk2 (w.heap.size + 1) (by first | (simp; done) | (simp; omega) | omega | (apply Stab.cell_lt (a := ⟨w.heap.size + 1, 0, none⟩); assumption))
  have r0 : w2.cell? ⟨w.heap.size + 1, 0, none⟩ = some (.float .f64 0) := by rw [rc_]; first | assumption | (go_simp; done)
  have r1 : w2.cell? ⟨w.heap.size + 1, 1, none⟩ = some (.float .f64 0) := by rw [rc_]; first | assumption | (go_simp; done)
  have r2 : w2.cell? ⟨w.heap.size + 1, 2, none⟩ = some (.float .f64 0) := by rw [rc_]; first | assumption | (go_simp; done)
  have r3 : w2.cell? ⟨w.heap.size + 1, 3, none⟩ = some (.float .f64 0) := by rw [rc_]; first | assumption | (go_simp; done)
  have r4 : w2.cell? ⟨w.heap.size + 1, 4, none⟩ = some (.int .u8 0) := by rw [rc_]; first | assumption | (go_simp; done)
  have rf : ∀ j, w2.frozen? ⟨w.heap.size + 1, j, none⟩ = false := fun j => by rw [rf_]; first | (go_simp; done) | (apply_assumption)
  clear rc_ rf_
  have hw2 : Stab.Keeps w w2 := by with_reducible (repeat first | exact Kx.r _ | assumption | refine Kx.a ?_ _ | refine Kx.d ?_ | refine Kx.e ?_ _ | refine Kx.s (by simp <;> omega) ?_ _ | refine Kx.t ?_ (by assumption))
  have c0' : w2.cell? ⟨b, off + i * 2, none⟩ = some (.float .f64 x0) := by rw [(Stab.own_cell hw2 b hb).1]; exact c0
  have c1' : w2.cell? ⟨b, off + (i * 2 + 1), none⟩ = some (.float .f64 x1) := by rw [(Stab.own_cell hw2 b hb).1]; exact c1
  clear c0 c1 hD
  go_wp2_with fail
  have w1 : IntKind.i64.wrap ((i : Int) * 2) = (i : Int) * 2 := IntWalk.i64_in _ (by omega)
  have w3 : IntKind.i64.wrap ((i : Int) * 2 + 1) = (i : Int) * 2 + 1 := IntWalk.i64_in _ (by omega)
  have b1 : (0 : Int) ≤ (i : Int) * 2 := by omega
  have b2 : ((i : Int) * 2).toNat = i * 2 := by omega
  have b3 : (0 : Int) ≤ (i : Int) * 2 + 1 := by omega
  have b4 : ((i : Int) * 2 + 1).toNat = i * 2 + 1 := by omega
  have b5 : (i : Int) * 2 < n := by omega
  have b6 : (i : Int) * 2 + 1 < n := by omega
  have hl0 := Stab.cell_lt m0
  simp only at hl0
  have hbw : b < w2.heap.size := Nat.lt_of_lt_of_le hb hw2.size
  refine Stab.keep_tail 20 (CoordF w2.heap.size) (fun k => k == 19) (fun k => false) (coordPre _) (by kernel_rfl) (by kernel_rfl) fun hcx => ?_
  simp only [List.take_succ_cons, List.take_zero, List.drop_succ_cons, List.drop_zero]
  repeat (first
    | (refine Stab.quiet rfl rfl rfl (fun K hK => ?_); go_big_quiet_op; refine hK _ ?_; clear hK K)
    | (refine Stab.one rfl rfl rfl ?_
       apply Exists.intro
       refine ⟨fun w1 hw1 => ?_, fun K hK => ?_⟩
       · go_simp
         first | fail
       go_simp
       refine hK _ ?_
       clear hK K)
    | (refine Stab.skip rfl (fun K hK => ?_); go_simp; refine hK _ ?_; clear hK K))
  refine Stab.made rfl rfl (fun w1 hk1 => ?_) (fun v hv K hK => ?_)
  · go_simp
    have hge : w2.heap.size ≤ w1.heap.size := Below.size hk1.1
    refine ⟨by with_reducible (repeat first | exact Kx.r _ | assumption | refine Kx.a ?_ _ | refine Kx.d ?_ | refine Kx.e ?_ _ | refine Kx.s (by simp <;> omega) ?_ _ | refine Kx.t ?_ (by assumption)), fun _ => ⟨_, rfl, hge, by simp, ?_, by go_simp, fun j => by go_simp⟩⟩
    intro j hj
    have : j = 0 ∨ j = 1 ∨ j = 2 ∨ j = 3 := by omega
    rcases this with rfl | rfl | rfl | rfl <;> go_simp
  obtain ⟨wv, _, _, hv⟩ := hv
  obtain ⟨g, rfl, hg, _⟩ := hv rfl
  go_simp
  refine hK _ ?_
  clear hK
  refine Stab.nil fun w' hw' hfs => ?_
  obtain ⟨g', he, _, hg2, hz, hz4, hgf⟩ := Stab.setF_new (hfs 19) rfl
  cases he
  have z0 := hz 0 (by omega)
  have z1 := hz 1 (by omega)
  have z2 := hz 2 (by omega)
  have z3 := hz 3 (by omega)
  clear hz hcx hfs
  obtain ⟨pc_, pf_⟩ := Stab.own_cell hw' (w.heap.size) (by first | (simp; done) | (simp; omega) | omega | (apply Stab.cell_lt (a := ⟨w.heap.size, 0, none⟩); assumption))
  have p0 : w'.cell? ⟨w.heap.size, 0, none⟩ = some (.int .u8 0) := by rw [pc_]; first | assumption | (go_simp; done)
  have p1 : w'.cell? ⟨w.heap.size, 1, none⟩ = some (.slice (some ⟨b, off, none⟩) n cap) := by rw [pc_]; first | assumption | (go_simp; done)
  have pf : ∀ j, w'.frozen? ⟨w.heap.size, j, none⟩ = false := fun j => by rw [pf_]; first | (go_simp; done) | (apply_assumption)
  clear pc_ pf_
  obtain ⟨qc_, qf_⟩ := Stab.own_cell hw' (w.heap.size + 1) (by first | (simp; done) | (simp; omega) | omega | (apply Stab.cell_lt (a := ⟨w.heap.size + 1, 0, none⟩); assumption))
  have q0 : w'.cell? ⟨w.heap.size + 1, 0, none⟩ = some (.float .f64 0) := by rw [qc_]; first | assumption | (go_simp; done)
  have q1 : w'.cell? ⟨w.heap.size + 1, 1, none⟩ = some (.float .f64 0) := by rw [qc_]; first | assumption | (go_simp; done)
  have q2 : w'.cell? ⟨w.heap.size + 1, 2, none⟩ = some (.float .f64 0) := by rw [qc_]; first | assumption | (go_simp; done)
  have q3 : w'.cell? ⟨w.heap.size + 1, 3, none⟩ = some (.float .f64 0) := by rw [qc_]; first | assumption | (go_simp; done)
  have q4 : w'.cell? ⟨w.heap.size + 1, 4, none⟩ = some (.int .u8 0) := by rw [qc_]; first | assumption | (go_simp; done)
  have qf : ∀ j, w'.frozen? ⟨w.heap.size + 1, j, none⟩ = false := fun j => by rw [qf_]; first | (go_simp; done) | (apply_assumption)
  clear qc_ qf_
  have hlr := Stab.cell_lt r0
  simp only at hlr
  go_wp2_with fail
  refine bodyPost_ret (v := .agg #[.float .f64 x0, .float .f64 x1, .float .f64 0, .float .f64 0, .int .u8 0]) (by simp [results, Tryz.results78, go_sem, *]) rfl ⟨rfl, ?_⟩
  have hge : w.heap.size ≤ g := Nat.le_trans hw2.size hg
  with_reducible (repeat first | exact Kx.r _ | assumption | refine Kx.a ?_ _ | refine Kx.d ?_ | refine Kx.e ?_ _ | refine Kx.s (by simp <;> omega) ?_ _ | refine Kx.t ?_ (by assumption))
set_option maxRecDepth 100000 in
set_option maxHeartbeats 1000000 in
theorem get3z_ (b off n cap i x0 x1 x2 : Nat) (w : World) (hc : n ≤ cap) (hm : cap ≤ maxLen) (hs : n ≤ 1000000) (hi : i * 3 + 3 ≤ n) (hb : b < w.heap.size)
    (c0 : w.cell? ⟨b, off + i * 3, none⟩ = some (.float .f64 x0)) (c1 : w.cell? ⟨b, off + (i * 3 + 1), none⟩ = some (.float .f64 x1)) (c2 : w.cell? ⟨b, off + (i * 3 + 2), none⟩ = some (.float .f64 x2)) :
    Calls Tryz.prog 78 #[.agg #[.int .u8 1, .slice (some ⟨b, off, none⟩) n cap], .int .i64 i] w (One w (.agg #[.float .f64 x0, .float .f64 x1, .float .f64 x2, .float .f64 0, .int .u8 1])) := by
  have hD := fun w' => dimension_ 1 (by omega) w'
  rw [show dimN 1 = 3 from rfl] at hD
  simp only [Int.natCast_zero, Int.cast_ofNat_Int] at hD
  unfold maxLen at hm
  go_enter Tryz.func78, Tryz.ntmps78
  go_wp2_with fail
  refine (hD _).mono ?_
  rintro e w2 ⟨rfl, hk2⟩
  obtain ⟨mc_, mf_⟩ := Stab.own_cell hk2 (w.heap.size) (by first | (simp; done) | (simp; omega) | omega | (apply Stab.cell_lt (a := ⟨w.heap.size, 0, none⟩); assumption))
  have m0 : w2.cell? ⟨w.heap.size, 0, none⟩ = some (.int .u8 1) := by rw [mc_]; first | assumption | (go_simp; done)
  have m1 : w2.cell? ⟨w.heap.size, 1, none⟩ = some (.slice (some ⟨b, off, none⟩) n cap) := by rw [mc_]; first | assumption | (go_simp; done)
  have mf : ∀ j, w2.frozen? ⟨w.heap.size, j, none⟩ = false := fun j => by rw [mf_]; first | (go_simp; done) | (apply_assumption)
  clear mc_ mf_
  obtain ⟨rc_, rf_⟩ := Stab.own_cell hk2 (w.heap.size + 1) (by first | (simp; done) | (simp; omega) | omega | (apply Stab.cell_lt (a := ⟨w.heap.size + 1, 0, none⟩); assumption))
  have r0 : w2.cell? ⟨w.heap.size + 1, 0, none⟩ = some (.float .f64 0) := by rw [rc_]; first | assumption | (go_simp; done)
  have r1 : w2.cell? ⟨w.heap.size + 1, 1, none⟩ = some (.float .f64 0) := by rw [rc_]; first | assumption | (go_simp; done)
  have r2 : w2.cell? ⟨w.heap.size + 1, 2, none⟩ = some (.float .f64 0) := by rw [rc_]; first | assumption | (go_simp; done)
  have r3 : w2.cell? ⟨w.heap.size + 1, 3, none⟩ = some (.float .f64 0) := by rw [rc_]; first | assumption | (go_simp; done)
  have r4 : w2.cell? ⟨w.heap.size + 1, 4, none⟩ = some (.int .u8 0) := by rw [rc_]; first | assumption | (go_simp; done)
  have rf : ∀ j, w2.frozen? ⟨w.heap.size + 1, j, none⟩ = false := fun j => by rw [rf_]; first | (go_simp; done) | (apply_assumption)
  clear rc_ rf_
  have hw2 : Stab.Keeps w w2 := by with_reducible (repeat first | exact Kx.r _ | assumption | refine Kx.a ?_ _ | refine Kx.d ?_ | refine Kx.e ?_ _ | refine Kx.s (by simp <;> omega) ?_ _ | refine Kx.t ?_ (by assumption))
  have c0' : w2.cell? ⟨b, off + i * 3, none⟩ = some (.float .f64 x0) := by rw [(Stab.own_cell hw2 b hb).1]; exact c0
  have c1' : w2.cell? ⟨b, off + (i * 3 + 1), none⟩ = some (.float .f64 x1) := by rw [(Stab.own_cell hw2 b hb).1]; exact c1
  have c2' : w2.cell? ⟨b, off + (i * 3 + 2), none⟩ = some (.float .f64 x2) := by rw [(Stab.own_cell hw2 b hb).1]; exact c2
  clear c0 c1 hD c2
  go_wp2_with fail
  have w1 : IntKind.i64.wrap ((i : Int) * 3) = (i : Int) * 3 := IntWalk.i64_in _ (by omega)
  have w3 : IntKind.i64.wrap ((i : Int) * 3 + 1) = (i : Int) * 3 + 1 := IntWalk.i64_in _ (by omega)
  have b1 : (0 : Int) ≤ (i : Int) * 3 := by omega
  have b2 : ((i : Int) * 3).toNat = i * 3 := by omega
  have b3 : (0 : Int) ≤ (i : Int) * 3 + 1 := by omega
  have b4 : ((i : Int) * 3 + 1).toNat = i * 3 + 1 := by omega
  have b5 : (i : Int) * 3 < n := by omega
  have b6 : (i : Int) * 3 + 1 < n := by omega
  have hl0 := Stab.cell_lt m0
  simp only at hl0
  have hbw : b < w2.heap.size := Nat.lt_of_lt_of_le hb hw2.size
  have w32 : IntKind.i64.wrap ((i : Int) * 3 + 2) = (i : Int) * 3 + 2 := IntWalk.i64_in _ (by omega)
  have b32 : (0 : Int) ≤ (i : Int) * 3 + 2 := by omega
  have b42 : ((i : Int) * 3 + 2).toNat = i * 3 + 2 := by omega
  have b62 : (i : Int) * 3 + 2 < n := by omega
  refine Stab.keep_tail 20 (CoordF w2.heap.size) (fun k => k == 19) (fun k => false) (coordPre _) (by kernel_rfl) (by kernel_rfl) fun hcx => ?_
  simp only [List.take_succ_cons, List.take_zero, List.drop_succ_cons, List.drop_zero]
  repeat (first
    | (refine Stab.quiet rfl rfl rfl (fun K hK => ?_); go_big_quiet_op; refine hK _ ?_; clear hK K)
    | (refine Stab.one rfl rfl rfl ?_
       apply Exists.intro
       refine ⟨fun w1 hw1 => ?_, fun K hK => ?_⟩
       · go_simp
         first | fail
       go_simp
       refine hK _ ?_
       clear hK K)
    | (refine Stab.skip rfl (fun K hK => ?_); go_simp; refine hK _ ?_; clear hK K))
  refine Stab.made rfl rfl (fun w1 hk1 => ?_) (fun v hv K hK => ?_)
  · go_simp
    have hge : w2.heap.size ≤ w1.heap.size := Below.size hk1.1
    refine ⟨by with_reducible (repeat first | exact Kx.r _ | assumption | refine Kx.a ?_ _ | refine Kx.d ?_ | refine Kx.e ?_ _ | refine Kx.s (by simp <;> omega) ?_ _ | refine Kx.t ?_ (by assumption)), fun _ => ⟨_, rfl, hge, by simp, ?_, by go_simp, fun j => by go_simp⟩⟩
    intro j hj
    have : j = 0 ∨ j = 1 ∨ j = 2 ∨ j = 3 := by omega
    rcases this with rfl | rfl | rfl | rfl <;> go_simp
  obtain ⟨wv, u1, u2, hv⟩ := hv
  obtain ⟨g, rfl, hg, u3⟩ := hv rfl
  clear u1 u2 u3
  go_simp
  refine hK _ ?_
  clear hK
  refine Stab.nil fun w' hw' hfs => ?_
  obtain ⟨g', he, u1, hg2, hz, hz4, hgf⟩ := Stab.setF_new (hfs 19) rfl
  cases he
  have z0 := hz 0 (by omega)
  have z1 := hz 1 (by omega)
  have z2 := hz 2 (by omega)
  have z3 := hz 3 (by omega)
  clear hz hcx hfs
  have d2 : w'.cell? ⟨b, off + (i * 3 + 2), none⟩ = some (.float .f64 x2) := by rw [(Stab.own_cell hw' b hbw).1]; exact c2'
  obtain ⟨pc_, pf_⟩ := Stab.own_cell hw' (w.heap.size) (by first | (simp; done) | (simp; omega) | omega | (apply Stab.cell_lt (a := ⟨w.heap.size, 0, none⟩); assumption))
  have p0 : w'.cell? ⟨w.heap.size, 0, none⟩ = some (.int .u8 1) := by rw [pc_]; first | assumption | (go_simp; done)
  have p1 : w'.cell? ⟨w.heap.size, 1, none⟩ = some (.slice (some ⟨b, off, none⟩) n cap) := by rw [pc_]; first | assumption | (go_simp; done)
  have pf : ∀ j, w'.frozen? ⟨w.heap.size, j, none⟩ = false := fun j => by rw [pf_]; first | (go_simp; done) | (apply_assumption)
  clear pc_ pf_
  obtain ⟨qc_, qf_⟩ := Stab.own_cell hw' (w.heap.size + 1) (by first | (simp; done) | (simp; omega) | omega | (apply Stab.cell_lt (a := ⟨w.heap.size + 1, 0, none⟩); assumption))
  have q0 : w'.cell? ⟨w.heap.size + 1, 0, none⟩ = some (.float .f64 0) := by rw [qc_]; first | assumption | (go_simp; done)
  have q1 : w'.cell? ⟨w.heap.size + 1, 1, none⟩ = some (.float .f64 0) := by rw [qc_]; first | assumption | (go_simp; done)
  have q2 : w'.cell? ⟨w.heap.size + 1, 2, none⟩ = some (.float .f64 0) := by rw [qc_]; first | assumption | (go_simp; done)
  have q3 : w'.cell? ⟨w.heap.size + 1, 3, none⟩ = some (.float .f64 0) := by rw [qc_]; first | assumption | (go_simp; done)
  have q4 : w'.cell? ⟨w.heap.size + 1, 4, none⟩ = some (.int .u8 0) := by rw [qc_]; first | assumption | (go_simp; done)
  have qf : ∀ j, w'.frozen? ⟨w.heap.size + 1, j, none⟩ = false := fun j => by rw [qf_]; first | (go_simp; done) | (apply_assumption)
  clear qc_ qf_
  have hlr := Stab.cell_lt r0
  simp only at hlr
  have hgb : w.heap.size + 1 < g := by omega
  clear u1
  rename_i hKont
  have hid : Go.RowKit.Hid _ := hKont
  clear hKont
  clear w1 w3 b1 b2 b3 b4 b5 b6 m0 m1 mf r0 r1 r2 r3 r4 rf
  go_wp2_with fail
  generalize hW : World.setCell _ _ _ = W
  replace hW : Go.RowKit.Hid (_ = W) := hW
  have hge : w.heap.size ≤ g := by omega
  have hkW : Stab.Keeps w W := by
    rw [← hW.out]
    with_reducible (repeat first | exact Kx.r _ | assumption | refine Kx.a ?_ _ | refine Kx.d ?_ | refine Kx.e ?_ _ | refine Kx.s (by simp <;> omega) ?_ _ | refine Kx.t ?_ (by assumption))
  have y0 : W.cell? ⟨g, 0, none⟩ = some (.float .f64 x0) := by rw [← hW.out]; go_simp
  have y1 : W.cell? ⟨g, 1, none⟩ = some (.float .f64 x1) := by rw [← hW.out]; go_simp
  have y2 : W.cell? ⟨g, 2, none⟩ = some (.float .f64 0) := by rw [← hW.out]; go_simp
  have y3 : W.cell? ⟨g, 3, none⟩ = some (.float .f64 0) := by rw [← hW.out]; go_simp
  have y4 : W.cell? ⟨g, 4, none⟩ = some (.int .u8 1) := by rw [← hW.out]; go_simp
  have yf : ∀ j, W.frozen? ⟨g, j, none⟩ = false := fun j => by rw [← hW.out]; go_simp
  have u0 : W.cell? ⟨w.heap.size, 0, none⟩ = some (.int .u8 1) := by rw [← hW.out]; go_simp
  have u1 : W.cell? ⟨w.heap.size, 1, none⟩ = some (.slice (some ⟨b, off, none⟩) n cap) := by rw [← hW.out]; go_simp
  have v0 : W.cell? ⟨w.heap.size + 1, 0, none⟩ = some (.float .f64 0) := by rw [← hW.out]; go_simp
  have v1 : W.cell? ⟨w.heap.size + 1, 1, none⟩ = some (.float .f64 0) := by rw [← hW.out]; go_simp
  have v2 : W.cell? ⟨w.heap.size + 1, 2, none⟩ = some (.float .f64 0) := by rw [← hW.out]; go_simp
  have v3 : W.cell? ⟨w.heap.size + 1, 3, none⟩ = some (.float .f64 0) := by rw [← hW.out]; go_simp
  have v4 : W.cell? ⟨w.heap.size + 1, 4, none⟩ = some (.int .u8 0) := by rw [← hW.out]; go_simp
  have vf : ∀ j, W.frozen? ⟨w.heap.size + 1, j, none⟩ = false := fun j => by rw [← hW.out]; go_simp
  have e2 : W.cell? ⟨b, off + (i * 3 + 2), none⟩ = some (.float .f64 x2) := by rw [← hW.out]; go_simp
  clear hW
  clear hw'
  clear z0 z1 z2 z3 hz4 hgf p0 p1 pf q0 q1 q2 q3 q4 qf hw2 hk2 c0' c1' c2' d2
  refine hid.out _ _ ?_
  clear hid
  go_wp2_with fail
  refine bodyPost_ret (v := .agg #[.float .f64 x0, .float .f64 x1, .float .f64 x2, .float .f64 0, .int .u8 1]) (by simp [results, Tryz.results78, go_sem, *]) rfl ⟨rfl, ?_⟩
  with_reducible (repeat first | exact Kx.r _ | assumption | refine Kx.a ?_ _ | refine Kx.d ?_ | refine Kx.e ?_ _ | refine Kx.s (by simp <;> omega) ?_ _ | refine Kx.t ?_ (by assumption))
set_option maxRecDepth 100000 in
set_option maxHeartbeats 1000000 in
theorem get3m_ (b off n cap i x0 x1 x2 : Nat) (w : World) (hc : n ≤ cap) (hm : cap ≤ maxLen) (hs : n ≤ 1000000) (hi : i * 3 + 3 ≤ n) (hb : b < w.heap.size)
    (c0 : w.cell? ⟨b, off + i * 3, none⟩ = some (.float .f64 x0)) (c1 : w.cell? ⟨b, off + (i * 3 + 1), none⟩ = some (.float .f64 x1)) (c2 : w.cell? ⟨b, off + (i * 3 + 2), none⟩ = some (.float .f64 x2)) :
    Calls Tryz.prog 78 #[.agg #[.int .u8 2, .slice (some ⟨b, off, none⟩) n cap], .int .i64 i] w (One w (.agg #[.float .f64 x0, .float .f64 x1, .float .f64 0, .float .f64 x2, .int .u8 2])) := by
  have hD := fun w' => dimension_ 2 (by omega) w'
  rw [show dimN 2 = 3 from rfl] at hD
  simp only [Int.natCast_zero, Int.cast_ofNat_Int] at hD
  unfold maxLen at hm
  go_enter Tryz.func78, Tryz.ntmps78
  go_wp2_with fail
  refine (hD _).mono ?_
  rintro e w2 ⟨rfl, hk2⟩
  obtain ⟨mc_, mf_⟩ := Stab.own_cell hk2 (w.heap.size) (by first | (simp; done) | (simp; omega) | omega | (apply Stab.cell_lt (a := ⟨w.heap.size, 0, none⟩); assumption))
  have m0 : w2.cell? ⟨w.heap.size, 0, none⟩ = some (.int .u8 2) := by rw [mc_]; first | assumption | (go_simp; done)
  have m1 : w2.cell? ⟨w.heap.size, 1, none⟩ = some (.slice (some ⟨b, off, none⟩) n cap) := by rw [mc_]; first | assumption | (go_simp; done)
  have mf : ∀ j, w2.frozen? ⟨w.heap.size, j, none⟩ = false := fun j => by rw [mf_]; first | (go_simp; done) | (apply_assumption)
  clear mc_ mf_
  obtain ⟨rc_, rf_⟩ := Stab.own_cell hk2 (w.heap.size + 1) (by first | (simp; done) | (simp; omega) | omega | (apply Stab.cell_lt (a := ⟨w.heap.size + 1, 0, none⟩); assumption))
  have r0 : w2.cell? ⟨w.heap.size + 1, 0, none⟩ = some (.float .f64 0) := by rw [rc_]; first | assumption | (go_simp; done)
  have r1 : w2.cell? ⟨w.heap.size + 1, 1, none⟩ = some (.float .f64 0) := by rw [rc_]; first | assumption | (go_simp; done)
  have r2 : w2.cell? ⟨w.heap.size + 1, 2, none⟩ = some (.float .f64 0) := by rw [rc_]; first | assumption | (go_simp; done)
  have r3 : w2.cell? ⟨w.heap.size + 1, 3, none⟩ = some (.float .f64 0) := by rw [rc_]; first | assumption | (go_simp; done)
  have r4 : w2.cell? ⟨w.heap.size + 1, 4, none⟩ = some (.int .u8 0) := by rw [rc_]; first | assumption | (go_simp; done)
  have rf : ∀ j, w2.frozen? ⟨w.heap.size + 1, j, none⟩ = false := fun j => by rw [rf_]; first | (go_simp; done) | (apply_assumption)
  clear rc_ rf_
  have hw2 : Stab.Keeps w w2 := by with_reducible (repeat first | exact Kx.r _ | assumption | refine Kx.a ?_ _ | refine Kx.d ?_ | refine Kx.e ?_ _ | refine Kx.s (by simp <;> omega) ?_ _ | refine Kx.t ?_ (by assumption))
  have c0' : w2.cell? ⟨b, off + i * 3, none⟩ = some (.float .f64 x0) := by rw [(Stab.own_cell hw2 b hb).1]; exact c0
  have c1' : w2.cell? ⟨b, off + (i * 3 + 1), none⟩ = some (.float .f64 x1) := by rw [(Stab.own_cell hw2 b hb).1]; exact c1
  have c2' : w2.cell? ⟨b, off + (i * 3 + 2), none⟩ = some (.float .f64 x2) := by rw [(Stab.own_cell hw2 b hb).1]; exact c2
  clear c0 c1 hD c2
  go_wp2_with fail
  have w1 : IntKind.i64.wrap ((i : Int) * 3) = (i : Int) * 3 := IntWalk.i64_in _ (by omega)
  have w3 : IntKind.i64.wrap ((i : Int) * 3 + 1) = (i : Int) * 3 + 1 := IntWalk.i64_in _ (by omega)
  have b1 : (0 : Int) ≤ (i : Int) * 3 := by omega
  have b2 : ((i : Int) * 3).toNat = i * 3 := by omega
  have b3 : (0 : Int) ≤ (i : Int) * 3 + 1 := by omega
  have b4 : ((i : Int) * 3 + 1).toNat = i * 3 + 1 := by omega
  have b5 : (i : Int) * 3 < n := by omega
  have b6 : (i : Int) * 3 + 1 < n := by omega
  have hl0 := Stab.cell_lt m0
  simp only at hl0
  have hbw : b < w2.heap.size := Nat.lt_of_lt_of_le hb hw2.size
  have w32 : IntKind.i64.wrap ((i : Int) * 3 + 2) = (i : Int) * 3 + 2 := IntWalk.i64_in _ (by omega)
  have b32 : (0 : Int) ≤ (i : Int) * 3 + 2 := by omega
  have b42 : ((i : Int) * 3 + 2).toNat = i * 3 + 2 := by omega
  have b62 : (i : Int) * 3 + 2 < n := by omega
  refine Stab.keep_tail 20 (CoordF w2.heap.size) (fun k => k == 19) (fun k => false) (coordPre _) (by kernel_rfl) (by kernel_rfl) fun hcx => ?_
  simp only [List.take_succ_cons, List.take_zero, List.drop_succ_cons, List.drop_zero]
  repeat (first
    | (refine Stab.quiet rfl rfl rfl (fun K hK => ?_); go_big_quiet_op; refine hK _ ?_; clear hK K)
    | (refine Stab.one rfl rfl rfl ?_
       apply Exists.intro
       refine ⟨fun w1 hw1 => ?_, fun K hK => ?_⟩
       · go_simp
         first | fail
       go_simp
       refine hK _ ?_
       clear hK K)
    | (refine Stab.skip rfl (fun K hK => ?_); go_simp; refine hK _ ?_; clear hK K))
  refine Stab.made rfl rfl (fun w1 hk1 => ?_) (fun v hv K hK => ?_)
  · go_simp
    have hge : w2.heap.size ≤ w1.heap.size := Below.size hk1.1
    refine ⟨by with_reducible (repeat first | exact Kx.r _ | assumption | refine Kx.a ?_ _ | refine Kx.d ?_ | refine Kx.e ?_ _ | refine Kx.s (by simp <;> omega) ?_ _ | refine Kx.t ?_ (by assumption)), fun _ => ⟨_, rfl, hge, by simp, ?_, by go_simp, fun j => by go_simp⟩⟩
    intro j hj
    have : j = 0 ∨ j = 1 ∨ j = 2 ∨ j = 3 := by omega
    rcases this with rfl | rfl | rfl | rfl <;> go_simp
  obtain ⟨wv, u1, u2, hv⟩ := hv
  obtain ⟨g, rfl, hg, u3⟩ := hv rfl
  clear u1 u2 u3
  go_simp
  refine hK _ ?_
  clear hK
  refine Stab.nil fun w' hw' hfs => ?_
  obtain ⟨g', he, u1, hg2, hz, hz4, hgf⟩ := Stab.setF_new (hfs 19) rfl
  cases he
  have z0 := hz 0 (by omega)
  have z1 := hz 1 (by omega)
  have z2 := hz 2 (by omega)
  have z3 := hz 3 (by omega)
  clear hz hcx hfs
  have d2 : w'.cell? ⟨b, off + (i * 3 + 2), none⟩ = some (.float .f64 x2) := by rw [(Stab.own_cell hw' b hbw).1]; exact c2'
  obtain ⟨pc_, pf_⟩ := Stab.own_cell hw' (w.heap.size) (by first | (simp; done) | (simp; omega) | omega | (apply Stab.cell_lt (a := ⟨w.heap.size, 0, none⟩); assumption))
  have p0 : w'.cell? ⟨w.heap.size, 0, none⟩ = some (.int .u8 2) := by rw [pc_]; first | assumption | (go_simp; done)
  have p1 : w'.cell? ⟨w.heap.size, 1, none⟩ = some (.slice (some ⟨b, off, none⟩) n cap) := by rw [pc_]; first | assumption | (go_simp; done)
  have pf : ∀ j, w'.frozen? ⟨w.heap.size, j, none⟩ = false := fun j => by rw [pf_]; first | (go_simp; done) | (apply_assumption)
  clear pc_ pf_
  obtain ⟨qc_, qf_⟩ := Stab.own_cell hw' (w.heap.size + 1) (by first | (simp; done) | (simp; omega) | omega | (apply Stab.cell_lt (a := ⟨w.heap.size + 1, 0, none⟩); assumption))
  have q0 : w'.cell? ⟨w.heap.size + 1, 0, none⟩ = some (.float .f64 0) := by rw [qc_]; first | assumption | (go_simp; done)
  have q1 : w'.cell? ⟨w.heap.size + 1, 1, none⟩ = some (.float .f64 0) := by rw [qc_]; first | assumption | (go_simp; done)
  have q2 : w'.cell? ⟨w.heap.size + 1, 2, none⟩ = some (.float .f64 0) := by rw [qc_]; first | assumption | (go_simp; done)
  have q3 : w'.cell? ⟨w.heap.size + 1, 3, none⟩ = some (.float .f64 0) := by rw [qc_]; first | assumption | (go_simp; done)
  have q4 : w'.cell? ⟨w.heap.size + 1, 4, none⟩ = some (.int .u8 0) := by rw [qc_]; first | assumption | (go_simp; done)
  have qf : ∀ j, w'.frozen? ⟨w.heap.size + 1, j, none⟩ = false := fun j => by rw [qf_]; first | (go_simp; done) | (apply_assumption)
  clear qc_ qf_
  have hlr := Stab.cell_lt r0
  simp only at hlr
  have hgb : w.heap.size + 1 < g := by omega
  clear u1
  rename_i hKont
  have hid : Go.RowKit.Hid _ := hKont
  clear hKont
  clear w1 w3 b1 b2 b3 b4 b5 b6 m0 m1 mf r0 r1 r2 r3 r4 rf
  go_wp2_with fail
  generalize hW : World.setCell _ _ _ = W
  replace hW : Go.RowKit.Hid (_ = W) := hW
  have hge : w.heap.size ≤ g := by omega
  have hkW : Stab.Keeps w W := by
    rw [← hW.out]
    with_reducible (repeat first | exact Kx.r _ | assumption | refine Kx.a ?_ _ | refine Kx.d ?_ | refine Kx.e ?_ _ | refine Kx.s (by simp <;> omega) ?_ _ | refine Kx.t ?_ (by assumption))
  have y0 : W.cell? ⟨g, 0, none⟩ = some (.float .f64 x0) := by rw [← hW.out]; go_simp
  have y1 : W.cell? ⟨g, 1, none⟩ = some (.float .f64 x1) := by rw [← hW.out]; go_simp
  have y2 : W.cell? ⟨g, 2, none⟩ = some (.float .f64 0) := by rw [← hW.out]; go_simp
  have y3 : W.cell? ⟨g, 3, none⟩ = some (.float .f64 0) := by rw [← hW.out]; go_simp
  have y4 : W.cell? ⟨g, 4, none⟩ = some (.int .u8 2) := by rw [← hW.out]; go_simp
  have yf : ∀ j, W.frozen? ⟨g, j, none⟩ = false := fun j => by rw [← hW.out]; go_simp
  have u0 : W.cell? ⟨w.heap.size, 0, none⟩ = some (.int .u8 2) := by rw [← hW.out]; go_simp
  have u1 : W.cell? ⟨w.heap.size, 1, none⟩ = some (.slice (some ⟨b, off, none⟩) n cap) := by rw [← hW.out]; go_simp
  have v0 : W.cell? ⟨w.heap.size + 1, 0, none⟩ = some (.float .f64 0) := by rw [← hW.out]; go_simp
  have v1 : W.cell? ⟨w.heap.size + 1, 1, none⟩ = some (.float .f64 0) := by rw [← hW.out]; go_simp
  have v2 : W.cell? ⟨w.heap.size + 1, 2, none⟩ = some (.float .f64 0) := by rw [← hW.out]; go_simp
  have v3 : W.cell? ⟨w.heap.size + 1, 3, none⟩ = some (.float .f64 0) := by rw [← hW.out]; go_simp
  have v4 : W.cell? ⟨w.heap.size + 1, 4, none⟩ = some (.int .u8 0) := by rw [← hW.out]; go_simp
  have vf : ∀ j, W.frozen? ⟨w.heap.size + 1, j, none⟩ = false := fun j => by rw [← hW.out]; go_simp
  have e2 : W.cell? ⟨b, off + (i * 3 + 2), none⟩ = some (.float .f64 x2) := by rw [← hW.out]; go_simp
  clear hW
  clear hw'
  clear z0 z1 z2 z3 hz4 hgf p0 p1 pf q0 q1 q2 q3 q4 qf hw2 hk2 c0' c1' c2' d2
  refine hid.out _ _ ?_
  clear hid
  go_wp2_with fail
  refine bodyPost_ret (v := .agg #[.float .f64 x0, .float .f64 x1, .float .f64 0, .float .f64 x2, .int .u8 2]) (by simp [results, Tryz.results78, go_sem, *]) rfl ⟨rfl, ?_⟩
  with_reducible (repeat first | exact Kx.r _ | assumption | refine Kx.a ?_ _ | refine Kx.d ?_ | refine Kx.e ?_ _ | refine Kx.s (by simp <;> omega) ?_ _ | refine Kx.t ?_ (by assumption))
set_option maxRecDepth 100000 in
set_option maxHeartbeats 1000000 in
theorem get4_ (b off n cap i x0 x1 x2 x3 : Nat) (w : World) (hc : n ≤ cap) (hm : cap ≤ maxLen) (hs : n ≤ 1000000) (hi : i * 4 + 4 ≤ n) (hb : b < w.heap.size)
    (c0 : w.cell? ⟨b, off + i * 4, none⟩ = some (.float .f64 x0)) (c1 : w.cell? ⟨b, off + (i * 4 + 1), none⟩ = some (.float .f64 x1)) (c2 : w.cell? ⟨b, off + (i * 4 + 2), none⟩ = some (.float .f64 x2)) (c3 : w.cell? ⟨b, off + (i * 4 + 3), none⟩ = some (.float .f64 x3)) :
    Calls Tryz.prog 78 #[.agg #[.int .u8 3, .slice (some ⟨b, off, none⟩) n cap], .int .i64 i] w (One w (.agg #[.float .f64 x0, .float .f64 x1, .float .f64 x2, .float .f64 x3, .int .u8 3])) := by
  have hD := fun w' => dimension_ 3 (by omega) w'
  rw [show dimN 3 = 4 from rfl] at hD
  simp only [Int.natCast_zero, Int.cast_ofNat_Int] at hD
  unfold maxLen at hm
  go_enter Tryz.func78, Tryz.ntmps78
  go_wp2_with fail
  refine (hD _).mono ?_
  rintro e w2 ⟨rfl, hk2⟩
  obtain ⟨mc_, mf_⟩ := Stab.own_cell hk2 (w.heap.size) (by first | (simp; done) | (simp; omega) | omega | (apply Stab.cell_lt (a := ⟨w.heap.size, 0, none⟩); assumption))
  have m0 : w2.cell? ⟨w.heap.size, 0, none⟩ = some (.int .u8 3) := by rw [mc_]; first | assumption | (go_simp; done)
  have m1 : w2.cell? ⟨w.heap.size, 1, none⟩ = some (.slice (some ⟨b, off, none⟩) n cap) := by rw [mc_]; first | assumption | (go_simp; done)
  have mf : ∀ j, w2.frozen? ⟨w.heap.size, j, none⟩ = false := fun j => by rw [mf_]; first | (go_simp; done) | (apply_assumption)
  clear mc_ mf_
  obtain ⟨rc_, rf_⟩ := Stab.own_cell hk2 (w.heap.size + 1) (by first | (simp; done) | (simp; omega) | omega | (apply Stab.cell_lt (a := ⟨w.heap.size + 1, 0, none⟩); assumption))
  have r0 : w2.cell? ⟨w.heap.size + 1, 0, none⟩ = some (.float .f64 0) := by rw [rc_]; first | assumption | (go_simp; done)
  have r1 : w2.cell? ⟨w.heap.size + 1, 1, none⟩ = some (.float .f64 0) := by rw [rc_]; first | assumption | (go_simp; done)
  have r2 : w2.cell? ⟨w.heap.size + 1, 2, none⟩ = some (.float .f64 0) := by rw [rc_]; first | assumption | (go_simp; done)
  have r3 : w2.cell? ⟨w.heap.size + 1, 3, none⟩ = some (.float .f64 0) := by rw [rc_]; first | assumption | (go_simp; done)
  have r4 : w2.cell? ⟨w.heap.size + 1, 4, none⟩ = some (.int .u8 0) := by rw [rc_]; first | assumption | (go_simp; done)
  have rf : ∀ j, w2.frozen? ⟨w.heap.size + 1, j, none⟩ = false := fun j => by rw [rf_]; first | (go_simp; done) | (apply_assumption)
  clear rc_ rf_
  have hw2 : Stab.Keeps w w2 := by with_reducible (repeat first | exact Kx.r _ | assumption | refine Kx.a ?_ _ | refine Kx.d ?_ | refine Kx.e ?_ _ | refine Kx.s (by simp <;> omega) ?_ _ | refine Kx.t ?_ (by assumption))
  have c0' : w2.cell? ⟨b, off + i * 4, none⟩ = some (.float .f64 x0) := by rw [(Stab.own_cell hw2 b hb).1]; exact c0
  have c1' : w2.cell? ⟨b, off + (i * 4 + 1), none⟩ = some (.float .f64 x1) := by rw [(Stab.own_cell hw2 b hb).1]; exact c1
  have c2' : w2.cell? ⟨b, off + (i * 4 + 2), none⟩ = some (.float .f64 x2) := by rw [(Stab.own_cell hw2 b hb).1]; exact c2
  have c3' : w2.cell? ⟨b, off + (i * 4 + 3), none⟩ = some (.float .f64 x3) := by rw [(Stab.own_cell hw2 b hb).1]; exact c3
  clear c0 c1 hD c2 c3
  go_wp2_with fail
  have w1 : IntKind.i64.wrap ((i : Int) * 4) = (i : Int) * 4 := IntWalk.i64_in _ (by omega)
  have w3 : IntKind.i64.wrap ((i : Int) * 4 + 1) = (i : Int) * 4 + 1 := IntWalk.i64_in _ (by omega)
  have b1 : (0 : Int) ≤ (i : Int) * 4 := by omega
  have b2 : ((i : Int) * 4).toNat = i * 4 := by omega
  have b3 : (0 : Int) ≤ (i : Int) * 4 + 1 := by omega
  have b4 : ((i : Int) * 4 + 1).toNat = i * 4 + 1 := by omega
  have b5 : (i : Int) * 4 < n := by omega
  have b6 : (i : Int) * 4 + 1 < n := by omega
  have hl0 := Stab.cell_lt m0
  simp only at hl0
  have hbw : b < w2.heap.size := Nat.lt_of_lt_of_le hb hw2.size
  have w32 : IntKind.i64.wrap ((i : Int) * 4 + 2) = (i : Int) * 4 + 2 := IntWalk.i64_in _ (by omega)
  have b32 : (0 : Int) ≤ (i : Int) * 4 + 2 := by omega
  have b42 : ((i : Int) * 4 + 2).toNat = i * 4 + 2 := by omega
  have b62 : (i : Int) * 4 + 2 < n := by omega
  have w33 : IntKind.i64.wrap ((i : Int) * 4 + 3) = (i : Int) * 4 + 3 := IntWalk.i64_in _ (by omega)
  have b33 : (0 : Int) ≤ (i : Int) * 4 + 3 := by omega
  have b43 : ((i : Int) * 4 + 3).toNat = i * 4 + 3 := by omega
  have b63 : (i : Int) * 4 + 3 < n := by omega
  refine Stab.keep_tail 20 (CoordF w2.heap.size) (fun k => k == 19) (fun k => false) (coordPre _) (by kernel_rfl) (by kernel_rfl) fun hcx => ?_
  simp only [List.take_succ_cons, List.take_zero, List.drop_succ_cons, List.drop_zero]
  repeat (first
    | (refine Stab.quiet rfl rfl rfl (fun K hK => ?_); go_big_quiet_op; refine hK _ ?_; clear hK K)
    | (refine Stab.one rfl rfl rfl ?_
       apply Exists.intro
       refine ⟨fun w1 hw1 => ?_, fun K hK => ?_⟩
       · go_simp
         first | fail
       go_simp
       refine hK _ ?_
       clear hK K)
    | (refine Stab.skip rfl (fun K hK => ?_); go_simp; refine hK _ ?_; clear hK K))
  refine Stab.made rfl rfl (fun w1 hk1 => ?_) (fun v hv K hK => ?_)
  · go_simp
    have hge : w2.heap.size ≤ w1.heap.size := Below.size hk1.1
    refine ⟨by with_reducible (repeat first | exact Kx.r _ | assumption | refine Kx.a ?_ _ | refine Kx.d ?_ | refine Kx.e ?_ _ | refine Kx.s (by simp <;> omega) ?_ _ | refine Kx.t ?_ (by assumption)), fun _ => ⟨_, rfl, hge, by simp, ?_, by go_simp, fun j => by go_simp⟩⟩
    intro j hj
    have : j = 0 ∨ j = 1 ∨ j = 2 ∨ j = 3 := by omega
    rcases this with rfl | rfl | rfl | rfl <;> go_simp
  obtain ⟨wv, u1, u2, hv⟩ := hv
  obtain ⟨g, rfl, hg, u3⟩ := hv rfl
  clear u1 u2 u3
  go_simp
  refine hK _ ?_
  clear hK
  refine Stab.nil fun w' hw' hfs => ?_
  obtain ⟨g', he, u1, hg2, hz, hz4, hgf⟩ := Stab.setF_new (hfs 19) rfl
  cases he
  have z0 := hz 0 (by omega)
  have z1 := hz 1 (by omega)
  have z2 := hz 2 (by omega)
  have z3 := hz 3 (by omega)
  clear hz hcx hfs
  have d2 : w'.cell? ⟨b, off + (i * 4 + 2), none⟩ = some (.float .f64 x2) := by rw [(Stab.own_cell hw' b hbw).1]; exact c2'
  have d3 : w'.cell? ⟨b, off + (i * 4 + 3), none⟩ = some (.float .f64 x3) := by rw [(Stab.own_cell hw' b hbw).1]; exact c3'
  obtain ⟨pc_, pf_⟩ := Stab.own_cell hw' (w.heap.size) (by first | (simp; done) | (simp; omega) | omega | (apply Stab.cell_lt (a := ⟨w.heap.size, 0, none⟩); assumption))
  have p0 : w'.cell? ⟨w.heap.size, 0, none⟩ = some (.int .u8 3) := by rw [pc_]; first | assumption | (go_simp; done)
  have p1 : w'.cell? ⟨w.heap.size, 1, none⟩ = some (.slice (some ⟨b, off, none⟩) n cap) := by rw [pc_]; first | assumption | (go_simp; done)
  have pf : ∀ j, w'.frozen? ⟨w.heap.size, j, none⟩ = false := fun j => by rw [pf_]; first | (go_simp; done) | (apply_assumption)
  clear pc_ pf_
  obtain ⟨qc_, qf_⟩ := Stab.own_cell hw' (w.heap.size + 1) (by first | (simp; done) | (simp; omega) | omega | (apply Stab.cell_lt (a := ⟨w.heap.size + 1, 0, none⟩); assumption))
  have q0 : w'.cell? ⟨w.heap.size + 1, 0, none⟩ = some (.float .f64 0) := by rw [qc_]; first | assumption | (go_simp; done)
  have q1 : w'.cell? ⟨w.heap.size + 1, 1, none⟩ = some (.float .f64 0) := by rw [qc_]; first | assumption | (go_simp; done)
  have q2 : w'.cell? ⟨w.heap.size + 1, 2, none⟩ = some (.float .f64 0) := by rw [qc_]; first | assumption | (go_simp; done)
  have q3 : w'.cell? ⟨w.heap.size + 1, 3, none⟩ = some (.float .f64 0) := by rw [qc_]; first | assumption | (go_simp; done)
  have q4 : w'.cell? ⟨w.heap.size + 1, 4, none⟩ = some (.int .u8 0) := by rw [qc_]; first | assumption | (go_simp; done)
  have qf : ∀ j, w'.frozen? ⟨w.heap.size + 1, j, none⟩ = false := fun j => by rw [qf_]; first | (go_simp; done) | (apply_assumption)
  clear qc_ qf_
  have hlr := Stab.cell_lt r0
  simp only at hlr
  have hgb : w.heap.size + 1 < g := by omega
  clear u1
  rename_i hKont
  have hid : Go.RowKit.Hid _ := hKont
  clear hKont
  clear w1 w3 b1 b2 b3 b4 b5 b6 m0 m1 mf r0 r1 r2 r3 r4 rf
  go_wp2_with fail
  generalize hW : World.setCell _ _ _ = W
  replace hW : Go.RowKit.Hid (_ = W) := hW
  have hge : w.heap.size ≤ g := by omega
  have hkW : Stab.Keeps w W := by
    rw [← hW.out]
    with_reducible (repeat first | exact Kx.r _ | assumption | refine Kx.a ?_ _ | refine Kx.d ?_ | refine Kx.e ?_ _ | refine Kx.s (by simp <;> omega) ?_ _ | refine Kx.t ?_ (by assumption))
  have y0 : W.cell? ⟨g, 0, none⟩ = some (.float .f64 x0) := by rw [← hW.out]; go_simp
  have y1 : W.cell? ⟨g, 1, none⟩ = some (.float .f64 x1) := by rw [← hW.out]; go_simp
  have y2 : W.cell? ⟨g, 2, none⟩ = some (.float .f64 0) := by rw [← hW.out]; go_simp
  have y3 : W.cell? ⟨g, 3, none⟩ = some (.float .f64 0) := by rw [← hW.out]; go_simp
  have y4 : W.cell? ⟨g, 4, none⟩ = some (.int .u8 3) := by rw [← hW.out]; go_simp
  have yf : ∀ j, W.frozen? ⟨g, j, none⟩ = false := fun j => by rw [← hW.out]; go_simp
  have u0 : W.cell? ⟨w.heap.size, 0, none⟩ = some (.int .u8 3) := by rw [← hW.out]; go_simp
  have u1 : W.cell? ⟨w.heap.size, 1, none⟩ = some (.slice (some ⟨b, off, none⟩) n cap) := by rw [← hW.out]; go_simp
  have v0 : W.cell? ⟨w.heap.size + 1, 0, none⟩ = some (.float .f64 0) := by rw [← hW.out]; go_simp
  have v1 : W.cell? ⟨w.heap.size + 1, 1, none⟩ = some (.float .f64 0) := by rw [← hW.out]; go_simp
  have v2 : W.cell? ⟨w.heap.size + 1, 2, none⟩ = some (.float .f64 0) := by rw [← hW.out]; go_simp
  have v3 : W.cell? ⟨w.heap.size + 1, 3, none⟩ = some (.float .f64 0) := by rw [← hW.out]; go_simp
  have v4 : W.cell? ⟨w.heap.size + 1, 4, none⟩ = some (.int .u8 0) := by rw [← hW.out]; go_simp
  have vf : ∀ j, W.frozen? ⟨w.heap.size + 1, j, none⟩ = false := fun j => by rw [← hW.out]; go_simp
  have e2 : W.cell? ⟨b, off + (i * 4 + 2), none⟩ = some (.float .f64 x2) := by rw [← hW.out]; go_simp
  have e3 : W.cell? ⟨b, off + (i * 4 + 3), none⟩ = some (.float .f64 x3) := by rw [← hW.out]; go_simp
  clear hW
  clear hw'
  clear z0 z1 z2 z3 hz4 hgf p0 p1 pf q0 q1 q2 q3 q4 qf hw2 hk2 c0' c1' c2' d2 c3' d3
  refine hid.out _ _ ?_
  clear hid
  go_wp2_with fail
  refine bodyPost_ret (v := .agg #[.float .f64 x0, .float .f64 x1, .float .f64 x2, .float .f64 x3, .int .u8 3]) (by simp [results, Tryz.results78, go_sem, *]) rfl ⟨rfl, ?_⟩
  with_reducible (repeat first | exact Kx.r _ | assumption | refine Kx.a ?_ _ | refine Kx.d ?_ | refine Kx.e ?_ _ | refine Kx.s (by simp <;> omega) ?_ _ | refine Kx.t ?_ (by assumption))
end Go.Proofs.YtinbkonmlgediaaGreat
