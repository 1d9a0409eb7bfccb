/-
  FnXYLength returns true at every input: the walk of the law. No condition.
-/
import Derived.Test.YtfiplieljdkdjaaXyWalk3
import Derived.Test.YtfiplieljdkdjaaXyNum
import Derived.Test.YtfiplieljdkdjaaOp
set_option linter.unusedVariables false
set_option linter.unusedSimpArgs false
namespace Go.Proofs.Ytfiplieljdkdjaa
open Go.RowKit Go.Fl Go.Fr
def LawPost (w : World) (e : Ending) (w' : World) : Prop := e = .returned (.bool true) ∧ Stab.Keeps w w'
set_option maxHeartbeats 1000000 in
theorem off_ (x y : Nat) (hx : fin x = true) (hy : fin y = true) (hb : ab (R y) ≤ 1048576) (h : ab (R x - R y) ≤ two (-41) * (if ab (R y) ≤ 1 then 1 else ab (R y))) (w : World) :
    Calls Try.prog 7 #[.float .f64 x, .float .f64 y] w (One w (.bool false)) := by
  obtain ⟨nm, d1, d2, e1, e2, e3, g1, g2⟩ := off_false hx hy hb h
  have hmx := fun ts t w => run_max_3 (P := Try.prog) ts t R_one.1 hy (show fin (Op.negFloat .f64 y) = true by rw [fin_neg]; exact hy) w
  have v1 := fun w => opV_some e1 w
  have v2 := fun w => opV_some e2 w
  have v3 := fun w => opV_some e3 w
  have n1 := opN_some e1
  have n2 := opN_some e2
  have n3 := opN_some e3
  have hz := World.drewN_zero
  unfold gt at g1 g2
  clear h e1 e2 e3
  go_enter Try.func7, Try.ntmps7
  go_wp2
  go_ret
  refine ⟨rfl, ?_⟩
  repeat (first | (with_reducible exact Stab.Keeps.refl _) | (with_reducible assumption) | (with_reducible refine Stab.Keeps.alloc ?_ _) | (with_reducible refine Stab.Keeps.drew ?_) | (with_reducible refine Stab.Keeps.drewN ?_ _) | ((with_reducible refine Stab.Keeps.setCell ?_ ?_ _); focus (first | (simp; done) | (simp; omega))) | (with_reducible refine Stab.Keeps.trans ?_ (by with_reducible assumption)))
/-- a block of two numbers that was made at B or later -/
def NewXY (B : Nat) (v : Value) (w : World) : Prop := ∃ g, v = .pointer (some ⟨g, 0, none⟩) ∧ B ≤ g ∧ g < w.heap.size ∧ w.cell? ⟨g, 0, none⟩ = some (.float .f64 0) ∧ w.cell? ⟨g, 1, none⟩ = some (.float .f64 0) ∧ ∀ j, w.frozen? ⟨g, j, none⟩ = false
def NanXY (v : Value) : Prop := ∃ p q, v = .agg #[.float .f64 p, .float .f64 q] ∧ isNaN p = true ∧ isNaN q = true
def XyF (B : Nat) (k : Nat) (v : Value) (w : World) : Prop := (k = 4 → NewXY B v w) ∧ (k = 3 → NanXY v)
theorem xyPre (B : Nat) : Stab.Pre Stab.Keeps (XyF B) :=
  ⟨Stab.Keeps.refl, Stab.Keeps.trans, fun k v w w' hk hF => ⟨fun e => by
    obtain ⟨g, h1, h2, h3, h4, h5, h6⟩ := hF.1 e
    obtain ⟨hc, hf⟩ := Stab.own_cell hk g h3
    exact ⟨g, h1, h2, Nat.lt_of_lt_of_le h3 hk.size, by rw [hc]; exact h4, by rw [hc]; exact h5, fun j => by rw [hf]; exact h6 j⟩, hF.2⟩⟩
set_option maxRecDepth 100000 in
set_option maxHeartbeats 1000000 in
theorem law_ (x y : Nat) (w : World) : Calls Try.prog 3 #[.agg #[.float .f64 x, .float .f64 y]] w (LawPost w) := by
  cases hwx : wholeB x with
  | false =>
    go_enter Try.func3, Try.ntmps3
    go_wp2_with (go_at_call 4; refine (kWhole_ _ _).mono ?_; rintro e w1 ⟨rfl, rfl⟩)
    go_ret
    refine ⟨rfl, ?_⟩
    repeat (first | (with_reducible exact Stab.Keeps.refl _) | (with_reducible assumption) | (with_reducible refine Stab.Keeps.alloc ?_ _) | (with_reducible refine Stab.Keeps.drew ?_) | (with_reducible refine Stab.Keeps.drewN ?_ _) | ((with_reducible refine Stab.Keeps.setCell ?_ ?_ _); focus (first | (simp; done) | (simp; omega))) | (with_reducible refine Stab.Keeps.trans ?_ (by with_reducible assumption)))
  | true =>
    cases hwy : wholeB y with
    | false =>
      go_enter Try.func3, Try.ntmps3
      go_wp2_with (go_at_call 4; refine (kWhole_ _ _).mono ?_; rintro e w1 ⟨rfl, rfl⟩)
      go_ret
      refine ⟨rfl, ?_⟩
      repeat (first | (with_reducible exact Stab.Keeps.refl _) | (with_reducible assumption) | (with_reducible refine Stab.Keeps.alloc ?_ _) | (with_reducible refine Stab.Keeps.drew ?_) | (with_reducible refine Stab.Keeps.drewN ?_ _) | ((with_reducible refine Stab.Keeps.setCell ?_ ?_ _); focus (first | (simp; done) | (simp; omega))) | (with_reducible refine Stab.Keeps.trans ?_ (by with_reducible assumption)))
    | true =>
      obtain ⟨n1, a1, a2, hx⟩ := whole_spec hwx
      obtain ⟨n2, b1, b2, hy⟩ := whole_spec hwy
      by_cases hS : n1 * n1 + n2 * n2 = 0
      · obtain ⟨rfl, rfl⟩ := null_int hS
        obtain ⟨p, q, s, l, v, E1, E2, E3, E4, zs, zl, e7, e8, e9⟩ := null_nums hx hy
        have h0 : Z 0 0 := ⟨by decide +kernel, by decide +kernel⟩
        have hz : (FloatKind.f64.format.order s 0 == some .eq) = true := by
          have := zs.eq h0
          unfold eq at this
          rw [this]; simp
        have hl : (FloatKind.f64.format.order l 0 == some .eq) = true := by
          have := zl.eq h0
          unfold eq at this
          rw [this]; simp
        have hV : Vec x y p q s l := ⟨E1, E2, E3, E4⟩
        have iL := fun w => iLength_ hV w
        have iU := fun w => iUnitNan_ hV e7 e8 e9 w
        have hdz := World.drewN_zero
        have hmf : ∀ (fn : Fn) (first cap : Array Value) (w : World), (Instr.makeFunc fn first cap).run Try.prog w = .ok (.func fn first cap) w := fun _ _ _ _ => rfl
        clear hV hx hy a1 a2 b1 b2 hS E4 zs zl e7 e8 e9
        go_enter Try.func3, Try.ntmps3
        go_wp2_with (go_at_call 4; refine (kWhole_ _ _).mono ?_; rintro e w1 ⟨rfl, rfl⟩)
        refine Stab.keep_tail 6 (XyF (w.heap.size + 1)) (fun k => k == 4 || k == 3) (fun k => k == 1) (xyPre _) (by kernel_rfl) (by kernel_rfl) fun hcx => ?_
        simp only [List.take_succ_cons, List.take_zero, List.drop_succ_cons, List.drop_zero]
        repeat (first
          | (refine Stab.quiet rfl rfl rfl (fun K hK => ?_); go_big_quiet_op; refine hK _ ?_; clear hK K)
          | (refine Stab.one rfl rfl rfl ?_
             apply Exists.intro
             refine ⟨fun w1 hw1 => ?_, fun K hK => ?_⟩
             · go_simp
               first | (go_at_call 5; exact iL _)
             go_simp
             refine hK _ ?_
             clear hK K)
          | (refine Stab.skip rfl (fun K hK => ?_); go_simp; refine hK _ ?_; clear hK K))
        refine Stab.made rfl rfl (fun w1 hk1 => ?_) (fun v hv K hK => ?_)
        · obtain ⟨hc, hf⟩ := Stab.own_cell hk1.1 w.heap.size (by simp)
          go_simp
          refine (iU _).mono ?_
          rintro e w2 ⟨a, b, rfl, na, nb, hb2⟩
          exact ⟨_, rfl, hb2, (fun h => by cases h), fun _ => ⟨a, b, rfl, na, nb⟩⟩
        obtain ⟨wu, _, _, hu⟩ := hv
        obtain ⟨ux, uy, rfl, nx, ny⟩ := hu.2 rfl
        go_simp
        refine hK _ ?_
        clear hK
        refine Stab.made rfl rfl (fun w1 hk1 => ?_) (fun v hv K hK => ?_)
        · go_simp
          have hge : w.heap.size + 1 ≤ w1.heap.size := by have := Below.size hk1.1; simpa using this
          refine ⟨by repeat (first | (with_reducible exact Stab.Keeps.refl _) | (with_reducible assumption) | (with_reducible refine Stab.Keeps.alloc ?_ _) | (with_reducible refine Stab.Keeps.drew ?_) | (with_reducible refine Stab.Keeps.drewN ?_ _) | ((with_reducible refine Stab.Keeps.setCell ?_ ?_ _); focus (first | (simp; done) | (simp; omega))) | (with_reducible refine Stab.Keeps.trans ?_ (by with_reducible assumption))), fun _ => ⟨_, rfl, hge, by simp, by go_simp, by go_simp, fun j => by go_simp⟩, fun h => by cases h⟩
        obtain ⟨wv, _, _, hv⟩ := hv
        obtain ⟨g, rfl, hg, _⟩ := hv.1 rfl
        go_simp
        refine hK _ ?_
        clear hK
        repeat (first
          | (refine Stab.quiet rfl rfl rfl (fun K hK => ?_); go_big_quiet_op; refine hK _ ?_; clear hK K)
          | (refine Stab.one rfl rfl rfl ?_
             apply Exists.intro
             refine ⟨fun w1 hw1 => ?_, fun K hK => ?_⟩
             · go_simp
               first | fail
             go_simp
             refine hK _ ?_
             clear hK K)
          | (refine Stab.skip rfl (fun K hK => ?_); go_simp; refine hK _ ?_; clear hK K))
        refine Stab.nil fun w' hw' hfs => ?_
        obtain ⟨g', he, _, hg2, z0, z1, hgf⟩ := (Stab.setF_new (hfs 4)).1 rfl
        cases he
        clear hcx hfs hv
        obtain ⟨pc_, pf_⟩ := Stab.own_cell hw' (w.heap.size) (by first | (simp; done) | (simp; omega) | omega | (apply Stab.cell_lt (a := ⟨w.heap.size, 0, none⟩); assumption))
        have p0 : w'.cell? ⟨w.heap.size, 0, none⟩ = some (.float .f64 x) := by rw [pc_]; first | assumption | (go_simp; done)
        have p1 : w'.cell? ⟨w.heap.size, 1, none⟩ = some (.float .f64 y) := by rw [pc_]; first | assumption | (go_simp; done)
        have pf : ∀ j, w'.frozen? ⟨w.heap.size, j, none⟩ = false := fun j => by rw [pf_]; first | (go_simp; done) | (apply_assumption)
        clear pc_ pf_
        have r1 := fun w => opV_some E1 w
        have r2 := fun w => opV_some E2 w
        have r3 := fun w => opV_some E3 w
        have n1 := opN_some E1
        have n2 := opN_some E2
        have n3 := opN_some E3
        clear E1 E2 E3
        have ex := isNaN_neq ux
        have ey := isNaN_neq uy
        rw [nx] at ex
        rw [ny] at ey
        go_wp2
        go_ret
        refine ⟨rfl, ?_⟩
        have hge : w.heap.size ≤ g := by omega
        repeat (first | (with_reducible exact Stab.Keeps.refl _) | (with_reducible assumption) | (with_reducible refine Stab.Keeps.alloc ?_ _) | (with_reducible refine Stab.Keeps.drew ?_) | (with_reducible refine Stab.Keeps.drewN ?_ _) | ((with_reducible refine Stab.Keeps.setCell ?_ ?_ _); focus (first | (simp; done) | (simp; omega))) | (with_reducible refine Stab.Keeps.trans ?_ (by with_reducible assumption)))
      · obtain ⟨p, q, s, l, ll, t, v, ux, uy, rx, ry, uu, vv, z, N⟩ := nums hx hy a1 a2 b1 b2 hS
        have hz : (FloatKind.f64.format.order s 0 == some .eq) = false := by
          have h0 : Z 0 0 := ⟨by decide +kernel, by decide +kernel⟩
          have := N.zs.eq h0
          unfold eq at this
          rw [this]; simp [hS]
        have hl : (FloatKind.f64.format.order l 0 == some .gt) = true := by
          have h0 : Z 0 0 := ⟨by decide +kernel, by decide +kernel⟩
          have := gt_val N.fl h0.1
          unfold gt at this
          rw [this, h0.2]
          have := N.pl
          simp [this]
        have hV : Vec x y p q s l := ⟨N.e1, N.e2, N.e3, N.e4⟩
        have hbx : ab (R x) ≤ 1048576 := by
          rw [hx.2]
          refine ab_le.2 ⟨num_le a2 (by decide +kernel), ?_⟩
          have := le_num (c := -1048576) (n := n1) (by omega) (q := -1048576) (by decide +kernel)
          grind
        have hby : ab (R y) ≤ 1048576 := by
          rw [hy.2]
          refine ab_le.2 ⟨num_le b2 (by decide +kernel), ?_⟩
          have := le_num (c := -1048576) (n := n2) (by omega) (q := -1048576) (by decide +kernel)
          grind
        have one_ok : ab (R 4607182418800017408) ≤ 1048576 := by rw [R_one.2]; decide +kernel
        have one_if : ∀ r : Rat, ab (r - 1) ≤ two (-41) → ab (r - R 4607182418800017408) ≤ two (-41) * (if ab (R 4607182418800017408) ≤ 1 then 1 else ab (R 4607182418800017408)) := fun r h => by
          rw [R_one.2, if_pos (by decide +kernel)]; simpa using h
        have o1 := fun w => off_ t 4607182418800017408 N.ft R_one.1 one_ok (one_if _ N.ct) w
        have o2 := fun w => off_ rx x N.frx hx.1 hbx N.crx w
        have o3 := fun w => off_ ry y N.fry hy.1 hby N.cry w
        have o4 := fun w => off_ z 4607182418800017408 N.fz R_one.1 one_ok (one_if _ N.cz) w
        have iL := fun w => iLength_ hV w
        have iU := fun w => iUnit_ hV N.e7 N.e8 N.e9 w
        have E1 := N.e1
        have E2 := N.e2
        have E3 := N.e3
        have E5 := N.e5
        have E6 := N.e6
        have E10 := N.e10
        have E11 := N.e11
        have E12 := N.e12
        have E13 := N.e13
        have E14 := N.e14
        have hdz := World.drewN_zero
        have hmf : ∀ (fn : Fn) (first cap : Array Value) (w : World), (Instr.makeFunc fn first cap).run Try.prog w = .ok (.func fn first cap) w := fun _ _ _ _ => rfl
        clear N hV one_ok one_if hbx hby hx hy a1 a2 b1 b2 hS
        go_enter Try.func3, Try.ntmps3
        go_wp2_with (go_at_call 4; refine (kWhole_ _ _).mono ?_; rintro e w1 ⟨rfl, rfl⟩)
        refine Stab.keep_tail 6 (XyF (w.heap.size + 1)) (fun k => k == 4) (fun k => k == 1 || k == 3) (xyPre _) (by kernel_rfl) (by kernel_rfl) fun hcx => ?_
        simp only [List.take_succ_cons, List.take_zero, List.drop_succ_cons, List.drop_zero]
        repeat (first
          | (refine Stab.quiet rfl rfl rfl (fun K hK => ?_); go_big_quiet_op; refine hK _ ?_; clear hK K)
          | (refine Stab.one rfl rfl rfl ?_
             apply Exists.intro
             refine ⟨fun w1 hw1 => ?_, fun K hK => ?_⟩
             · go_simp
               first | (go_at_call 5; exact iL _) | (go_at_call 6; exact iU _)
             go_simp
             refine hK _ ?_
             clear hK K)
          | (refine Stab.skip rfl (fun K hK => ?_); go_simp; refine hK _ ?_; clear hK K))
        refine Stab.made rfl rfl (fun w1 hk1 => ?_) (fun v hv K hK => ?_)
        · go_simp
          have hge : w.heap.size + 1 ≤ w1.heap.size := by have := Below.size hk1.1; simpa using this
          refine ⟨by repeat (first | (with_reducible exact Stab.Keeps.refl _) | (with_reducible assumption) | (with_reducible refine Stab.Keeps.alloc ?_ _) | (with_reducible refine Stab.Keeps.drew ?_) | (with_reducible refine Stab.Keeps.drewN ?_ _) | ((with_reducible refine Stab.Keeps.setCell ?_ ?_ _); focus (first | (simp; done) | (simp; omega))) | (with_reducible refine Stab.Keeps.trans ?_ (by with_reducible assumption))), fun _ => ⟨_, rfl, hge, by simp, by go_simp, by go_simp, fun j => by go_simp⟩, fun h => by cases h⟩
        obtain ⟨wv, _, _, hv⟩ := hv
        obtain ⟨g, rfl, hg, _⟩ := hv.1 rfl
        go_simp
        refine hK _ ?_
        clear hK
        repeat (first
          | (refine Stab.quiet rfl rfl rfl (fun K hK => ?_); go_big_quiet_op; refine hK _ ?_; clear hK K)
          | (refine Stab.one rfl rfl rfl ?_
             apply Exists.intro
             refine ⟨fun w1 hw1 => ?_, fun K hK => ?_⟩
             · go_simp
               first | fail
             go_simp
             refine hK _ ?_
             clear hK K)
          | (refine Stab.skip rfl (fun K hK => ?_); go_simp; refine hK _ ?_; clear hK K))
        refine Stab.nil fun w' hw' hfs => ?_
        obtain ⟨g', he, _, hg2, z0, z1, hgf⟩ := (Stab.setF_new (hfs 4)).1 rfl
        cases he
        clear hcx hfs hv
        obtain ⟨pc_, pf_⟩ := Stab.own_cell hw' (w.heap.size) (by first | (simp; done) | (simp; omega) | omega | (apply Stab.cell_lt (a := ⟨w.heap.size, 0, none⟩); assumption))
        have p0 : w'.cell? ⟨w.heap.size, 0, none⟩ = some (.float .f64 x) := by rw [pc_]; first | assumption | (go_simp; done)
        have p1 : w'.cell? ⟨w.heap.size, 1, none⟩ = some (.float .f64 y) := by rw [pc_]; first | assumption | (go_simp; done)
        have pf : ∀ j, w'.frozen? ⟨w.heap.size, j, none⟩ = false := fun j => by rw [pf_]; first | (go_simp; done) | (apply_assumption)
        clear pc_ pf_
        have r1 := fun w => opV_some E1 w
        have r2 := fun w => opV_some E2 w
        have r3 := fun w => opV_some E3 w
        have r5 := fun w => opV_some E5 w
        have r6 := fun w => opV_some E6 w
        have r10 := fun w => opV_some E10 w
        have r11 := fun w => opV_some E11 w
        have r12 := fun w => opV_some E12 w
        have r13 := fun w => opV_some E13 w
        have r14 := fun w => opV_some E14 w
        have n1 := opN_some E1
        have n2 := opN_some E2
        have n3 := opN_some E3
        have n5 := opN_some E5
        have n6 := opN_some E6
        have n10 := opN_some E10
        have n11 := opN_some E11
        have n12 := opN_some E12
        have n13 := opN_some E13
        have n14 := opN_some E14
        clear E1 E2 E3 E5 E6 E10 E11 E12 E13 E14
        go_wp2_with fail
        refine (o1 _).mono ?_
        rintro e w3 ⟨rfl, hk3⟩
        obtain ⟨ac_, af_⟩ := Stab.own_cell hk3 (w.heap.size) (by first | (simp; done) | (simp; omega) | omega | (apply Stab.cell_lt (a := ⟨w.heap.size, 0, none⟩); assumption))
        have a0 : w3.cell? ⟨w.heap.size, 0, none⟩ = some (.float .f64 x) := by rw [ac_]; first | assumption | (go_simp; done)
        have a1 : w3.cell? ⟨w.heap.size, 1, none⟩ = some (.float .f64 y) := by rw [ac_]; first | assumption | (go_simp; done)
        have af : ∀ j, w3.frozen? ⟨w.heap.size, j, none⟩ = false := fun j => by rw [af_]; first | (go_simp; done) | (apply_assumption)
        clear ac_ af_
        obtain ⟨bc_, bf_⟩ := Stab.own_cell hk3 (g) (by first | (simp; done) | (simp; omega) | omega | (apply Stab.cell_lt (a := ⟨g, 0, none⟩); assumption))
        have b0 : w3.cell? ⟨g, 0, none⟩ = some (.float .f64 ux) := by rw [bc_]; first | assumption | (go_simp; done)
        have b1 : w3.cell? ⟨g, 1, none⟩ = some (.float .f64 uy) := by rw [bc_]; first | assumption | (go_simp; done)
        have bf : ∀ j, w3.frozen? ⟨g, j, none⟩ = false := fun j => by rw [bf_]; first | (go_simp; done) | (apply_assumption)
        clear bc_ bf_
        clear p0 p1 pf z0 z1 hgf o1
        go_wp2_with fail
        refine (o2 _).mono ?_
        rintro e w4 ⟨rfl, hk4⟩
        obtain ⟨cc_, cf_⟩ := Stab.own_cell hk4 (w.heap.size) (by first | (simp; done) | (simp; omega) | omega | (apply Stab.cell_lt (a := ⟨w.heap.size, 0, none⟩); assumption))
        have c0 : w4.cell? ⟨w.heap.size, 0, none⟩ = some (.float .f64 x) := by rw [cc_]; first | assumption | (go_simp; done)
        have c1 : w4.cell? ⟨w.heap.size, 1, none⟩ = some (.float .f64 y) := by rw [cc_]; first | assumption | (go_simp; done)
        have cf : ∀ j, w4.frozen? ⟨w.heap.size, j, none⟩ = false := fun j => by rw [cf_]; first | (go_simp; done) | (apply_assumption)
        clear cc_ cf_
        obtain ⟨dc_, df_⟩ := Stab.own_cell hk4 (g) (by first | (simp; done) | (simp; omega) | omega | (apply Stab.cell_lt (a := ⟨g, 0, none⟩); assumption))
        have d0 : w4.cell? ⟨g, 0, none⟩ = some (.float .f64 ux) := by rw [dc_]; first | assumption | (go_simp; done)
        have d1 : w4.cell? ⟨g, 1, none⟩ = some (.float .f64 uy) := by rw [dc_]; first | assumption | (go_simp; done)
        have df : ∀ j, w4.frozen? ⟨g, j, none⟩ = false := fun j => by rw [df_]; first | (go_simp; done) | (apply_assumption)
        clear dc_ df_
        clear a0 a1 af b0 b1 bf o2
        go_wp2_with fail
        refine (o3 _).mono ?_
        rintro e w5 ⟨rfl, hk5⟩
        obtain ⟨ac_, af_⟩ := Stab.own_cell hk5 (w.heap.size) (by first | (simp; done) | (simp; omega) | omega | (apply Stab.cell_lt (a := ⟨w.heap.size, 0, none⟩); assumption))
        have a0 : w5.cell? ⟨w.heap.size, 0, none⟩ = some (.float .f64 x) := by rw [ac_]; first | assumption | (go_simp; done)
        have a1 : w5.cell? ⟨w.heap.size, 1, none⟩ = some (.float .f64 y) := by rw [ac_]; first | assumption | (go_simp; done)
        have af : ∀ j, w5.frozen? ⟨w.heap.size, j, none⟩ = false := fun j => by rw [af_]; first | (go_simp; done) | (apply_assumption)
        clear ac_ af_
        obtain ⟨bc_, bf_⟩ := Stab.own_cell hk5 (g) (by first | (simp; done) | (simp; omega) | omega | (apply Stab.cell_lt (a := ⟨g, 0, none⟩); assumption))
        have b0 : w5.cell? ⟨g, 0, none⟩ = some (.float .f64 ux) := by rw [bc_]; first | assumption | (go_simp; done)
        have b1 : w5.cell? ⟨g, 1, none⟩ = some (.float .f64 uy) := by rw [bc_]; first | assumption | (go_simp; done)
        have bf : ∀ j, w5.frozen? ⟨g, j, none⟩ = false := fun j => by rw [bf_]; first | (go_simp; done) | (apply_assumption)
        clear bc_ bf_
        clear c0 c1 cf d0 d1 df o3
        go_wp2_with fail
        refine (o4 _).mono ?_
        rintro e w6 ⟨rfl, hk6⟩
        go_wp2_with fail
        go_ret
        refine ⟨rfl, ?_⟩
        have hge : w.heap.size ≤ g := by omega
        repeat (first | (with_reducible exact Stab.Keeps.refl _) | (with_reducible assumption) | (with_reducible refine Stab.Keeps.alloc ?_ _) | (with_reducible refine Stab.Keeps.drew ?_) | (with_reducible refine Stab.Keeps.drewN ?_ _) | ((with_reducible refine Stab.Keeps.setCell ?_ ?_ _); focus (first | (simp; done) | (simp; omega))) | (with_reducible refine Stab.Keeps.trans ?_ (by with_reducible assumption)))
namespace fnXYLength
open Go.ChangeShapes Go.WideShapes Go.ChangeAt Go.Op2
theorem cellsXY : Try.prog.cellsOf 24 = 2 := by kernel_rfl
theorem cellsF : Try.prog.cellsOf 22 = 1 := by kernel_rfl
theorem walkT {H : Type} (enc : TypeId × Value → H) (W : World) (base : Nat) {v0 : Value} {d0 : DataW H} {p0 : List MemPlace}
    (o0 : Value.okWide Try.prog W .any base 24 v0) (h0 : DataW.Trod enc Try.prog W 0 (fun _ => true) true 24 v0 d0 p0) :
    Calls Try.prog 3 #[v0] W (LawPost W) := by
  obtain ⟨cs, rfl, hl, m, hf⟩ := open_struct Try.underlying24 cellsXY o0 h0
  obtain ⟨c0, c1, rfl⟩ := list2 hl
  obtain ⟨y0, g0⟩ := hf 0 _ rfl
  obtain ⟨y1, g1⟩ := hf 1 _ rfl
  simp [cellsF] at g0 g1
  obtain ⟨a, e1, _⟩ := trod_float Try.underlying22 g0
  obtain ⟨b, e2, _⟩ := trod_float Try.underlying22 g1
  injection e1 with e1; injection e2 with e2
  subst e1 e2
  exact law_ a b W
end fnXYLength
end Go.Proofs.Ytfiplieljdkdjaa
