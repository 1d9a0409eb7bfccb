/-
  Sequences, lines and points brought to another type of coordinates. No condition.
-/
import Derived.Test.YtbakhldjfplbfaaGreatG1
import Derived.Laws.Bits128
import Derived.Deep.LoopGhost
import Derived.Deep.Cut
set_option linter.unusedVariables false
set_option linter.unusedSimpArgs false
namespace Go.Proofs.YtbakhldjfplbfaaGreat
open Go.RowKit Go.Fl Go.Sl Go.Pg Go.Ch Go.Kf
theorem i64_and3 (n : Int) : bits .and .i64 n 3 = n % 4 := by
  have h3 : (BitVec.ofInt 64 3).toNat = 2 ^ 2 - 1 := by decide
  have key : (BitVec.ofInt 64 n &&& BitVec.ofInt 64 3).toNat = (n % ((2 ^ 64 : Nat) : Int)).toNat % 2 ^ 2 := by
    rw [BitVec.toNat_and, BitVec.toNat_ofInt, h3, Nat.and_two_pow_sub_one_eq_mod]
  show IntKind.i64.wrap ((BitVec.ofInt 64 n &&& BitVec.ofInt 64 3).toNat : Nat) = n % 4
  rw [key, IntKind.wrap_i64]
  omega
def dim4 (n : Int) : Nat := (n % 4).toNat
theorem dim4_lt (n : Int) : dim4 n < 4 := by unfold dim4; omega
set_option maxRecDepth 100000 in
theorem dimOfA_ (n : Int) (w : World) : Calls Tryz.prog 154 #[.int .i64 n] w (One w (.int .u8 (dim4 n))) := by
  have h1 : bits .and .i64 n 3 = (dim4 n : Int) := by
    rw [i64_and3]
    unfold dim4
    omega
  have hd := dim4_lt n
  generalize dim4 n = d at *
  have : d = 0 ∨ d = 1 ∨ d = 2 ∨ d = 3 := by omega
  rcases this with rfl | rfl | rfl | rfl
  all_goals
    go_enter Tryz.func154, Tryz.ntmps154
    go_wp2
    go_ret
    exact ⟨rfl, by with_reducible (repeat (first | exact Kx.r _ | assumption | refine Kx.a ?_ _ | refine Kx.d ?_ | refine Kx.e ?_ _ | (refine Kx.s ?_ ?_ _; focus (first | (simp; done) | (simp; omega))) | refine Kx.t ?_ (by assumption)))⟩
set_option maxRecDepth 100000 in
set_option maxHeartbeats 1000000 in
theorem getXY_ {F : Nat → Prop} (d : Nat) (ps : List Pl) (a : Option Addr) (n cap i : Nat) (w : World) (h : SeqAt w F d ps a n cap) (hi : i < ps.length) :
    Calls Tryz.prog 164 #[.agg #[.int .u8 d, .slice a n cap], .int .i64 i] w (One w (.agg #[.float .f64 ps[i].x, .float .f64 ps[i].y])) := by
  obtain ⟨b, off, rfl, hb, hc⟩ := h.cell hi
  have hn := h.len
  have hs := h.big
  have hle := h.sz.le
  have hmx := h.sz.max
  unfold maxLen at hmx
  have hwp := wid_pos d
  have hwl := wid_le d
  have hi2 : i * wid d + wid d ≤ n := by rw [hn, ← Nat.succ_mul]; exact Nat.mul_le_mul_right _ hi
  have hD := fun w' => dimension_ d h.d4 w'
  rw [dimN_wid h.d4] at hD
  have k0 := hc 0 _ rfl
  have k1 := hc 1 _ rfl
  generalize ps[i] = p at *
  obtain ⟨x, y, z, m⟩ := p
  simp only at k0 k1 ⊢
  clear hc h hi hn
  obtain ⟨W, hW⟩ : ∃ W, wid d = W := ⟨_, rfl⟩
  have bi : i ≤ 1000000 := by
    have : i ≤ i * wid d := Nat.le_mul_of_pos_right _ (by omega)
    omega
  rw [hW] at hi2 hD hwp hwl k0 k1
  clear hW
  have c0 : w.cell? ⟨b, off + i * W, none⟩ = some (.float .f64 x) := by simpa using k0
  have c1 : w.cell? ⟨b, off + (i * W + 1), none⟩ = some (.float .f64 y) := k1
  obtain ⟨q, hq⟩ : ∃ q, i * W = q := ⟨_, rfl⟩
  have hqi : ((i : Int) * (W : Int)) = q := by rw [← hq]; simp
  rw [hq] at hi2 c0 c1
  clear k0 k1 hq
  have b2 : ((q : Int)).toNat = q := by omega
  have b3 : (0 : Int) ≤ (q : Int) + 1 := by omega
  have b4 : ((q : Int) + 1).toNat = q + 1 := by omega
  have b5 : (q : Int) < n := by omega
  have b6 : (q : Int) + 1 < n := by omega
  have b7 : q ≤ 1000000 := by omega
  have w3 : IntKind.i64.wrap ((q : Int) + 1) = (q : Int) + 1 := IntWalk.i64_in _ (by omega)
  have w1 : IntKind.i64.wrap ((i : Int) * (W : Int)) = (q : Int) := by rw [hqi]; exact IntWalk.i64_in _ (by clear w3; omega)
  clear hqi
  go_enter Tryz.func164, Tryz.ntmps164
  go_wp2_with fail
  refine (hD _).mono ?_
  rintro e w2 ⟨rfl, hk2⟩
  clear hD
  obtain ⟨mc_, mf_⟩ := Stab.own_cell hk2 (w.heap.size) (by first | (simp; done) | (simp; omega) | omega | (apply Stab.cell_lt (a := ⟨w.heap.size, 0, none⟩); assumption))
  have m0 : w2.cell? ⟨w.heap.size, 0, none⟩ = some (.int .u8 d) := by rw [mc_]; first | assumption | (go_simp; done)
  have m1 : w2.cell? ⟨w.heap.size, 1, none⟩ = some (.slice (some ⟨b, off, none⟩) n cap) := by rw [mc_]; first | assumption | (go_simp; done)
  have mf : ∀ j, w2.frozen? ⟨w.heap.size, j, none⟩ = false := fun j => by rw [mf_]; first | (go_simp; done) | (apply_assumption)
  clear mc_ mf_
  obtain ⟨rc_, rf_⟩ := Stab.own_cell hk2 (w.heap.size + 1) (by first | (simp; done) | (simp; omega) | omega | (apply Stab.cell_lt (a := ⟨w.heap.size + 1, 0, none⟩); assumption))
  have r0 : w2.cell? ⟨w.heap.size + 1, 0, none⟩ = some (.float .f64 0) := by rw [rc_]; first | assumption | (go_simp; done)
  have r1 : w2.cell? ⟨w.heap.size + 1, 1, none⟩ = some (.float .f64 0) := by rw [rc_]; first | assumption | (go_simp; done)
  have rf : ∀ j, w2.frozen? ⟨w.heap.size + 1, j, none⟩ = false := fun j => by rw [rf_]; first | (go_simp; done) | (apply_assumption)
  clear rc_ rf_
  have hw2 : Stab.Keeps w w2 := by with_reducible (repeat (first | exact Kx.r _ | assumption | refine Kx.a ?_ _ | refine Kx.d ?_ | refine Kx.e ?_ _ | (refine Kx.s ?_ ?_ _; focus (first | (simp; done) | (simp; omega))) | refine Kx.t ?_ (by assumption)))
  have c0' : w2.cell? ⟨b, off + q, none⟩ = some (.float .f64 x) := by rw [(Stab.own_cell hw2 b hb).1]; exact c0
  have c1' : w2.cell? ⟨b, off + (q + 1), none⟩ = some (.float .f64 y) := by rw [(Stab.own_cell hw2 b hb).1]; exact c1
  have hlr := Stab.cell_lt r0
  have hbw : b < w2.heap.size := Nat.lt_of_lt_of_le hb hw2.size
  have hl0 := Stab.cell_lt m0
  simp only at hlr hl0
  clear c0 c1
  go_wp2_with fail
  refine Stab.keep_tail 16 (fun _ _ _ => True) (fun _ => false) (fun k => false) Stab.pre_none (by kernel_rfl) (by kernel_rfl) fun hcx => ?_
  simp only [List.take_succ_cons, List.take_zero, List.drop_succ_cons, List.drop_zero]
  repeat (first
    | (refine Stab.quiet rfl rfl rfl (fun K hK => ?_); go_big_quiet_op; refine hK _ ?_; clear hK K)
    | (refine Stab.one rfl rfl rfl ?_
       apply Exists.intro
       refine ⟨fun w1 hw1 => ?_, fun K hK => ?_⟩
       · go_simp
         first | fail
       go_simp
       refine hK _ ?_
       clear hK K)
    | (refine Stab.skip rfl (fun K hK => ?_); go_simp; refine hK _ ?_; clear hK K))
  refine Stab.nil fun w' hw' _ => ?_
  clear hcx
  obtain ⟨qc_, qf_⟩ := Stab.own_cell hw' (w.heap.size + 1) (by first | (simp; done) | (simp; omega) | omega | (apply Stab.cell_lt (a := ⟨w.heap.size + 1, 0, none⟩); assumption))
  have q0 : w'.cell? ⟨w.heap.size + 1, 0, none⟩ = some (.float .f64 0) := by rw [qc_]; first | assumption | (go_simp; done)
  have q1 : w'.cell? ⟨w.heap.size + 1, 1, none⟩ = some (.float .f64 0) := by rw [qc_]; first | assumption | (go_simp; done)
  have qf : ∀ j, w'.frozen? ⟨w.heap.size + 1, j, none⟩ = false := fun j => by rw [qf_]; first | (go_simp; done) | (apply_assumption)
  clear qc_ qf_
  go_wp2_with fail
  refine bodyPost_ret (v := .agg #[.float .f64 x, .float .f64 y]) (by simp [results, Tryz.results164, go_sem, *]) rfl ⟨rfl, ?_⟩
  with_reducible (repeat (first | exact Kx.r _ | assumption | refine Kx.a ?_ _ | refine Kx.d ?_ | refine Kx.e ?_ _ | (refine Kx.s ?_ ?_ _; focus (first | (simp; done) | (simp; omega))) | refine Kx.t ?_ (by assumption)))
end Go.Proofs.YtbakhldjfplbfaaGreat
