/-
  A ring of one place. No condition.
-/
import Derived.Test.YtbakhldjfplbfaaGreatV11
set_option linter.unusedVariables false
set_option linter.unusedSimpArgs false
namespace Go.Proofs.YtbakhldjfplbfaaGreat
open Go.RowKit Go.Fl Go.Sl Go.Pg Go.Ch Go.Kf
/-- a literal slice of two that a region makes -/
def LitF (B idx : Nat) (T : TypeId) (vs : List Value) (k : Nat) (v : Value) (w : World) : Prop := k = idx → ∃ g, v = .slice (some ⟨g, 0, none⟩) 2 2 ∧ B ≤ g ∧ Blk w g T vs
theorem litPre (B idx : Nat) (T : TypeId) (vs : List Value) : Stab.Pre Stab.Keeps (LitF B idx T vs) :=
  ⟨Stab.Keeps.refl, Stab.Keeps.trans, fun k v w w' hk hF e => by
    obtain ⟨g, h1, h2, h3⟩ := hF e
    exact ⟨g, h1, h2, h3.keep hk⟩⟩
set_option maxRecDepth 100000 in
set_option maxHeartbeats 2000000 in
theorem ringAt_ (gb : Nat) (w : World) (hB : Blk w gb 3 [.int .i64 1, .int .i64 2]) : Calls Tryz.prog 21 #[.agg #[.int .i64 0, .int .i64 0], .int .i64 1, .slice (some ⟨gb, 0, none⟩) 2 2] w (RetR w no GmR (.node 2 0 [ptP (1, 2)] [])) := by
  obtain ⟨i0, hi, hz0, hz1, hz2⟩ := info_parts infoFloat
  have HI := Lib.hid hi
  have HZ0 := Lib.hid hz0
  have HZ1 := Lib.hid hz1
  have HZ2 := Lib.hid hz2
  clear hi hz0 hz1 hz2
  have hlb := hB.lt
  have hk0 : Stab.Keeps w (((w.alloc (.cells #[.int .i64 0, .int .i64 0] 44)).alloc (.cells #[.int .i64 0, .int .i64 0, .slice none 0 0, .slice none 0 0] 25)).alloc (.cells #[.int .i64 2, .int .i64 0, .slice none 0 0, .slice none 0 0] 25)) := by with_reducible (repeat (first | exact Kx.r _ | assumption | refine Kx.a ?_ _ | refine Kx.d ?_ | refine Kx.e ?_ _ | (refine Kx.s ?_ ?_ _; focus (first | (simp; done) | (simp; omega))) | refine Kx.t ?_ (by assumption)))
  have hB1 : Blk (((w.alloc (.cells #[.int .i64 0, .int .i64 0] 44)).alloc (.cells #[.int .i64 0, .int .i64 0, .slice none 0 0, .slice none 0 0] 25)).alloc (.cells #[.int .i64 2, .int .i64 0, .slice none 0 0, .slice none 0 0] 25)) w.heap.size 44 [.int .i64 0, .int .i64 0] := by with_reducible (repeat (first | assumption | ((refine Bx.n ⟨?_, ?_⟩) <;> focus (first | rfl | (simp; done) | omega)) | refine Bx.a ?_ _ | refine Bx.d ?_ | refine Bx.e ?_ _ | (refine Bx.p ?_ ?_; focus (first | (simp; done) | (simp; omega) | omega))))
  have hB2 : Blk (((w.alloc (.cells #[.int .i64 0, .int .i64 0] 44)).alloc (.cells #[.int .i64 0, .int .i64 0, .slice none 0 0, .slice none 0 0] 25)).alloc (.cells #[.int .i64 2, .int .i64 0, .slice none 0 0, .slice none 0 0] 25)) (w.heap.size + 1) 25 [.int .i64 0, .int .i64 0, .slice none 0 0, .slice none 0 0] := by with_reducible (repeat (first | assumption | ((refine Bx.n ⟨?_, ?_⟩) <;> focus (first | rfl | (simp; done) | omega)) | refine Bx.a ?_ _ | refine Bx.d ?_ | refine Bx.e ?_ _ | (refine Bx.p ?_ ?_; focus (first | (simp; done) | (simp; omega) | omega))))
  have hB3 : Blk (((w.alloc (.cells #[.int .i64 0, .int .i64 0] 44)).alloc (.cells #[.int .i64 0, .int .i64 0, .slice none 0 0, .slice none 0 0] 25)).alloc (.cells #[.int .i64 2, .int .i64 0, .slice none 0 0, .slice none 0 0] 25)) (w.heap.size + 1 + 1) 25 [.int .i64 2, .int .i64 0, .slice none 0 0, .slice none 0 0] := by with_reducible (repeat (first | assumption | ((refine Bx.n ⟨?_, ?_⟩) <;> focus (first | rfl | (simp; done) | omega)) | refine Bx.a ?_ _ | refine Bx.d ?_ | refine Bx.e ?_ _ | (refine Bx.p ?_ ?_; focus (first | (simp; done) | (simp; omega) | omega))))
  have hs0 : (((w.alloc (.cells #[.int .i64 0, .int .i64 0] 44)).alloc (.cells #[.int .i64 0, .int .i64 0, .slice none 0 0, .slice none 0 0] 25)).alloc (.cells #[.int .i64 2, .int .i64 0, .slice none 0 0, .slice none 0 0] 25)).heap.size = w.heap.size + 3 := by simp
  go_enter Tryz.func21, Tryz.ntmps21
  go_upto_region 2 with (fail)
  generalize (((w.alloc (.cells #[.int .i64 0, .int .i64 0] 44)).alloc (.cells #[.int .i64 0, .int .i64 0, .slice none 0 0, .slice none 0 0] 25)).alloc (.cells #[.int .i64 2, .int .i64 0, .slice none 0 0, .slice none 0 0] 25)) = W at *
  obtain ⟨B, hBe⟩ : ∃ B, w.heap.size + 3 = B := ⟨_, rfl⟩
  obtain ⟨b2, hb2e⟩ : ∃ b2, w.heap.size + 1 = b2 := ⟨_, rfl⟩
  obtain ⟨b3, hb3e⟩ : ∃ b3, b2 + 1 = b3 := ⟨_, rfl⟩
  rw [hb2e] at hB2 hB3 ⊢
  rw [hb3e] at hB3 ⊢
  have hBs : B ≤ W.heap.size := by omega
  have h3B : b3 < B := by omega
  have h12 : w.heap.size < b2 := by omega
  have h13 : w.heap.size < b3 := by omega
  have h23 : ¬ b2 = b3 := by omega
  have h2B : b2 < B := by omega
  have h1B : w.heap.size < B := by omega
  clear hBe hb2e hb3e hs0
  go_wp2_with fail
  go_loopw [8] (fun iv wr => Stab.Keeps w wr ∧ B ≤ wr.heap.size ∧ Blk wr w.heap.size 44 [.int .i64 0, .int .i64 0] ∧ Blk wr b2 25 [.int .i64 0, .int .i64 0, .slice none 0 0, .slice none 0 0] ∧ (iv = .int .i64 0 ∧ Blk wr b3 25 [.int .i64 2, .int .i64 0, .slice none 0 0, .slice none 0 0] ∨ iv = .int .i64 2 ∧ ∃ al c, Blk wr b3 25 [.int .i64 2, .int .i64 0, .slice al 2 c, .slice none 0 0] ∧ SzF wr (fun b => B ≤ b) al 2 c 1 (placeN [(1, 2)]))) (fun iv _ => 2 - (intOf iv).toNat)
  case atStart => exact ⟨hk0, hBs, hB1, hB2, .inl ⟨rfl, hB3⟩⟩
  case round =>
    clear hk0 hBs hB1 hB2 hB3
    obtain ⟨hK, hBs, hB1, hB2, h⟩ := hrel
    rcases h with ⟨rfl, hB3⟩ | ⟨rfl, al, c, hB3, hz⟩
    · have hBg := hB.keep hK
      have q0 := hBg.cell (i := 0) rfl
      have q1 := hBg.cell (i := 1) rfl
      have qf := hBg.free
      have ql := hBg.lt
      have t0 := hB1.cell (i := 0) rfl
      have t1 := hB1.cell (i := 1) rfl
      have tf := hB1.free
      have tl := hB1.lt
      have y0 := hB3.cell (i := 0) rfl
      have y1 := hB3.cell (i := 1) rfl
      have y2 := hB3.cell (i := 2) rfl
      have y3 := hB3.cell (i := 3) rfl
      have yf := hB3.free
      have yl := hB3.lt
      go_upto_region 5 with (fail)
      refine Stab.keep_tail 24 (LitF wr.heap.size 23 45 [.float .f64 (floatOfInt .f64 1), .float .f64 (floatOfInt .f64 2)]) (fun k => k == 23) (fun _ => false) (litPre _ _ _ _) (by kernel_rfl) (by kernel_rfl) fun hcx => ?_
      simp only [List.take_succ_cons, List.take_zero, List.drop_succ_cons, List.drop_zero]
      (with_reducible refine Stab.quiet ?_ ?_ ?_ ?_); rfl; rfl; rfl; intro K hK; go_big_quiet_op; refine hK _ ?_; clear hK K
      (with_reducible refine Stab.quiet ?_ ?_ ?_ ?_); rfl; rfl; rfl; intro K hK; go_big_quiet_op; refine hK _ ?_; clear hK K
      (with_reducible refine Stab.quiet ?_ ?_ ?_ ?_); rfl; rfl; rfl; intro K hK; go_big_quiet_op; refine hK _ ?_; clear hK K
      (with_reducible refine Stab.quiet ?_ ?_ ?_ ?_); rfl; rfl; rfl; intro K hK; go_big_quiet_op; refine hK _ ?_; clear hK K
      (with_reducible refine Stab.quiet ?_ ?_ ?_ ?_); rfl; rfl; rfl; intro K hK; go_big_quiet_op; refine hK _ ?_; clear hK K
      (with_reducible refine Stab.quiet ?_ ?_ ?_ ?_); rfl; rfl; rfl; intro K hK; go_big_quiet_op; refine hK _ ?_; clear hK K
      (with_reducible refine Stab.quiet ?_ ?_ ?_ ?_); rfl; rfl; rfl; intro K hK; go_big_quiet_op; refine hK _ ?_; clear hK K
      (with_reducible refine Stab.quiet ?_ ?_ ?_ ?_); rfl; rfl; rfl; intro K hK; go_big_quiet_op; refine hK _ ?_; clear hK K
      (with_reducible refine Stab.quiet ?_ ?_ ?_ ?_); rfl; rfl; rfl; intro K hK; go_big_quiet_op; refine hK _ ?_; clear hK K
      (with_reducible refine Stab.quiet ?_ ?_ ?_ ?_); rfl; rfl; rfl; intro K hK; go_big_quiet_op; refine hK _ ?_; clear hK K
      (with_reducible refine Stab.quiet ?_ ?_ ?_ ?_); rfl; rfl; rfl; intro K hK; go_big_quiet_op; refine hK _ ?_; clear hK K
      (with_reducible refine Stab.quiet ?_ ?_ ?_ ?_); rfl; rfl; rfl; intro K hK; go_big_quiet_op; refine hK _ ?_; clear hK K
      (with_reducible refine Stab.quiet ?_ ?_ ?_ ?_); rfl; rfl; rfl; intro K hK; go_big_quiet_op; refine hK _ ?_; clear hK K
      (with_reducible refine Stab.quiet ?_ ?_ ?_ ?_); rfl; rfl; rfl; intro K hK; go_big_quiet_op; refine hK _ ?_; clear hK K
      (with_reducible refine Stab.quiet ?_ ?_ ?_ ?_); rfl; rfl; rfl; intro K hK; go_big_quiet_op; refine hK _ ?_; clear hK K
      (with_reducible refine Stab.quiet ?_ ?_ ?_ ?_); rfl; rfl; rfl; intro K hK; go_big_quiet_op; refine hK _ ?_; clear hK K
      (with_reducible refine Stab.quiet ?_ ?_ ?_ ?_); rfl; rfl; rfl; intro K hK; go_big_quiet_op; refine hK _ ?_; clear hK K
      (with_reducible refine Stab.quiet ?_ ?_ ?_ ?_); rfl; rfl; rfl; intro K hK; go_big_quiet_op; refine hK _ ?_; clear hK K
      (with_reducible refine Stab.quiet ?_ ?_ ?_ ?_); rfl; rfl; rfl; intro K hK; go_big_quiet_op; refine hK _ ?_; clear hK K
      (with_reducible refine Stab.quiet ?_ ?_ ?_ ?_); rfl; rfl; rfl; intro K hK; go_big_quiet_op; refine hK _ ?_; clear hK K
      (with_reducible refine Stab.quiet ?_ ?_ ?_ ?_); rfl; rfl; rfl; intro K hK; go_big_quiet_op; refine hK _ ?_; clear hK K
      (with_reducible refine Stab.quiet ?_ ?_ ?_ ?_); rfl; rfl; rfl; intro K hK; go_big_quiet_op; refine hK _ ?_; clear hK K
      (with_reducible refine Stab.quiet ?_ ?_ ?_ ?_); rfl; rfl; rfl; intro K hK; go_big_quiet_op; refine hK _ ?_; clear hK K
      refine Stab.made rfl rfl (fun w1 hk1 => ?_) (fun v hv K hK => ?_)
      · go_simp
        have hk1' : Stab.Keeps wr w1 := hk1.1
        exact ⟨by with_reducible (repeat (first | exact Kx.r _ | assumption | refine Kx.a ?_ _ | refine Kx.d ?_ | refine Kx.e ?_ _ | (refine Kx.s ?_ ?_ _; focus (first | (simp; done) | (simp; omega))) | refine Kx.t ?_ (by assumption))), fun _ => ⟨w1.heap.size, rfl, hk1'.size, by with_reducible (repeat (first | assumption | ((refine Bx.n ⟨?_, ?_⟩) <;> focus (first | rfl | (simp; done) | omega)) | refine Bx.a ?_ _ | refine Bx.d ?_ | refine Bx.e ?_ _ | (refine Bx.p ?_ ?_; focus (first | (simp; done) | (simp; omega) | omega))))⟩⟩
      obtain ⟨wv, _, _, hv⟩ := hv
      obtain ⟨g, rfl, _⟩ := hv rfl
      go_simp
      refine hK _ ?_
      clear hK hv
      refine Stab.nil fun w5 hw5 hfs => ?_
      obtain ⟨g', he, hge, hBn⟩ := (Stab.setF_new (hfs 23)) rfl
      cases he
      have hB15 := hB1.keep hw5
      have hB25 := hB2.keep hw5
      have hB35 := hB3.keep hw5
      have hK5 := Stab.Keeps.trans hK hw5
      have hs5 := hw5.size
      clear hcx hfs hB1 hB2 hB3 hK hw5 hBg q0 q1 qf ql t0 t1 tf tl y0 y1 y2 y3 yf yl
      refine append_own (w0 := w5) rfl _ _ 22 rfl B 45 i0 _ 1 8 Tryz.underlying22 HI.out HZ0.out HZ1.out HZ2.out rfl (by decide) _ 0 [] rfl (World.ownsRow_nil _ _ _ _) ⟨g, 0, none⟩ 2 2 [.float .f64 (floatOfInt .f64 1), .float .f64 (floatOfInt .f64 2)] rfl rfl ?c1 ?c2 ?c3 ?c4 ?c5 (Below.refl _ _) ?_
      case c1 => exact fun j u hj => by rw [add_none]; simpa using hBn.cell (i := j) hj
      case c2 => intro u hu; simp at hu; rcases hu with rfl | rfl <;> rfl
      case c3 => unfold maxLen; omega
      case c4 => omega
      case c5 => omega
      intro al' c' w7 hown7 hB7 hsz7 hgr
      have hB17 := hB15.below hB7 (by omega)
      have hB27 := hB25.below hB7 (by omega)
      have hB37 := hB35.below hB7 (by omega)
      have hk7 : Stab.Keeps w w7 := Below.trans hK5 (Below.mono hB7 (by omega))
      have hz7 := SzF.of_owns (F := fun b => B ≤ b) hown7 (fun b hb => hb)
      simp only [Nat.zero_add, List.nil_append] at hz7
      clear hgr hB7 hK5 hB15 hB25 hB35 hBn hown7
      have y0 := hB37.cell (i := 0) rfl
      have y1 := hB37.cell (i := 1) rfl
      have y2 := hB37.cell (i := 2) rfl
      have y3 := hB37.cell (i := 3) rfl
      have yf := hB37.free
      have yl := hB37.lt
      have hB38 := hB37.set 2 (.slice al' 2 c')
      simp only [List.set] at hB38
      have hB18 : Blk (w7.setCell ⟨b3, 2, none⟩ (.slice al' 2 c')) w.heap.size 44 [.int .i64 0, .int .i64 0] := by with_reducible (repeat (first | assumption | ((refine Bx.n ⟨?_, ?_⟩) <;> focus (first | rfl | (simp; done) | omega)) | refine Bx.a ?_ _ | refine Bx.d ?_ | refine Bx.e ?_ _ | (refine Bx.p ?_ ?_; focus (first | (simp; done) | (simp; omega) | omega))))
      have hB28 : Blk (w7.setCell ⟨b3, 2, none⟩ (.slice al' 2 c')) b2 25 [.int .i64 0, .int .i64 0, .slice none 0 0, .slice none 0 0] := by with_reducible (repeat (first | assumption | ((refine Bx.n ⟨?_, ?_⟩) <;> focus (first | rfl | (simp; done) | omega)) | refine Bx.a ?_ _ | refine Bx.d ?_ | refine Bx.e ?_ _ | (refine Bx.p ?_ ?_; focus (first | (simp; done) | (simp; omega) | omega))))
      have hk8 : Stab.Keeps w (w7.setCell ⟨b3, 2, none⟩ (.slice al' 2 c')) := Stab.Keeps.setCell (by simp; omega) hk7 _
      have hz8 := hz7.kf (w' := w7.setCell ⟨b3, 2, none⟩ (.slice al' 2 c')) ((KF.refl _ _).set (fun h => by simp at h; omega))
      have hs8 : B ≤ (w7.setCell ⟨b3, 2, none⟩ (.slice al' 2 c')).heap.size := by simp; omega
      clear hB17 hB27 hB37 hk7 hz7
      try simp only [Nat.zero_add]
      go_wp2_with fail
      exact ⟨⟨hk8, hs8, hB18, hB28, .inr ⟨rfl, al', c', hB38, hz8⟩⟩, by simp [intOf]⟩
    · skip
      have t0 := hB3.cell (i := 0) rfl
      have t1 := hB3.cell (i := 1) rfl
      have t2 := hB3.cell (i := 2) rfl
      have t3 := hB3.cell (i := 3) rfl
      have tf := hB3.free
      have tl := hB3.lt
      have g0 := hB2.cell (i := 0) rfl
      have g1 := hB2.cell (i := 1) rfl
      have g2 := hB2.cell (i := 2) rfl
      have g3 := hB2.cell (i := 3) rfl
      have gf := hB2.free
      have gl := hB2.lt
      have hkz : Stab.Keeps w ((((wr.setCell ⟨b2, 0, none⟩ (.int .i64 2)).setCell ⟨b2, 1, none⟩ (.int .i64 0)).setCell ⟨b2, 2, none⟩ (.slice al 2 c)).setCell ⟨b2, 3, none⟩ (.slice none 0 0)) := by with_reducible (repeat (first | exact Kx.r _ | assumption | refine Kx.a ?_ _ | refine Kx.d ?_ | refine Kx.e ?_ _ | (refine Kx.s ?_ ?_ _; focus (first | (simp; done) | (simp; omega))) | refine Kx.t ?_ (by assumption)))
      have hzz := hz.kf (w' := (((wr.setCell ⟨b2, 0, none⟩ (.int .i64 2)).setCell ⟨b2, 1, none⟩ (.int .i64 0)).setCell ⟨b2, 2, none⟩ (.slice al 2 c)).setCell ⟨b2, 3, none⟩ (.slice none 0 0)) (((((KF.refl _ _).set (fun h => by simp at h; omega)).set (fun h => by simp at h; omega)).set (fun h => by simp at h; omega)).set (fun h => by simp at h; omega))
      clear hz hB3
      go_wp2_with fail
      refine bodyPost_ret (v := .agg #[.int .i64 2, .int .i64 0, .slice al 2 c, .slice none 0 0]) (by simp [results, Tryz.results21, go_sem, *]) rfl ⟨[.int .i64 ((2 : Nat) : Int), .int .i64 ((0 : Nat) : Int), .slice al 2 c, .slice none 0 0], rfl, hkz, ?_⟩
      exact .mk 2 0 _ _ al none _ _ _ _ [] rfl (hzz.mono (fun b _ hb => .inr (by omega))) rfl rfl (by simp) (SzF.nil _ _ _) (fun i h1 => by simp at h1)
end Go.Proofs.YtbakhldjfplbfaaGreat
