/-
  The reference's geometries made of plain data: leaves. No condition.
-/
import Derived.Test.YtbakhldjfplbfaaGreatXS4
set_option linter.unusedVariables false
set_option linter.unusedSimpArgs false
namespace Go.Proofs.YtbakhldjfplbfaaGreat
open Go.RowKit Go.Fl Go.Sl Go.Pg Go.Ch Go.Kf
theorem infoF : (Tryz.prog.info? 45).map (fun i => (i.zero, i.size, i.bytes)) = some (some (.float .f64 0), 1, 8) := by kernel_rfl
set_option maxRecDepth 100000 in
set_option maxHeartbeats 4000000 in
theorem newLs_ (t : GT) (w : World) (hA : t.At w) (hs : t.Small) (hk : t.hd.kind = 2) : Calls Tryz.prog 13 #[t.hd.val] w (RetR w no GmR (newP t)) := by
  obtain ⟨i0, hi, hz0, hz1, hz2⟩ := info_parts infoF
  cases hA with
  | mk h nums kids hn hkn h1 h2 h3 =>
  obtain ⟨kind, dim, na, nn, nc, ka, kn, kc⟩ := h
  simp only [GT.hd] at hk hn h1 ⊢
  subst hk
  have h4 := hs.nums
  rw [newP_line _ _ _ rfl]
  simp only [Gm.val]
  have hd4 := dim4_lt dim
  have hband : bits .and .i64 dim 3 = (dim4 dim : Int) := by rw [i64_and3]; unfold dim4; omega
  generalize hde : dim4 dim = d at *
  clear hde h2 h3 hs
  have hq : ∃ q, nn / wid d = q := ⟨_, rfl⟩
  obtain ⟨q, hq⟩ := hq
  have hw2 := wid_pos d
  have hw4 := wid_le d
  have hqm : q * wid d ≤ nn := by rw [← hq]; exact Nat.div_mul_le_self _ _
  have hW := fun w' => width_ d hd4 w'
  have hle := h1.le
  have hmx := h1.max
  unfold maxLen at hmx
  have hwp : 0 < wid d := by omega
  have hw0 : ((wid d : Int) == 0) = false := by simp; omega
  have hw1 : (wid d == 0) = false := by simp; omega
  have hqw : wrap64 ((nn : Int) / (wid d : Int)) = (q : Int) := by
    have : nn / wid d ≤ nn := Nat.div_le_self _ _
    rw [← Int.natCast_ediv, hq]
    exact IntWalk.wrap64_in _ (by omega)
  have hme : ∃ m, q * wid d = m := ⟨_, rfl⟩
  obtain ⟨m, hme⟩ := hme
  have hmn : m ≤ nn := by omega
  have hmc : m ≤ nc := by omega
  have hmz : m * 8 ≤ 140737488355328 := by omega
  have hml : 0 + m ≤ maxLen := by unfold maxLen; omega
  have HML := Lib.hid hml
  clear hml
  have hqm2 : wrap64 ((q : Int) * (wid d : Int)) = (m : Int) := by
    rw [← Int.natCast_mul, hme]
    exact IntWalk.wrap64_in _ (by omega)
  have hlaw : encN (numsOf d (placesOf d nums)) = (encN nums).take (m * 1) := by
    have h5 := Nat.div_add_mod nn (wid d)
    have h6 : nn - nn % wid d = m := by rw [← hme, ← hq]; have := Nat.mul_comm (wid d) (nn / wid d); omega
    rw [numsOf_placesOf, hn, h6, encN, encN, List.map_take, Nat.mul_one]
  have hlen : (numsOf d (placesOf d nums)).length = m := by rw [numsOf_len, placesOf_len, hn, hq, hme]
  have HLAW := Lib.hid hlaw
  have HLEN := Lib.hid hlen
  have HMZ := Lib.hid hmz
  clear hq hme hqm hlaw hlen hmz
  have HMX := Lib.hid hmx
  clear hmx
  have hHI := Lib.hid hi
  have HZ0 := Lib.hid hz0
  have HZ1 := Lib.hid hz1
  have HZ2 := Lib.hid hz2
  clear hi hz0 hz1 hz2
  go_enter Tryz.func13, Tryz.ntmps13
  go_wp2_with fail
  have hs1 : (((w.alloc (.cells #[.int .i64 2, .int .i64 dim, .slice na nn nc, .slice ka kn kc] 25)).alloc (.cells #[.int .i64 0, .int .i64 0, .slice none 0 0, .slice none 0 0] 25)).alloc (.cells #[.int .i64 2, .int .i64 d, .slice none 0 0, .slice none 0 0] 25)).heap.size = w.heap.size + 1 + 1 + 1 := by simp
  have hB0 : Blk (((w.alloc (.cells #[.int .i64 2, .int .i64 dim, .slice na nn nc, .slice ka kn kc] 25)).alloc (.cells #[.int .i64 0, .int .i64 0, .slice none 0 0, .slice none 0 0] 25)).alloc (.cells #[.int .i64 2, .int .i64 d, .slice none 0 0, .slice none 0 0] 25)) w.heap.size 25 [.int .i64 2, .int .i64 dim, .slice na nn nc, .slice ka kn kc] := by with_reducible (repeat first | assumption | (refine Bx.n ⟨?_, ?_⟩ <;> focus (first | rfl | (simp; done) | omega)) | refine Bx.a ?_ _ | refine Bx.d ?_ | refine Bx.e ?_ _ | refine Bx.p (by first | omega | simp <;> omega) ?_)
  have hB1 : Blk (((w.alloc (.cells #[.int .i64 2, .int .i64 dim, .slice na nn nc, .slice ka kn kc] 25)).alloc (.cells #[.int .i64 0, .int .i64 0, .slice none 0 0, .slice none 0 0] 25)).alloc (.cells #[.int .i64 2, .int .i64 d, .slice none 0 0, .slice none 0 0] 25)) (w.heap.size + 1) 25 [.int .i64 0, .int .i64 0, .slice none 0 0, .slice none 0 0] := by with_reducible (repeat first | assumption | (refine Bx.n ⟨?_, ?_⟩ <;> focus (first | rfl | (simp; done) | omega)) | refine Bx.a ?_ _ | refine Bx.d ?_ | refine Bx.e ?_ _ | refine Bx.p (by first | omega | simp <;> omega) ?_)
  have hB2 : Blk (((w.alloc (.cells #[.int .i64 2, .int .i64 dim, .slice na nn nc, .slice ka kn kc] 25)).alloc (.cells #[.int .i64 0, .int .i64 0, .slice none 0 0, .slice none 0 0] 25)).alloc (.cells #[.int .i64 2, .int .i64 d, .slice none 0 0, .slice none 0 0] 25)) (w.heap.size + 1 + 1) 25 [.int .i64 2, .int .i64 d, .slice none 0 0, .slice none 0 0] := by with_reducible (repeat first | assumption | (refine Bx.n ⟨?_, ?_⟩ <;> focus (first | rfl | (simp; done) | omega)) | refine Bx.a ?_ _ | refine Bx.d ?_ | refine Bx.e ?_ _ | refine Bx.p (by first | omega | simp <;> omega) ?_)
  have hkw : Stab.Keeps w (((w.alloc (.cells #[.int .i64 2, .int .i64 dim, .slice na nn nc, .slice ka kn kc] 25)).alloc (.cells #[.int .i64 0, .int .i64 0, .slice none 0 0, .slice none 0 0] 25)).alloc (.cells #[.int .i64 2, .int .i64 d, .slice none 0 0, .slice none 0 0] 25)) := by with_reducible (repeat first | exact Kx.r _ | assumption | refine Kx.a ?_ _ | refine Kx.d ?_ | refine Kx.e ?_ _ | refine Kx.s (by simp <;> omega) ?_ _ | refine Kx.t ?_ (by assumption))
  generalize (((w.alloc (.cells #[.int .i64 2, .int .i64 dim, .slice na nn nc, .slice ka kn kc] 25)).alloc (.cells #[.int .i64 0, .int .i64 0, .slice none 0 0, .slice none 0 0] 25)).alloc (.cells #[.int .i64 2, .int .i64 d, .slice none 0 0, .slice none 0 0] 25)) = W0 at *
  refine (leaf_ 2 (by omega) _).mono ?_
  rintro e w4 ⟨rfl, hk4⟩
  have hB04 := hB0.keep hk4
  have hB14 := hB1.keep hk4
  have hB24 := hB2.keep hk4
  have hkw4 : Stab.Keeps w w4 := hkw.trans hk4
  have hS := h1.keep hkw4
  have hsz4 : w.heap.size + 1 + 1 + 1 ≤ w4.heap.size := by have := hk4.size; omega
  clear hB0 hB1 hB2 hkw hk4 hs1 h1
  have t0 := hB24.cell (i := 0) rfl
  have t1 := hB24.cell (i := 1) rfl
  have t2 := hB24.cell (i := 2) rfl
  have t3 := hB24.cell (i := 3) rfl
  have tf := hB24.free
  have tl := hB24.lt
  have g0 := hB04.cell (i := 0) rfl
  have g1 := hB04.cell (i := 1) rfl
  have g2 := hB04.cell (i := 2) rfl
  have g3 := hB04.cell (i := 3) rfl
  have gf := hB04.free
  have gl := hB04.lt
  have hHS := Lib.hid hsz4
  clear hsz4
  go_upto_region 5 with (fail)
  refine Stab.keep_region (fun _ _ _ => True) (fun _ => false) (fun k => k == 5) Stab.pre_none (by kernel_rfl) (by kernel_rfl) fun hcx => ?_
  repeat (first
    | (refine Stab.quiet rfl rfl rfl (fun K hK => ?_); go_big_quiet_op; refine hK _ ?_; clear hK K)
    | (refine Stab.one rfl rfl rfl ?_
       apply Exists.intro
       refine ⟨fun w1 hw1 => ?_, fun K hK => ?_⟩
       · go_simp
         first | (go_at_call 44; exact hW _)
       go_simp
       refine hK _ ?_
       clear hK K)
    | (refine Stab.skip rfl (fun K hK => ?_); go_simp; refine hK _ ?_; clear hK K))
  refine Stab.nil fun w5 hk5 _ => ?_
  clear hcx
  have hkw5 := hkw4.trans hk5
  have hB05 := hB04.keep hk5
  have hB15 := hB14.keep hk5
  have hB25 := hB24.keep hk5
  have hS5 := hS.keep hk5
  clear t0 t1 t2 t3 tf tl g0 g1 g2 g3 gf gl hB04 hB14 hB24 hS hkw4
  have hsz5 : w.heap.size + 1 + 1 + 1 ≤ w5.heap.size := by have := hHS.out; have := hk5.size; omega
  have hHS5 := Lib.hid hsz5
  clear hsz5
  clear hHS hk5
  have t0 := hB25.cell (i := 0) rfl
  have t1 := hB25.cell (i := 1) rfl
  have t2 := hB25.cell (i := 2) rfl
  have t3 := hB25.cell (i := 3) rfl
  have tf := hB25.free
  have tl := hB25.lt
  have g0 := hB05.cell (i := 0) rfl
  have g1 := hB05.cell (i := 1) rfl
  have g2 := hB05.cell (i := 2) rfl
  have g3 := hB05.cell (i := 3) rfl
  have gf := hB05.free
  have gl := hB05.lt
  go_upto_region 8 with (fail)
  refine Stab.keep_tail 10 (fun _ _ _ => True) (fun _ => false) (fun k => k == 7) Stab.pre_none (by kernel_rfl) (by kernel_rfl) fun hcx => ?_
  simp only [List.take_succ_cons, List.take_zero, List.drop_succ_cons, List.drop_zero]
  repeat (first
    | (refine Stab.quiet rfl rfl rfl (fun K hK => ?_); go_big_quiet_op; refine hK _ ?_; clear hK K)
    | (refine Stab.one rfl rfl rfl ?_
       apply Exists.intro
       refine ⟨fun w1 hw1 => ?_, fun K hK => ?_⟩
       · go_simp
         first | (go_at_call 44; exact hW _)
       go_simp
       refine hK _ ?_
       clear hK K)
    | (refine Stab.skip rfl (fun K hK => ?_); go_simp; refine hK _ ?_; clear hK K))
  refine Stab.nil fun w6 hk6 _ => ?_
  clear hcx
  have hB06 := hB05.keep hk6
  have hB16 := hB15.keep hk6
  have hB26 := hB25.keep hk6
  have hS6 := (hS5.keep hk6).take m hmn
  have hkw6 := hkw5.trans hk6
  have hsz6 : w.heap.size + 1 + 1 + 1 ≤ w6.heap.size := by have := hHS5.out; have := hk6.size; omega
  have hHS6 := Lib.hid hsz6
  clear hsz6 hk6 hB05 hB15 hB25 hS5 hkw5 hHS5 t0 t1 t2 t3 tf tl g0 g1 g2 g3 gf gl
  refine append_sz (w0 := w6) rfl _ _ 22 rfl w6.heap.size 45 i0 _ 1 8 Tryz.underlying22 hHI.out HZ0.out HZ1.out HZ2.out rfl (by decide) (.slice none 0 0) 0 [] rfl ⟨by simp, .inl ⟨rfl, rfl⟩⟩ _ m _ ((encN nums).take (m * 1)) rfl hS6 ?a1 ?a2 ?a3 (Nat.le_refl _) (Below.refl _ _) ?_
  case a1 =>
    intro u hu
    have hu2 := List.mem_of_mem_take hu
    simp only [encN, List.mem_map] at hu2
    obtain ⟨x, _, rfl⟩ := hu2
    rfl
  case a2 => exact HML.out
  case a3 => rw [Nat.zero_add]; exact HMZ.out
  intro al cap w7 hown hk7 _ _
  simp only [Nat.zero_add, List.nil_append] at hown ⊢
  have hk7' : Stab.Keeps w6 w7 := hk7
  have hSz := SzF.of_owns (F := fun b => w6.heap.size ≤ b) hown (fun b hb => hb)
  have hB07 := hB06.keep hk7'
  have hB17 := hB16.keep hk7'
  have hB27 := hB26.keep hk7'
  have hkw7 := hkw6.trans hk7'
  have hsz7 : w6.heap.size ≤ w7.heap.size := hk7'.size
  clear hB06 hB16 hB26 hS6 hkw6 hk7 hk7' hown
  have t0 := hB27.cell (i := 0) rfl
  have t1 := hB27.cell (i := 1) rfl
  have t2 := hB27.cell (i := 2) rfl
  have t3 := hB27.cell (i := 3) rfl
  have tf := hB27.free
  have tl := hB27.lt
  go_upto_region 9 with (fail)
  have hB28 := hB27.set 2 (.slice al m cap)
  simp only [List.set] at hB28
  have hB18 : Blk (w7.setCell ⟨w.heap.size + 1 + 1, 2, none⟩ (.slice al m cap)) (w.heap.size + 1) 25 [.int .i64 0, .int .i64 0, .slice none 0 0, .slice none 0 0] := by with_reducible (repeat first | assumption | (refine Bx.n ⟨?_, ?_⟩ <;> focus (first | rfl | (simp; done) | omega)) | refine Bx.a ?_ _ | refine Bx.d ?_ | refine Bx.e ?_ _ | refine Bx.p (by first | omega | simp <;> omega) ?_)
  have hkw8 : Stab.Keeps w (w7.setCell ⟨w.heap.size + 1 + 1, 2, none⟩ (.slice al m cap)) := by with_reducible (repeat first | exact Kx.r _ | assumption | refine Kx.a ?_ _ | refine Kx.d ?_ | refine Kx.e ?_ _ | refine Kx.s (by simp <;> omega) ?_ _ | refine Kx.t ?_ (by assumption))
  have hSz8 := hSz.kf (w' := w7.setCell ⟨w.heap.size + 1 + 1, 2, none⟩ (.slice al m cap)) ((KF.refl _ _).set (fun h => by have := hHS6.out; simp at h; omega))
  clear hB27 hB17 hB07 hSz hkw7 t0 t1 t2 t3 tf tl
  generalize (w7.setCell ⟨w.heap.size + 1 + 1, 2, none⟩ (.slice al m cap)) = W8 at *
  have t0 := hB28.cell (i := 0) rfl
  have t1 := hB28.cell (i := 1) rfl
  have t2 := hB28.cell (i := 2) rfl
  have t3 := hB28.cell (i := 3) rfl
  have tf := hB28.free
  have tl := hB28.lt
  have g0 := hB18.cell (i := 0) rfl
  have g1 := hB18.cell (i := 1) rfl
  have g2 := hB18.cell (i := 2) rfl
  have g3 := hB18.cell (i := 3) rfl
  have gf := hB18.free
  have gl := hB18.lt
  have hB1n := (((hB18.set 0 (.int .i64 2)).set 1 (.int .i64 d)).set 2 (.slice al m cap)).set 3 (.slice none 0 0)
  simp only [List.set] at hB1n
  have hkf : ∀ (G : Nat → Prop), ¬ G (w.heap.size + 1) → KF G W8 ((((W8.setCell ⟨w.heap.size + 1, 0, none⟩ (.int .i64 2)).setCell ⟨w.heap.size + 1, 1, none⟩ (.int .i64 d)).setCell ⟨w.heap.size + 1, 2, none⟩ (.slice al m cap)).setCell ⟨w.heap.size + 1, 3, none⟩ (.slice none 0 0)) := fun G hG' => ((((KF.refl _ _).set hG').set hG').set hG').set hG'
  have hkz : Stab.Keeps w ((((W8.setCell ⟨w.heap.size + 1, 0, none⟩ (.int .i64 2)).setCell ⟨w.heap.size + 1, 1, none⟩ (.int .i64 d)).setCell ⟨w.heap.size + 1, 2, none⟩ (.slice al m cap)).setCell ⟨w.heap.size + 1, 3, none⟩ (.slice none 0 0)) := by with_reducible (repeat first | exact Kx.r _ | assumption | refine Kx.a ?_ _ | refine Kx.d ?_ | refine Kx.e ?_ _ | refine Kx.s (by simp <;> omega) ?_ _ | refine Kx.t ?_ (by assumption))
  have hSzn := hSz8.kf (hkf _ (fun h => by have := hHS6.out; omega))
  go_wp2_with fail
  generalize ((((W8.setCell ⟨w.heap.size + 1, 0, none⟩ (.int .i64 2)).setCell ⟨w.heap.size + 1, 1, none⟩ (.int .i64 d)).setCell ⟨w.heap.size + 1, 2, none⟩ (.slice al m cap)).setCell ⟨w.heap.size + 1, 3, none⟩ (.slice none 0 0)) = Wz at *
  clear hB18 hB28 t0 t1 t2 t3 tf tl g0 g1 g2 g3 gf gl hkf
  have y0 := hB1n.cell (i := 0) rfl
  have y1 := hB1n.cell (i := 1) rfl
  have y2 := hB1n.cell (i := 2) rfl
  have y3 := hB1n.cell (i := 3) rfl
  have yf := hB1n.free
  have yl := hB1n.lt
  refine bodyPost_ret (v := .agg #[.int .i64 2, .int .i64 d, .slice al m cap, .slice none 0 0]) (by simp [results, Tryz.results13, go_sem, *]) rfl ⟨[.int .i64 (2 : Nat), .int .i64 d, .slice al m cap, .slice none 0 0], rfl, hkz, ?_⟩
  refine .mk 2 d _ _ al none _ _ _ _ [] HLEN.out.symm ?_ rfl rfl (by simp) (SzF.nil _ _ _) (fun i h1 => by simp at h1)
  rw [HLAW.out]
  exact hSzn.mono fun b _ hb => .inr (by have := hHS6.out; omega)
end Go.Proofs.YtbakhldjfplbfaaGreat
