/-
  Points and lines as plain data. No condition.
-/
import Derived.Test.YtinbkonmlgediaaGreatXQ2
set_option linter.unusedVariables false
set_option linter.unusedSimpArgs false
namespace Go.Proofs.YtinbkonmlgediaaGreat
open Go.RowKit Go.Fl Go.Sl Go.Pg Go.Ch Go.Kf
set_option maxRecDepth 100000 in
set_option maxHeartbeats 4000000 in
theorem plainPt0_ (px py pz pm : Nat) (w : World) : Calls Tryz.prog 16 #[.agg (ptC 0 [⟨px, py, pz, pm⟩]).toArray] w (RetR w no GmR (.node 1 0 [⟨px, py, pz, pm⟩] [])) := by
  obtain ⟨i0, hi, hz0, hz1, hz2⟩ := info_parts infoF
  have HI := Lib.hid hi
  have HZ0 := Lib.hid hz0
  have HZ1 := Lib.hid hz1
  have HZ2 := Lib.hid hz2
  clear hi hz0 hz1 hz2
  have hTy := fun w' => ptType_ 0 [⟨px, py, pz, pm⟩] w'
  have hPC := fun w' => ptCoords_ 0 [⟨px, py, pz, pm⟩] w'
  unfold ptC ptCo coV at hPC
  unfold ptC at hTy
  unfold ptC
  go_enter Tryz.func16, Tryz.ntmps16
  go_wp2_with fail
  have hkw : Stab.Keeps w ((w.alloc (.cells #[.float .f64 px, .float .f64 py, .float .f64 pz, .float .f64 pm, .int .u8 0, .bool true] 60)).alloc (.cells #[.int .i64 0, .int .i64 0, .slice none 0 0, .slice none 0 0] 35)) := by with_reducible (repeat first | exact Kx.r _ | assumption | refine Kx.a ?_ _ | refine Kx.d ?_ | refine Kx.e ?_ _ | refine Kx.s (by simp <;> omega) ?_ _ | refine Kx.t ?_ (by assumption))
  have hB1 : Blk ((w.alloc (.cells #[.float .f64 px, .float .f64 py, .float .f64 pz, .float .f64 pm, .int .u8 0, .bool true] 60)).alloc (.cells #[.int .i64 0, .int .i64 0, .slice none 0 0, .slice none 0 0] 35)) w.heap.size 60 [.float .f64 px, .float .f64 py, .float .f64 pz, .float .f64 pm, .int .u8 0, .bool true] := by with_reducible (repeat first | assumption | (refine Bx.n ⟨?_, ?_⟩ <;> focus (first | rfl | (simp; done) | omega)) | refine Bx.a ?_ _ | refine Bx.d ?_ | refine Bx.e ?_ _ | refine Bx.p (by first | omega | simp <;> omega) ?_)
  have hB2 : Blk ((w.alloc (.cells #[.float .f64 px, .float .f64 py, .float .f64 pz, .float .f64 pm, .int .u8 0, .bool true] 60)).alloc (.cells #[.int .i64 0, .int .i64 0, .slice none 0 0, .slice none 0 0] 35)) (w.heap.size + 1) 35 [.int .i64 0, .int .i64 0, .slice none 0 0, .slice none 0 0] := by with_reducible (repeat first | assumption | (refine Bx.n ⟨?_, ?_⟩ <;> focus (first | rfl | (simp; done) | omega)) | refine Bx.a ?_ _ | refine Bx.d ?_ | refine Bx.e ?_ _ | refine Bx.p (by first | omega | simp <;> omega) ?_)
  generalize ((w.alloc (.cells #[.float .f64 px, .float .f64 py, .float .f64 pz, .float .f64 pm, .int .u8 0, .bool true] 60)).alloc (.cells #[.int .i64 0, .int .i64 0, .slice none 0 0, .slice none 0 0] 35)) = W0 at *
  refine (hTy _).mono ?_
  rintro e w4 ⟨rfl, hk4⟩
  replace hB1 := hB1.keep hk4
  replace hB2 := hB2.keep hk4
  replace hkw := Stab.Keeps.trans hkw hk4
  clear hk4 hTy
  have g0 := hB1.cell (i := 0) rfl
  have g1 := hB1.cell (i := 1) rfl
  have g2 := hB1.cell (i := 2) rfl
  have g3 := hB1.cell (i := 3) rfl
  have g4 := hB1.cell (i := 4) rfl
  have g5 := hB1.cell (i := 5) rfl
  have gf := hB1.free
  have gl := hB1.lt
  go_wp2_with fail
  clear g0 g1 g2 g3 g4 g5 gf gl
  have hl2 := hB2.lt
  have hkwN : Stab.Keeps w (w4.alloc (.cells #[.int .i64 1, .int .i64 0, .slice none 0 0, .slice none 0 0] 35)) := by with_reducible (repeat first | exact Kx.r _ | assumption | refine Kx.a ?_ _ | refine Kx.d ?_ | refine Kx.e ?_ _ | refine Kx.s (by simp <;> omega) ?_ _ | refine Kx.t ?_ (by assumption))
  have hB1N : Blk (w4.alloc (.cells #[.int .i64 1, .int .i64 0, .slice none 0 0, .slice none 0 0] 35)) w.heap.size 60 [.float .f64 px, .float .f64 py, .float .f64 pz, .float .f64 pm, .int .u8 0, .bool true] := by with_reducible (repeat first | assumption | (refine Bx.n ⟨?_, ?_⟩ <;> focus (first | rfl | (simp; done) | omega)) | refine Bx.a ?_ _ | refine Bx.d ?_ | refine Bx.e ?_ _ | refine Bx.p (by first | omega | simp <;> omega) ?_)
  have hB2N : Blk (w4.alloc (.cells #[.int .i64 1, .int .i64 0, .slice none 0 0, .slice none 0 0] 35)) (w.heap.size + 1) 35 [.int .i64 0, .int .i64 0, .slice none 0 0, .slice none 0 0] := by with_reducible (repeat first | assumption | (refine Bx.n ⟨?_, ?_⟩ <;> focus (first | rfl | (simp; done) | omega)) | refine Bx.a ?_ _ | refine Bx.d ?_ | refine Bx.e ?_ _ | refine Bx.p (by first | omega | simp <;> omega) ?_)
  have hB3N : Blk (w4.alloc (.cells #[.int .i64 1, .int .i64 0, .slice none 0 0, .slice none 0 0] 35)) w4.heap.size 35 [.int .i64 1, .int .i64 0, .slice none 0 0, .slice none 0 0] := by with_reducible (repeat first | assumption | (refine Bx.n ⟨?_, ?_⟩ <;> focus (first | rfl | (simp; done) | omega)) | refine Bx.a ?_ _ | refine Bx.d ?_ | refine Bx.e ?_ _ | refine Bx.p (by first | omega | simp <;> omega) ?_)
  have hszN : (w4.alloc (.cells #[.int .i64 1, .int .i64 0, .slice none 0 0, .slice none 0 0] 35)).heap.size = w4.heap.size + 1 := by simp
  generalize (w4.alloc (.cells #[.int .i64 1, .int .i64 0, .slice none 0 0, .slice none 0 0] 35)) = W5 at *
  refine (hPC _).mono ?_
  rintro e w7 ⟨rfl, hk7⟩
  generalize w4.heap.size = b3 at *
  clear hB1 hB2 hkw hPC
  obtain ⟨B, hBe⟩ : ∃ B, b3 + 1 = B := ⟨_, rfl⟩
  have hb3B : b3 < B := by omega
  have hb2 : w.heap.size + 1 < b3 := hl2
  have hB : B ≤ w7.heap.size := by have := hk7.size; omega
  clear hBe hl2 hszN
  have hB1 := hB1N.keep hk7
  have hB2 := hB2N.keep hk7
  have hB3 := hB3N.keep hk7
  have hkw := Stab.Keeps.trans hkwN hk7
  have hown : w7.ownsRow B 27 1 (.slice none 0 0) 0 (encN ([] : List Nat)) := World.ownsRow_nil _ _ _ _
  clear hB1N hB2N hB3N hkwN hk7
  go_upto_region 5 with (fail)
  obtain ⟨WC, hWC⟩ : ∃ WC, (w7.alloc (.cells #[.float .f64 px, .float .f64 py, .float .f64 pz, .float .f64 pm, .int .u8 0] 58)) = WC := ⟨_, rfl⟩
  have hkn : Stab.Keeps w7 WC := by subst hWC; with_reducible (repeat first | exact Kx.r _ | assumption | refine Kx.a ?_ _ | refine Kx.d ?_ | refine Kx.e ?_ _ | refine Kx.s (by simp <;> omega) ?_ _ | refine Kx.t ?_ (by assumption))
  have hB5 : Blk WC w7.heap.size 58 [.float .f64 px, .float .f64 py, .float .f64 pz, .float .f64 pm, .int .u8 0] := by subst hWC; with_reducible (repeat first | assumption | (refine Bx.n ⟨?_, ?_⟩ <;> focus (first | rfl | (simp; done) | omega)) | refine Bx.a ?_ _ | refine Bx.d ?_ | refine Bx.e ?_ _ | refine Bx.p (by first | omega | simp <;> omega) ?_)
  simp only [hWC]
  clear hWC
  have hb5 : B ≤ w7.heap.size := hB
  replace hB := Nat.le_trans hB hkn.size
  generalize w7.heap.size = b5 at *
  replace hB1 := hB1.keep hkn
  replace hB2 := hB2.keep hkn
  replace hB3 := hB3.keep hkn
  replace hown := owns_keep hown hkn
  replace hkw := Stab.Keeps.trans hkw hkn
  clear hkn
  obtain ⟨al, hal⟩ : ∃ al : Option Addr, al = none := ⟨_, rfl⟩
  obtain ⟨m, hm⟩ : ∃ m : Nat, m = 0 := ⟨_, rfl⟩
  obtain ⟨c, hc⟩ : ∃ c : Nat, c = 0 := ⟨_, rfl⟩
  replace hB3 : Blk WC b3 35 [.int .i64 1, .int .i64 0, .slice al m c, .slice none 0 0] := by rw [hal, hm, hc]; exact hB3
  replace hown : WC.ownsRow B 27 1 (.slice al m c) m (encN ([] : List Nat)) := by rw [hal, hm, hc]; exact hown
  have HM := Lib.hid hm
  have hm6 : m ≤ 1000000 := by omega
  clear hal hm hc
  have t0 := hB3.cell (i := 0) rfl
  have t1 := hB3.cell (i := 1) rfl
  have t2 := hB3.cell (i := 2) rfl
  have t3 := hB3.cell (i := 3) rfl
  have tf := hB3.free
  have tl := hB3.lt
  have y0 := hB5.cell (i := 0) rfl
  have y1 := hB5.cell (i := 1) rfl
  have y2 := hB5.cell (i := 2) rfl
  have y3 := hB5.cell (i := 3) rfl
  have y4 := hB5.cell (i := 4) rfl
  have yf := hB5.free
  have yl := hB5.lt
  have hown1 := hown.alloc (.cells #[.float .f64 px, .float .f64 py] 27)
  have hbs := hkw.size
  have hk1 : Below B WC (WC.alloc (.cells #[.float .f64 px, .float .f64 py] 27)) := Below.alloc (Below.refl _ _) (by omega) _
  go_wp2_with (at_builtin; (refine Sl.append_own (w0 := WC) rfl _ _ 32 rfl B 27 i0 _ 1 8 Tryz.underlying32 HI.out HZ0.out HZ1.out HZ2.out rfl (by decide) _ (m) _ rfl hown1 ⟨WC.heap.size, 0, none⟩ 2 2 [.float .f64 px, .float .f64 py] rfl rfl ?ax1 ?ax2 ?ax3 ?ax4 ?ax5 hk1 ?_))
  case ax1 => exact new_cells _ _ _ _ (by simp)
  case ax2 => intro u hu; simp at hu; rcases hu with rfl | rfl <;> rfl
  case ax3 => unfold maxLen; omega
  case ax4 => omega
  case ax5 => simp; omega
  intro al1 c1 W1 hownA hkA hszA hgrA
  have hB5A := blk_grown_own (hB5.alloc _) hown1 (by decide) hgrA
  have hB1A := hB1.below hkA (by omega)
  have hB2A := hB2.below hkA (by omega)
  have hB3A := hB3.below hkA (by omega)
  have hkwA := Below.trans hkw (Below.mono hkA (by omega))
  have hxsx : encN ([] : List Nat) ++ [.float .f64 px, .float .f64 py] = encN ([px, py] : List Nat) := by simp [encN]
  rw [hxsx] at hownA
  clear t0 t1 t2 t3 tf tl y0 y1 y2 y3 y4 yf yl hown hown1 hB1 hB2 hB3 hB5 hk1 hkA hszA hgrA hkw hxsx
  have t0 := hB3A.cell (i := 0) rfl
  have t1 := hB3A.cell (i := 1) rfl
  have t2 := hB3A.cell (i := 2) rfl
  have t3 := hB3A.cell (i := 3) rfl
  have tf := hB3A.free
  have tl := hB3A.lt
  have hB3 := hB3A.set 2 (.slice al1 (m + 2) c1)
  simp only [List.set] at hB3
  have hB1 : Blk (W1.setCell ⟨b3, 2, none⟩ (.slice al1 (m + 2) c1)) w.heap.size 60 [.float .f64 px, .float .f64 py, .float .f64 pz, .float .f64 pm, .int .u8 0, .bool true] := by with_reducible (repeat first | assumption | (refine Bx.n ⟨?_, ?_⟩ <;> focus (first | rfl | (simp; done) | omega)) | refine Bx.a ?_ _ | refine Bx.d ?_ | refine Bx.e ?_ _ | refine Bx.p (by first | omega | simp <;> omega) ?_)
  have hB2 : Blk (W1.setCell ⟨b3, 2, none⟩ (.slice al1 (m + 2) c1)) (w.heap.size + 1) 35 [.int .i64 0, .int .i64 0, .slice none 0 0, .slice none 0 0] := by with_reducible (repeat first | assumption | (refine Bx.n ⟨?_, ?_⟩ <;> focus (first | rfl | (simp; done) | omega)) | refine Bx.a ?_ _ | refine Bx.d ?_ | refine Bx.e ?_ _ | refine Bx.p (by first | omega | simp <;> omega) ?_)
  have hB5 := Blk.past2 (a := ⟨b3, 2, none⟩) (u := .slice al1 (m + 2) c1) (by simp; omega) hB5A
  have hown := owns_set (i := 2) (u := .slice al1 (m + 2) c1) hownA hb3B
  have hkw : Stab.Keeps w (W1.setCell ⟨b3, 2, none⟩ (.slice al1 (m + 2) c1)) := Stab.Keeps.setCell (by simp; omega) hkwA _
  clear hB1A hB2A hB3A hB5A hownA hkwA
  go_upto_region 6 with (fail)
  have hB : B ≤ (W1.setCell ⟨b3, 2, none⟩ (.slice al1 (m + 2) c1)).heap.size := by have := hB5.lt; omega
  generalize (W1.setCell ⟨b3, 2, none⟩ (.slice al1 (m + 2) c1)) = WE at *
  clear t0 t1 t2 t3 tf tl
  have y0 := hB5.cell (i := 0) rfl
  have y1 := hB5.cell (i := 1) rfl
  have y2 := hB5.cell (i := 2) rfl
  have y3 := hB5.cell (i := 3) rfl
  have y4 := hB5.cell (i := 4) rfl
  have yf := hB5.free
  have yl := hB5.lt
  go_wp2_with fail
  refine (is3D_ 0 (by omega) _).mono ?_
  clear y0 y1 y2 y3 y4 yf yl
  rintro e WC ⟨rfl, hkc⟩
  replace hB := Nat.le_trans hB hkc.size
  replace hB1 := hB1.keep hkc
  replace hB5 := hB5.keep hkc
  replace hB2 := hB2.keep hkc
  replace hB3 := hB3.keep hkc
  replace hown := owns_keep hown hkc
  replace hkw := Stab.Keeps.trans hkw hkc
  clear hkc
  have y0 := hB5.cell (i := 0) rfl
  have y1 := hB5.cell (i := 1) rfl
  have y2 := hB5.cell (i := 2) rfl
  have y3 := hB5.cell (i := 3) rfl
  have y4 := hB5.cell (i := 4) rfl
  have yf := hB5.free
  have yl := hB5.lt
  go_wp2_with fail
  refine (isM_ 0 (by omega) _).mono ?_
  clear y0 y1 y2 y3 y4 yf yl
  rintro e WC ⟨rfl, hkc⟩
  replace hB := Nat.le_trans hB hkc.size
  replace hB1 := hB1.keep hkc
  replace hB5 := hB5.keep hkc
  replace hB2 := hB2.keep hkc
  replace hB3 := hB3.keep hkc
  replace hown := owns_keep hown hkc
  replace hkw := Stab.Keeps.trans hkw hkc
  clear hkc
  have t0 := hB3.cell (i := 0) rfl
  have t1 := hB3.cell (i := 1) rfl
  have t2 := hB3.cell (i := 2) rfl
  have t3 := hB3.cell (i := 3) rfl
  have tf := hB3.free
  have tl := hB3.lt
  have g0 := hB2.cell (i := 0) rfl
  have g1 := hB2.cell (i := 1) rfl
  have g2 := hB2.cell (i := 2) rfl
  have g3 := hB2.cell (i := 3) rfl
  have gf := hB2.free
  have gl := hB2.lt
  have hB2n := (((hB2.set 0 (.int .i64 1)).set 1 (.int .i64 0)).set 2 (.slice al1 (m + 2) c1)).set 3 (.slice none 0 0)
  simp only [List.set] at hB2n
  have hkf : ∀ (G : Nat → Prop), ¬ G (w.heap.size + 1) → KF G WC ((((WC.setCell ⟨w.heap.size + 1, 0, none⟩ (.int .i64 1)).setCell ⟨w.heap.size + 1, 1, none⟩ (.int .i64 0)).setCell ⟨w.heap.size + 1, 2, none⟩ (.slice al1 (m + 2) c1)).setCell ⟨w.heap.size + 1, 3, none⟩ (.slice none 0 0)) := fun G hG' => ((((KF.refl _ _).set hG').set hG').set hG').set hG'
  have hkz : Stab.Keeps w ((((WC.setCell ⟨w.heap.size + 1, 0, none⟩ (.int .i64 1)).setCell ⟨w.heap.size + 1, 1, none⟩ (.int .i64 0)).setCell ⟨w.heap.size + 1, 2, none⟩ (.slice al1 (m + 2) c1)).setCell ⟨w.heap.size + 1, 3, none⟩ (.slice none 0 0)) := by with_reducible (repeat first | exact Kx.r _ | assumption | refine Kx.a ?_ _ | refine Kx.d ?_ | refine Kx.e ?_ _ | refine Kx.s (by simp <;> omega) ?_ _ | refine Kx.t ?_ (by assumption))
  have hSz := (SzF.of_owns (F := fun b => B ≤ b) hown (fun b hb => hb)).kf (hkf _ (fun h => by omega))
  clear hkf hown
  go_wp2_with fail
  generalize ((((WC.setCell ⟨w.heap.size + 1, 0, none⟩ (.int .i64 1)).setCell ⟨w.heap.size + 1, 1, none⟩ (.int .i64 0)).setCell ⟨w.heap.size + 1, 2, none⟩ (.slice al1 (m + 2) c1)).setCell ⟨w.heap.size + 1, 3, none⟩ (.slice none 0 0)) = Wz at *
  clear hB1 hB2 hB3 hB5 t0 t1 t2 t3 tf tl g0 g1 g2 g3 gf gl hkw
  have y0 := hB2n.cell (i := 0) rfl
  have y1 := hB2n.cell (i := 1) rfl
  have y2 := hB2n.cell (i := 2) rfl
  have y3 := hB2n.cell (i := 3) rfl
  have yf := hB2n.free
  have yl := hB2n.lt
  refine bodyPost_ret (v := .agg #[.int .i64 1, .int .i64 0, .slice al1 (m + 2) c1, .slice none 0 0]) (by simp [results, Tryz.results16, go_sem, *]) rfl ⟨[.int .i64 (1 : Nat), .int .i64 (0 : Nat), .slice al1 (m + 2) c1, .slice none 0 0], rfl, hkz, ?_⟩
  exact .mk 1 0 _ _ al1 none _ _ _ _ [] (by rw [HM.out]; rfl) (hSz.mono fun b _ hb => .inr (by omega)) rfl rfl (by simp) (SzF.nil _ _ _) (fun i h1 => by simp at h1)
set_option maxRecDepth 100000 in
set_option maxHeartbeats 4000000 in
theorem plainPt1_ (px py pz pm : Nat) (w : World) : Calls Tryz.prog 16 #[.agg (ptC 1 [⟨px, py, pz, pm⟩]).toArray] w (RetR w no GmR (.node 1 1 [⟨px, py, pz, pm⟩] [])) := by
  obtain ⟨i0, hi, hz0, hz1, hz2⟩ := info_parts infoF
  have HI := Lib.hid hi
  have HZ0 := Lib.hid hz0
  have HZ1 := Lib.hid hz1
  have HZ2 := Lib.hid hz2
  clear hi hz0 hz1 hz2
  have hTy := fun w' => ptType_ 1 [⟨px, py, pz, pm⟩] w'
  have hPC := fun w' => ptCoords_ 1 [⟨px, py, pz, pm⟩] w'
  unfold ptC ptCo coV at hPC
  unfold ptC at hTy
  unfold ptC
  go_enter Tryz.func16, Tryz.ntmps16
  go_wp2_with fail
  have hkw : Stab.Keeps w ((w.alloc (.cells #[.float .f64 px, .float .f64 py, .float .f64 pz, .float .f64 pm, .int .u8 1, .bool true] 60)).alloc (.cells #[.int .i64 0, .int .i64 0, .slice none 0 0, .slice none 0 0] 35)) := by with_reducible (repeat first | exact Kx.r _ | assumption | refine Kx.a ?_ _ | refine Kx.d ?_ | refine Kx.e ?_ _ | refine Kx.s (by simp <;> omega) ?_ _ | refine Kx.t ?_ (by assumption))
  have hB1 : Blk ((w.alloc (.cells #[.float .f64 px, .float .f64 py, .float .f64 pz, .float .f64 pm, .int .u8 1, .bool true] 60)).alloc (.cells #[.int .i64 0, .int .i64 0, .slice none 0 0, .slice none 0 0] 35)) w.heap.size 60 [.float .f64 px, .float .f64 py, .float .f64 pz, .float .f64 pm, .int .u8 1, .bool true] := by with_reducible (repeat first | assumption | (refine Bx.n ⟨?_, ?_⟩ <;> focus (first | rfl | (simp; done) | omega)) | refine Bx.a ?_ _ | refine Bx.d ?_ | refine Bx.e ?_ _ | refine Bx.p (by first | omega | simp <;> omega) ?_)
  have hB2 : Blk ((w.alloc (.cells #[.float .f64 px, .float .f64 py, .float .f64 pz, .float .f64 pm, .int .u8 1, .bool true] 60)).alloc (.cells #[.int .i64 0, .int .i64 0, .slice none 0 0, .slice none 0 0] 35)) (w.heap.size + 1) 35 [.int .i64 0, .int .i64 0, .slice none 0 0, .slice none 0 0] := by with_reducible (repeat first | assumption | (refine Bx.n ⟨?_, ?_⟩ <;> focus (first | rfl | (simp; done) | omega)) | refine Bx.a ?_ _ | refine Bx.d ?_ | refine Bx.e ?_ _ | refine Bx.p (by first | omega | simp <;> omega) ?_)
  generalize ((w.alloc (.cells #[.float .f64 px, .float .f64 py, .float .f64 pz, .float .f64 pm, .int .u8 1, .bool true] 60)).alloc (.cells #[.int .i64 0, .int .i64 0, .slice none 0 0, .slice none 0 0] 35)) = W0 at *
  refine (hTy _).mono ?_
  rintro e w4 ⟨rfl, hk4⟩
  replace hB1 := hB1.keep hk4
  replace hB2 := hB2.keep hk4
  replace hkw := Stab.Keeps.trans hkw hk4
  clear hk4 hTy
  have g0 := hB1.cell (i := 0) rfl
  have g1 := hB1.cell (i := 1) rfl
  have g2 := hB1.cell (i := 2) rfl
  have g3 := hB1.cell (i := 3) rfl
  have g4 := hB1.cell (i := 4) rfl
  have g5 := hB1.cell (i := 5) rfl
  have gf := hB1.free
  have gl := hB1.lt
  go_wp2_with fail
  clear g0 g1 g2 g3 g4 g5 gf gl
  have hl2 := hB2.lt
  have hkwN : Stab.Keeps w (w4.alloc (.cells #[.int .i64 1, .int .i64 1, .slice none 0 0, .slice none 0 0] 35)) := by with_reducible (repeat first | exact Kx.r _ | assumption | refine Kx.a ?_ _ | refine Kx.d ?_ | refine Kx.e ?_ _ | refine Kx.s (by simp <;> omega) ?_ _ | refine Kx.t ?_ (by assumption))
  have hB1N : Blk (w4.alloc (.cells #[.int .i64 1, .int .i64 1, .slice none 0 0, .slice none 0 0] 35)) w.heap.size 60 [.float .f64 px, .float .f64 py, .float .f64 pz, .float .f64 pm, .int .u8 1, .bool true] := by with_reducible (repeat first | assumption | (refine Bx.n ⟨?_, ?_⟩ <;> focus (first | rfl | (simp; done) | omega)) | refine Bx.a ?_ _ | refine Bx.d ?_ | refine Bx.e ?_ _ | refine Bx.p (by first | omega | simp <;> omega) ?_)
  have hB2N : Blk (w4.alloc (.cells #[.int .i64 1, .int .i64 1, .slice none 0 0, .slice none 0 0] 35)) (w.heap.size + 1) 35 [.int .i64 0, .int .i64 0, .slice none 0 0, .slice none 0 0] := by with_reducible (repeat first | assumption | (refine Bx.n ⟨?_, ?_⟩ <;> focus (first | rfl | (simp; done) | omega)) | refine Bx.a ?_ _ | refine Bx.d ?_ | refine Bx.e ?_ _ | refine Bx.p (by first | omega | simp <;> omega) ?_)
  have hB3N : Blk (w4.alloc (.cells #[.int .i64 1, .int .i64 1, .slice none 0 0, .slice none 0 0] 35)) w4.heap.size 35 [.int .i64 1, .int .i64 1, .slice none 0 0, .slice none 0 0] := by with_reducible (repeat first | assumption | (refine Bx.n ⟨?_, ?_⟩ <;> focus (first | rfl | (simp; done) | omega)) | refine Bx.a ?_ _ | refine Bx.d ?_ | refine Bx.e ?_ _ | refine Bx.p (by first | omega | simp <;> omega) ?_)
  have hszN : (w4.alloc (.cells #[.int .i64 1, .int .i64 1, .slice none 0 0, .slice none 0 0] 35)).heap.size = w4.heap.size + 1 := by simp
  generalize (w4.alloc (.cells #[.int .i64 1, .int .i64 1, .slice none 0 0, .slice none 0 0] 35)) = W5 at *
  refine (hPC _).mono ?_
  rintro e w7 ⟨rfl, hk7⟩
  generalize w4.heap.size = b3 at *
  clear hB1 hB2 hkw hPC
  obtain ⟨B, hBe⟩ : ∃ B, b3 + 1 = B := ⟨_, rfl⟩
  have hb3B : b3 < B := by omega
  have hb2 : w.heap.size + 1 < b3 := hl2
  have hB : B ≤ w7.heap.size := by have := hk7.size; omega
  clear hBe hl2 hszN
  have hB1 := hB1N.keep hk7
  have hB2 := hB2N.keep hk7
  have hB3 := hB3N.keep hk7
  have hkw := Stab.Keeps.trans hkwN hk7
  have hown : w7.ownsRow B 27 1 (.slice none 0 0) 0 (encN ([] : List Nat)) := World.ownsRow_nil _ _ _ _
  clear hB1N hB2N hB3N hkwN hk7
  go_upto_region 5 with (fail)
  obtain ⟨WC, hWC⟩ : ∃ WC, (w7.alloc (.cells #[.float .f64 px, .float .f64 py, .float .f64 pz, .float .f64 pm, .int .u8 1] 58)) = WC := ⟨_, rfl⟩
  have hkn : Stab.Keeps w7 WC := by subst hWC; with_reducible (repeat first | exact Kx.r _ | assumption | refine Kx.a ?_ _ | refine Kx.d ?_ | refine Kx.e ?_ _ | refine Kx.s (by simp <;> omega) ?_ _ | refine Kx.t ?_ (by assumption))
  have hB5 : Blk WC w7.heap.size 58 [.float .f64 px, .float .f64 py, .float .f64 pz, .float .f64 pm, .int .u8 1] := by subst hWC; with_reducible (repeat first | assumption | (refine Bx.n ⟨?_, ?_⟩ <;> focus (first | rfl | (simp; done) | omega)) | refine Bx.a ?_ _ | refine Bx.d ?_ | refine Bx.e ?_ _ | refine Bx.p (by first | omega | simp <;> omega) ?_)
  simp only [hWC]
  clear hWC
  have hb5 : B ≤ w7.heap.size := hB
  replace hB := Nat.le_trans hB hkn.size
  generalize w7.heap.size = b5 at *
  replace hB1 := hB1.keep hkn
  replace hB2 := hB2.keep hkn
  replace hB3 := hB3.keep hkn
  replace hown := owns_keep hown hkn
  replace hkw := Stab.Keeps.trans hkw hkn
  clear hkn
  obtain ⟨al, hal⟩ : ∃ al : Option Addr, al = none := ⟨_, rfl⟩
  obtain ⟨m, hm⟩ : ∃ m : Nat, m = 0 := ⟨_, rfl⟩
  obtain ⟨c, hc⟩ : ∃ c : Nat, c = 0 := ⟨_, rfl⟩
  replace hB3 : Blk WC b3 35 [.int .i64 1, .int .i64 1, .slice al m c, .slice none 0 0] := by rw [hal, hm, hc]; exact hB3
  replace hown : WC.ownsRow B 27 1 (.slice al m c) m (encN ([] : List Nat)) := by rw [hal, hm, hc]; exact hown
  have HM := Lib.hid hm
  have hm6 : m ≤ 1000000 := by omega
  clear hal hm hc
  have t0 := hB3.cell (i := 0) rfl
  have t1 := hB3.cell (i := 1) rfl
  have t2 := hB3.cell (i := 2) rfl
  have t3 := hB3.cell (i := 3) rfl
  have tf := hB3.free
  have tl := hB3.lt
  have y0 := hB5.cell (i := 0) rfl
  have y1 := hB5.cell (i := 1) rfl
  have y2 := hB5.cell (i := 2) rfl
  have y3 := hB5.cell (i := 3) rfl
  have y4 := hB5.cell (i := 4) rfl
  have yf := hB5.free
  have yl := hB5.lt
  have hown1 := hown.alloc (.cells #[.float .f64 px, .float .f64 py] 27)
  have hbs := hkw.size
  have hk1 : Below B WC (WC.alloc (.cells #[.float .f64 px, .float .f64 py] 27)) := Below.alloc (Below.refl _ _) (by omega) _
  go_wp2_with (at_builtin; (refine Sl.append_own (w0 := WC) rfl _ _ 32 rfl B 27 i0 _ 1 8 Tryz.underlying32 HI.out HZ0.out HZ1.out HZ2.out rfl (by decide) _ (m) _ rfl hown1 ⟨WC.heap.size, 0, none⟩ 2 2 [.float .f64 px, .float .f64 py] rfl rfl ?ax1 ?ax2 ?ax3 ?ax4 ?ax5 hk1 ?_))
  case ax1 => exact new_cells _ _ _ _ (by simp)
  case ax2 => intro u hu; simp at hu; rcases hu with rfl | rfl <;> rfl
  case ax3 => unfold maxLen; omega
  case ax4 => omega
  case ax5 => simp; omega
  intro al1 c1 W1 hownA hkA hszA hgrA
  have hB5A := blk_grown_own (hB5.alloc _) hown1 (by decide) hgrA
  have hB1A := hB1.below hkA (by omega)
  have hB2A := hB2.below hkA (by omega)
  have hB3A := hB3.below hkA (by omega)
  have hkwA := Below.trans hkw (Below.mono hkA (by omega))
  have hxsx : encN ([] : List Nat) ++ [.float .f64 px, .float .f64 py] = encN ([px, py] : List Nat) := by simp [encN]
  rw [hxsx] at hownA
  clear t0 t1 t2 t3 tf tl y0 y1 y2 y3 y4 yf yl hown hown1 hB1 hB2 hB3 hB5 hk1 hkA hszA hgrA hkw hxsx
  have t0 := hB3A.cell (i := 0) rfl
  have t1 := hB3A.cell (i := 1) rfl
  have t2 := hB3A.cell (i := 2) rfl
  have t3 := hB3A.cell (i := 3) rfl
  have tf := hB3A.free
  have tl := hB3A.lt
  have hB3 := hB3A.set 2 (.slice al1 (m + 2) c1)
  simp only [List.set] at hB3
  have hB1 : Blk (W1.setCell ⟨b3, 2, none⟩ (.slice al1 (m + 2) c1)) w.heap.size 60 [.float .f64 px, .float .f64 py, .float .f64 pz, .float .f64 pm, .int .u8 1, .bool true] := by with_reducible (repeat first | assumption | (refine Bx.n ⟨?_, ?_⟩ <;> focus (first | rfl | (simp; done) | omega)) | refine Bx.a ?_ _ | refine Bx.d ?_ | refine Bx.e ?_ _ | refine Bx.p (by first | omega | simp <;> omega) ?_)
  have hB2 : Blk (W1.setCell ⟨b3, 2, none⟩ (.slice al1 (m + 2) c1)) (w.heap.size + 1) 35 [.int .i64 0, .int .i64 0, .slice none 0 0, .slice none 0 0] := by with_reducible (repeat first | assumption | (refine Bx.n ⟨?_, ?_⟩ <;> focus (first | rfl | (simp; done) | omega)) | refine Bx.a ?_ _ | refine Bx.d ?_ | refine Bx.e ?_ _ | refine Bx.p (by first | omega | simp <;> omega) ?_)
  have hB5 := Blk.past2 (a := ⟨b3, 2, none⟩) (u := .slice al1 (m + 2) c1) (by simp; omega) hB5A
  have hown := owns_set (i := 2) (u := .slice al1 (m + 2) c1) hownA hb3B
  have hkw : Stab.Keeps w (W1.setCell ⟨b3, 2, none⟩ (.slice al1 (m + 2) c1)) := Stab.Keeps.setCell (by simp; omega) hkwA _
  clear hB1A hB2A hB3A hB5A hownA hkwA
  go_upto_region 6 with (fail)
  have hB : B ≤ (W1.setCell ⟨b3, 2, none⟩ (.slice al1 (m + 2) c1)).heap.size := by have := hB5.lt; omega
  generalize (W1.setCell ⟨b3, 2, none⟩ (.slice al1 (m + 2) c1)) = WE at *
  clear t0 t1 t2 t3 tf tl
  have y0 := hB5.cell (i := 0) rfl
  have y1 := hB5.cell (i := 1) rfl
  have y2 := hB5.cell (i := 2) rfl
  have y3 := hB5.cell (i := 3) rfl
  have y4 := hB5.cell (i := 4) rfl
  have yf := hB5.free
  have yl := hB5.lt
  go_wp2_with fail
  refine (is3D_ 1 (by omega) _).mono ?_
  clear y0 y1 y2 y3 y4 yf yl
  rintro e WC ⟨rfl, hkc⟩
  replace hB := Nat.le_trans hB hkc.size
  replace hB1 := hB1.keep hkc
  replace hB5 := hB5.keep hkc
  replace hB2 := hB2.keep hkc
  replace hB3 := hB3.keep hkc
  replace hown := owns_keep hown hkc
  replace hkw := Stab.Keeps.trans hkw hkc
  clear hkc
  have t0 := hB3.cell (i := 0) rfl
  have t1 := hB3.cell (i := 1) rfl
  have t2 := hB3.cell (i := 2) rfl
  have t3 := hB3.cell (i := 3) rfl
  have tf := hB3.free
  have tl := hB3.lt
  have y0 := hB5.cell (i := 0) rfl
  have y1 := hB5.cell (i := 1) rfl
  have y2 := hB5.cell (i := 2) rfl
  have y3 := hB5.cell (i := 3) rfl
  have y4 := hB5.cell (i := 4) rfl
  have yf := hB5.free
  have yl := hB5.lt
  have hown1 := hown.alloc (.cells #[.float .f64 pz] 27)
  have hbs := hkw.size
  have hk1 : Below B WC (WC.alloc (.cells #[.float .f64 pz] 27)) := Below.alloc (Below.refl _ _) (by omega) _
  go_wp2_with (at_builtin; (refine Sl.append_own (w0 := WC) rfl _ _ 32 rfl B 27 i0 _ 1 8 Tryz.underlying32 HI.out HZ0.out HZ1.out HZ2.out rfl (by decide) _ (m + 2) _ rfl hown1 ⟨WC.heap.size, 0, none⟩ 1 1 [.float .f64 pz] rfl rfl ?az1 ?az2 ?az3 ?az4 ?az5 hk1 ?_))
  case az1 => exact new_cells _ _ _ _ (by simp)
  case az2 => intro u hu; simp at hu; subst hu; rfl
  case az3 => unfold maxLen; omega
  case az4 => omega
  case az5 => simp; omega
  intro al1 c1 W1 hownA hkA hszA hgrA
  have hB5A := blk_grown_own (hB5.alloc _) hown1 (by decide) hgrA
  have hB1A := hB1.below hkA (by omega)
  have hB2A := hB2.below hkA (by omega)
  have hB3A := hB3.below hkA (by omega)
  have hkwA := Below.trans hkw (Below.mono hkA (by omega))
  have hxsz : encN ([px, py] : List Nat) ++ [.float .f64 pz] = encN ([px, py, pz] : List Nat) := by simp [encN]
  rw [hxsz] at hownA
  clear t0 t1 t2 t3 tf tl y0 y1 y2 y3 y4 yf yl hown hown1 hB1 hB2 hB3 hB5 hk1 hkA hszA hgrA hkw hxsz
  have t0 := hB3A.cell (i := 0) rfl
  have t1 := hB3A.cell (i := 1) rfl
  have t2 := hB3A.cell (i := 2) rfl
  have t3 := hB3A.cell (i := 3) rfl
  have tf := hB3A.free
  have tl := hB3A.lt
  have hB3 := hB3A.set 2 (.slice al1 (m + 2 + 1) c1)
  simp only [List.set] at hB3
  have hB1 : Blk (W1.setCell ⟨b3, 2, none⟩ (.slice al1 (m + 2 + 1) c1)) w.heap.size 60 [.float .f64 px, .float .f64 py, .float .f64 pz, .float .f64 pm, .int .u8 1, .bool true] := by with_reducible (repeat first | assumption | (refine Bx.n ⟨?_, ?_⟩ <;> focus (first | rfl | (simp; done) | omega)) | refine Bx.a ?_ _ | refine Bx.d ?_ | refine Bx.e ?_ _ | refine Bx.p (by first | omega | simp <;> omega) ?_)
  have hB2 : Blk (W1.setCell ⟨b3, 2, none⟩ (.slice al1 (m + 2 + 1) c1)) (w.heap.size + 1) 35 [.int .i64 0, .int .i64 0, .slice none 0 0, .slice none 0 0] := by with_reducible (repeat first | assumption | (refine Bx.n ⟨?_, ?_⟩ <;> focus (first | rfl | (simp; done) | omega)) | refine Bx.a ?_ _ | refine Bx.d ?_ | refine Bx.e ?_ _ | refine Bx.p (by first | omega | simp <;> omega) ?_)
  have hB5 := Blk.past2 (a := ⟨b3, 2, none⟩) (u := .slice al1 (m + 2 + 1) c1) (by simp; omega) hB5A
  have hown := owns_set (i := 2) (u := .slice al1 (m + 2 + 1) c1) hownA hb3B
  have hkw : Stab.Keeps w (W1.setCell ⟨b3, 2, none⟩ (.slice al1 (m + 2 + 1) c1)) := Stab.Keeps.setCell (by simp; omega) hkwA _
  clear hB1A hB2A hB3A hB5A hownA hkwA
  go_upto_region 8 with (fail)
  have hB : B ≤ (W1.setCell ⟨b3, 2, none⟩ (.slice al1 (m + 2 + 1) c1)).heap.size := by have := hB5.lt; omega
  generalize (W1.setCell ⟨b3, 2, none⟩ (.slice al1 (m + 2 + 1) c1)) = WE at *
  clear t0 t1 t2 t3 tf tl
  have y0 := hB5.cell (i := 0) rfl
  have y1 := hB5.cell (i := 1) rfl
  have y2 := hB5.cell (i := 2) rfl
  have y3 := hB5.cell (i := 3) rfl
  have y4 := hB5.cell (i := 4) rfl
  have yf := hB5.free
  have yl := hB5.lt
  go_wp2_with fail
  refine (isM_ 1 (by omega) _).mono ?_
  clear y0 y1 y2 y3 y4 yf yl
  rintro e WC ⟨rfl, hkc⟩
  replace hB := Nat.le_trans hB hkc.size
  replace hB1 := hB1.keep hkc
  replace hB5 := hB5.keep hkc
  replace hB2 := hB2.keep hkc
  replace hB3 := hB3.keep hkc
  replace hown := owns_keep hown hkc
  replace hkw := Stab.Keeps.trans hkw hkc
  clear hkc
  have t0 := hB3.cell (i := 0) rfl
  have t1 := hB3.cell (i := 1) rfl
  have t2 := hB3.cell (i := 2) rfl
  have t3 := hB3.cell (i := 3) rfl
  have tf := hB3.free
  have tl := hB3.lt
  have g0 := hB2.cell (i := 0) rfl
  have g1 := hB2.cell (i := 1) rfl
  have g2 := hB2.cell (i := 2) rfl
  have g3 := hB2.cell (i := 3) rfl
  have gf := hB2.free
  have gl := hB2.lt
  have hB2n := (((hB2.set 0 (.int .i64 1)).set 1 (.int .i64 1)).set 2 (.slice al1 (m + 2 + 1) c1)).set 3 (.slice none 0 0)
  simp only [List.set] at hB2n
  have hkf : ∀ (G : Nat → Prop), ¬ G (w.heap.size + 1) → KF G WC ((((WC.setCell ⟨w.heap.size + 1, 0, none⟩ (.int .i64 1)).setCell ⟨w.heap.size + 1, 1, none⟩ (.int .i64 1)).setCell ⟨w.heap.size + 1, 2, none⟩ (.slice al1 (m + 2 + 1) c1)).setCell ⟨w.heap.size + 1, 3, none⟩ (.slice none 0 0)) := fun G hG' => ((((KF.refl _ _).set hG').set hG').set hG').set hG'
  have hkz : Stab.Keeps w ((((WC.setCell ⟨w.heap.size + 1, 0, none⟩ (.int .i64 1)).setCell ⟨w.heap.size + 1, 1, none⟩ (.int .i64 1)).setCell ⟨w.heap.size + 1, 2, none⟩ (.slice al1 (m + 2 + 1) c1)).setCell ⟨w.heap.size + 1, 3, none⟩ (.slice none 0 0)) := by with_reducible (repeat first | exact Kx.r _ | assumption | refine Kx.a ?_ _ | refine Kx.d ?_ | refine Kx.e ?_ _ | refine Kx.s (by simp <;> omega) ?_ _ | refine Kx.t ?_ (by assumption))
  have hSz := (SzF.of_owns (F := fun b => B ≤ b) hown (fun b hb => hb)).kf (hkf _ (fun h => by omega))
  clear hkf hown
  go_wp2_with fail
  generalize ((((WC.setCell ⟨w.heap.size + 1, 0, none⟩ (.int .i64 1)).setCell ⟨w.heap.size + 1, 1, none⟩ (.int .i64 1)).setCell ⟨w.heap.size + 1, 2, none⟩ (.slice al1 (m + 2 + 1) c1)).setCell ⟨w.heap.size + 1, 3, none⟩ (.slice none 0 0)) = Wz at *
  clear hB1 hB2 hB3 hB5 t0 t1 t2 t3 tf tl g0 g1 g2 g3 gf gl hkw
  have y0 := hB2n.cell (i := 0) rfl
  have y1 := hB2n.cell (i := 1) rfl
  have y2 := hB2n.cell (i := 2) rfl
  have y3 := hB2n.cell (i := 3) rfl
  have yf := hB2n.free
  have yl := hB2n.lt
  refine bodyPost_ret (v := .agg #[.int .i64 1, .int .i64 1, .slice al1 (m + 2 + 1) c1, .slice none 0 0]) (by simp [results, Tryz.results16, go_sem, *]) rfl ⟨[.int .i64 (1 : Nat), .int .i64 (1 : Nat), .slice al1 (m + 2 + 1) c1, .slice none 0 0], rfl, hkz, ?_⟩
  exact .mk 1 1 _ _ al1 none _ _ _ _ [] (by rw [HM.out]; rfl) (hSz.mono fun b _ hb => .inr (by omega)) rfl rfl (by simp) (SzF.nil _ _ _) (fun i h1 => by simp at h1)
set_option maxRecDepth 100000 in
set_option maxHeartbeats 4000000 in
theorem plainPt2_ (px py pz pm : Nat) (w : World) : Calls Tryz.prog 16 #[.agg (ptC 2 [⟨px, py, pz, pm⟩]).toArray] w (RetR w no GmR (.node 1 2 [⟨px, py, pz, pm⟩] [])) := by
  obtain ⟨i0, hi, hz0, hz1, hz2⟩ := info_parts infoF
  have HI := Lib.hid hi
  have HZ0 := Lib.hid hz0
  have HZ1 := Lib.hid hz1
  have HZ2 := Lib.hid hz2
  clear hi hz0 hz1 hz2
  have hTy := fun w' => ptType_ 2 [⟨px, py, pz, pm⟩] w'
  have hPC := fun w' => ptCoords_ 2 [⟨px, py, pz, pm⟩] w'
  unfold ptC ptCo coV at hPC
  unfold ptC at hTy
  unfold ptC
  go_enter Tryz.func16, Tryz.ntmps16
  go_wp2_with fail
  have hkw : Stab.Keeps w ((w.alloc (.cells #[.float .f64 px, .float .f64 py, .float .f64 pz, .float .f64 pm, .int .u8 2, .bool true] 60)).alloc (.cells #[.int .i64 0, .int .i64 0, .slice none 0 0, .slice none 0 0] 35)) := by with_reducible (repeat first | exact Kx.r _ | assumption | refine Kx.a ?_ _ | refine Kx.d ?_ | refine Kx.e ?_ _ | refine Kx.s (by simp <;> omega) ?_ _ | refine Kx.t ?_ (by assumption))
  have hB1 : Blk ((w.alloc (.cells #[.float .f64 px, .float .f64 py, .float .f64 pz, .float .f64 pm, .int .u8 2, .bool true] 60)).alloc (.cells #[.int .i64 0, .int .i64 0, .slice none 0 0, .slice none 0 0] 35)) w.heap.size 60 [.float .f64 px, .float .f64 py, .float .f64 pz, .float .f64 pm, .int .u8 2, .bool true] := by with_reducible (repeat first | assumption | (refine Bx.n ⟨?_, ?_⟩ <;> focus (first | rfl | (simp; done) | omega)) | refine Bx.a ?_ _ | refine Bx.d ?_ | refine Bx.e ?_ _ | refine Bx.p (by first | omega | simp <;> omega) ?_)
  have hB2 : Blk ((w.alloc (.cells #[.float .f64 px, .float .f64 py, .float .f64 pz, .float .f64 pm, .int .u8 2, .bool true] 60)).alloc (.cells #[.int .i64 0, .int .i64 0, .slice none 0 0, .slice none 0 0] 35)) (w.heap.size + 1) 35 [.int .i64 0, .int .i64 0, .slice none 0 0, .slice none 0 0] := by with_reducible (repeat first | assumption | (refine Bx.n ⟨?_, ?_⟩ <;> focus (first | rfl | (simp; done) | omega)) | refine Bx.a ?_ _ | refine Bx.d ?_ | refine Bx.e ?_ _ | refine Bx.p (by first | omega | simp <;> omega) ?_)
  generalize ((w.alloc (.cells #[.float .f64 px, .float .f64 py, .float .f64 pz, .float .f64 pm, .int .u8 2, .bool true] 60)).alloc (.cells #[.int .i64 0, .int .i64 0, .slice none 0 0, .slice none 0 0] 35)) = W0 at *
  refine (hTy _).mono ?_
  rintro e w4 ⟨rfl, hk4⟩
  replace hB1 := hB1.keep hk4
  replace hB2 := hB2.keep hk4
  replace hkw := Stab.Keeps.trans hkw hk4
  clear hk4 hTy
  have g0 := hB1.cell (i := 0) rfl
  have g1 := hB1.cell (i := 1) rfl
  have g2 := hB1.cell (i := 2) rfl
  have g3 := hB1.cell (i := 3) rfl
  have g4 := hB1.cell (i := 4) rfl
  have g5 := hB1.cell (i := 5) rfl
  have gf := hB1.free
  have gl := hB1.lt
  go_wp2_with fail
  clear g0 g1 g2 g3 g4 g5 gf gl
  have hl2 := hB2.lt
  have hkwN : Stab.Keeps w (w4.alloc (.cells #[.int .i64 1, .int .i64 2, .slice none 0 0, .slice none 0 0] 35)) := by with_reducible (repeat first | exact Kx.r _ | assumption | refine Kx.a ?_ _ | refine Kx.d ?_ | refine Kx.e ?_ _ | refine Kx.s (by simp <;> omega) ?_ _ | refine Kx.t ?_ (by assumption))
  have hB1N : Blk (w4.alloc (.cells #[.int .i64 1, .int .i64 2, .slice none 0 0, .slice none 0 0] 35)) w.heap.size 60 [.float .f64 px, .float .f64 py, .float .f64 pz, .float .f64 pm, .int .u8 2, .bool true] := by with_reducible (repeat first | assumption | (refine Bx.n ⟨?_, ?_⟩ <;> focus (first | rfl | (simp; done) | omega)) | refine Bx.a ?_ _ | refine Bx.d ?_ | refine Bx.e ?_ _ | refine Bx.p (by first | omega | simp <;> omega) ?_)
  have hB2N : Blk (w4.alloc (.cells #[.int .i64 1, .int .i64 2, .slice none 0 0, .slice none 0 0] 35)) (w.heap.size + 1) 35 [.int .i64 0, .int .i64 0, .slice none 0 0, .slice none 0 0] := by with_reducible (repeat first | assumption | (refine Bx.n ⟨?_, ?_⟩ <;> focus (first | rfl | (simp; done) | omega)) | refine Bx.a ?_ _ | refine Bx.d ?_ | refine Bx.e ?_ _ | refine Bx.p (by first | omega | simp <;> omega) ?_)
  have hB3N : Blk (w4.alloc (.cells #[.int .i64 1, .int .i64 2, .slice none 0 0, .slice none 0 0] 35)) w4.heap.size 35 [.int .i64 1, .int .i64 2, .slice none 0 0, .slice none 0 0] := by with_reducible (repeat first | assumption | (refine Bx.n ⟨?_, ?_⟩ <;> focus (first | rfl | (simp; done) | omega)) | refine Bx.a ?_ _ | refine Bx.d ?_ | refine Bx.e ?_ _ | refine Bx.p (by first | omega | simp <;> omega) ?_)
  have hszN : (w4.alloc (.cells #[.int .i64 1, .int .i64 2, .slice none 0 0, .slice none 0 0] 35)).heap.size = w4.heap.size + 1 := by simp
  generalize (w4.alloc (.cells #[.int .i64 1, .int .i64 2, .slice none 0 0, .slice none 0 0] 35)) = W5 at *
  refine (hPC _).mono ?_
  rintro e w7 ⟨rfl, hk7⟩
  generalize w4.heap.size = b3 at *
  clear hB1 hB2 hkw hPC
  obtain ⟨B, hBe⟩ : ∃ B, b3 + 1 = B := ⟨_, rfl⟩
  have hb3B : b3 < B := by omega
  have hb2 : w.heap.size + 1 < b3 := hl2
  have hB : B ≤ w7.heap.size := by have := hk7.size; omega
  clear hBe hl2 hszN
  have hB1 := hB1N.keep hk7
  have hB2 := hB2N.keep hk7
  have hB3 := hB3N.keep hk7
  have hkw := Stab.Keeps.trans hkwN hk7
  have hown : w7.ownsRow B 27 1 (.slice none 0 0) 0 (encN ([] : List Nat)) := World.ownsRow_nil _ _ _ _
  clear hB1N hB2N hB3N hkwN hk7
  go_upto_region 5 with (fail)
  obtain ⟨WC, hWC⟩ : ∃ WC, (w7.alloc (.cells #[.float .f64 px, .float .f64 py, .float .f64 pz, .float .f64 pm, .int .u8 2] 58)) = WC := ⟨_, rfl⟩
  have hkn : Stab.Keeps w7 WC := by subst hWC; with_reducible (repeat first | exact Kx.r _ | assumption | refine Kx.a ?_ _ | refine Kx.d ?_ | refine Kx.e ?_ _ | refine Kx.s (by simp <;> omega) ?_ _ | refine Kx.t ?_ (by assumption))
  have hB5 : Blk WC w7.heap.size 58 [.float .f64 px, .float .f64 py, .float .f64 pz, .float .f64 pm, .int .u8 2] := by subst hWC; with_reducible (repeat first | assumption | (refine Bx.n ⟨?_, ?_⟩ <;> focus (first | rfl | (simp; done) | omega)) | refine Bx.a ?_ _ | refine Bx.d ?_ | refine Bx.e ?_ _ | refine Bx.p (by first | omega | simp <;> omega) ?_)
  simp only [hWC]
  clear hWC
  have hb5 : B ≤ w7.heap.size := hB
  replace hB := Nat.le_trans hB hkn.size
  generalize w7.heap.size = b5 at *
  replace hB1 := hB1.keep hkn
  replace hB2 := hB2.keep hkn
  replace hB3 := hB3.keep hkn
  replace hown := owns_keep hown hkn
  replace hkw := Stab.Keeps.trans hkw hkn
  clear hkn
  obtain ⟨al, hal⟩ : ∃ al : Option Addr, al = none := ⟨_, rfl⟩
  obtain ⟨m, hm⟩ : ∃ m : Nat, m = 0 := ⟨_, rfl⟩
  obtain ⟨c, hc⟩ : ∃ c : Nat, c = 0 := ⟨_, rfl⟩
  replace hB3 : Blk WC b3 35 [.int .i64 1, .int .i64 2, .slice al m c, .slice none 0 0] := by rw [hal, hm, hc]; exact hB3
  replace hown : WC.ownsRow B 27 1 (.slice al m c) m (encN ([] : List Nat)) := by rw [hal, hm, hc]; exact hown
  have HM := Lib.hid hm
  have hm6 : m ≤ 1000000 := by omega
  clear hal hm hc
  have t0 := hB3.cell (i := 0) rfl
  have t1 := hB3.cell (i := 1) rfl
  have t2 := hB3.cell (i := 2) rfl
  have t3 := hB3.cell (i := 3) rfl
  have tf := hB3.free
  have tl := hB3.lt
  have y0 := hB5.cell (i := 0) rfl
  have y1 := hB5.cell (i := 1) rfl
  have y2 := hB5.cell (i := 2) rfl
  have y3 := hB5.cell (i := 3) rfl
  have y4 := hB5.cell (i := 4) rfl
  have yf := hB5.free
  have yl := hB5.lt
  have hown1 := hown.alloc (.cells #[.float .f64 px, .float .f64 py] 27)
  have hbs := hkw.size
  have hk1 : Below B WC (WC.alloc (.cells #[.float .f64 px, .float .f64 py] 27)) := Below.alloc (Below.refl _ _) (by omega) _
  go_wp2_with (at_builtin; (refine Sl.append_own (w0 := WC) rfl _ _ 32 rfl B 27 i0 _ 1 8 Tryz.underlying32 HI.out HZ0.out HZ1.out HZ2.out rfl (by decide) _ (m) _ rfl hown1 ⟨WC.heap.size, 0, none⟩ 2 2 [.float .f64 px, .float .f64 py] rfl rfl ?ax1 ?ax2 ?ax3 ?ax4 ?ax5 hk1 ?_))
  case ax1 => exact new_cells _ _ _ _ (by simp)
  case ax2 => intro u hu; simp at hu; rcases hu with rfl | rfl <;> rfl
  case ax3 => unfold maxLen; omega
  case ax4 => omega
  case ax5 => simp; omega
  intro al1 c1 W1 hownA hkA hszA hgrA
  have hB5A := blk_grown_own (hB5.alloc _) hown1 (by decide) hgrA
  have hB1A := hB1.below hkA (by omega)
  have hB2A := hB2.below hkA (by omega)
  have hB3A := hB3.below hkA (by omega)
  have hkwA := Below.trans hkw (Below.mono hkA (by omega))
  have hxsx : encN ([] : List Nat) ++ [.float .f64 px, .float .f64 py] = encN ([px, py] : List Nat) := by simp [encN]
  rw [hxsx] at hownA
  clear t0 t1 t2 t3 tf tl y0 y1 y2 y3 y4 yf yl hown hown1 hB1 hB2 hB3 hB5 hk1 hkA hszA hgrA hkw hxsx
  have t0 := hB3A.cell (i := 0) rfl
  have t1 := hB3A.cell (i := 1) rfl
  have t2 := hB3A.cell (i := 2) rfl
  have t3 := hB3A.cell (i := 3) rfl
  have tf := hB3A.free
  have tl := hB3A.lt
  have hB3 := hB3A.set 2 (.slice al1 (m + 2) c1)
  simp only [List.set] at hB3
  have hB1 : Blk (W1.setCell ⟨b3, 2, none⟩ (.slice al1 (m + 2) c1)) w.heap.size 60 [.float .f64 px, .float .f64 py, .float .f64 pz, .float .f64 pm, .int .u8 2, .bool true] := by with_reducible (repeat first | assumption | (refine Bx.n ⟨?_, ?_⟩ <;> focus (first | rfl | (simp; done) | omega)) | refine Bx.a ?_ _ | refine Bx.d ?_ | refine Bx.e ?_ _ | refine Bx.p (by first | omega | simp <;> omega) ?_)
  have hB2 : Blk (W1.setCell ⟨b3, 2, none⟩ (.slice al1 (m + 2) c1)) (w.heap.size + 1) 35 [.int .i64 0, .int .i64 0, .slice none 0 0, .slice none 0 0] := by with_reducible (repeat first | assumption | (refine Bx.n ⟨?_, ?_⟩ <;> focus (first | rfl | (simp; done) | omega)) | refine Bx.a ?_ _ | refine Bx.d ?_ | refine Bx.e ?_ _ | refine Bx.p (by first | omega | simp <;> omega) ?_)
  have hB5 := Blk.past2 (a := ⟨b3, 2, none⟩) (u := .slice al1 (m + 2) c1) (by simp; omega) hB5A
  have hown := owns_set (i := 2) (u := .slice al1 (m + 2) c1) hownA hb3B
  have hkw : Stab.Keeps w (W1.setCell ⟨b3, 2, none⟩ (.slice al1 (m + 2) c1)) := Stab.Keeps.setCell (by simp; omega) hkwA _
  clear hB1A hB2A hB3A hB5A hownA hkwA
  go_upto_region 6 with (fail)
  have hB : B ≤ (W1.setCell ⟨b3, 2, none⟩ (.slice al1 (m + 2) c1)).heap.size := by have := hB5.lt; omega
  generalize (W1.setCell ⟨b3, 2, none⟩ (.slice al1 (m + 2) c1)) = WE at *
  clear t0 t1 t2 t3 tf tl
  have y0 := hB5.cell (i := 0) rfl
  have y1 := hB5.cell (i := 1) rfl
  have y2 := hB5.cell (i := 2) rfl
  have y3 := hB5.cell (i := 3) rfl
  have y4 := hB5.cell (i := 4) rfl
  have yf := hB5.free
  have yl := hB5.lt
  go_wp2_with fail
  refine (is3D_ 2 (by omega) _).mono ?_
  clear y0 y1 y2 y3 y4 yf yl
  rintro e WC ⟨rfl, hkc⟩
  replace hB := Nat.le_trans hB hkc.size
  replace hB1 := hB1.keep hkc
  replace hB5 := hB5.keep hkc
  replace hB2 := hB2.keep hkc
  replace hB3 := hB3.keep hkc
  replace hown := owns_keep hown hkc
  replace hkw := Stab.Keeps.trans hkw hkc
  clear hkc
  have y0 := hB5.cell (i := 0) rfl
  have y1 := hB5.cell (i := 1) rfl
  have y2 := hB5.cell (i := 2) rfl
  have y3 := hB5.cell (i := 3) rfl
  have y4 := hB5.cell (i := 4) rfl
  have yf := hB5.free
  have yl := hB5.lt
  go_wp2_with fail
  refine (isM_ 2 (by omega) _).mono ?_
  clear y0 y1 y2 y3 y4 yf yl
  rintro e WC ⟨rfl, hkc⟩
  replace hB := Nat.le_trans hB hkc.size
  replace hB1 := hB1.keep hkc
  replace hB5 := hB5.keep hkc
  replace hB2 := hB2.keep hkc
  replace hB3 := hB3.keep hkc
  replace hown := owns_keep hown hkc
  replace hkw := Stab.Keeps.trans hkw hkc
  clear hkc
  have t0 := hB3.cell (i := 0) rfl
  have t1 := hB3.cell (i := 1) rfl
  have t2 := hB3.cell (i := 2) rfl
  have t3 := hB3.cell (i := 3) rfl
  have tf := hB3.free
  have tl := hB3.lt
  have y0 := hB5.cell (i := 0) rfl
  have y1 := hB5.cell (i := 1) rfl
  have y2 := hB5.cell (i := 2) rfl
  have y3 := hB5.cell (i := 3) rfl
  have y4 := hB5.cell (i := 4) rfl
  have yf := hB5.free
  have yl := hB5.lt
  have hown1 := hown.alloc (.cells #[.float .f64 pm] 27)
  have hbs := hkw.size
  have hk1 : Below B WC (WC.alloc (.cells #[.float .f64 pm] 27)) := Below.alloc (Below.refl _ _) (by omega) _
  go_wp2_with (at_builtin; (refine Sl.append_own (w0 := WC) rfl _ _ 32 rfl B 27 i0 _ 1 8 Tryz.underlying32 HI.out HZ0.out HZ1.out HZ2.out rfl (by decide) _ (m + 2) _ rfl hown1 ⟨WC.heap.size, 0, none⟩ 1 1 [.float .f64 pm] rfl rfl ?am1 ?am2 ?am3 ?am4 ?am5 hk1 ?_))
  case am1 => exact new_cells _ _ _ _ (by simp)
  case am2 => intro u hu; simp at hu; subst hu; rfl
  case am3 => unfold maxLen; omega
  case am4 => omega
  case am5 => simp; omega
  intro al1 c1 W1 hownA hkA hszA hgrA
  have hB5A := blk_grown_own (hB5.alloc _) hown1 (by decide) hgrA
  have hB1A := hB1.below hkA (by omega)
  have hB2A := hB2.below hkA (by omega)
  have hB3A := hB3.below hkA (by omega)
  have hkwA := Below.trans hkw (Below.mono hkA (by omega))
  have hxsm : encN ([px, py] : List Nat) ++ [.float .f64 pm] = encN ([px, py, pm] : List Nat) := by simp [encN]
  rw [hxsm] at hownA
  clear t0 t1 t2 t3 tf tl y0 y1 y2 y3 y4 yf yl hown hown1 hB1 hB2 hB3 hB5 hk1 hkA hszA hgrA hkw hxsm
  have t0 := hB3A.cell (i := 0) rfl
  have t1 := hB3A.cell (i := 1) rfl
  have t2 := hB3A.cell (i := 2) rfl
  have t3 := hB3A.cell (i := 3) rfl
  have tf := hB3A.free
  have tl := hB3A.lt
  have hB3 := hB3A.set 2 (.slice al1 (m + 2 + 1) c1)
  simp only [List.set] at hB3
  have hB1 : Blk (W1.setCell ⟨b3, 2, none⟩ (.slice al1 (m + 2 + 1) c1)) w.heap.size 60 [.float .f64 px, .float .f64 py, .float .f64 pz, .float .f64 pm, .int .u8 2, .bool true] := by with_reducible (repeat first | assumption | (refine Bx.n ⟨?_, ?_⟩ <;> focus (first | rfl | (simp; done) | omega)) | refine Bx.a ?_ _ | refine Bx.d ?_ | refine Bx.e ?_ _ | refine Bx.p (by first | omega | simp <;> omega) ?_)
  have hB2 : Blk (W1.setCell ⟨b3, 2, none⟩ (.slice al1 (m + 2 + 1) c1)) (w.heap.size + 1) 35 [.int .i64 0, .int .i64 0, .slice none 0 0, .slice none 0 0] := by with_reducible (repeat first | assumption | (refine Bx.n ⟨?_, ?_⟩ <;> focus (first | rfl | (simp; done) | omega)) | refine Bx.a ?_ _ | refine Bx.d ?_ | refine Bx.e ?_ _ | refine Bx.p (by first | omega | simp <;> omega) ?_)
  have hB5 := Blk.past2 (a := ⟨b3, 2, none⟩) (u := .slice al1 (m + 2 + 1) c1) (by simp; omega) hB5A
  have hown := owns_set (i := 2) (u := .slice al1 (m + 2 + 1) c1) hownA hb3B
  have hkw : Stab.Keeps w (W1.setCell ⟨b3, 2, none⟩ (.slice al1 (m + 2 + 1) c1)) := Stab.Keeps.setCell (by simp; omega) hkwA _
  clear hB1A hB2A hB3A hB5A hownA hkwA
  have hB : B ≤ (W1.setCell ⟨b3, 2, none⟩ (.slice al1 (m + 2 + 1) c1)).heap.size := by have := hB5.lt; omega
  go_upto_region 10 with (fail)
  generalize (W1.setCell ⟨b3, 2, none⟩ (.slice al1 (m + 2 + 1) c1)) = WC at *
  clear t0 t1 t2 t3 tf tl
  have t0 := hB3.cell (i := 0) rfl
  have t1 := hB3.cell (i := 1) rfl
  have t2 := hB3.cell (i := 2) rfl
  have t3 := hB3.cell (i := 3) rfl
  have tf := hB3.free
  have tl := hB3.lt
  have g0 := hB2.cell (i := 0) rfl
  have g1 := hB2.cell (i := 1) rfl
  have g2 := hB2.cell (i := 2) rfl
  have g3 := hB2.cell (i := 3) rfl
  have gf := hB2.free
  have gl := hB2.lt
  have hB2n := (((hB2.set 0 (.int .i64 1)).set 1 (.int .i64 2)).set 2 (.slice al1 (m + 2 + 1) c1)).set 3 (.slice none 0 0)
  simp only [List.set] at hB2n
  have hkf : ∀ (G : Nat → Prop), ¬ G (w.heap.size + 1) → KF G WC ((((WC.setCell ⟨w.heap.size + 1, 0, none⟩ (.int .i64 1)).setCell ⟨w.heap.size + 1, 1, none⟩ (.int .i64 2)).setCell ⟨w.heap.size + 1, 2, none⟩ (.slice al1 (m + 2 + 1) c1)).setCell ⟨w.heap.size + 1, 3, none⟩ (.slice none 0 0)) := fun G hG' => ((((KF.refl _ _).set hG').set hG').set hG').set hG'
  have hkz : Stab.Keeps w ((((WC.setCell ⟨w.heap.size + 1, 0, none⟩ (.int .i64 1)).setCell ⟨w.heap.size + 1, 1, none⟩ (.int .i64 2)).setCell ⟨w.heap.size + 1, 2, none⟩ (.slice al1 (m + 2 + 1) c1)).setCell ⟨w.heap.size + 1, 3, none⟩ (.slice none 0 0)) := by with_reducible (repeat first | exact Kx.r _ | assumption | refine Kx.a ?_ _ | refine Kx.d ?_ | refine Kx.e ?_ _ | refine Kx.s (by simp <;> omega) ?_ _ | refine Kx.t ?_ (by assumption))
  have hSz := (SzF.of_owns (F := fun b => B ≤ b) hown (fun b hb => hb)).kf (hkf _ (fun h => by omega))
  clear hkf hown
  go_wp2_with fail
  generalize ((((WC.setCell ⟨w.heap.size + 1, 0, none⟩ (.int .i64 1)).setCell ⟨w.heap.size + 1, 1, none⟩ (.int .i64 2)).setCell ⟨w.heap.size + 1, 2, none⟩ (.slice al1 (m + 2 + 1) c1)).setCell ⟨w.heap.size + 1, 3, none⟩ (.slice none 0 0)) = Wz at *
  clear hB1 hB2 hB3 hB5 t0 t1 t2 t3 tf tl g0 g1 g2 g3 gf gl hkw
  have y0 := hB2n.cell (i := 0) rfl
  have y1 := hB2n.cell (i := 1) rfl
  have y2 := hB2n.cell (i := 2) rfl
  have y3 := hB2n.cell (i := 3) rfl
  have yf := hB2n.free
  have yl := hB2n.lt
  refine bodyPost_ret (v := .agg #[.int .i64 1, .int .i64 2, .slice al1 (m + 2 + 1) c1, .slice none 0 0]) (by simp [results, Tryz.results16, go_sem, *]) rfl ⟨[.int .i64 (1 : Nat), .int .i64 (2 : Nat), .slice al1 (m + 2 + 1) c1, .slice none 0 0], rfl, hkz, ?_⟩
  exact .mk 1 2 _ _ al1 none _ _ _ _ [] (by rw [HM.out]; rfl) (hSz.mono fun b _ hb => .inr (by omega)) rfl rfl (by simp) (SzF.nil _ _ _) (fun i h1 => by simp at h1)
set_option maxRecDepth 100000 in
set_option maxHeartbeats 4000000 in
theorem plainPt3_ (px py pz pm : Nat) (w : World) : Calls Tryz.prog 16 #[.agg (ptC 3 [⟨px, py, pz, pm⟩]).toArray] w (RetR w no GmR (.node 1 3 [⟨px, py, pz, pm⟩] [])) := by
  obtain ⟨i0, hi, hz0, hz1, hz2⟩ := info_parts infoF
  have HI := Lib.hid hi
  have HZ0 := Lib.hid hz0
  have HZ1 := Lib.hid hz1
  have HZ2 := Lib.hid hz2
  clear hi hz0 hz1 hz2
  have hTy := fun w' => ptType_ 3 [⟨px, py, pz, pm⟩] w'
  have hPC := fun w' => ptCoords_ 3 [⟨px, py, pz, pm⟩] w'
  unfold ptC ptCo coV at hPC
  unfold ptC at hTy
  unfold ptC
  go_enter Tryz.func16, Tryz.ntmps16
  go_wp2_with fail
  have hkw : Stab.Keeps w ((w.alloc (.cells #[.float .f64 px, .float .f64 py, .float .f64 pz, .float .f64 pm, .int .u8 3, .bool true] 60)).alloc (.cells #[.int .i64 0, .int .i64 0, .slice none 0 0, .slice none 0 0] 35)) := by with_reducible (repeat first | exact Kx.r _ | assumption | refine Kx.a ?_ _ | refine Kx.d ?_ | refine Kx.e ?_ _ | refine Kx.s (by simp <;> omega) ?_ _ | refine Kx.t ?_ (by assumption))
  have hB1 : Blk ((w.alloc (.cells #[.float .f64 px, .float .f64 py, .float .f64 pz, .float .f64 pm, .int .u8 3, .bool true] 60)).alloc (.cells #[.int .i64 0, .int .i64 0, .slice none 0 0, .slice none 0 0] 35)) w.heap.size 60 [.float .f64 px, .float .f64 py, .float .f64 pz, .float .f64 pm, .int .u8 3, .bool true] := by with_reducible (repeat first | assumption | (refine Bx.n ⟨?_, ?_⟩ <;> focus (first | rfl | (simp; done) | omega)) | refine Bx.a ?_ _ | refine Bx.d ?_ | refine Bx.e ?_ _ | refine Bx.p (by first | omega | simp <;> omega) ?_)
  have hB2 : Blk ((w.alloc (.cells #[.float .f64 px, .float .f64 py, .float .f64 pz, .float .f64 pm, .int .u8 3, .bool true] 60)).alloc (.cells #[.int .i64 0, .int .i64 0, .slice none 0 0, .slice none 0 0] 35)) (w.heap.size + 1) 35 [.int .i64 0, .int .i64 0, .slice none 0 0, .slice none 0 0] := by with_reducible (repeat first | assumption | (refine Bx.n ⟨?_, ?_⟩ <;> focus (first | rfl | (simp; done) | omega)) | refine Bx.a ?_ _ | refine Bx.d ?_ | refine Bx.e ?_ _ | refine Bx.p (by first | omega | simp <;> omega) ?_)
  generalize ((w.alloc (.cells #[.float .f64 px, .float .f64 py, .float .f64 pz, .float .f64 pm, .int .u8 3, .bool true] 60)).alloc (.cells #[.int .i64 0, .int .i64 0, .slice none 0 0, .slice none 0 0] 35)) = W0 at *
  refine (hTy _).mono ?_
  rintro e w4 ⟨rfl, hk4⟩
  replace hB1 := hB1.keep hk4
  replace hB2 := hB2.keep hk4
  replace hkw := Stab.Keeps.trans hkw hk4
  clear hk4 hTy
  have g0 := hB1.cell (i := 0) rfl
  have g1 := hB1.cell (i := 1) rfl
  have g2 := hB1.cell (i := 2) rfl
  have g3 := hB1.cell (i := 3) rfl
  have g4 := hB1.cell (i := 4) rfl
  have g5 := hB1.cell (i := 5) rfl
  have gf := hB1.free
  have gl := hB1.lt
  go_wp2_with fail
  clear g0 g1 g2 g3 g4 g5 gf gl
  have hl2 := hB2.lt
  have hkwN : Stab.Keeps w (w4.alloc (.cells #[.int .i64 1, .int .i64 3, .slice none 0 0, .slice none 0 0] 35)) := by with_reducible (repeat first | exact Kx.r _ | assumption | refine Kx.a ?_ _ | refine Kx.d ?_ | refine Kx.e ?_ _ | refine Kx.s (by simp <;> omega) ?_ _ | refine Kx.t ?_ (by assumption))
  have hB1N : Blk (w4.alloc (.cells #[.int .i64 1, .int .i64 3, .slice none 0 0, .slice none 0 0] 35)) w.heap.size 60 [.float .f64 px, .float .f64 py, .float .f64 pz, .float .f64 pm, .int .u8 3, .bool true] := by with_reducible (repeat first | assumption | (refine Bx.n ⟨?_, ?_⟩ <;> focus (first | rfl | (simp; done) | omega)) | refine Bx.a ?_ _ | refine Bx.d ?_ | refine Bx.e ?_ _ | refine Bx.p (by first | omega | simp <;> omega) ?_)
  have hB2N : Blk (w4.alloc (.cells #[.int .i64 1, .int .i64 3, .slice none 0 0, .slice none 0 0] 35)) (w.heap.size + 1) 35 [.int .i64 0, .int .i64 0, .slice none 0 0, .slice none 0 0] := by with_reducible (repeat first | assumption | (refine Bx.n ⟨?_, ?_⟩ <;> focus (first | rfl | (simp; done) | omega)) | refine Bx.a ?_ _ | refine Bx.d ?_ | refine Bx.e ?_ _ | refine Bx.p (by first | omega | simp <;> omega) ?_)
  have hB3N : Blk (w4.alloc (.cells #[.int .i64 1, .int .i64 3, .slice none 0 0, .slice none 0 0] 35)) w4.heap.size 35 [.int .i64 1, .int .i64 3, .slice none 0 0, .slice none 0 0] := by with_reducible (repeat first | assumption | (refine Bx.n ⟨?_, ?_⟩ <;> focus (first | rfl | (simp; done) | omega)) | refine Bx.a ?_ _ | refine Bx.d ?_ | refine Bx.e ?_ _ | refine Bx.p (by first | omega | simp <;> omega) ?_)
  have hszN : (w4.alloc (.cells #[.int .i64 1, .int .i64 3, .slice none 0 0, .slice none 0 0] 35)).heap.size = w4.heap.size + 1 := by simp
  generalize (w4.alloc (.cells #[.int .i64 1, .int .i64 3, .slice none 0 0, .slice none 0 0] 35)) = W5 at *
  refine (hPC _).mono ?_
  rintro e w7 ⟨rfl, hk7⟩
  generalize w4.heap.size = b3 at *
  clear hB1 hB2 hkw hPC
  obtain ⟨B, hBe⟩ : ∃ B, b3 + 1 = B := ⟨_, rfl⟩
  have hb3B : b3 < B := by omega
  have hb2 : w.heap.size + 1 < b3 := hl2
  have hB : B ≤ w7.heap.size := by have := hk7.size; omega
  clear hBe hl2 hszN
  have hB1 := hB1N.keep hk7
  have hB2 := hB2N.keep hk7
  have hB3 := hB3N.keep hk7
  have hkw := Stab.Keeps.trans hkwN hk7
  have hown : w7.ownsRow B 27 1 (.slice none 0 0) 0 (encN ([] : List Nat)) := World.ownsRow_nil _ _ _ _
  clear hB1N hB2N hB3N hkwN hk7
  go_upto_region 5 with (fail)
  obtain ⟨WC, hWC⟩ : ∃ WC, (w7.alloc (.cells #[.float .f64 px, .float .f64 py, .float .f64 pz, .float .f64 pm, .int .u8 3] 58)) = WC := ⟨_, rfl⟩
  have hkn : Stab.Keeps w7 WC := by subst hWC; with_reducible (repeat first | exact Kx.r _ | assumption | refine Kx.a ?_ _ | refine Kx.d ?_ | refine Kx.e ?_ _ | refine Kx.s (by simp <;> omega) ?_ _ | refine Kx.t ?_ (by assumption))
  have hB5 : Blk WC w7.heap.size 58 [.float .f64 px, .float .f64 py, .float .f64 pz, .float .f64 pm, .int .u8 3] := by subst hWC; with_reducible (repeat first | assumption | (refine Bx.n ⟨?_, ?_⟩ <;> focus (first | rfl | (simp; done) | omega)) | refine Bx.a ?_ _ | refine Bx.d ?_ | refine Bx.e ?_ _ | refine Bx.p (by first | omega | simp <;> omega) ?_)
  simp only [hWC]
  clear hWC
  have hb5 : B ≤ w7.heap.size := hB
  replace hB := Nat.le_trans hB hkn.size
  generalize w7.heap.size = b5 at *
  replace hB1 := hB1.keep hkn
  replace hB2 := hB2.keep hkn
  replace hB3 := hB3.keep hkn
  replace hown := owns_keep hown hkn
  replace hkw := Stab.Keeps.trans hkw hkn
  clear hkn
  obtain ⟨al, hal⟩ : ∃ al : Option Addr, al = none := ⟨_, rfl⟩
  obtain ⟨m, hm⟩ : ∃ m : Nat, m = 0 := ⟨_, rfl⟩
  obtain ⟨c, hc⟩ : ∃ c : Nat, c = 0 := ⟨_, rfl⟩
  replace hB3 : Blk WC b3 35 [.int .i64 1, .int .i64 3, .slice al m c, .slice none 0 0] := by rw [hal, hm, hc]; exact hB3
  replace hown : WC.ownsRow B 27 1 (.slice al m c) m (encN ([] : List Nat)) := by rw [hal, hm, hc]; exact hown
  have HM := Lib.hid hm
  have hm6 : m ≤ 1000000 := by omega
  clear hal hm hc
  have t0 := hB3.cell (i := 0) rfl
  have t1 := hB3.cell (i := 1) rfl
  have t2 := hB3.cell (i := 2) rfl
  have t3 := hB3.cell (i := 3) rfl
  have tf := hB3.free
  have tl := hB3.lt
  have y0 := hB5.cell (i := 0) rfl
  have y1 := hB5.cell (i := 1) rfl
  have y2 := hB5.cell (i := 2) rfl
  have y3 := hB5.cell (i := 3) rfl
  have y4 := hB5.cell (i := 4) rfl
  have yf := hB5.free
  have yl := hB5.lt
  have hown1 := hown.alloc (.cells #[.float .f64 px, .float .f64 py] 27)
  have hbs := hkw.size
  have hk1 : Below B WC (WC.alloc (.cells #[.float .f64 px, .float .f64 py] 27)) := Below.alloc (Below.refl _ _) (by omega) _
  go_wp2_with (at_builtin; (refine Sl.append_own (w0 := WC) rfl _ _ 32 rfl B 27 i0 _ 1 8 Tryz.underlying32 HI.out HZ0.out HZ1.out HZ2.out rfl (by decide) _ (m) _ rfl hown1 ⟨WC.heap.size, 0, none⟩ 2 2 [.float .f64 px, .float .f64 py] rfl rfl ?ax1 ?ax2 ?ax3 ?ax4 ?ax5 hk1 ?_))
  case ax1 => exact new_cells _ _ _ _ (by simp)
  case ax2 => intro u hu; simp at hu; rcases hu with rfl | rfl <;> rfl
  case ax3 => unfold maxLen; omega
  case ax4 => omega
  case ax5 => simp; omega
  intro al1 c1 W1 hownA hkA hszA hgrA
  have hB5A := blk_grown_own (hB5.alloc _) hown1 (by decide) hgrA
  have hB1A := hB1.below hkA (by omega)
  have hB2A := hB2.below hkA (by omega)
  have hB3A := hB3.below hkA (by omega)
  have hkwA := Below.trans hkw (Below.mono hkA (by omega))
  have hxsx : encN ([] : List Nat) ++ [.float .f64 px, .float .f64 py] = encN ([px, py] : List Nat) := by simp [encN]
  rw [hxsx] at hownA
  clear t0 t1 t2 t3 tf tl y0 y1 y2 y3 y4 yf yl hown hown1 hB1 hB2 hB3 hB5 hk1 hkA hszA hgrA hkw hxsx
  have t0 := hB3A.cell (i := 0) rfl
  have t1 := hB3A.cell (i := 1) rfl
  have t2 := hB3A.cell (i := 2) rfl
  have t3 := hB3A.cell (i := 3) rfl
  have tf := hB3A.free
  have tl := hB3A.lt
  have hB3 := hB3A.set 2 (.slice al1 (m + 2) c1)
  simp only [List.set] at hB3
  have hB1 : Blk (W1.setCell ⟨b3, 2, none⟩ (.slice al1 (m + 2) c1)) w.heap.size 60 [.float .f64 px, .float .f64 py, .float .f64 pz, .float .f64 pm, .int .u8 3, .bool true] := by with_reducible (repeat first | assumption | (refine Bx.n ⟨?_, ?_⟩ <;> focus (first | rfl | (simp; done) | omega)) | refine Bx.a ?_ _ | refine Bx.d ?_ | refine Bx.e ?_ _ | refine Bx.p (by first | omega | simp <;> omega) ?_)
  have hB2 : Blk (W1.setCell ⟨b3, 2, none⟩ (.slice al1 (m + 2) c1)) (w.heap.size + 1) 35 [.int .i64 0, .int .i64 0, .slice none 0 0, .slice none 0 0] := by with_reducible (repeat first | assumption | (refine Bx.n ⟨?_, ?_⟩ <;> focus (first | rfl | (simp; done) | omega)) | refine Bx.a ?_ _ | refine Bx.d ?_ | refine Bx.e ?_ _ | refine Bx.p (by first | omega | simp <;> omega) ?_)
  have hB5 := Blk.past2 (a := ⟨b3, 2, none⟩) (u := .slice al1 (m + 2) c1) (by simp; omega) hB5A
  have hown := owns_set (i := 2) (u := .slice al1 (m + 2) c1) hownA hb3B
  have hkw : Stab.Keeps w (W1.setCell ⟨b3, 2, none⟩ (.slice al1 (m + 2) c1)) := Stab.Keeps.setCell (by simp; omega) hkwA _
  clear hB1A hB2A hB3A hB5A hownA hkwA
  go_upto_region 6 with (fail)
  have hB : B ≤ (W1.setCell ⟨b3, 2, none⟩ (.slice al1 (m + 2) c1)).heap.size := by have := hB5.lt; omega
  generalize (W1.setCell ⟨b3, 2, none⟩ (.slice al1 (m + 2) c1)) = WE at *
  clear t0 t1 t2 t3 tf tl
  have y0 := hB5.cell (i := 0) rfl
  have y1 := hB5.cell (i := 1) rfl
  have y2 := hB5.cell (i := 2) rfl
  have y3 := hB5.cell (i := 3) rfl
  have y4 := hB5.cell (i := 4) rfl
  have yf := hB5.free
  have yl := hB5.lt
  go_wp2_with fail
  refine (is3D_ 3 (by omega) _).mono ?_
  clear y0 y1 y2 y3 y4 yf yl
  rintro e WC ⟨rfl, hkc⟩
  replace hB := Nat.le_trans hB hkc.size
  replace hB1 := hB1.keep hkc
  replace hB5 := hB5.keep hkc
  replace hB2 := hB2.keep hkc
  replace hB3 := hB3.keep hkc
  replace hown := owns_keep hown hkc
  replace hkw := Stab.Keeps.trans hkw hkc
  clear hkc
  have t0 := hB3.cell (i := 0) rfl
  have t1 := hB3.cell (i := 1) rfl
  have t2 := hB3.cell (i := 2) rfl
  have t3 := hB3.cell (i := 3) rfl
  have tf := hB3.free
  have tl := hB3.lt
  have y0 := hB5.cell (i := 0) rfl
  have y1 := hB5.cell (i := 1) rfl
  have y2 := hB5.cell (i := 2) rfl
  have y3 := hB5.cell (i := 3) rfl
  have y4 := hB5.cell (i := 4) rfl
  have yf := hB5.free
  have yl := hB5.lt
  have hown1 := hown.alloc (.cells #[.float .f64 pz] 27)
  have hbs := hkw.size
  have hk1 : Below B WC (WC.alloc (.cells #[.float .f64 pz] 27)) := Below.alloc (Below.refl _ _) (by omega) _
  go_wp2_with (at_builtin; (refine Sl.append_own (w0 := WC) rfl _ _ 32 rfl B 27 i0 _ 1 8 Tryz.underlying32 HI.out HZ0.out HZ1.out HZ2.out rfl (by decide) _ (m + 2) _ rfl hown1 ⟨WC.heap.size, 0, none⟩ 1 1 [.float .f64 pz] rfl rfl ?az1 ?az2 ?az3 ?az4 ?az5 hk1 ?_))
  case az1 => exact new_cells _ _ _ _ (by simp)
  case az2 => intro u hu; simp at hu; subst hu; rfl
  case az3 => unfold maxLen; omega
  case az4 => omega
  case az5 => simp; omega
  intro al1 c1 W1 hownA hkA hszA hgrA
  have hB5A := blk_grown_own (hB5.alloc _) hown1 (by decide) hgrA
  have hB1A := hB1.below hkA (by omega)
  have hB2A := hB2.below hkA (by omega)
  have hB3A := hB3.below hkA (by omega)
  have hkwA := Below.trans hkw (Below.mono hkA (by omega))
  have hxsz : encN ([px, py] : List Nat) ++ [.float .f64 pz] = encN ([px, py, pz] : List Nat) := by simp [encN]
  rw [hxsz] at hownA
  clear t0 t1 t2 t3 tf tl y0 y1 y2 y3 y4 yf yl hown hown1 hB1 hB2 hB3 hB5 hk1 hkA hszA hgrA hkw hxsz
  have t0 := hB3A.cell (i := 0) rfl
  have t1 := hB3A.cell (i := 1) rfl
  have t2 := hB3A.cell (i := 2) rfl
  have t3 := hB3A.cell (i := 3) rfl
  have tf := hB3A.free
  have tl := hB3A.lt
  have hB3 := hB3A.set 2 (.slice al1 (m + 2 + 1) c1)
  simp only [List.set] at hB3
  have hB1 : Blk (W1.setCell ⟨b3, 2, none⟩ (.slice al1 (m + 2 + 1) c1)) w.heap.size 60 [.float .f64 px, .float .f64 py, .float .f64 pz, .float .f64 pm, .int .u8 3, .bool true] := by with_reducible (repeat first | assumption | (refine Bx.n ⟨?_, ?_⟩ <;> focus (first | rfl | (simp; done) | omega)) | refine Bx.a ?_ _ | refine Bx.d ?_ | refine Bx.e ?_ _ | refine Bx.p (by first | omega | simp <;> omega) ?_)
  have hB2 : Blk (W1.setCell ⟨b3, 2, none⟩ (.slice al1 (m + 2 + 1) c1)) (w.heap.size + 1) 35 [.int .i64 0, .int .i64 0, .slice none 0 0, .slice none 0 0] := by with_reducible (repeat first | assumption | (refine Bx.n ⟨?_, ?_⟩ <;> focus (first | rfl | (simp; done) | omega)) | refine Bx.a ?_ _ | refine Bx.d ?_ | refine Bx.e ?_ _ | refine Bx.p (by first | omega | simp <;> omega) ?_)
  have hB5 := Blk.past2 (a := ⟨b3, 2, none⟩) (u := .slice al1 (m + 2 + 1) c1) (by simp; omega) hB5A
  have hown := owns_set (i := 2) (u := .slice al1 (m + 2 + 1) c1) hownA hb3B
  have hkw : Stab.Keeps w (W1.setCell ⟨b3, 2, none⟩ (.slice al1 (m + 2 + 1) c1)) := Stab.Keeps.setCell (by simp; omega) hkwA _
  clear hB1A hB2A hB3A hB5A hownA hkwA
  go_upto_region 8 with (fail)
  have hB : B ≤ (W1.setCell ⟨b3, 2, none⟩ (.slice al1 (m + 2 + 1) c1)).heap.size := by have := hB5.lt; omega
  generalize (W1.setCell ⟨b3, 2, none⟩ (.slice al1 (m + 2 + 1) c1)) = WE at *
  clear t0 t1 t2 t3 tf tl
  have y0 := hB5.cell (i := 0) rfl
  have y1 := hB5.cell (i := 1) rfl
  have y2 := hB5.cell (i := 2) rfl
  have y3 := hB5.cell (i := 3) rfl
  have y4 := hB5.cell (i := 4) rfl
  have yf := hB5.free
  have yl := hB5.lt
  go_wp2_with fail
  refine (isM_ 3 (by omega) _).mono ?_
  clear y0 y1 y2 y3 y4 yf yl
  rintro e WC ⟨rfl, hkc⟩
  replace hB := Nat.le_trans hB hkc.size
  replace hB1 := hB1.keep hkc
  replace hB5 := hB5.keep hkc
  replace hB2 := hB2.keep hkc
  replace hB3 := hB3.keep hkc
  replace hown := owns_keep hown hkc
  replace hkw := Stab.Keeps.trans hkw hkc
  clear hkc
  have t0 := hB3.cell (i := 0) rfl
  have t1 := hB3.cell (i := 1) rfl
  have t2 := hB3.cell (i := 2) rfl
  have t3 := hB3.cell (i := 3) rfl
  have tf := hB3.free
  have tl := hB3.lt
  have y0 := hB5.cell (i := 0) rfl
  have y1 := hB5.cell (i := 1) rfl
  have y2 := hB5.cell (i := 2) rfl
  have y3 := hB5.cell (i := 3) rfl
  have y4 := hB5.cell (i := 4) rfl
  have yf := hB5.free
  have yl := hB5.lt
  have hown1 := hown.alloc (.cells #[.float .f64 pm] 27)
  have hbs := hkw.size
  have hk1 : Below B WC (WC.alloc (.cells #[.float .f64 pm] 27)) := Below.alloc (Below.refl _ _) (by omega) _
  go_wp2_with (at_builtin; (refine Sl.append_own (w0 := WC) rfl _ _ 32 rfl B 27 i0 _ 1 8 Tryz.underlying32 HI.out HZ0.out HZ1.out HZ2.out rfl (by decide) _ (m + 2 + 1) _ rfl hown1 ⟨WC.heap.size, 0, none⟩ 1 1 [.float .f64 pm] rfl rfl ?am1 ?am2 ?am3 ?am4 ?am5 hk1 ?_))
  case am1 => exact new_cells _ _ _ _ (by simp)
  case am2 => intro u hu; simp at hu; subst hu; rfl
  case am3 => unfold maxLen; omega
  case am4 => omega
  case am5 => simp; omega
  intro al1 c1 W1 hownA hkA hszA hgrA
  have hB5A := blk_grown_own (hB5.alloc _) hown1 (by decide) hgrA
  have hB1A := hB1.below hkA (by omega)
  have hB2A := hB2.below hkA (by omega)
  have hB3A := hB3.below hkA (by omega)
  have hkwA := Below.trans hkw (Below.mono hkA (by omega))
  have hxsm : encN ([px, py, pz] : List Nat) ++ [.float .f64 pm] = encN ([px, py, pz, pm] : List Nat) := by simp [encN]
  rw [hxsm] at hownA
  clear t0 t1 t2 t3 tf tl y0 y1 y2 y3 y4 yf yl hown hown1 hB1 hB2 hB3 hB5 hk1 hkA hszA hgrA hkw hxsm
  have t0 := hB3A.cell (i := 0) rfl
  have t1 := hB3A.cell (i := 1) rfl
  have t2 := hB3A.cell (i := 2) rfl
  have t3 := hB3A.cell (i := 3) rfl
  have tf := hB3A.free
  have tl := hB3A.lt
  have hB3 := hB3A.set 2 (.slice al1 (m + 2 + 1 + 1) c1)
  simp only [List.set] at hB3
  have hB1 : Blk (W1.setCell ⟨b3, 2, none⟩ (.slice al1 (m + 2 + 1 + 1) c1)) w.heap.size 60 [.float .f64 px, .float .f64 py, .float .f64 pz, .float .f64 pm, .int .u8 3, .bool true] := by with_reducible (repeat first | assumption | (refine Bx.n ⟨?_, ?_⟩ <;> focus (first | rfl | (simp; done) | omega)) | refine Bx.a ?_ _ | refine Bx.d ?_ | refine Bx.e ?_ _ | refine Bx.p (by first | omega | simp <;> omega) ?_)
  have hB2 : Blk (W1.setCell ⟨b3, 2, none⟩ (.slice al1 (m + 2 + 1 + 1) c1)) (w.heap.size + 1) 35 [.int .i64 0, .int .i64 0, .slice none 0 0, .slice none 0 0] := by with_reducible (repeat first | assumption | (refine Bx.n ⟨?_, ?_⟩ <;> focus (first | rfl | (simp; done) | omega)) | refine Bx.a ?_ _ | refine Bx.d ?_ | refine Bx.e ?_ _ | refine Bx.p (by first | omega | simp <;> omega) ?_)
  have hB5 := Blk.past2 (a := ⟨b3, 2, none⟩) (u := .slice al1 (m + 2 + 1 + 1) c1) (by simp; omega) hB5A
  have hown := owns_set (i := 2) (u := .slice al1 (m + 2 + 1 + 1) c1) hownA hb3B
  have hkw : Stab.Keeps w (W1.setCell ⟨b3, 2, none⟩ (.slice al1 (m + 2 + 1 + 1) c1)) := Stab.Keeps.setCell (by simp; omega) hkwA _
  clear hB1A hB2A hB3A hB5A hownA hkwA
  have hB : B ≤ (W1.setCell ⟨b3, 2, none⟩ (.slice al1 (m + 2 + 1 + 1) c1)).heap.size := by have := hB5.lt; omega
  go_upto_region 10 with (fail)
  generalize (W1.setCell ⟨b3, 2, none⟩ (.slice al1 (m + 2 + 1 + 1) c1)) = WC at *
  clear t0 t1 t2 t3 tf tl
  have t0 := hB3.cell (i := 0) rfl
  have t1 := hB3.cell (i := 1) rfl
  have t2 := hB3.cell (i := 2) rfl
  have t3 := hB3.cell (i := 3) rfl
  have tf := hB3.free
  have tl := hB3.lt
  have g0 := hB2.cell (i := 0) rfl
  have g1 := hB2.cell (i := 1) rfl
  have g2 := hB2.cell (i := 2) rfl
  have g3 := hB2.cell (i := 3) rfl
  have gf := hB2.free
  have gl := hB2.lt
  have hB2n := (((hB2.set 0 (.int .i64 1)).set 1 (.int .i64 3)).set 2 (.slice al1 (m + 2 + 1 + 1) c1)).set 3 (.slice none 0 0)
  simp only [List.set] at hB2n
  have hkf : ∀ (G : Nat → Prop), ¬ G (w.heap.size + 1) → KF G WC ((((WC.setCell ⟨w.heap.size + 1, 0, none⟩ (.int .i64 1)).setCell ⟨w.heap.size + 1, 1, none⟩ (.int .i64 3)).setCell ⟨w.heap.size + 1, 2, none⟩ (.slice al1 (m + 2 + 1 + 1) c1)).setCell ⟨w.heap.size + 1, 3, none⟩ (.slice none 0 0)) := fun G hG' => ((((KF.refl _ _).set hG').set hG').set hG').set hG'
  have hkz : Stab.Keeps w ((((WC.setCell ⟨w.heap.size + 1, 0, none⟩ (.int .i64 1)).setCell ⟨w.heap.size + 1, 1, none⟩ (.int .i64 3)).setCell ⟨w.heap.size + 1, 2, none⟩ (.slice al1 (m + 2 + 1 + 1) c1)).setCell ⟨w.heap.size + 1, 3, none⟩ (.slice none 0 0)) := by with_reducible (repeat first | exact Kx.r _ | assumption | refine Kx.a ?_ _ | refine Kx.d ?_ | refine Kx.e ?_ _ | refine Kx.s (by simp <;> omega) ?_ _ | refine Kx.t ?_ (by assumption))
  have hSz := (SzF.of_owns (F := fun b => B ≤ b) hown (fun b hb => hb)).kf (hkf _ (fun h => by omega))
  clear hkf hown
  go_wp2_with fail
  generalize ((((WC.setCell ⟨w.heap.size + 1, 0, none⟩ (.int .i64 1)).setCell ⟨w.heap.size + 1, 1, none⟩ (.int .i64 3)).setCell ⟨w.heap.size + 1, 2, none⟩ (.slice al1 (m + 2 + 1 + 1) c1)).setCell ⟨w.heap.size + 1, 3, none⟩ (.slice none 0 0)) = Wz at *
  clear hB1 hB2 hB3 hB5 t0 t1 t2 t3 tf tl g0 g1 g2 g3 gf gl hkw
  have y0 := hB2n.cell (i := 0) rfl
  have y1 := hB2n.cell (i := 1) rfl
  have y2 := hB2n.cell (i := 2) rfl
  have y3 := hB2n.cell (i := 3) rfl
  have yf := hB2n.free
  have yl := hB2n.lt
  refine bodyPost_ret (v := .agg #[.int .i64 1, .int .i64 3, .slice al1 (m + 2 + 1 + 1) c1, .slice none 0 0]) (by simp [results, Tryz.results16, go_sem, *]) rfl ⟨[.int .i64 (1 : Nat), .int .i64 (3 : Nat), .slice al1 (m + 2 + 1 + 1) c1, .slice none 0 0], rfl, hkz, ?_⟩
  exact .mk 1 3 _ _ al1 none _ _ _ _ [] (by rw [HM.out]; rfl) (hSz.mono fun b _ hb => .inr (by omega)) rfl rfl (by simp) (SzF.nil _ _ _) (fun i h1 => by simp at h1)
set_option maxRecDepth 100000 in
set_option maxHeartbeats 4000000 in
theorem plainPtE_ (d : Nat) (hd : d < 4) (w : World) : Calls Tryz.prog 16 #[.agg (ptC d []).toArray] w (RetR w no GmR (.node 1 d [] [])) := by
  have hwd : wrap64 (d : Int) = d := IntWalk.wrap64_in _ (by omega)
  have hTy := fun w' => ptType_ d [] w'
  have hPC := fun w' => ptCoords_ d [] w'
  unfold ptC ptCo coV at hPC
  unfold ptC at hTy
  unfold ptC
  go_enter Tryz.func16, Tryz.ntmps16
  go_wp2_with fail
  have hkw : Stab.Keeps w ((w.alloc (.cells #[.float .f64 0, .float .f64 0, .float .f64 0, .float .f64 0, .int .u8 d, .bool false] 60)).alloc (.cells #[.int .i64 0, .int .i64 0, .slice none 0 0, .slice none 0 0] 35)) := by with_reducible (repeat first | exact Kx.r _ | assumption | refine Kx.a ?_ _ | refine Kx.d ?_ | refine Kx.e ?_ _ | refine Kx.s (by simp <;> omega) ?_ _ | refine Kx.t ?_ (by assumption))
  have hB1 : Blk ((w.alloc (.cells #[.float .f64 0, .float .f64 0, .float .f64 0, .float .f64 0, .int .u8 d, .bool false] 60)).alloc (.cells #[.int .i64 0, .int .i64 0, .slice none 0 0, .slice none 0 0] 35)) w.heap.size 60 [.float .f64 0, .float .f64 0, .float .f64 0, .float .f64 0, .int .u8 d, .bool false] := by with_reducible (repeat first | assumption | (refine Bx.n ⟨?_, ?_⟩ <;> focus (first | rfl | (simp; done) | omega)) | refine Bx.a ?_ _ | refine Bx.d ?_ | refine Bx.e ?_ _ | refine Bx.p (by first | omega | simp <;> omega) ?_)
  have hB2 : Blk ((w.alloc (.cells #[.float .f64 0, .float .f64 0, .float .f64 0, .float .f64 0, .int .u8 d, .bool false] 60)).alloc (.cells #[.int .i64 0, .int .i64 0, .slice none 0 0, .slice none 0 0] 35)) (w.heap.size + 1) 35 [.int .i64 0, .int .i64 0, .slice none 0 0, .slice none 0 0] := by with_reducible (repeat first | assumption | (refine Bx.n ⟨?_, ?_⟩ <;> focus (first | rfl | (simp; done) | omega)) | refine Bx.a ?_ _ | refine Bx.d ?_ | refine Bx.e ?_ _ | refine Bx.p (by first | omega | simp <;> omega) ?_)
  generalize ((w.alloc (.cells #[.float .f64 0, .float .f64 0, .float .f64 0, .float .f64 0, .int .u8 d, .bool false] 60)).alloc (.cells #[.int .i64 0, .int .i64 0, .slice none 0 0, .slice none 0 0] 35)) = W0 at *
  refine (hTy _).mono ?_
  rintro e w4 ⟨rfl, hk4⟩
  replace hB1 := hB1.keep hk4
  replace hB2 := hB2.keep hk4
  replace hkw := Stab.Keeps.trans hkw hk4
  clear hk4 hTy
  have g0 := hB1.cell (i := 0) rfl
  have g1 := hB1.cell (i := 1) rfl
  have g2 := hB1.cell (i := 2) rfl
  have g3 := hB1.cell (i := 3) rfl
  have g4 := hB1.cell (i := 4) rfl
  have g5 := hB1.cell (i := 5) rfl
  have gf := hB1.free
  have gl := hB1.lt
  go_wp2_with fail
  clear g0 g1 g2 g3 g4 g5 gf gl
  have hl2 := hB2.lt
  have hkwN : Stab.Keeps w (w4.alloc (.cells #[.int .i64 1, .int .i64 d, .slice none 0 0, .slice none 0 0] 35)) := by with_reducible (repeat first | exact Kx.r _ | assumption | refine Kx.a ?_ _ | refine Kx.d ?_ | refine Kx.e ?_ _ | refine Kx.s (by simp <;> omega) ?_ _ | refine Kx.t ?_ (by assumption))
  have hB2N : Blk (w4.alloc (.cells #[.int .i64 1, .int .i64 d, .slice none 0 0, .slice none 0 0] 35)) (w.heap.size + 1) 35 [.int .i64 0, .int .i64 0, .slice none 0 0, .slice none 0 0] := by with_reducible (repeat first | assumption | (refine Bx.n ⟨?_, ?_⟩ <;> focus (first | rfl | (simp; done) | omega)) | refine Bx.a ?_ _ | refine Bx.d ?_ | refine Bx.e ?_ _ | refine Bx.p (by first | omega | simp <;> omega) ?_)
  have hB3N : Blk (w4.alloc (.cells #[.int .i64 1, .int .i64 d, .slice none 0 0, .slice none 0 0] 35)) w4.heap.size 35 [.int .i64 1, .int .i64 d, .slice none 0 0, .slice none 0 0] := by with_reducible (repeat first | assumption | (refine Bx.n ⟨?_, ?_⟩ <;> focus (first | rfl | (simp; done) | omega)) | refine Bx.a ?_ _ | refine Bx.d ?_ | refine Bx.e ?_ _ | refine Bx.p (by first | omega | simp <;> omega) ?_)
  generalize (w4.alloc (.cells #[.int .i64 1, .int .i64 d, .slice none 0 0, .slice none 0 0] 35)) = W5 at *
  generalize w4.heap.size = b3 at *
  refine (hPC _).mono ?_
  rintro e w7 ⟨rfl, hk7⟩
  have hkz7 : Stab.Keeps w (w7.alloc (.cells #[.float .f64 0, .float .f64 0, .float .f64 0, .float .f64 0, .int .u8 d] 58)) := by have := Stab.Keeps.trans hkwN hk7; with_reducible (repeat first | exact Kx.r _ | assumption | refine Kx.a ?_ _ | refine Kx.d ?_ | refine Kx.e ?_ _ | refine Kx.s (by simp <;> omega) ?_ _ | refine Kx.t ?_ (by assumption))
  have hB27 : Blk (w7.alloc (.cells #[.float .f64 0, .float .f64 0, .float .f64 0, .float .f64 0, .int .u8 d] 58)) (w.heap.size + 1) 35 [.int .i64 0, .int .i64 0, .slice none 0 0, .slice none 0 0] := (hB2N.keep hk7).alloc _
  have hB37 : Blk (w7.alloc (.cells #[.float .f64 0, .float .f64 0, .float .f64 0, .float .f64 0, .int .u8 d] 58)) b3 35 [.int .i64 1, .int .i64 d, .slice none 0 0, .slice none 0 0] := (hB3N.keep hk7).alloc _
  clear hB1 hB2 hkw hB2N hB3N hkwN hk7 hPC
  go_upto_region 4 with (fail)
  generalize (w7.alloc (.cells #[.float .f64 0, .float .f64 0, .float .f64 0, .float .f64 0, .int .u8 d] 58)) = WC at *
  have t0 := hB37.cell (i := 0) rfl
  have t1 := hB37.cell (i := 1) rfl
  have t2 := hB37.cell (i := 2) rfl
  have t3 := hB37.cell (i := 3) rfl
  have tf := hB37.free
  have tl := hB37.lt
  have g0 := hB27.cell (i := 0) rfl
  have g1 := hB27.cell (i := 1) rfl
  have g2 := hB27.cell (i := 2) rfl
  have g3 := hB27.cell (i := 3) rfl
  have gf := hB27.free
  have gl := hB27.lt
  have hB2n := (((hB27.set 0 (.int .i64 1)).set 1 (.int .i64 d)).set 2 (.slice none 0 0)).set 3 (.slice none 0 0)
  simp only [List.set] at hB2n
  have hkz : Stab.Keeps w ((((WC.setCell ⟨w.heap.size + 1, 0, none⟩ (.int .i64 1)).setCell ⟨w.heap.size + 1, 1, none⟩ (.int .i64 d)).setCell ⟨w.heap.size + 1, 2, none⟩ (.slice none 0 0)).setCell ⟨w.heap.size + 1, 3, none⟩ (.slice none 0 0)) := by with_reducible (repeat first | exact Kx.r _ | assumption | refine Kx.a ?_ _ | refine Kx.d ?_ | refine Kx.e ?_ _ | refine Kx.s (by simp <;> omega) ?_ _ | refine Kx.t ?_ (by assumption))
  go_wp2_with fail
  generalize ((((WC.setCell ⟨w.heap.size + 1, 0, none⟩ (.int .i64 1)).setCell ⟨w.heap.size + 1, 1, none⟩ (.int .i64 d)).setCell ⟨w.heap.size + 1, 2, none⟩ (.slice none 0 0)).setCell ⟨w.heap.size + 1, 3, none⟩ (.slice none 0 0)) = Wz at *
  clear hB27 hB37 t0 t1 t2 t3 tf tl g0 g1 g2 g3 gf gl
  have y0 := hB2n.cell (i := 0) rfl
  have y1 := hB2n.cell (i := 1) rfl
  have y2 := hB2n.cell (i := 2) rfl
  have y3 := hB2n.cell (i := 3) rfl
  have yf := hB2n.free
  have yl := hB2n.lt
  refine bodyPost_ret (v := .agg #[.int .i64 1, .int .i64 d, .slice none 0 0, .slice none 0 0]) (by simp [results, Tryz.results16, go_sem, *]) rfl ⟨[.int .i64 (1 : Nat), .int .i64 (d : Nat), .slice none 0 0, .slice none 0 0], rfl, hkz, ?_⟩
  exact .mk 1 d _ _ none none _ _ _ _ [] rfl (SzF.nil _ _ _) rfl rfl (by simp) (SzF.nil _ _ _) (fun i h1 => by simp at h1)
theorem plainPoint_ {F : Nat → Prop} (cs : List Value) (p : Pg) (w : World) (h : PtR w F cs p) : Calls Tryz.prog 16 #[.agg cs.toArray] w (RetR w no GmR p) := by
  obtain ⟨d, l, rfl, rfl, hd, hl, hn⟩ := h
  cases l with
  | nil => exact plainPtE_ d hd w
  | cons q l =>
    have hl0 : l = [] := by simpa using hl
    subst hl0
    obtain ⟨px, py, pz, pm⟩ := q
    have : d = 0 ∨ d = 1 ∨ d = 2 ∨ d = 3 := by omega
    rcases this with rfl | rfl | rfl | rfl
    · exact plainPt0_ px py pz pm w
    · exact plainPt1_ px py pz pm w
    · exact plainPt2_ px py pz pm w
    · exact plainPt3_ px py pz pm w
end Go.Proofs.YtinbkonmlgediaaGreat
