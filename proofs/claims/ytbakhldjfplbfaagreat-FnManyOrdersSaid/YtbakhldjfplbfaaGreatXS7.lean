/-
  The reference's geometries made of plain data: wholes, walked. No condition.
-/
import Derived.Test.YtbakhldjfplbfaaGreatXS6
set_option linter.unusedVariables false
set_option linter.unusedSimpArgs false
namespace Go.Proofs.YtbakhldjfplbfaaGreat
open Go.RowKit Go.Fl Go.Sl Go.Pg Go.Ch Go.Kf
set_option maxRecDepth 100000 in
set_option maxHeartbeats 4000000 in
theorem newWh3_ (t : GT) (w : World) (hA : t.At w) (hs : t.Small) (hk : t.hd.kind = 3) (ih : ∀ c ∈ t.kids, SNew c) : Calls Tryz.prog 13 #[t.hd.val] w (RetR w no GmR (newP t)) := by
  obtain ⟨i0, hi, hz0, hz1, hz2⟩ := info_parts infoGm
  have HI := Lib.hid hi
  have HZ0 := Lib.hid hz0
  have HZ1 := Lib.hid hz1
  have HZ2 := Lib.hid hz2
  clear hi hz0 hz1 hz2
  have HOK := Lib.hid (newP_ok t hs)
  cases hA with
  | mk h nums kids hn hkn h1 h2 h3 =>
  obtain ⟨kind, dim, na, nn, nc, ka, kn, kc⟩ := h
  simp only [GT.hd] at hk hn hkn h1 h2 ⊢
  subst hk
  have hkk : kids.length ≤ 1000 := hs.few
  have hkid := hs.kid
  rw [newP_whole _ _ _ (by show kindN (3 : Int) ≠ 1; decide) (by show kindN (3 : Int) ≠ 2; decide)] at HOK ⊢
  simp only [Gm.val]
  have hK : kindN (3 : Int) = 3 := by decide
  simp only [hK] at HOK ⊢
  have hd4 := dim4_lt dim
  have hband : bits .and .i64 dim 3 = (dim4 dim : Int) := by rw [i64_and3]; unfold dim4; omega
  generalize hde : dim4 dim = d at *
  have hle := h2.le
  have hmx := h2.max
  unfold maxLen at hmx
  have HKN := Lib.hid hkn
  have HIH := Lib.hid ih
  have HK3 := Lib.hid h3
  have HSM := Lib.hid hkid
  clear hde hs h1 hn hkn ih h3 hkid hK
  go_enter Tryz.func13, Tryz.ntmps13
  go_wp2_with fail
  have hs1 : (((w.alloc (.cells #[.int .i64 3, .int .i64 dim, .slice na nn nc, .slice ka kn kc] 25)).alloc (.cells #[.int .i64 0, .int .i64 0, .slice none 0 0, .slice none 0 0] 25)).alloc (.cells #[.int .i64 3, .int .i64 d, .slice none 0 0, .slice none 0 0] 25)).heap.size = w.heap.size + 1 + 1 + 1 := by simp
  have hB0 : Blk (((w.alloc (.cells #[.int .i64 3, .int .i64 dim, .slice na nn nc, .slice ka kn kc] 25)).alloc (.cells #[.int .i64 0, .int .i64 0, .slice none 0 0, .slice none 0 0] 25)).alloc (.cells #[.int .i64 3, .int .i64 d, .slice none 0 0, .slice none 0 0] 25)) w.heap.size 25 [.int .i64 3, .int .i64 dim, .slice na nn nc, .slice ka kn kc] := by with_reducible (repeat first | assumption | (refine Bx.n ⟨?_, ?_⟩ <;> focus (first | rfl | (simp; done) | omega)) | refine Bx.a ?_ _ | refine Bx.d ?_ | refine Bx.e ?_ _ | refine Bx.p (by first | omega | simp <;> omega) ?_)
  have hB1 : Blk (((w.alloc (.cells #[.int .i64 3, .int .i64 dim, .slice na nn nc, .slice ka kn kc] 25)).alloc (.cells #[.int .i64 0, .int .i64 0, .slice none 0 0, .slice none 0 0] 25)).alloc (.cells #[.int .i64 3, .int .i64 d, .slice none 0 0, .slice none 0 0] 25)) (w.heap.size + 1) 25 [.int .i64 0, .int .i64 0, .slice none 0 0, .slice none 0 0] := by with_reducible (repeat first | assumption | (refine Bx.n ⟨?_, ?_⟩ <;> focus (first | rfl | (simp; done) | omega)) | refine Bx.a ?_ _ | refine Bx.d ?_ | refine Bx.e ?_ _ | refine Bx.p (by first | omega | simp <;> omega) ?_)
  have hB2 : Blk (((w.alloc (.cells #[.int .i64 3, .int .i64 dim, .slice na nn nc, .slice ka kn kc] 25)).alloc (.cells #[.int .i64 0, .int .i64 0, .slice none 0 0, .slice none 0 0] 25)).alloc (.cells #[.int .i64 3, .int .i64 d, .slice none 0 0, .slice none 0 0] 25)) (w.heap.size + 1 + 1) 25 [.int .i64 3, .int .i64 d, .slice none 0 0, .slice none 0 0] := by with_reducible (repeat first | assumption | (refine Bx.n ⟨?_, ?_⟩ <;> focus (first | rfl | (simp; done) | omega)) | refine Bx.a ?_ _ | refine Bx.d ?_ | refine Bx.e ?_ _ | refine Bx.p (by first | omega | simp <;> omega) ?_)
  have hkw : Stab.Keeps w (((w.alloc (.cells #[.int .i64 3, .int .i64 dim, .slice na nn nc, .slice ka kn kc] 25)).alloc (.cells #[.int .i64 0, .int .i64 0, .slice none 0 0, .slice none 0 0] 25)).alloc (.cells #[.int .i64 3, .int .i64 d, .slice none 0 0, .slice none 0 0] 25)) := by with_reducible (repeat first | exact Kx.r _ | assumption | refine Kx.a ?_ _ | refine Kx.d ?_ | refine Kx.e ?_ _ | refine Kx.s (by simp <;> omega) ?_ _ | refine Kx.t ?_ (by assumption))
  generalize (((w.alloc (.cells #[.int .i64 3, .int .i64 dim, .slice na nn nc, .slice ka kn kc] 25)).alloc (.cells #[.int .i64 0, .int .i64 0, .slice none 0 0, .slice none 0 0] 25)).alloc (.cells #[.int .i64 3, .int .i64 d, .slice none 0 0, .slice none 0 0] 25)) = W0 at *
  refine (leaf_ 3 (by omega) _).mono ?_
  rintro e w4 ⟨rfl, hk4⟩
  have hB04 := hB0.keep hk4
  have hB14 := hB1.keep hk4
  have hB24 := hB2.keep hk4
  have hkw4 : Stab.Keeps w w4 := hkw.trans hk4
  have hsz4 : w.heap.size + 1 + 1 + 1 ≤ w4.heap.size := by have := hk4.size; omega
  clear hB0 hB1 hB2 hkw hk4 hs1
  have g0 := hB04.cell (i := 0) rfl
  have g1 := hB04.cell (i := 1) rfl
  have g2 := hB04.cell (i := 2) rfl
  have g3 := hB04.cell (i := 3) rfl
  have gf := hB04.free
  have gl := hB04.lt
  go_wp2_with fail
  generalize hB2e : w4.heap.size = B2 at *
  have HB2 := Lib.hid hB2e
  clear hB2e
  have hG0 : GrowB B2 w4 GmR 25 4 0 (.slice none 0 0) (((kids.take 0).map newP).filter (takes 3)) := by simpa using GrowB.nil B2 w4 GmR 25 4 (by have := HB2.out; omega)
  go_loopw [5, 55] (fun dv iv wr => ∃ (j m : Nat) (al : Option Addr) (c : Nat), j ≤ kn ∧ m ≤ j ∧ iv = .int .i64 j ∧ dv = .int .i64 (andD (((kids.take j).map newP).filter (takes 3)) : Nat) ∧ Stab.Keeps w wr ∧ Blk wr (w.heap.size + 1) 25 [.int .i64 0, .int .i64 0, .slice none 0 0, .slice none 0 0] ∧ Blk wr (w.heap.size + 1 + 1) 25 [.int .i64 3, .int .i64 d, .slice none 0 0, .slice al m c] ∧ GrowB B2 wr GmR 25 4 m (.slice al m c) (((kids.take j).map newP).filter (takes 3))) (fun _ iv _ => kn - (intOf iv).toNat)
  case atStart => exact ⟨0, 0, none, 0, by omega, by omega, rfl, rfl, hkw4, hB14, hB24, hG0⟩
  case round =>
    clear hB04 hB14 hB24 hkw4 hG0 g0 g1 g2 g3 gf gl
    obtain ⟨j, m, al, c, hj, hmj, rfl, rfl, hk, hB1, hB2, hG⟩ := hrel
    by_cases hlt : j < kn
    · obtain ⟨b, off, ha, hb, hc⟩ := (h2.keep hk).elem hlt
      subst ha
      have hki : j < kids.length := by have := HKN.out; omega
      have e0 : wr.cell? ⟨b, off + j * 4, none⟩ = some (.int .i64 kids[j].hd.kind) := hc 0 _ (by omega) (by rw [flat_get GT.cells 4 GT.cells_len kids j 0 hki (by omega)]; rfl)
      have e1 : wr.cell? ⟨b, off + j * 4 + 1, none⟩ = some (.int .i64 kids[j].hd.dim) := hc 1 _ (by omega) (by rw [flat_get GT.cells 4 GT.cells_len kids j 1 hki (by omega)]; rfl)
      have e2 : wr.cell? ⟨b, off + j * 4 + 2, none⟩ = some (.slice kids[j].hd.na kids[j].hd.nn kids[j].hd.nc) := hc 2 _ (by omega) (by rw [flat_get GT.cells 4 GT.cells_len kids j 2 hki (by omega)]; rfl)
      have e3 : wr.cell? ⟨b, off + j * 4 + 3, none⟩ = some (.slice kids[j].hd.ka kids[j].hd.kn kids[j].hd.kc) := hc 3 _ (by omega) (by rw [flat_get GT.cells 4 GT.cells_len kids j 3 hki (by omega)]; rfl)
      have hM1 := fun w' (hk' : Stab.Keeps w w') => HIH.out kids[j] (List.getElem_mem _) w' ((HK3.out _ (List.getElem_mem _)).keep hk') (HSM.out _ (List.getElem_mem _))
      have hd4y : (newP kids[j]).dim < 4 := (newP_ok _ (HSM.out _ (List.getElem_mem _))).dim4
      have hsn : ((kids.take (j + 1)).map newP).filter (takes 3) = if takes 3 (newP kids[j]) then ((kids.take j).map newP).filter (takes 3) ++ [newP kids[j]] else ((kids.take j).map newP).filter (takes 3) := by rw [List.take_succ_eq_append_getElem hki, List.map_append]; exact filter_snoc _ _ _
      have HSN := Lib.hid hsn
      clear hc hsn
      generalize kids[j] = x at *
      obtain ⟨⟨xk, xd, xna, xnn, xnc, xka, xkn, xkc⟩, xnums, xkids⟩ := x
      simp only [GT.hd, Gm.val] at hM1 e0 e1 e2 e3
      generalize hxe : (GT.node ⟨xk, xd, xna, xnn, xnc, xka, xkn, xkc⟩ xnums xkids) = X at *
      clear hxe
      generalize newP X = y at *
      generalize hYe : ((kids.take j).map newP).filter (takes 3) = ys at *
      have hgl : B2 ≤ wr.heap.size := hG.size
      have hown : ∀ g, (Value.slice al m c).ownBlock = some g → g < wr.heap.size := fun g hg => (hG.own hg).2
      have hkx : Stab.Keeps w (wr.alloc (.cells #[.int .i64 xk, .int .i64 xd, .slice xna xnn xnc, .slice xka xkn xkc] 25)) := by with_reducible (repeat first | exact Kx.r _ | assumption | refine Kx.a ?_ _ | refine Kx.d ?_ | refine Kx.e ?_ _ | refine Kx.s (by simp <;> omega) ?_ _ | refine Kx.t ?_ (by assumption))
      have hbx : wr.heap.size + 1 = (wr.alloc (.cells #[.int .i64 xk, .int .i64 xd, .slice xna xnn xnc, .slice xka xkn xkc] 25)).heap.size := by simp
      go_wp2_with fail
      refine (hM1 _ hkx).mono ?_
      clear hM1
      rintro e w4 ⟨cs4, rfl, hk4, hx4⟩
      have hkw4 := Stab.Keeps.trans hkx hk4
      have hkr4 : Stab.Keeps wr w4 := Stab.Keeps.trans (Stab.Keeps.alloc (Stab.Keeps.refl _) _) hk4
      obtain ⟨mk, md, mna, mnn, mnc, mka, mkn, mkc, rfl⟩ := hx4.four
      have hxd := hx4.kd
      have hmk : mk = y.kind := by have := hxd.1; omega
      have hmd : md = y.dim := by have := hxd.2; omega
      have hmd4 : md < 4 := by omega
      have hgs := hk4.size
      have hgs2 : wr.heap.size + 1 ≤ w4.heap.size := by omega
      have hBo := hB1.keep hkr4
      have hBt := hB2.keep hkr4
      have hGk := hG.keep gmS hkr4
      clear hB1 hB2 hG e0 e1 e2 e3 hk4 hkx hk hxd hgs hbx hkr4
      have HMK := Lib.hid hmk
      have HMD := Lib.hid hmd
      clear hmk hmd
      go_wp2_with fail
      have hkw5 : Stab.Keeps w (w4.alloc (.cells #[.int .i64 mk, .int .i64 md, .slice mna mnn mnc, .slice mka mkn mkc] 25)) := by with_reducible (repeat first | exact Kx.r _ | assumption | refine Kx.a ?_ _ | refine Kx.d ?_ | refine Kx.e ?_ _ | refine Kx.s (by simp <;> omega) ?_ _ | refine Kx.t ?_ (by assumption))
      have hBm : Blk (w4.alloc (.cells #[.int .i64 mk, .int .i64 md, .slice mna mnn mnc, .slice mka mkn mkc] 25)) w4.heap.size 25 [.int .i64 mk, .int .i64 md, .slice mna mnn mnc, .slice mka mkn mkc] := by with_reducible (repeat first | assumption | (refine Bx.n ⟨?_, ?_⟩ <;> focus (first | rfl | (simp; done) | omega)) | refine Bx.a ?_ _ | refine Bx.d ?_ | refine Bx.e ?_ _ | refine Bx.p (by first | omega | simp <;> omega) ?_)
      have hBo5 : Blk (w4.alloc (.cells #[.int .i64 mk, .int .i64 md, .slice mna mnn mnc, .slice mka mkn mkc] 25)) (w.heap.size + 1) 25 [.int .i64 0, .int .i64 0, .slice none 0 0, .slice none 0 0] := by with_reducible (repeat first | assumption | (refine Bx.n ⟨?_, ?_⟩ <;> focus (first | rfl | (simp; done) | omega)) | refine Bx.a ?_ _ | refine Bx.d ?_ | refine Bx.e ?_ _ | refine Bx.p (by first | omega | simp <;> omega) ?_)
      have hBt5 : Blk (w4.alloc (.cells #[.int .i64 mk, .int .i64 md, .slice mna mnn mnc, .slice mka mkn mkc] 25)) (w.heap.size + 1 + 1) 25 [.int .i64 3, .int .i64 d, .slice none 0 0, .slice al m c] := by with_reducible (repeat first | assumption | (refine Bx.n ⟨?_, ?_⟩ <;> focus (first | rfl | (simp; done) | omega)) | refine Bx.a ?_ _ | refine Bx.d ?_ | refine Bx.e ?_ _ | refine Bx.p (by first | omega | simp <;> omega) ?_)
      have hG5 : GrowB B2 (w4.alloc (.cells #[.int .i64 mk, .int .i64 md, .slice mna mnn mnc, .slice mka mkn mkc] 25)) GmR 25 4 m (.slice al m c) ys := hGk.keep gmS (by with_reducible (repeat first | exact Kx.r _ | assumption | refine Kx.a ?_ _ | refine Kx.d ?_ | refine Kx.e ?_ _ | refine Kx.s (by simp <;> omega) ?_ _ | refine Kx.t ?_ (by assumption)))
      have hx5 : GmR (w4.alloc (.cells #[.int .i64 mk, .int .i64 md, .slice mna mnn mnc, .slice mka mkn mkc] 25)) (fun b => wr.heap.size + 1 ≤ b ∧ b < w4.heap.size) [.int .i64 mk, .int .i64 md, .slice mna mnn mnc, .slice mka mkn mkc] y := gmS.kf (gmS.mono hx4 (fun b hb hf => hf.elim (fun h => h.elim) (fun h => ⟨by simpa using h, hb⟩))) ((KF.refl _ _).alloc _)
      have hs5 : w4.heap.size < (w4.alloc (.cells #[.int .i64 mk, .int .i64 md, .slice mna mnn mnc, .slice mka mkn mkc] 25)).heap.size := by simp
      generalize (w4.alloc (.cells #[.int .i64 mk, .int .i64 md, .slice mna mnn mnc, .slice mka mkn mkc] 25)) = W5 at *
      clear hkw4 hx4 hBo hBt hGk
      have t0 := hBt5.cell (i := 0) rfl
      have t1 := hBt5.cell (i := 1) rfl
      have t2 := hBt5.cell (i := 2) rfl
      have t3 := hBt5.cell (i := 3) rfl
      have tf := hBt5.free
      have tl := hBt5.lt
      have y0 := hBm.cell (i := 0) rfl
      have y1 := hBm.cell (i := 1) rfl
      have y2 := hBm.cell (i := 2) rfl
      have y3 := hBm.cell (i := 3) rfl
      have yf := hBm.free
      have yl := hBm.lt
      have hKO : ∀ w', Calls Tryz.prog 22 #[.int .i64 3] w' (One w' (.int .i64 (2))) := fun w' => kidOf_ 3 (by omega) w'
      by_cases hkd : mk = 2
      · have hq1 : ((2 : Int) == (mk : Int)) = true := by simp; omega
        have hq2 : decide ((2 : Int) = (mk : Int)) = true := by simp; omega
        have hq3 : decide (2 = mk) = true := by simp; omega
        have hq4 : (2 == mk) = true := by simp; omega
        have HKD := Lib.hid hkd
        clear hkd
        refine Stab.keep_region (fun _ _ _ => True) (fun _ => false) (fun k => k == 2 || k == 7) Stab.pre_none (by kernel_rfl) (by kernel_rfl) fun hcx => ?_
        repeat (first
          | (refine Stab.quiet rfl rfl rfl (fun K hK => ?_); go_big_quiet_op; refine hK _ ?_; clear hK K)
          | (refine Stab.one rfl rfl rfl ?_
             apply Exists.intro
             refine ⟨fun w1 hw1 => ?_, fun K hK => ?_⟩
             · go_simp
               first | (go_at_call 22; exact hKO _)
             go_simp
             refine hK _ ?_
             clear hK K)
          | (refine Stab.skip rfl (fun K hK => ?_); go_simp; refine hK _ ?_; clear hK K))
        refine Stab.nil fun w6 hk6 _ => ?_
        have hkw6 := Stab.Keeps.trans hkw5 hk6
        have hBm6 := hBm.keep hk6
        have hBo6 := hBo5.keep hk6
        have hBt6 := hBt5.keep hk6
        have hG6 : GrowB B2 (w6.alloc (.cells #[.int .i64 mk, .int .i64 md, .slice mna mnn mnc, .slice mka mkn mkc] 25)) GmR 25 4 m (.slice al m c) ys := (hG5.keep gmS hk6).keep gmS ((Stab.Keeps.refl w6).alloc (.cells #[.int .i64 mk, .int .i64 md, .slice mna mnn mnc, .slice mka mkn mkc] 25))
        have hx6 : GmR (w6.alloc (.cells #[.int .i64 mk, .int .i64 md, .slice mna mnn mnc, .slice mka mkn mkc] 25)) (fun b => wr.heap.size + 1 ≤ b ∧ b < w4.heap.size) [.int .i64 mk, .int .i64 md, .slice mna mnn mnc, .slice mka mkn mkc] y := gmS.kf (gmS.kf hx5 (KF.keeps hk6)) ((KF.refl _ _).alloc _)
        have hs6 : w4.heap.size < w6.heap.size := by have := hk6.size; omega
        have hone : ∀ u ∈ ([.int .i64 mk, .int .i64 md, .slice mna mnn mnc, .slice mka mkn mkc] : List Value), u.oneCell' = true := hx6.ones
        clear hcx hBm hBo5 hBt5 hG5 hx5 hs5 hkw5 hk6 t0 t1 t2 t3 tf tl y0 y1 y2 y3 yf yl
        have t0 := hBt6.cell (i := 0) rfl
        have t1 := hBt6.cell (i := 1) rfl
        have t2 := hBt6.cell (i := 2) rfl
        have t3 := hBt6.cell (i := 3) rfl
        have tf := hBt6.free
        have tl := hBt6.lt
        have y0 := hBm6.cell (i := 0) rfl
        have y1 := hBm6.cell (i := 1) rfl
        have y2 := hBm6.cell (i := 2) rfl
        have y3 := hBm6.cell (i := 3) rfl
        have yf := hBm6.free
        have yl := hBm6.lt
        have HG6 := Lib.hid hG6
        clear hG6
        go_wp2_with (at_builtin; (refine append_growB (B := B2) gmS rfl _ _ 23 rfl 25 i0 _ 4 64 Tryz.underlying23 HI.out HZ0.out HZ1.out HZ2.out rfl (by decide) _ m ys rfl HG6.out ⟨w6.heap.size, 0, none⟩ 1 [.int .i64 mk, .int .i64 md, .slice mna mnn mnc, .slice mka mkn mkc] rfl rfl ?c1 hone ?c2 ?c3 y _ hx6 ?c4 ?c5 ?_))
        case c1 => exact new_cells _ _ _ _ rfl
        case c2 => unfold maxLen; omega
        case c3 => omega
        case c4 => exact fun b hb => ⟨by omega, by simp; omega⟩
        case c5 => exact fun g hg hb => by have := hown g hg; omega
        intro al' c' w7 hG7 hB7 hgr
        have hsz7 : w.heap.size + 1 + 1 + 1 ≤ w7.heap.size := by have := hB7.size; simp at this; omega
        have hBt7 : Blk w7 (w.heap.size + 1 + 1) 25 [.int .i64 3, .int .i64 d, .slice none 0 0, .slice al m c] := Blk.below (B := B2) (by with_reducible (repeat first | assumption | (refine Bx.n ⟨?_, ?_⟩ <;> focus (first | rfl | (simp; done) | omega)) | refine Bx.a ?_ _ | refine Bx.d ?_ | refine Bx.e ?_ _ | refine Bx.p (by first | omega | simp <;> omega) ?_)) hB7 (by omega)
        have hBo7 : Blk w7 (w.heap.size + 1) 25 [.int .i64 0, .int .i64 0, .slice none 0 0, .slice none 0 0] := Blk.below (B := B2) (by with_reducible (repeat first | assumption | (refine Bx.n ⟨?_, ?_⟩ <;> focus (first | rfl | (simp; done) | omega)) | refine Bx.a ?_ _ | refine Bx.d ?_ | refine Bx.e ?_ _ | refine Bx.p (by first | omega | simp <;> omega) ?_)) hB7 (by omega)
        have hBm7 : Blk w7 w4.heap.size 25 [.int .i64 mk, .int .i64 md, .slice mna mnn mnc, .slice mka mkn mkc] := Go.Kf.Blk.grown (by with_reducible (repeat first | assumption | (refine Bx.n ⟨?_, ?_⟩ <;> focus (first | rfl | (simp; done) | omega)) | refine Bx.a ?_ _ | refine Bx.d ?_ | refine Bx.e ?_ _ | refine Bx.p (by first | omega | simp <;> omega) ?_)) hgr (fun e => by have := hown _ e; omega)
        have hk7 : Stab.Keeps w w7 := Below.trans (Stab.Keeps.alloc hkw6 _) (Below.mono hB7 (by omega))
        clear hx6 HG6 hown hgr hB7 hBt6 hBo6 hBm6 hkw6 t0 t1 t2 t3 tf tl y0 y1 y2 y3 yf yl
        have hk8 : Stab.Keeps w (w7.setCell ⟨w.heap.size + 1 + 1, 3, none⟩ (.slice al' (m + 1) c')) := Stab.Keeps.setCell (by simp; omega) hk7 _
        have hBt8 := hBt7.set 3 (.slice al' (m + 1) c')
        simp only [List.set] at hBt8
        have hBo8 : Blk (w7.setCell ⟨w.heap.size + 1 + 1, 3, none⟩ (.slice al' (m + 1) c')) (w.heap.size + 1) 25 [.int .i64 0, .int .i64 0, .slice none 0 0, .slice none 0 0] := by with_reducible (repeat first | assumption | (refine Bx.n ⟨?_, ?_⟩ <;> focus (first | rfl | (simp; done) | omega)) | refine Bx.a ?_ _ | refine Bx.d ?_ | refine Bx.e ?_ _ | refine Bx.p (by first | omega | simp <;> omega) ?_)
        have hBm8 : Blk (w7.setCell ⟨w.heap.size + 1 + 1, 3, none⟩ (.slice al' (m + 1) c')) w4.heap.size 25 [.int .i64 mk, .int .i64 md, .slice mna mnn mnc, .slice mka mkn mkc] := by with_reducible (repeat first | assumption | (refine Bx.n ⟨?_, ?_⟩ <;> focus (first | rfl | (simp; done) | omega)) | refine Bx.a ?_ _ | refine Bx.d ?_ | refine Bx.e ?_ _ | refine Bx.p (by first | omega | simp <;> omega) ?_)
        have hG8 := hG7.kf gmS (w4 := w7.setCell ⟨w.heap.size + 1 + 1, 3, none⟩ (.slice al' (m + 1) c')) ((KF.refl _ _).set (fun h => by simp at h; omega))
        have hdd : bits .and .i64 (andD ys : Nat) md = ((andD (ys ++ [y]) : Nat) : Int) := by
          rw [andD_snoc, ← HMD.out]
          exact i64_andN _ _ (andD_lt _) hmd4
        have hys : ((kids.take (j + 1)).map newP).filter (takes 3) = ys ++ [y] := by rw [HSN.out, if_pos]; rw [takes_kid _ _ (by omega) (by omega) (by omega), ← HMK.out]; exact (by rw [HKD.out]; rfl)
        have HYS := Lib.hid hys
        clear hys hG7 hk7 HSN HMK HMD
        have t0 := hBt7.cell (i := 0) rfl
        have t1 := hBt7.cell (i := 1) rfl
        have t2 := hBt7.cell (i := 2) rfl
        have t3 := hBt7.cell (i := 3) rfl
        have tf := hBt7.free
        have tl := hBt7.lt
        go_upto_region 17 with (fail)
        generalize (w7.setCell ⟨w.heap.size + 1 + 1, 3, none⟩ (.slice al' (m + 1) c')) = W8 at *
        clear hBt7 hBo7 hBm7 t0 t1 t2 t3 tf tl
        have y0 := hBm8.cell (i := 0) rfl
        have y1 := hBm8.cell (i := 1) rfl
        have y2 := hBm8.cell (i := 2) rfl
        have y3 := hBm8.cell (i := 3) rfl
        have yf := hBm8.free
        have yl := hBm8.lt
        go_wp2_with fail
        exact ⟨⟨j + 1, m + 1, al', c', by omega, by omega, by simp, by rw [HYS.out], hk8, hBo8, hBt8, by rw [HYS.out]; exact hG8⟩, by simp [intOf]; omega⟩
      · have hq1 : ((2 : Int) == (mk : Int)) = false := by simp; omega
        have hq2 : decide ((2 : Int) = (mk : Int)) = false := by simp; omega
        have hq3 : decide (2 = mk) = false := by simp; omega
        have hq4 : (2 == mk) = false := by simp; omega
        have HKD := Lib.hid hkd
        clear hkd
        refine Stab.keep_region (fun _ _ _ => True) (fun _ => false) (fun k => k == 2 || k == 7) Stab.pre_none (by kernel_rfl) (by kernel_rfl) fun hcx => ?_
        repeat (first
          | (refine Stab.quiet rfl rfl rfl (fun K hK => ?_); go_big_quiet_op; refine hK _ ?_; clear hK K)
          | (refine Stab.one rfl rfl rfl ?_
             apply Exists.intro
             refine ⟨fun w1 hw1 => ?_, fun K hK => ?_⟩
             · go_simp
               first | (go_at_call 22; exact hKO _)
             go_simp
             refine hK _ ?_
             clear hK K)
          | (refine Stab.skip rfl (fun K hK => ?_); go_simp; refine hK _ ?_; clear hK K))
        refine Stab.nil fun w6 hk6 _ => ?_
        have hkw6 := Stab.Keeps.trans hkw5 hk6
        have hBo6 := hBo5.keep hk6
        have hBt6 := hBt5.keep hk6
        have hG6 : GrowB B2 w6 GmR 25 4 m (.slice al m c) ys := hG5.keep gmS hk6
        have hys : ((kids.take (j + 1)).map newP).filter (takes 3) = ys := by rw [HSN.out, if_neg]; rw [takes_kid _ _ (by omega) (by omega) (by omega), ← HMK.out]; simp only [kidI]; simp; have := HKD.out; omega
        have HYS := Lib.hid hys
        clear hys hcx hBm hBo5 hBt5 hG5 hx5 hs5 hkw5 hk6 t0 t1 t2 t3 tf tl y0 y1 y2 y3 yf yl HSN HMK HMD
        go_wp2_with fail
        exact ⟨⟨j + 1, m, al, c, by omega, by omega, by simp, by rw [HYS.out], hkw6, hBo6, hBt6, by rw [HYS.out]; exact hG6⟩, by simp [intOf]; omega⟩
    · obtain rfl : kn = j := by omega
      have hfull : kids.take kn = kids := List.take_of_length_le (by rw [HKN.out]; exact Nat.le_refl _)
      rw [hfull] at hG ⊢
      have hall : ∀ p ∈ (kids.map newP).filter (takes 3), PgOk p := fun p hp => by
        obtain ⟨r, hr, rfl⟩ := List.mem_map.1 (List.mem_filter.1 hp).1
        exact newP_ok r (HSM.out r hr)
      generalize (kids.map newP).filter (takes 3) = ys at *
      have hyl := hG.len
      have hsz := hk.size
      have hgl : B2 ≤ wr.heap.size := hG.size
      obtain ⟨css, hR⟩ := hG.toRows gmS
      have hokn : PgOk (.node 3 d [] ys) := .mk _ _ _ _ hd4 (by simp) (by simp) (by have := HKN.out; omega) hall
      have HOKN := Lib.hid hokn
      clear hG hfull hall hokn
      have HHS := Lib.hid hsz4
      rcases Nat.eq_zero_or_pos m with h0 | h0
      · subst h0
        have hy0 : ys = [] := List.length_eq_zero_iff.1 hyl
        subst hy0
        have t0 := hB2.cell (i := 0) rfl
        have t1 := hB2.cell (i := 1) rfl
        have t2 := hB2.cell (i := 2) rfl
        have t3 := hB2.cell (i := 3) rfl
        have tf := hB2.free
        have tl := hB2.lt
        have g0 := hB1.cell (i := 0) rfl
        have g1 := hB1.cell (i := 1) rfl
        have g2 := hB1.cell (i := 2) rfl
        have g3 := hB1.cell (i := 3) rfl
        have gf := hB1.free
        have gl := hB1.lt
        have hB1n := (((hB1.set 0 (.int .i64 3)).set 1 (.int .i64 d)).set 2 (.slice none 0 0)).set 3 (.slice al 0 c)
        simp only [List.set] at hB1n
        have hkf : ∀ (G : Nat → Prop), ¬ G (w.heap.size + 1) → KF G wr ((((wr.setCell ⟨w.heap.size + 1, 0, none⟩ (.int .i64 3)).setCell ⟨w.heap.size + 1, 1, none⟩ (.int .i64 d)).setCell ⟨w.heap.size + 1, 2, none⟩ (.slice none 0 0)).setCell ⟨w.heap.size + 1, 3, none⟩ (.slice al 0 c)) := fun G hG' => ((((KF.refl _ _).set hG').set hG').set hG').set hG'
        have hkz : Stab.Keeps w ((((wr.setCell ⟨w.heap.size + 1, 0, none⟩ (.int .i64 3)).setCell ⟨w.heap.size + 1, 1, none⟩ (.int .i64 d)).setCell ⟨w.heap.size + 1, 2, none⟩ (.slice none 0 0)).setCell ⟨w.heap.size + 1, 3, none⟩ (.slice al 0 c)) := by with_reducible (repeat first | exact Kx.r _ | assumption | refine Kx.a ?_ _ | refine Kx.d ?_ | refine Kx.e ?_ _ | refine Kx.s (by simp <;> omega) ?_ _ | refine Kx.t ?_ (by assumption))
        have hSzn := hR.sz.kf (hkf _ (fun h => by have := HHS.out; omega))
        have HR := Lib.hid hR
        clear hR
        go_wp2_with fail
        generalize ((((wr.setCell ⟨w.heap.size + 1, 0, none⟩ (.int .i64 3)).setCell ⟨w.heap.size + 1, 1, none⟩ (.int .i64 d)).setCell ⟨w.heap.size + 1, 2, none⟩ (.slice none 0 0)).setCell ⟨w.heap.size + 1, 3, none⟩ (.slice al 0 c)) = Wz at *
        clear hB1 hB2 t0 t1 t2 t3 tf tl g0 g1 g2 g3 gf gl hkf
        have y0 := hB1n.cell (i := 0) rfl
        have y1 := hB1n.cell (i := 1) rfl
        have y2 := hB1n.cell (i := 2) rfl
        have y3 := hB1n.cell (i := 3) rfl
        have yf := hB1n.free
        have yl := hB1n.lt
        refine bodyPost_ret (v := .agg #[.int .i64 3, .int .i64 d, .slice none 0 0, .slice al 0 c]) (by simp [results, Tryz.results13, go_sem, *]) rfl ⟨[.int .i64 (3 : Nat), .int .i64 d, .slice none 0 0, .slice al 0 c], rfl, hkz, ?_⟩
        exact .mk 3 d _ _ none al _ _ _ _ css rfl (SzF.nil _ _ _) HR.out.lc HR.out.lx HR.out.each (hSzn.mono fun b _ hb => .inr (by have := HHS.out; omega)) (fun i h1 h2 => by simp at h2)
      · have hne1 : ((m : Int) == 0) = false := by simp; omega
        have hne2 : (m == 0) = false := by simp; omega
        have hwp : wholeP 3 d ys = forceP (andD ys) (.node 3 d [] ys) := whole_force _ _ _ (fun e => by rw [e] at hyl; simp at hyl; omega)
        have hgm : GmR wr (fun b => B2 ≤ b) [.int .i64 (3 : Nat), .int .i64 d, .slice none 0 0, .slice al m c] (.node 3 d [] ys) := .mk 3 d _ _ none al _ _ _ _ css rfl (SzF.nil _ _ _) hR.lc hR.lx hR.each hR.sz hR.is
        have hF1 := sforce_ (andD ys) (andD_lt _) (.node 3 d [] ys) HOKN.out _ _ wr hgm
        have HWP := Lib.hid hwp
        clear hR hgm hwp
        have t0 := hB2.cell (i := 0) rfl
        have t1 := hB2.cell (i := 1) rfl
        have t2 := hB2.cell (i := 2) rfl
        have t3 := hB2.cell (i := 3) rfl
        have tf := hB2.free
        have tl := hB2.lt
        go_wp2_with fail
        refine hF1.mono ?_
        clear hF1
        rintro e w5 ⟨cs5, rfl, hk5, hx5⟩
        obtain ⟨zk, zd, zna, znn, znc, zka, zkn, zkc, rfl⟩ := hx5.four
        have hB15 := hB1.keep hk5
        have hkw5 := Stab.Keeps.trans hk hk5
        have hs5 := hk5.size
        clear hB1 hB2 t0 t1 t2 t3 tf tl hk hk5
        have g0 := hB15.cell (i := 0) rfl
        have g1 := hB15.cell (i := 1) rfl
        have g2 := hB15.cell (i := 2) rfl
        have g3 := hB15.cell (i := 3) rfl
        have gf := hB15.free
        have gl := hB15.lt
        have hB1n := (((hB15.set 0 (.int .i64 zk)).set 1 (.int .i64 zd)).set 2 (.slice zna znn znc)).set 3 (.slice zka zkn zkc)
        simp only [List.set] at hB1n
        have hkf : ∀ (G : Nat → Prop), ¬ G (w.heap.size + 1) → KF G w5 ((((w5.setCell ⟨w.heap.size + 1, 0, none⟩ (.int .i64 zk)).setCell ⟨w.heap.size + 1, 1, none⟩ (.int .i64 zd)).setCell ⟨w.heap.size + 1, 2, none⟩ (.slice zna znn znc)).setCell ⟨w.heap.size + 1, 3, none⟩ (.slice zka zkn zkc)) := fun G hG' => ((((KF.refl _ _).set hG').set hG').set hG').set hG'
        have hkz : Stab.Keeps w ((((w5.setCell ⟨w.heap.size + 1, 0, none⟩ (.int .i64 zk)).setCell ⟨w.heap.size + 1, 1, none⟩ (.int .i64 zd)).setCell ⟨w.heap.size + 1, 2, none⟩ (.slice zna znn znc)).setCell ⟨w.heap.size + 1, 3, none⟩ (.slice zka zkn zkc)) := by with_reducible (repeat first | exact Kx.r _ | assumption | refine Kx.a ?_ _ | refine Kx.d ?_ | refine Kx.e ?_ _ | refine Kx.s (by simp <;> omega) ?_ _ | refine Kx.t ?_ (by assumption))
        have hxn := gmS.kf (gmS.mono hx5 (fun b _ hb => hb.elim (fun h => h.elim) (fun h => h))) (hkf _ (fun h => by have := HHS.out; omega))
        clear hx5
        go_wp2_with fail
        generalize ((((w5.setCell ⟨w.heap.size + 1, 0, none⟩ (.int .i64 zk)).setCell ⟨w.heap.size + 1, 1, none⟩ (.int .i64 zd)).setCell ⟨w.heap.size + 1, 2, none⟩ (.slice zna znn znc)).setCell ⟨w.heap.size + 1, 3, none⟩ (.slice zka zkn zkc)) = Wz at *
        clear hB15 g0 g1 g2 g3 gf gl hkf
        have y0 := hB1n.cell (i := 0) rfl
        have y1 := hB1n.cell (i := 1) rfl
        have y2 := hB1n.cell (i := 2) rfl
        have y3 := hB1n.cell (i := 3) rfl
        have yf := hB1n.free
        have yl := hB1n.lt
        refine bodyPost_ret (v := .agg #[.int .i64 zk, .int .i64 zd, .slice zna znn znc, .slice zka zkn zkc]) (by simp [results, Tryz.results13, go_sem, *]) rfl ⟨[.int .i64 zk, .int .i64 zd, .slice zna znn znc, .slice zka zkn zkc], rfl, hkz, ?_⟩
        rw [HWP.out]
        exact gmS.mono hxn (fun b _ hb => .inr (by have := HHS.out; omega))
set_option maxRecDepth 100000 in
set_option maxHeartbeats 4000000 in
theorem newWh4_ (t : GT) (w : World) (hA : t.At w) (hs : t.Small) (hk : t.hd.kind = 4) (ih : ∀ c ∈ t.kids, SNew c) : Calls Tryz.prog 13 #[t.hd.val] w (RetR w no GmR (newP t)) := by
  obtain ⟨i0, hi, hz0, hz1, hz2⟩ := info_parts infoGm
  have HI := Lib.hid hi
  have HZ0 := Lib.hid hz0
  have HZ1 := Lib.hid hz1
  have HZ2 := Lib.hid hz2
  clear hi hz0 hz1 hz2
  have HOK := Lib.hid (newP_ok t hs)
  cases hA with
  | mk h nums kids hn hkn h1 h2 h3 =>
  obtain ⟨kind, dim, na, nn, nc, ka, kn, kc⟩ := h
  simp only [GT.hd] at hk hn hkn h1 h2 ⊢
  subst hk
  have hkk : kids.length ≤ 1000 := hs.few
  have hkid := hs.kid
  rw [newP_whole _ _ _ (by show kindN (4 : Int) ≠ 1; decide) (by show kindN (4 : Int) ≠ 2; decide)] at HOK ⊢
  simp only [Gm.val]
  have hK : kindN (4 : Int) = 4 := by decide
  simp only [hK] at HOK ⊢
  have hd4 := dim4_lt dim
  have hband : bits .and .i64 dim 3 = (dim4 dim : Int) := by rw [i64_and3]; unfold dim4; omega
  generalize hde : dim4 dim = d at *
  have hle := h2.le
  have hmx := h2.max
  unfold maxLen at hmx
  have HKN := Lib.hid hkn
  have HIH := Lib.hid ih
  have HK3 := Lib.hid h3
  have HSM := Lib.hid hkid
  clear hde hs h1 hn hkn ih h3 hkid hK
  go_enter Tryz.func13, Tryz.ntmps13
  go_wp2_with fail
  have hs1 : (((w.alloc (.cells #[.int .i64 4, .int .i64 dim, .slice na nn nc, .slice ka kn kc] 25)).alloc (.cells #[.int .i64 0, .int .i64 0, .slice none 0 0, .slice none 0 0] 25)).alloc (.cells #[.int .i64 4, .int .i64 d, .slice none 0 0, .slice none 0 0] 25)).heap.size = w.heap.size + 1 + 1 + 1 := by simp
  have hB0 : Blk (((w.alloc (.cells #[.int .i64 4, .int .i64 dim, .slice na nn nc, .slice ka kn kc] 25)).alloc (.cells #[.int .i64 0, .int .i64 0, .slice none 0 0, .slice none 0 0] 25)).alloc (.cells #[.int .i64 4, .int .i64 d, .slice none 0 0, .slice none 0 0] 25)) w.heap.size 25 [.int .i64 4, .int .i64 dim, .slice na nn nc, .slice ka kn kc] := by with_reducible (repeat first | assumption | (refine Bx.n ⟨?_, ?_⟩ <;> focus (first | rfl | (simp; done) | omega)) | refine Bx.a ?_ _ | refine Bx.d ?_ | refine Bx.e ?_ _ | refine Bx.p (by first | omega | simp <;> omega) ?_)
  have hB1 : Blk (((w.alloc (.cells #[.int .i64 4, .int .i64 dim, .slice na nn nc, .slice ka kn kc] 25)).alloc (.cells #[.int .i64 0, .int .i64 0, .slice none 0 0, .slice none 0 0] 25)).alloc (.cells #[.int .i64 4, .int .i64 d, .slice none 0 0, .slice none 0 0] 25)) (w.heap.size + 1) 25 [.int .i64 0, .int .i64 0, .slice none 0 0, .slice none 0 0] := by with_reducible (repeat first | assumption | (refine Bx.n ⟨?_, ?_⟩ <;> focus (first | rfl | (simp; done) | omega)) | refine Bx.a ?_ _ | refine Bx.d ?_ | refine Bx.e ?_ _ | refine Bx.p (by first | omega | simp <;> omega) ?_)
  have hB2 : Blk (((w.alloc (.cells #[.int .i64 4, .int .i64 dim, .slice na nn nc, .slice ka kn kc] 25)).alloc (.cells #[.int .i64 0, .int .i64 0, .slice none 0 0, .slice none 0 0] 25)).alloc (.cells #[.int .i64 4, .int .i64 d, .slice none 0 0, .slice none 0 0] 25)) (w.heap.size + 1 + 1) 25 [.int .i64 4, .int .i64 d, .slice none 0 0, .slice none 0 0] := by with_reducible (repeat first | assumption | (refine Bx.n ⟨?_, ?_⟩ <;> focus (first | rfl | (simp; done) | omega)) | refine Bx.a ?_ _ | refine Bx.d ?_ | refine Bx.e ?_ _ | refine Bx.p (by first | omega | simp <;> omega) ?_)
  have hkw : Stab.Keeps w (((w.alloc (.cells #[.int .i64 4, .int .i64 dim, .slice na nn nc, .slice ka kn kc] 25)).alloc (.cells #[.int .i64 0, .int .i64 0, .slice none 0 0, .slice none 0 0] 25)).alloc (.cells #[.int .i64 4, .int .i64 d, .slice none 0 0, .slice none 0 0] 25)) := by with_reducible (repeat first | exact Kx.r _ | assumption | refine Kx.a ?_ _ | refine Kx.d ?_ | refine Kx.e ?_ _ | refine Kx.s (by simp <;> omega) ?_ _ | refine Kx.t ?_ (by assumption))
  generalize (((w.alloc (.cells #[.int .i64 4, .int .i64 dim, .slice na nn nc, .slice ka kn kc] 25)).alloc (.cells #[.int .i64 0, .int .i64 0, .slice none 0 0, .slice none 0 0] 25)).alloc (.cells #[.int .i64 4, .int .i64 d, .slice none 0 0, .slice none 0 0] 25)) = W0 at *
  refine (leaf_ 4 (by omega) _).mono ?_
  rintro e w4 ⟨rfl, hk4⟩
  have hB04 := hB0.keep hk4
  have hB14 := hB1.keep hk4
  have hB24 := hB2.keep hk4
  have hkw4 : Stab.Keeps w w4 := hkw.trans hk4
  have hsz4 : w.heap.size + 1 + 1 + 1 ≤ w4.heap.size := by have := hk4.size; omega
  clear hB0 hB1 hB2 hkw hk4 hs1
  have g0 := hB04.cell (i := 0) rfl
  have g1 := hB04.cell (i := 1) rfl
  have g2 := hB04.cell (i := 2) rfl
  have g3 := hB04.cell (i := 3) rfl
  have gf := hB04.free
  have gl := hB04.lt
  go_wp2_with fail
  generalize hB2e : w4.heap.size = B2 at *
  have HB2 := Lib.hid hB2e
  clear hB2e
  have hG0 : GrowB B2 w4 GmR 25 4 0 (.slice none 0 0) (((kids.take 0).map newP).filter (takes 4)) := by simpa using GrowB.nil B2 w4 GmR 25 4 (by have := HB2.out; omega)
  go_loopw [5, 55] (fun dv iv wr => ∃ (j m : Nat) (al : Option Addr) (c : Nat), j ≤ kn ∧ m ≤ j ∧ iv = .int .i64 j ∧ dv = .int .i64 (andD (((kids.take j).map newP).filter (takes 4)) : Nat) ∧ Stab.Keeps w wr ∧ Blk wr (w.heap.size + 1) 25 [.int .i64 0, .int .i64 0, .slice none 0 0, .slice none 0 0] ∧ Blk wr (w.heap.size + 1 + 1) 25 [.int .i64 4, .int .i64 d, .slice none 0 0, .slice al m c] ∧ GrowB B2 wr GmR 25 4 m (.slice al m c) (((kids.take j).map newP).filter (takes 4))) (fun _ iv _ => kn - (intOf iv).toNat)
  case atStart => exact ⟨0, 0, none, 0, by omega, by omega, rfl, rfl, hkw4, hB14, hB24, hG0⟩
  case round =>
    clear hB04 hB14 hB24 hkw4 hG0 g0 g1 g2 g3 gf gl
    obtain ⟨j, m, al, c, hj, hmj, rfl, rfl, hk, hB1, hB2, hG⟩ := hrel
    by_cases hlt : j < kn
    · obtain ⟨b, off, ha, hb, hc⟩ := (h2.keep hk).elem hlt
      subst ha
      have hki : j < kids.length := by have := HKN.out; omega
      have e0 : wr.cell? ⟨b, off + j * 4, none⟩ = some (.int .i64 kids[j].hd.kind) := hc 0 _ (by omega) (by rw [flat_get GT.cells 4 GT.cells_len kids j 0 hki (by omega)]; rfl)
      have e1 : wr.cell? ⟨b, off + j * 4 + 1, none⟩ = some (.int .i64 kids[j].hd.dim) := hc 1 _ (by omega) (by rw [flat_get GT.cells 4 GT.cells_len kids j 1 hki (by omega)]; rfl)
      have e2 : wr.cell? ⟨b, off + j * 4 + 2, none⟩ = some (.slice kids[j].hd.na kids[j].hd.nn kids[j].hd.nc) := hc 2 _ (by omega) (by rw [flat_get GT.cells 4 GT.cells_len kids j 2 hki (by omega)]; rfl)
      have e3 : wr.cell? ⟨b, off + j * 4 + 3, none⟩ = some (.slice kids[j].hd.ka kids[j].hd.kn kids[j].hd.kc) := hc 3 _ (by omega) (by rw [flat_get GT.cells 4 GT.cells_len kids j 3 hki (by omega)]; rfl)
      have hM1 := fun w' (hk' : Stab.Keeps w w') => HIH.out kids[j] (List.getElem_mem _) w' ((HK3.out _ (List.getElem_mem _)).keep hk') (HSM.out _ (List.getElem_mem _))
      have hd4y : (newP kids[j]).dim < 4 := (newP_ok _ (HSM.out _ (List.getElem_mem _))).dim4
      have hsn : ((kids.take (j + 1)).map newP).filter (takes 4) = if takes 4 (newP kids[j]) then ((kids.take j).map newP).filter (takes 4) ++ [newP kids[j]] else ((kids.take j).map newP).filter (takes 4) := by rw [List.take_succ_eq_append_getElem hki, List.map_append]; exact filter_snoc _ _ _
      have HSN := Lib.hid hsn
      clear hc hsn
      generalize kids[j] = x at *
      obtain ⟨⟨xk, xd, xna, xnn, xnc, xka, xkn, xkc⟩, xnums, xkids⟩ := x
      simp only [GT.hd, Gm.val] at hM1 e0 e1 e2 e3
      generalize hxe : (GT.node ⟨xk, xd, xna, xnn, xnc, xka, xkn, xkc⟩ xnums xkids) = X at *
      clear hxe
      generalize newP X = y at *
      generalize hYe : ((kids.take j).map newP).filter (takes 4) = ys at *
      have hgl : B2 ≤ wr.heap.size := hG.size
      have hown : ∀ g, (Value.slice al m c).ownBlock = some g → g < wr.heap.size := fun g hg => (hG.own hg).2
      have hkx : Stab.Keeps w (wr.alloc (.cells #[.int .i64 xk, .int .i64 xd, .slice xna xnn xnc, .slice xka xkn xkc] 25)) := by with_reducible (repeat first | exact Kx.r _ | assumption | refine Kx.a ?_ _ | refine Kx.d ?_ | refine Kx.e ?_ _ | refine Kx.s (by simp <;> omega) ?_ _ | refine Kx.t ?_ (by assumption))
      have hbx : wr.heap.size + 1 = (wr.alloc (.cells #[.int .i64 xk, .int .i64 xd, .slice xna xnn xnc, .slice xka xkn xkc] 25)).heap.size := by simp
      go_wp2_with fail
      refine (hM1 _ hkx).mono ?_
      clear hM1
      rintro e w4 ⟨cs4, rfl, hk4, hx4⟩
      have hkw4 := Stab.Keeps.trans hkx hk4
      have hkr4 : Stab.Keeps wr w4 := Stab.Keeps.trans (Stab.Keeps.alloc (Stab.Keeps.refl _) _) hk4
      obtain ⟨mk, md, mna, mnn, mnc, mka, mkn, mkc, rfl⟩ := hx4.four
      have hxd := hx4.kd
      have hmk : mk = y.kind := by have := hxd.1; omega
      have hmd : md = y.dim := by have := hxd.2; omega
      have hmd4 : md < 4 := by omega
      have hgs := hk4.size
      have hgs2 : wr.heap.size + 1 ≤ w4.heap.size := by omega
      have hBo := hB1.keep hkr4
      have hBt := hB2.keep hkr4
      have hGk := hG.keep gmS hkr4
      clear hB1 hB2 hG e0 e1 e2 e3 hk4 hkx hk hxd hgs hbx hkr4
      have HMK := Lib.hid hmk
      have HMD := Lib.hid hmd
      clear hmk hmd
      go_wp2_with fail
      have hkw5 : Stab.Keeps w (w4.alloc (.cells #[.int .i64 mk, .int .i64 md, .slice mna mnn mnc, .slice mka mkn mkc] 25)) := by with_reducible (repeat first | exact Kx.r _ | assumption | refine Kx.a ?_ _ | refine Kx.d ?_ | refine Kx.e ?_ _ | refine Kx.s (by simp <;> omega) ?_ _ | refine Kx.t ?_ (by assumption))
      have hBm : Blk (w4.alloc (.cells #[.int .i64 mk, .int .i64 md, .slice mna mnn mnc, .slice mka mkn mkc] 25)) w4.heap.size 25 [.int .i64 mk, .int .i64 md, .slice mna mnn mnc, .slice mka mkn mkc] := by with_reducible (repeat first | assumption | (refine Bx.n ⟨?_, ?_⟩ <;> focus (first | rfl | (simp; done) | omega)) | refine Bx.a ?_ _ | refine Bx.d ?_ | refine Bx.e ?_ _ | refine Bx.p (by first | omega | simp <;> omega) ?_)
      have hBo5 : Blk (w4.alloc (.cells #[.int .i64 mk, .int .i64 md, .slice mna mnn mnc, .slice mka mkn mkc] 25)) (w.heap.size + 1) 25 [.int .i64 0, .int .i64 0, .slice none 0 0, .slice none 0 0] := by with_reducible (repeat first | assumption | (refine Bx.n ⟨?_, ?_⟩ <;> focus (first | rfl | (simp; done) | omega)) | refine Bx.a ?_ _ | refine Bx.d ?_ | refine Bx.e ?_ _ | refine Bx.p (by first | omega | simp <;> omega) ?_)
      have hBt5 : Blk (w4.alloc (.cells #[.int .i64 mk, .int .i64 md, .slice mna mnn mnc, .slice mka mkn mkc] 25)) (w.heap.size + 1 + 1) 25 [.int .i64 4, .int .i64 d, .slice none 0 0, .slice al m c] := by with_reducible (repeat first | assumption | (refine Bx.n ⟨?_, ?_⟩ <;> focus (first | rfl | (simp; done) | omega)) | refine Bx.a ?_ _ | refine Bx.d ?_ | refine Bx.e ?_ _ | refine Bx.p (by first | omega | simp <;> omega) ?_)
      have hG5 : GrowB B2 (w4.alloc (.cells #[.int .i64 mk, .int .i64 md, .slice mna mnn mnc, .slice mka mkn mkc] 25)) GmR 25 4 m (.slice al m c) ys := hGk.keep gmS (by with_reducible (repeat first | exact Kx.r _ | assumption | refine Kx.a ?_ _ | refine Kx.d ?_ | refine Kx.e ?_ _ | refine Kx.s (by simp <;> omega) ?_ _ | refine Kx.t ?_ (by assumption)))
      have hx5 : GmR (w4.alloc (.cells #[.int .i64 mk, .int .i64 md, .slice mna mnn mnc, .slice mka mkn mkc] 25)) (fun b => wr.heap.size + 1 ≤ b ∧ b < w4.heap.size) [.int .i64 mk, .int .i64 md, .slice mna mnn mnc, .slice mka mkn mkc] y := gmS.kf (gmS.mono hx4 (fun b hb hf => hf.elim (fun h => h.elim) (fun h => ⟨by simpa using h, hb⟩))) ((KF.refl _ _).alloc _)
      have hs5 : w4.heap.size < (w4.alloc (.cells #[.int .i64 mk, .int .i64 md, .slice mna mnn mnc, .slice mka mkn mkc] 25)).heap.size := by simp
      generalize (w4.alloc (.cells #[.int .i64 mk, .int .i64 md, .slice mna mnn mnc, .slice mka mkn mkc] 25)) = W5 at *
      clear hkw4 hx4 hBo hBt hGk
      have t0 := hBt5.cell (i := 0) rfl
      have t1 := hBt5.cell (i := 1) rfl
      have t2 := hBt5.cell (i := 2) rfl
      have t3 := hBt5.cell (i := 3) rfl
      have tf := hBt5.free
      have tl := hBt5.lt
      have y0 := hBm.cell (i := 0) rfl
      have y1 := hBm.cell (i := 1) rfl
      have y2 := hBm.cell (i := 2) rfl
      have y3 := hBm.cell (i := 3) rfl
      have yf := hBm.free
      have yl := hBm.lt
      have hKO : ∀ w', Calls Tryz.prog 22 #[.int .i64 4] w' (One w' (.int .i64 (1))) := fun w' => kidOf_ 4 (by omega) w'
      by_cases hkd : mk = 1
      · have hq1 : ((1 : Int) == (mk : Int)) = true := by simp; omega
        have hq2 : decide ((1 : Int) = (mk : Int)) = true := by simp; omega
        have hq3 : decide (1 = mk) = true := by simp; omega
        have hq4 : (1 == mk) = true := by simp; omega
        have HKD := Lib.hid hkd
        clear hkd
        refine Stab.keep_region (fun _ _ _ => True) (fun _ => false) (fun k => k == 2 || k == 7) Stab.pre_none (by kernel_rfl) (by kernel_rfl) fun hcx => ?_
        repeat (first
          | (refine Stab.quiet rfl rfl rfl (fun K hK => ?_); go_big_quiet_op; refine hK _ ?_; clear hK K)
          | (refine Stab.one rfl rfl rfl ?_
             apply Exists.intro
             refine ⟨fun w1 hw1 => ?_, fun K hK => ?_⟩
             · go_simp
               first | (go_at_call 22; exact hKO _)
             go_simp
             refine hK _ ?_
             clear hK K)
          | (refine Stab.skip rfl (fun K hK => ?_); go_simp; refine hK _ ?_; clear hK K))
        refine Stab.nil fun w6 hk6 _ => ?_
        have hkw6 := Stab.Keeps.trans hkw5 hk6
        have hBm6 := hBm.keep hk6
        have hBo6 := hBo5.keep hk6
        have hBt6 := hBt5.keep hk6
        have hG6 : GrowB B2 (w6.alloc (.cells #[.int .i64 mk, .int .i64 md, .slice mna mnn mnc, .slice mka mkn mkc] 25)) GmR 25 4 m (.slice al m c) ys := (hG5.keep gmS hk6).keep gmS ((Stab.Keeps.refl w6).alloc (.cells #[.int .i64 mk, .int .i64 md, .slice mna mnn mnc, .slice mka mkn mkc] 25))
        have hx6 : GmR (w6.alloc (.cells #[.int .i64 mk, .int .i64 md, .slice mna mnn mnc, .slice mka mkn mkc] 25)) (fun b => wr.heap.size + 1 ≤ b ∧ b < w4.heap.size) [.int .i64 mk, .int .i64 md, .slice mna mnn mnc, .slice mka mkn mkc] y := gmS.kf (gmS.kf hx5 (KF.keeps hk6)) ((KF.refl _ _).alloc _)
        have hs6 : w4.heap.size < w6.heap.size := by have := hk6.size; omega
        have hone : ∀ u ∈ ([.int .i64 mk, .int .i64 md, .slice mna mnn mnc, .slice mka mkn mkc] : List Value), u.oneCell' = true := hx6.ones
        clear hcx hBm hBo5 hBt5 hG5 hx5 hs5 hkw5 hk6 t0 t1 t2 t3 tf tl y0 y1 y2 y3 yf yl
        have t0 := hBt6.cell (i := 0) rfl
        have t1 := hBt6.cell (i := 1) rfl
        have t2 := hBt6.cell (i := 2) rfl
        have t3 := hBt6.cell (i := 3) rfl
        have tf := hBt6.free
        have tl := hBt6.lt
        have y0 := hBm6.cell (i := 0) rfl
        have y1 := hBm6.cell (i := 1) rfl
        have y2 := hBm6.cell (i := 2) rfl
        have y3 := hBm6.cell (i := 3) rfl
        have yf := hBm6.free
        have yl := hBm6.lt
        have HG6 := Lib.hid hG6
        clear hG6
        go_wp2_with (at_builtin; (refine append_growB (B := B2) gmS rfl _ _ 23 rfl 25 i0 _ 4 64 Tryz.underlying23 HI.out HZ0.out HZ1.out HZ2.out rfl (by decide) _ m ys rfl HG6.out ⟨w6.heap.size, 0, none⟩ 1 [.int .i64 mk, .int .i64 md, .slice mna mnn mnc, .slice mka mkn mkc] rfl rfl ?c1 hone ?c2 ?c3 y _ hx6 ?c4 ?c5 ?_))
        case c1 => exact new_cells _ _ _ _ rfl
        case c2 => unfold maxLen; omega
        case c3 => omega
        case c4 => exact fun b hb => ⟨by omega, by simp; omega⟩
        case c5 => exact fun g hg hb => by have := hown g hg; omega
        intro al' c' w7 hG7 hB7 hgr
        have hsz7 : w.heap.size + 1 + 1 + 1 ≤ w7.heap.size := by have := hB7.size; simp at this; omega
        have hBt7 : Blk w7 (w.heap.size + 1 + 1) 25 [.int .i64 4, .int .i64 d, .slice none 0 0, .slice al m c] := Blk.below (B := B2) (by with_reducible (repeat first | assumption | (refine Bx.n ⟨?_, ?_⟩ <;> focus (first | rfl | (simp; done) | omega)) | refine Bx.a ?_ _ | refine Bx.d ?_ | refine Bx.e ?_ _ | refine Bx.p (by first | omega | simp <;> omega) ?_)) hB7 (by omega)
        have hBo7 : Blk w7 (w.heap.size + 1) 25 [.int .i64 0, .int .i64 0, .slice none 0 0, .slice none 0 0] := Blk.below (B := B2) (by with_reducible (repeat first | assumption | (refine Bx.n ⟨?_, ?_⟩ <;> focus (first | rfl | (simp; done) | omega)) | refine Bx.a ?_ _ | refine Bx.d ?_ | refine Bx.e ?_ _ | refine Bx.p (by first | omega | simp <;> omega) ?_)) hB7 (by omega)
        have hBm7 : Blk w7 w4.heap.size 25 [.int .i64 mk, .int .i64 md, .slice mna mnn mnc, .slice mka mkn mkc] := Go.Kf.Blk.grown (by with_reducible (repeat first | assumption | (refine Bx.n ⟨?_, ?_⟩ <;> focus (first | rfl | (simp; done) | omega)) | refine Bx.a ?_ _ | refine Bx.d ?_ | refine Bx.e ?_ _ | refine Bx.p (by first | omega | simp <;> omega) ?_)) hgr (fun e => by have := hown _ e; omega)
        have hk7 : Stab.Keeps w w7 := Below.trans (Stab.Keeps.alloc hkw6 _) (Below.mono hB7 (by omega))
        clear hx6 HG6 hown hgr hB7 hBt6 hBo6 hBm6 hkw6 t0 t1 t2 t3 tf tl y0 y1 y2 y3 yf yl
        have hk8 : Stab.Keeps w (w7.setCell ⟨w.heap.size + 1 + 1, 3, none⟩ (.slice al' (m + 1) c')) := Stab.Keeps.setCell (by simp; omega) hk7 _
        have hBt8 := hBt7.set 3 (.slice al' (m + 1) c')
        simp only [List.set] at hBt8
        have hBo8 : Blk (w7.setCell ⟨w.heap.size + 1 + 1, 3, none⟩ (.slice al' (m + 1) c')) (w.heap.size + 1) 25 [.int .i64 0, .int .i64 0, .slice none 0 0, .slice none 0 0] := by with_reducible (repeat first | assumption | (refine Bx.n ⟨?_, ?_⟩ <;> focus (first | rfl | (simp; done) | omega)) | refine Bx.a ?_ _ | refine Bx.d ?_ | refine Bx.e ?_ _ | refine Bx.p (by first | omega | simp <;> omega) ?_)
        have hBm8 : Blk (w7.setCell ⟨w.heap.size + 1 + 1, 3, none⟩ (.slice al' (m + 1) c')) w4.heap.size 25 [.int .i64 mk, .int .i64 md, .slice mna mnn mnc, .slice mka mkn mkc] := by with_reducible (repeat first | assumption | (refine Bx.n ⟨?_, ?_⟩ <;> focus (first | rfl | (simp; done) | omega)) | refine Bx.a ?_ _ | refine Bx.d ?_ | refine Bx.e ?_ _ | refine Bx.p (by first | omega | simp <;> omega) ?_)
        have hG8 := hG7.kf gmS (w4 := w7.setCell ⟨w.heap.size + 1 + 1, 3, none⟩ (.slice al' (m + 1) c')) ((KF.refl _ _).set (fun h => by simp at h; omega))
        have hdd : bits .and .i64 (andD ys : Nat) md = ((andD (ys ++ [y]) : Nat) : Int) := by
          rw [andD_snoc, ← HMD.out]
          exact i64_andN _ _ (andD_lt _) hmd4
        have hys : ((kids.take (j + 1)).map newP).filter (takes 4) = ys ++ [y] := by rw [HSN.out, if_pos]; rw [takes_kid _ _ (by omega) (by omega) (by omega), ← HMK.out]; exact (by rw [HKD.out]; rfl)
        have HYS := Lib.hid hys
        clear hys hG7 hk7 HSN HMK HMD
        have t0 := hBt7.cell (i := 0) rfl
        have t1 := hBt7.cell (i := 1) rfl
        have t2 := hBt7.cell (i := 2) rfl
        have t3 := hBt7.cell (i := 3) rfl
        have tf := hBt7.free
        have tl := hBt7.lt
        go_upto_region 17 with (fail)
        generalize (w7.setCell ⟨w.heap.size + 1 + 1, 3, none⟩ (.slice al' (m + 1) c')) = W8 at *
        clear hBt7 hBo7 hBm7 t0 t1 t2 t3 tf tl
        have y0 := hBm8.cell (i := 0) rfl
        have y1 := hBm8.cell (i := 1) rfl
        have y2 := hBm8.cell (i := 2) rfl
        have y3 := hBm8.cell (i := 3) rfl
        have yf := hBm8.free
        have yl := hBm8.lt
        go_wp2_with fail
        exact ⟨⟨j + 1, m + 1, al', c', by omega, by omega, by simp, by rw [HYS.out], hk8, hBo8, hBt8, by rw [HYS.out]; exact hG8⟩, by simp [intOf]; omega⟩
      · have hq1 : ((1 : Int) == (mk : Int)) = false := by simp; omega
        have hq2 : decide ((1 : Int) = (mk : Int)) = false := by simp; omega
        have hq3 : decide (1 = mk) = false := by simp; omega
        have hq4 : (1 == mk) = false := by simp; omega
        have HKD := Lib.hid hkd
        clear hkd
        refine Stab.keep_region (fun _ _ _ => True) (fun _ => false) (fun k => k == 2 || k == 7) Stab.pre_none (by kernel_rfl) (by kernel_rfl) fun hcx => ?_
        repeat (first
          | (refine Stab.quiet rfl rfl rfl (fun K hK => ?_); go_big_quiet_op; refine hK _ ?_; clear hK K)
          | (refine Stab.one rfl rfl rfl ?_
             apply Exists.intro
             refine ⟨fun w1 hw1 => ?_, fun K hK => ?_⟩
             · go_simp
               first | (go_at_call 22; exact hKO _)
             go_simp
             refine hK _ ?_
             clear hK K)
          | (refine Stab.skip rfl (fun K hK => ?_); go_simp; refine hK _ ?_; clear hK K))
        refine Stab.nil fun w6 hk6 _ => ?_
        have hkw6 := Stab.Keeps.trans hkw5 hk6
        have hBo6 := hBo5.keep hk6
        have hBt6 := hBt5.keep hk6
        have hG6 : GrowB B2 w6 GmR 25 4 m (.slice al m c) ys := hG5.keep gmS hk6
        have hys : ((kids.take (j + 1)).map newP).filter (takes 4) = ys := by rw [HSN.out, if_neg]; rw [takes_kid _ _ (by omega) (by omega) (by omega), ← HMK.out]; simp only [kidI]; simp; have := HKD.out; omega
        have HYS := Lib.hid hys
        clear hys hcx hBm hBo5 hBt5 hG5 hx5 hs5 hkw5 hk6 t0 t1 t2 t3 tf tl y0 y1 y2 y3 yf yl HSN HMK HMD
        go_wp2_with fail
        exact ⟨⟨j + 1, m, al, c, by omega, by omega, by simp, by rw [HYS.out], hkw6, hBo6, hBt6, by rw [HYS.out]; exact hG6⟩, by simp [intOf]; omega⟩
    · obtain rfl : kn = j := by omega
      have hfull : kids.take kn = kids := List.take_of_length_le (by rw [HKN.out]; exact Nat.le_refl _)
      rw [hfull] at hG ⊢
      have hall : ∀ p ∈ (kids.map newP).filter (takes 4), PgOk p := fun p hp => by
        obtain ⟨r, hr, rfl⟩ := List.mem_map.1 (List.mem_filter.1 hp).1
        exact newP_ok r (HSM.out r hr)
      generalize (kids.map newP).filter (takes 4) = ys at *
      have hyl := hG.len
      have hsz := hk.size
      have hgl : B2 ≤ wr.heap.size := hG.size
      obtain ⟨css, hR⟩ := hG.toRows gmS
      have hokn : PgOk (.node 4 d [] ys) := .mk _ _ _ _ hd4 (by simp) (by simp) (by have := HKN.out; omega) hall
      have HOKN := Lib.hid hokn
      clear hG hfull hall hokn
      have HHS := Lib.hid hsz4
      rcases Nat.eq_zero_or_pos m with h0 | h0
      · subst h0
        have hy0 : ys = [] := List.length_eq_zero_iff.1 hyl
        subst hy0
        have t0 := hB2.cell (i := 0) rfl
        have t1 := hB2.cell (i := 1) rfl
        have t2 := hB2.cell (i := 2) rfl
        have t3 := hB2.cell (i := 3) rfl
        have tf := hB2.free
        have tl := hB2.lt
        have g0 := hB1.cell (i := 0) rfl
        have g1 := hB1.cell (i := 1) rfl
        have g2 := hB1.cell (i := 2) rfl
        have g3 := hB1.cell (i := 3) rfl
        have gf := hB1.free
        have gl := hB1.lt
        have hB1n := (((hB1.set 0 (.int .i64 4)).set 1 (.int .i64 d)).set 2 (.slice none 0 0)).set 3 (.slice al 0 c)
        simp only [List.set] at hB1n
        have hkf : ∀ (G : Nat → Prop), ¬ G (w.heap.size + 1) → KF G wr ((((wr.setCell ⟨w.heap.size + 1, 0, none⟩ (.int .i64 4)).setCell ⟨w.heap.size + 1, 1, none⟩ (.int .i64 d)).setCell ⟨w.heap.size + 1, 2, none⟩ (.slice none 0 0)).setCell ⟨w.heap.size + 1, 3, none⟩ (.slice al 0 c)) := fun G hG' => ((((KF.refl _ _).set hG').set hG').set hG').set hG'
        have hkz : Stab.Keeps w ((((wr.setCell ⟨w.heap.size + 1, 0, none⟩ (.int .i64 4)).setCell ⟨w.heap.size + 1, 1, none⟩ (.int .i64 d)).setCell ⟨w.heap.size + 1, 2, none⟩ (.slice none 0 0)).setCell ⟨w.heap.size + 1, 3, none⟩ (.slice al 0 c)) := by with_reducible (repeat first | exact Kx.r _ | assumption | refine Kx.a ?_ _ | refine Kx.d ?_ | refine Kx.e ?_ _ | refine Kx.s (by simp <;> omega) ?_ _ | refine Kx.t ?_ (by assumption))
        have hSzn := hR.sz.kf (hkf _ (fun h => by have := HHS.out; omega))
        have HR := Lib.hid hR
        clear hR
        go_wp2_with fail
        generalize ((((wr.setCell ⟨w.heap.size + 1, 0, none⟩ (.int .i64 4)).setCell ⟨w.heap.size + 1, 1, none⟩ (.int .i64 d)).setCell ⟨w.heap.size + 1, 2, none⟩ (.slice none 0 0)).setCell ⟨w.heap.size + 1, 3, none⟩ (.slice al 0 c)) = Wz at *
        clear hB1 hB2 t0 t1 t2 t3 tf tl g0 g1 g2 g3 gf gl hkf
        have y0 := hB1n.cell (i := 0) rfl
        have y1 := hB1n.cell (i := 1) rfl
        have y2 := hB1n.cell (i := 2) rfl
        have y3 := hB1n.cell (i := 3) rfl
        have yf := hB1n.free
        have yl := hB1n.lt
        refine bodyPost_ret (v := .agg #[.int .i64 4, .int .i64 d, .slice none 0 0, .slice al 0 c]) (by simp [results, Tryz.results13, go_sem, *]) rfl ⟨[.int .i64 (4 : Nat), .int .i64 d, .slice none 0 0, .slice al 0 c], rfl, hkz, ?_⟩
        exact .mk 4 d _ _ none al _ _ _ _ css rfl (SzF.nil _ _ _) HR.out.lc HR.out.lx HR.out.each (hSzn.mono fun b _ hb => .inr (by have := HHS.out; omega)) (fun i h1 h2 => by simp at h2)
      · have hne1 : ((m : Int) == 0) = false := by simp; omega
        have hne2 : (m == 0) = false := by simp; omega
        have hwp : wholeP 4 d ys = forceP (andD ys) (.node 4 d [] ys) := whole_force _ _ _ (fun e => by rw [e] at hyl; simp at hyl; omega)
        have hgm : GmR wr (fun b => B2 ≤ b) [.int .i64 (4 : Nat), .int .i64 d, .slice none 0 0, .slice al m c] (.node 4 d [] ys) := .mk 4 d _ _ none al _ _ _ _ css rfl (SzF.nil _ _ _) hR.lc hR.lx hR.each hR.sz hR.is
        have hF1 := sforce_ (andD ys) (andD_lt _) (.node 4 d [] ys) HOKN.out _ _ wr hgm
        have HWP := Lib.hid hwp
        clear hR hgm hwp
        have t0 := hB2.cell (i := 0) rfl
        have t1 := hB2.cell (i := 1) rfl
        have t2 := hB2.cell (i := 2) rfl
        have t3 := hB2.cell (i := 3) rfl
        have tf := hB2.free
        have tl := hB2.lt
        go_wp2_with fail
        refine hF1.mono ?_
        clear hF1
        rintro e w5 ⟨cs5, rfl, hk5, hx5⟩
        obtain ⟨zk, zd, zna, znn, znc, zka, zkn, zkc, rfl⟩ := hx5.four
        have hB15 := hB1.keep hk5
        have hkw5 := Stab.Keeps.trans hk hk5
        have hs5 := hk5.size
        clear hB1 hB2 t0 t1 t2 t3 tf tl hk hk5
        have g0 := hB15.cell (i := 0) rfl
        have g1 := hB15.cell (i := 1) rfl
        have g2 := hB15.cell (i := 2) rfl
        have g3 := hB15.cell (i := 3) rfl
        have gf := hB15.free
        have gl := hB15.lt
        have hB1n := (((hB15.set 0 (.int .i64 zk)).set 1 (.int .i64 zd)).set 2 (.slice zna znn znc)).set 3 (.slice zka zkn zkc)
        simp only [List.set] at hB1n
        have hkf : ∀ (G : Nat → Prop), ¬ G (w.heap.size + 1) → KF G w5 ((((w5.setCell ⟨w.heap.size + 1, 0, none⟩ (.int .i64 zk)).setCell ⟨w.heap.size + 1, 1, none⟩ (.int .i64 zd)).setCell ⟨w.heap.size + 1, 2, none⟩ (.slice zna znn znc)).setCell ⟨w.heap.size + 1, 3, none⟩ (.slice zka zkn zkc)) := fun G hG' => ((((KF.refl _ _).set hG').set hG').set hG').set hG'
        have hkz : Stab.Keeps w ((((w5.setCell ⟨w.heap.size + 1, 0, none⟩ (.int .i64 zk)).setCell ⟨w.heap.size + 1, 1, none⟩ (.int .i64 zd)).setCell ⟨w.heap.size + 1, 2, none⟩ (.slice zna znn znc)).setCell ⟨w.heap.size + 1, 3, none⟩ (.slice zka zkn zkc)) := by with_reducible (repeat first | exact Kx.r _ | assumption | refine Kx.a ?_ _ | refine Kx.d ?_ | refine Kx.e ?_ _ | refine Kx.s (by simp <;> omega) ?_ _ | refine Kx.t ?_ (by assumption))
        have hxn := gmS.kf (gmS.mono hx5 (fun b _ hb => hb.elim (fun h => h.elim) (fun h => h))) (hkf _ (fun h => by have := HHS.out; omega))
        clear hx5
        go_wp2_with fail
        generalize ((((w5.setCell ⟨w.heap.size + 1, 0, none⟩ (.int .i64 zk)).setCell ⟨w.heap.size + 1, 1, none⟩ (.int .i64 zd)).setCell ⟨w.heap.size + 1, 2, none⟩ (.slice zna znn znc)).setCell ⟨w.heap.size + 1, 3, none⟩ (.slice zka zkn zkc)) = Wz at *
        clear hB15 g0 g1 g2 g3 gf gl hkf
        have y0 := hB1n.cell (i := 0) rfl
        have y1 := hB1n.cell (i := 1) rfl
        have y2 := hB1n.cell (i := 2) rfl
        have y3 := hB1n.cell (i := 3) rfl
        have yf := hB1n.free
        have yl := hB1n.lt
        refine bodyPost_ret (v := .agg #[.int .i64 zk, .int .i64 zd, .slice zna znn znc, .slice zka zkn zkc]) (by simp [results, Tryz.results13, go_sem, *]) rfl ⟨[.int .i64 zk, .int .i64 zd, .slice zna znn znc, .slice zka zkn zkc], rfl, hkz, ?_⟩
        rw [HWP.out]
        exact gmS.mono hxn (fun b _ hb => .inr (by have := HHS.out; omega))
set_option maxRecDepth 100000 in
set_option maxHeartbeats 4000000 in
theorem newWh5_ (t : GT) (w : World) (hA : t.At w) (hs : t.Small) (hk : t.hd.kind = 5) (ih : ∀ c ∈ t.kids, SNew c) : Calls Tryz.prog 13 #[t.hd.val] w (RetR w no GmR (newP t)) := by
  obtain ⟨i0, hi, hz0, hz1, hz2⟩ := info_parts infoGm
  have HI := Lib.hid hi
  have HZ0 := Lib.hid hz0
  have HZ1 := Lib.hid hz1
  have HZ2 := Lib.hid hz2
  clear hi hz0 hz1 hz2
  have HOK := Lib.hid (newP_ok t hs)
  cases hA with
  | mk h nums kids hn hkn h1 h2 h3 =>
  obtain ⟨kind, dim, na, nn, nc, ka, kn, kc⟩ := h
  simp only [GT.hd] at hk hn hkn h1 h2 ⊢
  subst hk
  have hkk : kids.length ≤ 1000 := hs.few
  have hkid := hs.kid
  rw [newP_whole _ _ _ (by show kindN (5 : Int) ≠ 1; decide) (by show kindN (5 : Int) ≠ 2; decide)] at HOK ⊢
  simp only [Gm.val]
  have hK : kindN (5 : Int) = 5 := by decide
  simp only [hK] at HOK ⊢
  have hd4 := dim4_lt dim
  have hband : bits .and .i64 dim 3 = (dim4 dim : Int) := by rw [i64_and3]; unfold dim4; omega
  generalize hde : dim4 dim = d at *
  have hle := h2.le
  have hmx := h2.max
  unfold maxLen at hmx
  have HKN := Lib.hid hkn
  have HIH := Lib.hid ih
  have HK3 := Lib.hid h3
  have HSM := Lib.hid hkid
  clear hde hs h1 hn hkn ih h3 hkid hK
  go_enter Tryz.func13, Tryz.ntmps13
  go_wp2_with fail
  have hs1 : (((w.alloc (.cells #[.int .i64 5, .int .i64 dim, .slice na nn nc, .slice ka kn kc] 25)).alloc (.cells #[.int .i64 0, .int .i64 0, .slice none 0 0, .slice none 0 0] 25)).alloc (.cells #[.int .i64 5, .int .i64 d, .slice none 0 0, .slice none 0 0] 25)).heap.size = w.heap.size + 1 + 1 + 1 := by simp
  have hB0 : Blk (((w.alloc (.cells #[.int .i64 5, .int .i64 dim, .slice na nn nc, .slice ka kn kc] 25)).alloc (.cells #[.int .i64 0, .int .i64 0, .slice none 0 0, .slice none 0 0] 25)).alloc (.cells #[.int .i64 5, .int .i64 d, .slice none 0 0, .slice none 0 0] 25)) w.heap.size 25 [.int .i64 5, .int .i64 dim, .slice na nn nc, .slice ka kn kc] := by with_reducible (repeat first | assumption | (refine Bx.n ⟨?_, ?_⟩ <;> focus (first | rfl | (simp; done) | omega)) | refine Bx.a ?_ _ | refine Bx.d ?_ | refine Bx.e ?_ _ | refine Bx.p (by first | omega | simp <;> omega) ?_)
  have hB1 : Blk (((w.alloc (.cells #[.int .i64 5, .int .i64 dim, .slice na nn nc, .slice ka kn kc] 25)).alloc (.cells #[.int .i64 0, .int .i64 0, .slice none 0 0, .slice none 0 0] 25)).alloc (.cells #[.int .i64 5, .int .i64 d, .slice none 0 0, .slice none 0 0] 25)) (w.heap.size + 1) 25 [.int .i64 0, .int .i64 0, .slice none 0 0, .slice none 0 0] := by with_reducible (repeat first | assumption | (refine Bx.n ⟨?_, ?_⟩ <;> focus (first | rfl | (simp; done) | omega)) | refine Bx.a ?_ _ | refine Bx.d ?_ | refine Bx.e ?_ _ | refine Bx.p (by first | omega | simp <;> omega) ?_)
  have hB2 : Blk (((w.alloc (.cells #[.int .i64 5, .int .i64 dim, .slice na nn nc, .slice ka kn kc] 25)).alloc (.cells #[.int .i64 0, .int .i64 0, .slice none 0 0, .slice none 0 0] 25)).alloc (.cells #[.int .i64 5, .int .i64 d, .slice none 0 0, .slice none 0 0] 25)) (w.heap.size + 1 + 1) 25 [.int .i64 5, .int .i64 d, .slice none 0 0, .slice none 0 0] := by with_reducible (repeat first | assumption | (refine Bx.n ⟨?_, ?_⟩ <;> focus (first | rfl | (simp; done) | omega)) | refine Bx.a ?_ _ | refine Bx.d ?_ | refine Bx.e ?_ _ | refine Bx.p (by first | omega | simp <;> omega) ?_)
  have hkw : Stab.Keeps w (((w.alloc (.cells #[.int .i64 5, .int .i64 dim, .slice na nn nc, .slice ka kn kc] 25)).alloc (.cells #[.int .i64 0, .int .i64 0, .slice none 0 0, .slice none 0 0] 25)).alloc (.cells #[.int .i64 5, .int .i64 d, .slice none 0 0, .slice none 0 0] 25)) := by with_reducible (repeat first | exact Kx.r _ | assumption | refine Kx.a ?_ _ | refine Kx.d ?_ | refine Kx.e ?_ _ | refine Kx.s (by simp <;> omega) ?_ _ | refine Kx.t ?_ (by assumption))
  generalize (((w.alloc (.cells #[.int .i64 5, .int .i64 dim, .slice na nn nc, .slice ka kn kc] 25)).alloc (.cells #[.int .i64 0, .int .i64 0, .slice none 0 0, .slice none 0 0] 25)).alloc (.cells #[.int .i64 5, .int .i64 d, .slice none 0 0, .slice none 0 0] 25)) = W0 at *
  refine (leaf_ 5 (by omega) _).mono ?_
  rintro e w4 ⟨rfl, hk4⟩
  have hB04 := hB0.keep hk4
  have hB14 := hB1.keep hk4
  have hB24 := hB2.keep hk4
  have hkw4 : Stab.Keeps w w4 := hkw.trans hk4
  have hsz4 : w.heap.size + 1 + 1 + 1 ≤ w4.heap.size := by have := hk4.size; omega
  clear hB0 hB1 hB2 hkw hk4 hs1
  have g0 := hB04.cell (i := 0) rfl
  have g1 := hB04.cell (i := 1) rfl
  have g2 := hB04.cell (i := 2) rfl
  have g3 := hB04.cell (i := 3) rfl
  have gf := hB04.free
  have gl := hB04.lt
  go_wp2_with fail
  generalize hB2e : w4.heap.size = B2 at *
  have HB2 := Lib.hid hB2e
  clear hB2e
  have hG0 : GrowB B2 w4 GmR 25 4 0 (.slice none 0 0) (((kids.take 0).map newP).filter (takes 5)) := by simpa using GrowB.nil B2 w4 GmR 25 4 (by have := HB2.out; omega)
  go_loopw [5, 55] (fun dv iv wr => ∃ (j m : Nat) (al : Option Addr) (c : Nat), j ≤ kn ∧ m ≤ j ∧ iv = .int .i64 j ∧ dv = .int .i64 (andD (((kids.take j).map newP).filter (takes 5)) : Nat) ∧ Stab.Keeps w wr ∧ Blk wr (w.heap.size + 1) 25 [.int .i64 0, .int .i64 0, .slice none 0 0, .slice none 0 0] ∧ Blk wr (w.heap.size + 1 + 1) 25 [.int .i64 5, .int .i64 d, .slice none 0 0, .slice al m c] ∧ GrowB B2 wr GmR 25 4 m (.slice al m c) (((kids.take j).map newP).filter (takes 5))) (fun _ iv _ => kn - (intOf iv).toNat)
  case atStart => exact ⟨0, 0, none, 0, by omega, by omega, rfl, rfl, hkw4, hB14, hB24, hG0⟩
  case round =>
    clear hB04 hB14 hB24 hkw4 hG0 g0 g1 g2 g3 gf gl
    obtain ⟨j, m, al, c, hj, hmj, rfl, rfl, hk, hB1, hB2, hG⟩ := hrel
    by_cases hlt : j < kn
    · obtain ⟨b, off, ha, hb, hc⟩ := (h2.keep hk).elem hlt
      subst ha
      have hki : j < kids.length := by have := HKN.out; omega
      have e0 : wr.cell? ⟨b, off + j * 4, none⟩ = some (.int .i64 kids[j].hd.kind) := hc 0 _ (by omega) (by rw [flat_get GT.cells 4 GT.cells_len kids j 0 hki (by omega)]; rfl)
      have e1 : wr.cell? ⟨b, off + j * 4 + 1, none⟩ = some (.int .i64 kids[j].hd.dim) := hc 1 _ (by omega) (by rw [flat_get GT.cells 4 GT.cells_len kids j 1 hki (by omega)]; rfl)
      have e2 : wr.cell? ⟨b, off + j * 4 + 2, none⟩ = some (.slice kids[j].hd.na kids[j].hd.nn kids[j].hd.nc) := hc 2 _ (by omega) (by rw [flat_get GT.cells 4 GT.cells_len kids j 2 hki (by omega)]; rfl)
      have e3 : wr.cell? ⟨b, off + j * 4 + 3, none⟩ = some (.slice kids[j].hd.ka kids[j].hd.kn kids[j].hd.kc) := hc 3 _ (by omega) (by rw [flat_get GT.cells 4 GT.cells_len kids j 3 hki (by omega)]; rfl)
      have hM1 := fun w' (hk' : Stab.Keeps w w') => HIH.out kids[j] (List.getElem_mem _) w' ((HK3.out _ (List.getElem_mem _)).keep hk') (HSM.out _ (List.getElem_mem _))
      have hd4y : (newP kids[j]).dim < 4 := (newP_ok _ (HSM.out _ (List.getElem_mem _))).dim4
      have hsn : ((kids.take (j + 1)).map newP).filter (takes 5) = if takes 5 (newP kids[j]) then ((kids.take j).map newP).filter (takes 5) ++ [newP kids[j]] else ((kids.take j).map newP).filter (takes 5) := by rw [List.take_succ_eq_append_getElem hki, List.map_append]; exact filter_snoc _ _ _
      have HSN := Lib.hid hsn
      clear hc hsn
      generalize kids[j] = x at *
      obtain ⟨⟨xk, xd, xna, xnn, xnc, xka, xkn, xkc⟩, xnums, xkids⟩ := x
      simp only [GT.hd, Gm.val] at hM1 e0 e1 e2 e3
      generalize hxe : (GT.node ⟨xk, xd, xna, xnn, xnc, xka, xkn, xkc⟩ xnums xkids) = X at *
      clear hxe
      generalize newP X = y at *
      generalize hYe : ((kids.take j).map newP).filter (takes 5) = ys at *
      have hgl : B2 ≤ wr.heap.size := hG.size
      have hown : ∀ g, (Value.slice al m c).ownBlock = some g → g < wr.heap.size := fun g hg => (hG.own hg).2
      have hkx : Stab.Keeps w (wr.alloc (.cells #[.int .i64 xk, .int .i64 xd, .slice xna xnn xnc, .slice xka xkn xkc] 25)) := by with_reducible (repeat first | exact Kx.r _ | assumption | refine Kx.a ?_ _ | refine Kx.d ?_ | refine Kx.e ?_ _ | refine Kx.s (by simp <;> omega) ?_ _ | refine Kx.t ?_ (by assumption))
      have hbx : wr.heap.size + 1 = (wr.alloc (.cells #[.int .i64 xk, .int .i64 xd, .slice xna xnn xnc, .slice xka xkn xkc] 25)).heap.size := by simp
      go_wp2_with fail
      refine (hM1 _ hkx).mono ?_
      clear hM1
      rintro e w4 ⟨cs4, rfl, hk4, hx4⟩
      have hkw4 := Stab.Keeps.trans hkx hk4
      have hkr4 : Stab.Keeps wr w4 := Stab.Keeps.trans (Stab.Keeps.alloc (Stab.Keeps.refl _) _) hk4
      obtain ⟨mk, md, mna, mnn, mnc, mka, mkn, mkc, rfl⟩ := hx4.four
      have hxd := hx4.kd
      have hmk : mk = y.kind := by have := hxd.1; omega
      have hmd : md = y.dim := by have := hxd.2; omega
      have hmd4 : md < 4 := by omega
      have hgs := hk4.size
      have hgs2 : wr.heap.size + 1 ≤ w4.heap.size := by omega
      have hBo := hB1.keep hkr4
      have hBt := hB2.keep hkr4
      have hGk := hG.keep gmS hkr4
      clear hB1 hB2 hG e0 e1 e2 e3 hk4 hkx hk hxd hgs hbx hkr4
      have HMK := Lib.hid hmk
      have HMD := Lib.hid hmd
      clear hmk hmd
      go_wp2_with fail
      have hkw5 : Stab.Keeps w (w4.alloc (.cells #[.int .i64 mk, .int .i64 md, .slice mna mnn mnc, .slice mka mkn mkc] 25)) := by with_reducible (repeat first | exact Kx.r _ | assumption | refine Kx.a ?_ _ | refine Kx.d ?_ | refine Kx.e ?_ _ | refine Kx.s (by simp <;> omega) ?_ _ | refine Kx.t ?_ (by assumption))
      have hBm : Blk (w4.alloc (.cells #[.int .i64 mk, .int .i64 md, .slice mna mnn mnc, .slice mka mkn mkc] 25)) w4.heap.size 25 [.int .i64 mk, .int .i64 md, .slice mna mnn mnc, .slice mka mkn mkc] := by with_reducible (repeat first | assumption | (refine Bx.n ⟨?_, ?_⟩ <;> focus (first | rfl | (simp; done) | omega)) | refine Bx.a ?_ _ | refine Bx.d ?_ | refine Bx.e ?_ _ | refine Bx.p (by first | omega | simp <;> omega) ?_)
      have hBo5 : Blk (w4.alloc (.cells #[.int .i64 mk, .int .i64 md, .slice mna mnn mnc, .slice mka mkn mkc] 25)) (w.heap.size + 1) 25 [.int .i64 0, .int .i64 0, .slice none 0 0, .slice none 0 0] := by with_reducible (repeat first | assumption | (refine Bx.n ⟨?_, ?_⟩ <;> focus (first | rfl | (simp; done) | omega)) | refine Bx.a ?_ _ | refine Bx.d ?_ | refine Bx.e ?_ _ | refine Bx.p (by first | omega | simp <;> omega) ?_)
      have hBt5 : Blk (w4.alloc (.cells #[.int .i64 mk, .int .i64 md, .slice mna mnn mnc, .slice mka mkn mkc] 25)) (w.heap.size + 1 + 1) 25 [.int .i64 5, .int .i64 d, .slice none 0 0, .slice al m c] := by with_reducible (repeat first | assumption | (refine Bx.n ⟨?_, ?_⟩ <;> focus (first | rfl | (simp; done) | omega)) | refine Bx.a ?_ _ | refine Bx.d ?_ | refine Bx.e ?_ _ | refine Bx.p (by first | omega | simp <;> omega) ?_)
      have hG5 : GrowB B2 (w4.alloc (.cells #[.int .i64 mk, .int .i64 md, .slice mna mnn mnc, .slice mka mkn mkc] 25)) GmR 25 4 m (.slice al m c) ys := hGk.keep gmS (by with_reducible (repeat first | exact Kx.r _ | assumption | refine Kx.a ?_ _ | refine Kx.d ?_ | refine Kx.e ?_ _ | refine Kx.s (by simp <;> omega) ?_ _ | refine Kx.t ?_ (by assumption)))
      have hx5 : GmR (w4.alloc (.cells #[.int .i64 mk, .int .i64 md, .slice mna mnn mnc, .slice mka mkn mkc] 25)) (fun b => wr.heap.size + 1 ≤ b ∧ b < w4.heap.size) [.int .i64 mk, .int .i64 md, .slice mna mnn mnc, .slice mka mkn mkc] y := gmS.kf (gmS.mono hx4 (fun b hb hf => hf.elim (fun h => h.elim) (fun h => ⟨by simpa using h, hb⟩))) ((KF.refl _ _).alloc _)
      have hs5 : w4.heap.size < (w4.alloc (.cells #[.int .i64 mk, .int .i64 md, .slice mna mnn mnc, .slice mka mkn mkc] 25)).heap.size := by simp
      generalize (w4.alloc (.cells #[.int .i64 mk, .int .i64 md, .slice mna mnn mnc, .slice mka mkn mkc] 25)) = W5 at *
      clear hkw4 hx4 hBo hBt hGk
      have t0 := hBt5.cell (i := 0) rfl
      have t1 := hBt5.cell (i := 1) rfl
      have t2 := hBt5.cell (i := 2) rfl
      have t3 := hBt5.cell (i := 3) rfl
      have tf := hBt5.free
      have tl := hBt5.lt
      have y0 := hBm.cell (i := 0) rfl
      have y1 := hBm.cell (i := 1) rfl
      have y2 := hBm.cell (i := 2) rfl
      have y3 := hBm.cell (i := 3) rfl
      have yf := hBm.free
      have yl := hBm.lt
      have hKO : ∀ w', Calls Tryz.prog 22 #[.int .i64 5] w' (One w' (.int .i64 (2))) := fun w' => kidOf_ 5 (by omega) w'
      by_cases hkd : mk = 2
      · have hq1 : ((2 : Int) == (mk : Int)) = true := by simp; omega
        have hq2 : decide ((2 : Int) = (mk : Int)) = true := by simp; omega
        have hq3 : decide (2 = mk) = true := by simp; omega
        have hq4 : (2 == mk) = true := by simp; omega
        have HKD := Lib.hid hkd
        clear hkd
        refine Stab.keep_region (fun _ _ _ => True) (fun _ => false) (fun k => k == 2 || k == 7) Stab.pre_none (by kernel_rfl) (by kernel_rfl) fun hcx => ?_
        repeat (first
          | (refine Stab.quiet rfl rfl rfl (fun K hK => ?_); go_big_quiet_op; refine hK _ ?_; clear hK K)
          | (refine Stab.one rfl rfl rfl ?_
             apply Exists.intro
             refine ⟨fun w1 hw1 => ?_, fun K hK => ?_⟩
             · go_simp
               first | (go_at_call 22; exact hKO _)
             go_simp
             refine hK _ ?_
             clear hK K)
          | (refine Stab.skip rfl (fun K hK => ?_); go_simp; refine hK _ ?_; clear hK K))
        refine Stab.nil fun w6 hk6 _ => ?_
        have hkw6 := Stab.Keeps.trans hkw5 hk6
        have hBm6 := hBm.keep hk6
        have hBo6 := hBo5.keep hk6
        have hBt6 := hBt5.keep hk6
        have hG6 : GrowB B2 (w6.alloc (.cells #[.int .i64 mk, .int .i64 md, .slice mna mnn mnc, .slice mka mkn mkc] 25)) GmR 25 4 m (.slice al m c) ys := (hG5.keep gmS hk6).keep gmS ((Stab.Keeps.refl w6).alloc (.cells #[.int .i64 mk, .int .i64 md, .slice mna mnn mnc, .slice mka mkn mkc] 25))
        have hx6 : GmR (w6.alloc (.cells #[.int .i64 mk, .int .i64 md, .slice mna mnn mnc, .slice mka mkn mkc] 25)) (fun b => wr.heap.size + 1 ≤ b ∧ b < w4.heap.size) [.int .i64 mk, .int .i64 md, .slice mna mnn mnc, .slice mka mkn mkc] y := gmS.kf (gmS.kf hx5 (KF.keeps hk6)) ((KF.refl _ _).alloc _)
        have hs6 : w4.heap.size < w6.heap.size := by have := hk6.size; omega
        have hone : ∀ u ∈ ([.int .i64 mk, .int .i64 md, .slice mna mnn mnc, .slice mka mkn mkc] : List Value), u.oneCell' = true := hx6.ones
        clear hcx hBm hBo5 hBt5 hG5 hx5 hs5 hkw5 hk6 t0 t1 t2 t3 tf tl y0 y1 y2 y3 yf yl
        have t0 := hBt6.cell (i := 0) rfl
        have t1 := hBt6.cell (i := 1) rfl
        have t2 := hBt6.cell (i := 2) rfl
        have t3 := hBt6.cell (i := 3) rfl
        have tf := hBt6.free
        have tl := hBt6.lt
        have y0 := hBm6.cell (i := 0) rfl
        have y1 := hBm6.cell (i := 1) rfl
        have y2 := hBm6.cell (i := 2) rfl
        have y3 := hBm6.cell (i := 3) rfl
        have yf := hBm6.free
        have yl := hBm6.lt
        have HG6 := Lib.hid hG6
        clear hG6
        go_wp2_with (at_builtin; (refine append_growB (B := B2) gmS rfl _ _ 23 rfl 25 i0 _ 4 64 Tryz.underlying23 HI.out HZ0.out HZ1.out HZ2.out rfl (by decide) _ m ys rfl HG6.out ⟨w6.heap.size, 0, none⟩ 1 [.int .i64 mk, .int .i64 md, .slice mna mnn mnc, .slice mka mkn mkc] rfl rfl ?c1 hone ?c2 ?c3 y _ hx6 ?c4 ?c5 ?_))
        case c1 => exact new_cells _ _ _ _ rfl
        case c2 => unfold maxLen; omega
        case c3 => omega
        case c4 => exact fun b hb => ⟨by omega, by simp; omega⟩
        case c5 => exact fun g hg hb => by have := hown g hg; omega
        intro al' c' w7 hG7 hB7 hgr
        have hsz7 : w.heap.size + 1 + 1 + 1 ≤ w7.heap.size := by have := hB7.size; simp at this; omega
        have hBt7 : Blk w7 (w.heap.size + 1 + 1) 25 [.int .i64 5, .int .i64 d, .slice none 0 0, .slice al m c] := Blk.below (B := B2) (by with_reducible (repeat first | assumption | (refine Bx.n ⟨?_, ?_⟩ <;> focus (first | rfl | (simp; done) | omega)) | refine Bx.a ?_ _ | refine Bx.d ?_ | refine Bx.e ?_ _ | refine Bx.p (by first | omega | simp <;> omega) ?_)) hB7 (by omega)
        have hBo7 : Blk w7 (w.heap.size + 1) 25 [.int .i64 0, .int .i64 0, .slice none 0 0, .slice none 0 0] := Blk.below (B := B2) (by with_reducible (repeat first | assumption | (refine Bx.n ⟨?_, ?_⟩ <;> focus (first | rfl | (simp; done) | omega)) | refine Bx.a ?_ _ | refine Bx.d ?_ | refine Bx.e ?_ _ | refine Bx.p (by first | omega | simp <;> omega) ?_)) hB7 (by omega)
        have hBm7 : Blk w7 w4.heap.size 25 [.int .i64 mk, .int .i64 md, .slice mna mnn mnc, .slice mka mkn mkc] := Go.Kf.Blk.grown (by with_reducible (repeat first | assumption | (refine Bx.n ⟨?_, ?_⟩ <;> focus (first | rfl | (simp; done) | omega)) | refine Bx.a ?_ _ | refine Bx.d ?_ | refine Bx.e ?_ _ | refine Bx.p (by first | omega | simp <;> omega) ?_)) hgr (fun e => by have := hown _ e; omega)
        have hk7 : Stab.Keeps w w7 := Below.trans (Stab.Keeps.alloc hkw6 _) (Below.mono hB7 (by omega))
        clear hx6 HG6 hown hgr hB7 hBt6 hBo6 hBm6 hkw6 t0 t1 t2 t3 tf tl y0 y1 y2 y3 yf yl
        have hk8 : Stab.Keeps w (w7.setCell ⟨w.heap.size + 1 + 1, 3, none⟩ (.slice al' (m + 1) c')) := Stab.Keeps.setCell (by simp; omega) hk7 _
        have hBt8 := hBt7.set 3 (.slice al' (m + 1) c')
        simp only [List.set] at hBt8
        have hBo8 : Blk (w7.setCell ⟨w.heap.size + 1 + 1, 3, none⟩ (.slice al' (m + 1) c')) (w.heap.size + 1) 25 [.int .i64 0, .int .i64 0, .slice none 0 0, .slice none 0 0] := by with_reducible (repeat first | assumption | (refine Bx.n ⟨?_, ?_⟩ <;> focus (first | rfl | (simp; done) | omega)) | refine Bx.a ?_ _ | refine Bx.d ?_ | refine Bx.e ?_ _ | refine Bx.p (by first | omega | simp <;> omega) ?_)
        have hBm8 : Blk (w7.setCell ⟨w.heap.size + 1 + 1, 3, none⟩ (.slice al' (m + 1) c')) w4.heap.size 25 [.int .i64 mk, .int .i64 md, .slice mna mnn mnc, .slice mka mkn mkc] := by with_reducible (repeat first | assumption | (refine Bx.n ⟨?_, ?_⟩ <;> focus (first | rfl | (simp; done) | omega)) | refine Bx.a ?_ _ | refine Bx.d ?_ | refine Bx.e ?_ _ | refine Bx.p (by first | omega | simp <;> omega) ?_)
        have hG8 := hG7.kf gmS (w4 := w7.setCell ⟨w.heap.size + 1 + 1, 3, none⟩ (.slice al' (m + 1) c')) ((KF.refl _ _).set (fun h => by simp at h; omega))
        have hdd : bits .and .i64 (andD ys : Nat) md = ((andD (ys ++ [y]) : Nat) : Int) := by
          rw [andD_snoc, ← HMD.out]
          exact i64_andN _ _ (andD_lt _) hmd4
        have hys : ((kids.take (j + 1)).map newP).filter (takes 5) = ys ++ [y] := by rw [HSN.out, if_pos]; rw [takes_kid _ _ (by omega) (by omega) (by omega), ← HMK.out]; exact (by rw [HKD.out]; rfl)
        have HYS := Lib.hid hys
        clear hys hG7 hk7 HSN HMK HMD
        have t0 := hBt7.cell (i := 0) rfl
        have t1 := hBt7.cell (i := 1) rfl
        have t2 := hBt7.cell (i := 2) rfl
        have t3 := hBt7.cell (i := 3) rfl
        have tf := hBt7.free
        have tl := hBt7.lt
        go_upto_region 17 with (fail)
        generalize (w7.setCell ⟨w.heap.size + 1 + 1, 3, none⟩ (.slice al' (m + 1) c')) = W8 at *
        clear hBt7 hBo7 hBm7 t0 t1 t2 t3 tf tl
        have y0 := hBm8.cell (i := 0) rfl
        have y1 := hBm8.cell (i := 1) rfl
        have y2 := hBm8.cell (i := 2) rfl
        have y3 := hBm8.cell (i := 3) rfl
        have yf := hBm8.free
        have yl := hBm8.lt
        go_wp2_with fail
        exact ⟨⟨j + 1, m + 1, al', c', by omega, by omega, by simp, by rw [HYS.out], hk8, hBo8, hBt8, by rw [HYS.out]; exact hG8⟩, by simp [intOf]; omega⟩
      · have hq1 : ((2 : Int) == (mk : Int)) = false := by simp; omega
        have hq2 : decide ((2 : Int) = (mk : Int)) = false := by simp; omega
        have hq3 : decide (2 = mk) = false := by simp; omega
        have hq4 : (2 == mk) = false := by simp; omega
        have HKD := Lib.hid hkd
        clear hkd
        refine Stab.keep_region (fun _ _ _ => True) (fun _ => false) (fun k => k == 2 || k == 7) Stab.pre_none (by kernel_rfl) (by kernel_rfl) fun hcx => ?_
        repeat (first
          | (refine Stab.quiet rfl rfl rfl (fun K hK => ?_); go_big_quiet_op; refine hK _ ?_; clear hK K)
          | (refine Stab.one rfl rfl rfl ?_
             apply Exists.intro
             refine ⟨fun w1 hw1 => ?_, fun K hK => ?_⟩
             · go_simp
               first | (go_at_call 22; exact hKO _)
             go_simp
             refine hK _ ?_
             clear hK K)
          | (refine Stab.skip rfl (fun K hK => ?_); go_simp; refine hK _ ?_; clear hK K))
        refine Stab.nil fun w6 hk6 _ => ?_
        have hkw6 := Stab.Keeps.trans hkw5 hk6
        have hBo6 := hBo5.keep hk6
        have hBt6 := hBt5.keep hk6
        have hG6 : GrowB B2 w6 GmR 25 4 m (.slice al m c) ys := hG5.keep gmS hk6
        have hys : ((kids.take (j + 1)).map newP).filter (takes 5) = ys := by rw [HSN.out, if_neg]; rw [takes_kid _ _ (by omega) (by omega) (by omega), ← HMK.out]; simp only [kidI]; simp; have := HKD.out; omega
        have HYS := Lib.hid hys
        clear hys hcx hBm hBo5 hBt5 hG5 hx5 hs5 hkw5 hk6 t0 t1 t2 t3 tf tl y0 y1 y2 y3 yf yl HSN HMK HMD
        go_wp2_with fail
        exact ⟨⟨j + 1, m, al, c, by omega, by omega, by simp, by rw [HYS.out], hkw6, hBo6, hBt6, by rw [HYS.out]; exact hG6⟩, by simp [intOf]; omega⟩
    · obtain rfl : kn = j := by omega
      have hfull : kids.take kn = kids := List.take_of_length_le (by rw [HKN.out]; exact Nat.le_refl _)
      rw [hfull] at hG ⊢
      have hall : ∀ p ∈ (kids.map newP).filter (takes 5), PgOk p := fun p hp => by
        obtain ⟨r, hr, rfl⟩ := List.mem_map.1 (List.mem_filter.1 hp).1
        exact newP_ok r (HSM.out r hr)
      generalize (kids.map newP).filter (takes 5) = ys at *
      have hyl := hG.len
      have hsz := hk.size
      have hgl : B2 ≤ wr.heap.size := hG.size
      obtain ⟨css, hR⟩ := hG.toRows gmS
      have hokn : PgOk (.node 5 d [] ys) := .mk _ _ _ _ hd4 (by simp) (by simp) (by have := HKN.out; omega) hall
      have HOKN := Lib.hid hokn
      clear hG hfull hall hokn
      have HHS := Lib.hid hsz4
      rcases Nat.eq_zero_or_pos m with h0 | h0
      · subst h0
        have hy0 : ys = [] := List.length_eq_zero_iff.1 hyl
        subst hy0
        have t0 := hB2.cell (i := 0) rfl
        have t1 := hB2.cell (i := 1) rfl
        have t2 := hB2.cell (i := 2) rfl
        have t3 := hB2.cell (i := 3) rfl
        have tf := hB2.free
        have tl := hB2.lt
        have g0 := hB1.cell (i := 0) rfl
        have g1 := hB1.cell (i := 1) rfl
        have g2 := hB1.cell (i := 2) rfl
        have g3 := hB1.cell (i := 3) rfl
        have gf := hB1.free
        have gl := hB1.lt
        have hB1n := (((hB1.set 0 (.int .i64 5)).set 1 (.int .i64 d)).set 2 (.slice none 0 0)).set 3 (.slice al 0 c)
        simp only [List.set] at hB1n
        have hkf : ∀ (G : Nat → Prop), ¬ G (w.heap.size + 1) → KF G wr ((((wr.setCell ⟨w.heap.size + 1, 0, none⟩ (.int .i64 5)).setCell ⟨w.heap.size + 1, 1, none⟩ (.int .i64 d)).setCell ⟨w.heap.size + 1, 2, none⟩ (.slice none 0 0)).setCell ⟨w.heap.size + 1, 3, none⟩ (.slice al 0 c)) := fun G hG' => ((((KF.refl _ _).set hG').set hG').set hG').set hG'
        have hkz : Stab.Keeps w ((((wr.setCell ⟨w.heap.size + 1, 0, none⟩ (.int .i64 5)).setCell ⟨w.heap.size + 1, 1, none⟩ (.int .i64 d)).setCell ⟨w.heap.size + 1, 2, none⟩ (.slice none 0 0)).setCell ⟨w.heap.size + 1, 3, none⟩ (.slice al 0 c)) := by with_reducible (repeat first | exact Kx.r _ | assumption | refine Kx.a ?_ _ | refine Kx.d ?_ | refine Kx.e ?_ _ | refine Kx.s (by simp <;> omega) ?_ _ | refine Kx.t ?_ (by assumption))
        have hSzn := hR.sz.kf (hkf _ (fun h => by have := HHS.out; omega))
        have HR := Lib.hid hR
        clear hR
        go_wp2_with fail
        generalize ((((wr.setCell ⟨w.heap.size + 1, 0, none⟩ (.int .i64 5)).setCell ⟨w.heap.size + 1, 1, none⟩ (.int .i64 d)).setCell ⟨w.heap.size + 1, 2, none⟩ (.slice none 0 0)).setCell ⟨w.heap.size + 1, 3, none⟩ (.slice al 0 c)) = Wz at *
        clear hB1 hB2 t0 t1 t2 t3 tf tl g0 g1 g2 g3 gf gl hkf
        have y0 := hB1n.cell (i := 0) rfl
        have y1 := hB1n.cell (i := 1) rfl
        have y2 := hB1n.cell (i := 2) rfl
        have y3 := hB1n.cell (i := 3) rfl
        have yf := hB1n.free
        have yl := hB1n.lt
        refine bodyPost_ret (v := .agg #[.int .i64 5, .int .i64 d, .slice none 0 0, .slice al 0 c]) (by simp [results, Tryz.results13, go_sem, *]) rfl ⟨[.int .i64 (5 : Nat), .int .i64 d, .slice none 0 0, .slice al 0 c], rfl, hkz, ?_⟩
        exact .mk 5 d _ _ none al _ _ _ _ css rfl (SzF.nil _ _ _) HR.out.lc HR.out.lx HR.out.each (hSzn.mono fun b _ hb => .inr (by have := HHS.out; omega)) (fun i h1 h2 => by simp at h2)
      · have hne1 : ((m : Int) == 0) = false := by simp; omega
        have hne2 : (m == 0) = false := by simp; omega
        have hwp : wholeP 5 d ys = forceP (andD ys) (.node 5 d [] ys) := whole_force _ _ _ (fun e => by rw [e] at hyl; simp at hyl; omega)
        have hgm : GmR wr (fun b => B2 ≤ b) [.int .i64 (5 : Nat), .int .i64 d, .slice none 0 0, .slice al m c] (.node 5 d [] ys) := .mk 5 d _ _ none al _ _ _ _ css rfl (SzF.nil _ _ _) hR.lc hR.lx hR.each hR.sz hR.is
        have hF1 := sforce_ (andD ys) (andD_lt _) (.node 5 d [] ys) HOKN.out _ _ wr hgm
        have HWP := Lib.hid hwp
        clear hR hgm hwp
        have t0 := hB2.cell (i := 0) rfl
        have t1 := hB2.cell (i := 1) rfl
        have t2 := hB2.cell (i := 2) rfl
        have t3 := hB2.cell (i := 3) rfl
        have tf := hB2.free
        have tl := hB2.lt
        go_wp2_with fail
        refine hF1.mono ?_
        clear hF1
        rintro e w5 ⟨cs5, rfl, hk5, hx5⟩
        obtain ⟨zk, zd, zna, znn, znc, zka, zkn, zkc, rfl⟩ := hx5.four
        have hB15 := hB1.keep hk5
        have hkw5 := Stab.Keeps.trans hk hk5
        have hs5 := hk5.size
        clear hB1 hB2 t0 t1 t2 t3 tf tl hk hk5
        have g0 := hB15.cell (i := 0) rfl
        have g1 := hB15.cell (i := 1) rfl
        have g2 := hB15.cell (i := 2) rfl
        have g3 := hB15.cell (i := 3) rfl
        have gf := hB15.free
        have gl := hB15.lt
        have hB1n := (((hB15.set 0 (.int .i64 zk)).set 1 (.int .i64 zd)).set 2 (.slice zna znn znc)).set 3 (.slice zka zkn zkc)
        simp only [List.set] at hB1n
        have hkf : ∀ (G : Nat → Prop), ¬ G (w.heap.size + 1) → KF G w5 ((((w5.setCell ⟨w.heap.size + 1, 0, none⟩ (.int .i64 zk)).setCell ⟨w.heap.size + 1, 1, none⟩ (.int .i64 zd)).setCell ⟨w.heap.size + 1, 2, none⟩ (.slice zna znn znc)).setCell ⟨w.heap.size + 1, 3, none⟩ (.slice zka zkn zkc)) := fun G hG' => ((((KF.refl _ _).set hG').set hG').set hG').set hG'
        have hkz : Stab.Keeps w ((((w5.setCell ⟨w.heap.size + 1, 0, none⟩ (.int .i64 zk)).setCell ⟨w.heap.size + 1, 1, none⟩ (.int .i64 zd)).setCell ⟨w.heap.size + 1, 2, none⟩ (.slice zna znn znc)).setCell ⟨w.heap.size + 1, 3, none⟩ (.slice zka zkn zkc)) := by with_reducible (repeat first | exact Kx.r _ | assumption | refine Kx.a ?_ _ | refine Kx.d ?_ | refine Kx.e ?_ _ | refine Kx.s (by simp <;> omega) ?_ _ | refine Kx.t ?_ (by assumption))
        have hxn := gmS.kf (gmS.mono hx5 (fun b _ hb => hb.elim (fun h => h.elim) (fun h => h))) (hkf _ (fun h => by have := HHS.out; omega))
        clear hx5
        go_wp2_with fail
        generalize ((((w5.setCell ⟨w.heap.size + 1, 0, none⟩ (.int .i64 zk)).setCell ⟨w.heap.size + 1, 1, none⟩ (.int .i64 zd)).setCell ⟨w.heap.size + 1, 2, none⟩ (.slice zna znn znc)).setCell ⟨w.heap.size + 1, 3, none⟩ (.slice zka zkn zkc)) = Wz at *
        clear hB15 g0 g1 g2 g3 gf gl hkf
        have y0 := hB1n.cell (i := 0) rfl
        have y1 := hB1n.cell (i := 1) rfl
        have y2 := hB1n.cell (i := 2) rfl
        have y3 := hB1n.cell (i := 3) rfl
        have yf := hB1n.free
        have yl := hB1n.lt
        refine bodyPost_ret (v := .agg #[.int .i64 zk, .int .i64 zd, .slice zna znn znc, .slice zka zkn zkc]) (by simp [results, Tryz.results13, go_sem, *]) rfl ⟨[.int .i64 zk, .int .i64 zd, .slice zna znn znc, .slice zka zkn zkc], rfl, hkz, ?_⟩
        rw [HWP.out]
        exact gmS.mono hxn (fun b _ hb => .inr (by have := HHS.out; omega))
set_option maxRecDepth 100000 in
set_option maxHeartbeats 4000000 in
theorem newWh6_ (t : GT) (w : World) (hA : t.At w) (hs : t.Small) (hk : t.hd.kind = 6) (ih : ∀ c ∈ t.kids, SNew c) : Calls Tryz.prog 13 #[t.hd.val] w (RetR w no GmR (newP t)) := by
  obtain ⟨i0, hi, hz0, hz1, hz2⟩ := info_parts infoGm
  have HI := Lib.hid hi
  have HZ0 := Lib.hid hz0
  have HZ1 := Lib.hid hz1
  have HZ2 := Lib.hid hz2
  clear hi hz0 hz1 hz2
  have HOK := Lib.hid (newP_ok t hs)
  cases hA with
  | mk h nums kids hn hkn h1 h2 h3 =>
  obtain ⟨kind, dim, na, nn, nc, ka, kn, kc⟩ := h
  simp only [GT.hd] at hk hn hkn h1 h2 ⊢
  subst hk
  have hkk : kids.length ≤ 1000 := hs.few
  have hkid := hs.kid
  rw [newP_whole _ _ _ (by show kindN (6 : Int) ≠ 1; decide) (by show kindN (6 : Int) ≠ 2; decide)] at HOK ⊢
  simp only [Gm.val]
  have hK : kindN (6 : Int) = 6 := by decide
  simp only [hK] at HOK ⊢
  have hd4 := dim4_lt dim
  have hband : bits .and .i64 dim 3 = (dim4 dim : Int) := by rw [i64_and3]; unfold dim4; omega
  generalize hde : dim4 dim = d at *
  have hle := h2.le
  have hmx := h2.max
  unfold maxLen at hmx
  have HKN := Lib.hid hkn
  have HIH := Lib.hid ih
  have HK3 := Lib.hid h3
  have HSM := Lib.hid hkid
  clear hde hs h1 hn hkn ih h3 hkid hK
  go_enter Tryz.func13, Tryz.ntmps13
  go_wp2_with fail
  have hs1 : (((w.alloc (.cells #[.int .i64 6, .int .i64 dim, .slice na nn nc, .slice ka kn kc] 25)).alloc (.cells #[.int .i64 0, .int .i64 0, .slice none 0 0, .slice none 0 0] 25)).alloc (.cells #[.int .i64 6, .int .i64 d, .slice none 0 0, .slice none 0 0] 25)).heap.size = w.heap.size + 1 + 1 + 1 := by simp
  have hB0 : Blk (((w.alloc (.cells #[.int .i64 6, .int .i64 dim, .slice na nn nc, .slice ka kn kc] 25)).alloc (.cells #[.int .i64 0, .int .i64 0, .slice none 0 0, .slice none 0 0] 25)).alloc (.cells #[.int .i64 6, .int .i64 d, .slice none 0 0, .slice none 0 0] 25)) w.heap.size 25 [.int .i64 6, .int .i64 dim, .slice na nn nc, .slice ka kn kc] := by with_reducible (repeat first | assumption | (refine Bx.n ⟨?_, ?_⟩ <;> focus (first | rfl | (simp; done) | omega)) | refine Bx.a ?_ _ | refine Bx.d ?_ | refine Bx.e ?_ _ | refine Bx.p (by first | omega | simp <;> omega) ?_)
  have hB1 : Blk (((w.alloc (.cells #[.int .i64 6, .int .i64 dim, .slice na nn nc, .slice ka kn kc] 25)).alloc (.cells #[.int .i64 0, .int .i64 0, .slice none 0 0, .slice none 0 0] 25)).alloc (.cells #[.int .i64 6, .int .i64 d, .slice none 0 0, .slice none 0 0] 25)) (w.heap.size + 1) 25 [.int .i64 0, .int .i64 0, .slice none 0 0, .slice none 0 0] := by with_reducible (repeat first | assumption | (refine Bx.n ⟨?_, ?_⟩ <;> focus (first | rfl | (simp; done) | omega)) | refine Bx.a ?_ _ | refine Bx.d ?_ | refine Bx.e ?_ _ | refine Bx.p (by first | omega | simp <;> omega) ?_)
  have hB2 : Blk (((w.alloc (.cells #[.int .i64 6, .int .i64 dim, .slice na nn nc, .slice ka kn kc] 25)).alloc (.cells #[.int .i64 0, .int .i64 0, .slice none 0 0, .slice none 0 0] 25)).alloc (.cells #[.int .i64 6, .int .i64 d, .slice none 0 0, .slice none 0 0] 25)) (w.heap.size + 1 + 1) 25 [.int .i64 6, .int .i64 d, .slice none 0 0, .slice none 0 0] := by with_reducible (repeat first | assumption | (refine Bx.n ⟨?_, ?_⟩ <;> focus (first | rfl | (simp; done) | omega)) | refine Bx.a ?_ _ | refine Bx.d ?_ | refine Bx.e ?_ _ | refine Bx.p (by first | omega | simp <;> omega) ?_)
  have hkw : Stab.Keeps w (((w.alloc (.cells #[.int .i64 6, .int .i64 dim, .slice na nn nc, .slice ka kn kc] 25)).alloc (.cells #[.int .i64 0, .int .i64 0, .slice none 0 0, .slice none 0 0] 25)).alloc (.cells #[.int .i64 6, .int .i64 d, .slice none 0 0, .slice none 0 0] 25)) := by with_reducible (repeat first | exact Kx.r _ | assumption | refine Kx.a ?_ _ | refine Kx.d ?_ | refine Kx.e ?_ _ | refine Kx.s (by simp <;> omega) ?_ _ | refine Kx.t ?_ (by assumption))
  generalize (((w.alloc (.cells #[.int .i64 6, .int .i64 dim, .slice na nn nc, .slice ka kn kc] 25)).alloc (.cells #[.int .i64 0, .int .i64 0, .slice none 0 0, .slice none 0 0] 25)).alloc (.cells #[.int .i64 6, .int .i64 d, .slice none 0 0, .slice none 0 0] 25)) = W0 at *
  refine (leaf_ 6 (by omega) _).mono ?_
  rintro e w4 ⟨rfl, hk4⟩
  have hB04 := hB0.keep hk4
  have hB14 := hB1.keep hk4
  have hB24 := hB2.keep hk4
  have hkw4 : Stab.Keeps w w4 := hkw.trans hk4
  have hsz4 : w.heap.size + 1 + 1 + 1 ≤ w4.heap.size := by have := hk4.size; omega
  clear hB0 hB1 hB2 hkw hk4 hs1
  have g0 := hB04.cell (i := 0) rfl
  have g1 := hB04.cell (i := 1) rfl
  have g2 := hB04.cell (i := 2) rfl
  have g3 := hB04.cell (i := 3) rfl
  have gf := hB04.free
  have gl := hB04.lt
  go_wp2_with fail
  generalize hB2e : w4.heap.size = B2 at *
  have HB2 := Lib.hid hB2e
  clear hB2e
  have hG0 : GrowB B2 w4 GmR 25 4 0 (.slice none 0 0) (((kids.take 0).map newP).filter (takes 6)) := by simpa using GrowB.nil B2 w4 GmR 25 4 (by have := HB2.out; omega)
  go_loopw [5, 55] (fun dv iv wr => ∃ (j m : Nat) (al : Option Addr) (c : Nat), j ≤ kn ∧ m ≤ j ∧ iv = .int .i64 j ∧ dv = .int .i64 (andD (((kids.take j).map newP).filter (takes 6)) : Nat) ∧ Stab.Keeps w wr ∧ Blk wr (w.heap.size + 1) 25 [.int .i64 0, .int .i64 0, .slice none 0 0, .slice none 0 0] ∧ Blk wr (w.heap.size + 1 + 1) 25 [.int .i64 6, .int .i64 d, .slice none 0 0, .slice al m c] ∧ GrowB B2 wr GmR 25 4 m (.slice al m c) (((kids.take j).map newP).filter (takes 6))) (fun _ iv _ => kn - (intOf iv).toNat)
  case atStart => exact ⟨0, 0, none, 0, by omega, by omega, rfl, rfl, hkw4, hB14, hB24, hG0⟩
  case round =>
    clear hB04 hB14 hB24 hkw4 hG0 g0 g1 g2 g3 gf gl
    obtain ⟨j, m, al, c, hj, hmj, rfl, rfl, hk, hB1, hB2, hG⟩ := hrel
    by_cases hlt : j < kn
    · obtain ⟨b, off, ha, hb, hc⟩ := (h2.keep hk).elem hlt
      subst ha
      have hki : j < kids.length := by have := HKN.out; omega
      have e0 : wr.cell? ⟨b, off + j * 4, none⟩ = some (.int .i64 kids[j].hd.kind) := hc 0 _ (by omega) (by rw [flat_get GT.cells 4 GT.cells_len kids j 0 hki (by omega)]; rfl)
      have e1 : wr.cell? ⟨b, off + j * 4 + 1, none⟩ = some (.int .i64 kids[j].hd.dim) := hc 1 _ (by omega) (by rw [flat_get GT.cells 4 GT.cells_len kids j 1 hki (by omega)]; rfl)
      have e2 : wr.cell? ⟨b, off + j * 4 + 2, none⟩ = some (.slice kids[j].hd.na kids[j].hd.nn kids[j].hd.nc) := hc 2 _ (by omega) (by rw [flat_get GT.cells 4 GT.cells_len kids j 2 hki (by omega)]; rfl)
      have e3 : wr.cell? ⟨b, off + j * 4 + 3, none⟩ = some (.slice kids[j].hd.ka kids[j].hd.kn kids[j].hd.kc) := hc 3 _ (by omega) (by rw [flat_get GT.cells 4 GT.cells_len kids j 3 hki (by omega)]; rfl)
      have hM1 := fun w' (hk' : Stab.Keeps w w') => HIH.out kids[j] (List.getElem_mem _) w' ((HK3.out _ (List.getElem_mem _)).keep hk') (HSM.out _ (List.getElem_mem _))
      have hd4y : (newP kids[j]).dim < 4 := (newP_ok _ (HSM.out _ (List.getElem_mem _))).dim4
      have hsn : ((kids.take (j + 1)).map newP).filter (takes 6) = if takes 6 (newP kids[j]) then ((kids.take j).map newP).filter (takes 6) ++ [newP kids[j]] else ((kids.take j).map newP).filter (takes 6) := by rw [List.take_succ_eq_append_getElem hki, List.map_append]; exact filter_snoc _ _ _
      have HSN := Lib.hid hsn
      clear hc hsn
      generalize kids[j] = x at *
      obtain ⟨⟨xk, xd, xna, xnn, xnc, xka, xkn, xkc⟩, xnums, xkids⟩ := x
      simp only [GT.hd, Gm.val] at hM1 e0 e1 e2 e3
      generalize hxe : (GT.node ⟨xk, xd, xna, xnn, xnc, xka, xkn, xkc⟩ xnums xkids) = X at *
      clear hxe
      generalize newP X = y at *
      generalize hYe : ((kids.take j).map newP).filter (takes 6) = ys at *
      have hgl : B2 ≤ wr.heap.size := hG.size
      have hown : ∀ g, (Value.slice al m c).ownBlock = some g → g < wr.heap.size := fun g hg => (hG.own hg).2
      have hkx : Stab.Keeps w (wr.alloc (.cells #[.int .i64 xk, .int .i64 xd, .slice xna xnn xnc, .slice xka xkn xkc] 25)) := by with_reducible (repeat first | exact Kx.r _ | assumption | refine Kx.a ?_ _ | refine Kx.d ?_ | refine Kx.e ?_ _ | refine Kx.s (by simp <;> omega) ?_ _ | refine Kx.t ?_ (by assumption))
      have hbx : wr.heap.size + 1 = (wr.alloc (.cells #[.int .i64 xk, .int .i64 xd, .slice xna xnn xnc, .slice xka xkn xkc] 25)).heap.size := by simp
      go_wp2_with fail
      refine (hM1 _ hkx).mono ?_
      clear hM1
      rintro e w4 ⟨cs4, rfl, hk4, hx4⟩
      have hkw4 := Stab.Keeps.trans hkx hk4
      have hkr4 : Stab.Keeps wr w4 := Stab.Keeps.trans (Stab.Keeps.alloc (Stab.Keeps.refl _) _) hk4
      obtain ⟨mk, md, mna, mnn, mnc, mka, mkn, mkc, rfl⟩ := hx4.four
      have hxd := hx4.kd
      have hmk : mk = y.kind := by have := hxd.1; omega
      have hmd : md = y.dim := by have := hxd.2; omega
      have hmd4 : md < 4 := by omega
      have hgs := hk4.size
      have hgs2 : wr.heap.size + 1 ≤ w4.heap.size := by omega
      have hBo := hB1.keep hkr4
      have hBt := hB2.keep hkr4
      have hGk := hG.keep gmS hkr4
      clear hB1 hB2 hG e0 e1 e2 e3 hk4 hkx hk hxd hgs hbx hkr4
      have HMK := Lib.hid hmk
      have HMD := Lib.hid hmd
      clear hmk hmd
      go_wp2_with fail
      have hkw5 : Stab.Keeps w (w4.alloc (.cells #[.int .i64 mk, .int .i64 md, .slice mna mnn mnc, .slice mka mkn mkc] 25)) := by with_reducible (repeat first | exact Kx.r _ | assumption | refine Kx.a ?_ _ | refine Kx.d ?_ | refine Kx.e ?_ _ | refine Kx.s (by simp <;> omega) ?_ _ | refine Kx.t ?_ (by assumption))
      have hBm : Blk (w4.alloc (.cells #[.int .i64 mk, .int .i64 md, .slice mna mnn mnc, .slice mka mkn mkc] 25)) w4.heap.size 25 [.int .i64 mk, .int .i64 md, .slice mna mnn mnc, .slice mka mkn mkc] := by with_reducible (repeat first | assumption | (refine Bx.n ⟨?_, ?_⟩ <;> focus (first | rfl | (simp; done) | omega)) | refine Bx.a ?_ _ | refine Bx.d ?_ | refine Bx.e ?_ _ | refine Bx.p (by first | omega | simp <;> omega) ?_)
      have hBo5 : Blk (w4.alloc (.cells #[.int .i64 mk, .int .i64 md, .slice mna mnn mnc, .slice mka mkn mkc] 25)) (w.heap.size + 1) 25 [.int .i64 0, .int .i64 0, .slice none 0 0, .slice none 0 0] := by with_reducible (repeat first | assumption | (refine Bx.n ⟨?_, ?_⟩ <;> focus (first | rfl | (simp; done) | omega)) | refine Bx.a ?_ _ | refine Bx.d ?_ | refine Bx.e ?_ _ | refine Bx.p (by first | omega | simp <;> omega) ?_)
      have hBt5 : Blk (w4.alloc (.cells #[.int .i64 mk, .int .i64 md, .slice mna mnn mnc, .slice mka mkn mkc] 25)) (w.heap.size + 1 + 1) 25 [.int .i64 6, .int .i64 d, .slice none 0 0, .slice al m c] := by with_reducible (repeat first | assumption | (refine Bx.n ⟨?_, ?_⟩ <;> focus (first | rfl | (simp; done) | omega)) | refine Bx.a ?_ _ | refine Bx.d ?_ | refine Bx.e ?_ _ | refine Bx.p (by first | omega | simp <;> omega) ?_)
      have hG5 : GrowB B2 (w4.alloc (.cells #[.int .i64 mk, .int .i64 md, .slice mna mnn mnc, .slice mka mkn mkc] 25)) GmR 25 4 m (.slice al m c) ys := hGk.keep gmS (by with_reducible (repeat first | exact Kx.r _ | assumption | refine Kx.a ?_ _ | refine Kx.d ?_ | refine Kx.e ?_ _ | refine Kx.s (by simp <;> omega) ?_ _ | refine Kx.t ?_ (by assumption)))
      have hx5 : GmR (w4.alloc (.cells #[.int .i64 mk, .int .i64 md, .slice mna mnn mnc, .slice mka mkn mkc] 25)) (fun b => wr.heap.size + 1 ≤ b ∧ b < w4.heap.size) [.int .i64 mk, .int .i64 md, .slice mna mnn mnc, .slice mka mkn mkc] y := gmS.kf (gmS.mono hx4 (fun b hb hf => hf.elim (fun h => h.elim) (fun h => ⟨by simpa using h, hb⟩))) ((KF.refl _ _).alloc _)
      have hs5 : w4.heap.size < (w4.alloc (.cells #[.int .i64 mk, .int .i64 md, .slice mna mnn mnc, .slice mka mkn mkc] 25)).heap.size := by simp
      generalize (w4.alloc (.cells #[.int .i64 mk, .int .i64 md, .slice mna mnn mnc, .slice mka mkn mkc] 25)) = W5 at *
      clear hkw4 hx4 hBo hBt hGk
      have t0 := hBt5.cell (i := 0) rfl
      have t1 := hBt5.cell (i := 1) rfl
      have t2 := hBt5.cell (i := 2) rfl
      have t3 := hBt5.cell (i := 3) rfl
      have tf := hBt5.free
      have tl := hBt5.lt
      have y0 := hBm.cell (i := 0) rfl
      have y1 := hBm.cell (i := 1) rfl
      have y2 := hBm.cell (i := 2) rfl
      have y3 := hBm.cell (i := 3) rfl
      have yf := hBm.free
      have yl := hBm.lt
      have hKO : ∀ w', Calls Tryz.prog 22 #[.int .i64 6] w' (One w' (.int .i64 (3))) := fun w' => kidOf_ 6 (by omega) w'
      by_cases hkd : mk = 3
      · have hq1 : ((3 : Int) == (mk : Int)) = true := by simp; omega
        have hq2 : decide ((3 : Int) = (mk : Int)) = true := by simp; omega
        have hq3 : decide (3 = mk) = true := by simp; omega
        have hq4 : (3 == mk) = true := by simp; omega
        have HKD := Lib.hid hkd
        clear hkd
        refine Stab.keep_region (fun _ _ _ => True) (fun _ => false) (fun k => k == 2 || k == 7) Stab.pre_none (by kernel_rfl) (by kernel_rfl) fun hcx => ?_
        repeat (first
          | (refine Stab.quiet rfl rfl rfl (fun K hK => ?_); go_big_quiet_op; refine hK _ ?_; clear hK K)
          | (refine Stab.one rfl rfl rfl ?_
             apply Exists.intro
             refine ⟨fun w1 hw1 => ?_, fun K hK => ?_⟩
             · go_simp
               first | (go_at_call 22; exact hKO _)
             go_simp
             refine hK _ ?_
             clear hK K)
          | (refine Stab.skip rfl (fun K hK => ?_); go_simp; refine hK _ ?_; clear hK K))
        refine Stab.nil fun w6 hk6 _ => ?_
        have hkw6 := Stab.Keeps.trans hkw5 hk6
        have hBm6 := hBm.keep hk6
        have hBo6 := hBo5.keep hk6
        have hBt6 := hBt5.keep hk6
        have hG6 : GrowB B2 (w6.alloc (.cells #[.int .i64 mk, .int .i64 md, .slice mna mnn mnc, .slice mka mkn mkc] 25)) GmR 25 4 m (.slice al m c) ys := (hG5.keep gmS hk6).keep gmS ((Stab.Keeps.refl w6).alloc (.cells #[.int .i64 mk, .int .i64 md, .slice mna mnn mnc, .slice mka mkn mkc] 25))
        have hx6 : GmR (w6.alloc (.cells #[.int .i64 mk, .int .i64 md, .slice mna mnn mnc, .slice mka mkn mkc] 25)) (fun b => wr.heap.size + 1 ≤ b ∧ b < w4.heap.size) [.int .i64 mk, .int .i64 md, .slice mna mnn mnc, .slice mka mkn mkc] y := gmS.kf (gmS.kf hx5 (KF.keeps hk6)) ((KF.refl _ _).alloc _)
        have hs6 : w4.heap.size < w6.heap.size := by have := hk6.size; omega
        have hone : ∀ u ∈ ([.int .i64 mk, .int .i64 md, .slice mna mnn mnc, .slice mka mkn mkc] : List Value), u.oneCell' = true := hx6.ones
        clear hcx hBm hBo5 hBt5 hG5 hx5 hs5 hkw5 hk6 t0 t1 t2 t3 tf tl y0 y1 y2 y3 yf yl
        have t0 := hBt6.cell (i := 0) rfl
        have t1 := hBt6.cell (i := 1) rfl
        have t2 := hBt6.cell (i := 2) rfl
        have t3 := hBt6.cell (i := 3) rfl
        have tf := hBt6.free
        have tl := hBt6.lt
        have y0 := hBm6.cell (i := 0) rfl
        have y1 := hBm6.cell (i := 1) rfl
        have y2 := hBm6.cell (i := 2) rfl
        have y3 := hBm6.cell (i := 3) rfl
        have yf := hBm6.free
        have yl := hBm6.lt
        have HG6 := Lib.hid hG6
        clear hG6
        go_wp2_with (at_builtin; (refine append_growB (B := B2) gmS rfl _ _ 23 rfl 25 i0 _ 4 64 Tryz.underlying23 HI.out HZ0.out HZ1.out HZ2.out rfl (by decide) _ m ys rfl HG6.out ⟨w6.heap.size, 0, none⟩ 1 [.int .i64 mk, .int .i64 md, .slice mna mnn mnc, .slice mka mkn mkc] rfl rfl ?c1 hone ?c2 ?c3 y _ hx6 ?c4 ?c5 ?_))
        case c1 => exact new_cells _ _ _ _ rfl
        case c2 => unfold maxLen; omega
        case c3 => omega
        case c4 => exact fun b hb => ⟨by omega, by simp; omega⟩
        case c5 => exact fun g hg hb => by have := hown g hg; omega
        intro al' c' w7 hG7 hB7 hgr
        have hsz7 : w.heap.size + 1 + 1 + 1 ≤ w7.heap.size := by have := hB7.size; simp at this; omega
        have hBt7 : Blk w7 (w.heap.size + 1 + 1) 25 [.int .i64 6, .int .i64 d, .slice none 0 0, .slice al m c] := Blk.below (B := B2) (by with_reducible (repeat first | assumption | (refine Bx.n ⟨?_, ?_⟩ <;> focus (first | rfl | (simp; done) | omega)) | refine Bx.a ?_ _ | refine Bx.d ?_ | refine Bx.e ?_ _ | refine Bx.p (by first | omega | simp <;> omega) ?_)) hB7 (by omega)
        have hBo7 : Blk w7 (w.heap.size + 1) 25 [.int .i64 0, .int .i64 0, .slice none 0 0, .slice none 0 0] := Blk.below (B := B2) (by with_reducible (repeat first | assumption | (refine Bx.n ⟨?_, ?_⟩ <;> focus (first | rfl | (simp; done) | omega)) | refine Bx.a ?_ _ | refine Bx.d ?_ | refine Bx.e ?_ _ | refine Bx.p (by first | omega | simp <;> omega) ?_)) hB7 (by omega)
        have hBm7 : Blk w7 w4.heap.size 25 [.int .i64 mk, .int .i64 md, .slice mna mnn mnc, .slice mka mkn mkc] := Go.Kf.Blk.grown (by with_reducible (repeat first | assumption | (refine Bx.n ⟨?_, ?_⟩ <;> focus (first | rfl | (simp; done) | omega)) | refine Bx.a ?_ _ | refine Bx.d ?_ | refine Bx.e ?_ _ | refine Bx.p (by first | omega | simp <;> omega) ?_)) hgr (fun e => by have := hown _ e; omega)
        have hk7 : Stab.Keeps w w7 := Below.trans (Stab.Keeps.alloc hkw6 _) (Below.mono hB7 (by omega))
        clear hx6 HG6 hown hgr hB7 hBt6 hBo6 hBm6 hkw6 t0 t1 t2 t3 tf tl y0 y1 y2 y3 yf yl
        have hk8 : Stab.Keeps w (w7.setCell ⟨w.heap.size + 1 + 1, 3, none⟩ (.slice al' (m + 1) c')) := Stab.Keeps.setCell (by simp; omega) hk7 _
        have hBt8 := hBt7.set 3 (.slice al' (m + 1) c')
        simp only [List.set] at hBt8
        have hBo8 : Blk (w7.setCell ⟨w.heap.size + 1 + 1, 3, none⟩ (.slice al' (m + 1) c')) (w.heap.size + 1) 25 [.int .i64 0, .int .i64 0, .slice none 0 0, .slice none 0 0] := by with_reducible (repeat first | assumption | (refine Bx.n ⟨?_, ?_⟩ <;> focus (first | rfl | (simp; done) | omega)) | refine Bx.a ?_ _ | refine Bx.d ?_ | refine Bx.e ?_ _ | refine Bx.p (by first | omega | simp <;> omega) ?_)
        have hBm8 : Blk (w7.setCell ⟨w.heap.size + 1 + 1, 3, none⟩ (.slice al' (m + 1) c')) w4.heap.size 25 [.int .i64 mk, .int .i64 md, .slice mna mnn mnc, .slice mka mkn mkc] := by with_reducible (repeat first | assumption | (refine Bx.n ⟨?_, ?_⟩ <;> focus (first | rfl | (simp; done) | omega)) | refine Bx.a ?_ _ | refine Bx.d ?_ | refine Bx.e ?_ _ | refine Bx.p (by first | omega | simp <;> omega) ?_)
        have hG8 := hG7.kf gmS (w4 := w7.setCell ⟨w.heap.size + 1 + 1, 3, none⟩ (.slice al' (m + 1) c')) ((KF.refl _ _).set (fun h => by simp at h; omega))
        have hdd : bits .and .i64 (andD ys : Nat) md = ((andD (ys ++ [y]) : Nat) : Int) := by
          rw [andD_snoc, ← HMD.out]
          exact i64_andN _ _ (andD_lt _) hmd4
        have hys : ((kids.take (j + 1)).map newP).filter (takes 6) = ys ++ [y] := by rw [HSN.out, if_pos]; rw [takes_kid _ _ (by omega) (by omega) (by omega), ← HMK.out]; exact (by rw [HKD.out]; rfl)
        have HYS := Lib.hid hys
        clear hys hG7 hk7 HSN HMK HMD
        have t0 := hBt7.cell (i := 0) rfl
        have t1 := hBt7.cell (i := 1) rfl
        have t2 := hBt7.cell (i := 2) rfl
        have t3 := hBt7.cell (i := 3) rfl
        have tf := hBt7.free
        have tl := hBt7.lt
        go_upto_region 17 with (fail)
        generalize (w7.setCell ⟨w.heap.size + 1 + 1, 3, none⟩ (.slice al' (m + 1) c')) = W8 at *
        clear hBt7 hBo7 hBm7 t0 t1 t2 t3 tf tl
        have y0 := hBm8.cell (i := 0) rfl
        have y1 := hBm8.cell (i := 1) rfl
        have y2 := hBm8.cell (i := 2) rfl
        have y3 := hBm8.cell (i := 3) rfl
        have yf := hBm8.free
        have yl := hBm8.lt
        go_wp2_with fail
        exact ⟨⟨j + 1, m + 1, al', c', by omega, by omega, by simp, by rw [HYS.out], hk8, hBo8, hBt8, by rw [HYS.out]; exact hG8⟩, by simp [intOf]; omega⟩
      · have hq1 : ((3 : Int) == (mk : Int)) = false := by simp; omega
        have hq2 : decide ((3 : Int) = (mk : Int)) = false := by simp; omega
        have hq3 : decide (3 = mk) = false := by simp; omega
        have hq4 : (3 == mk) = false := by simp; omega
        have HKD := Lib.hid hkd
        clear hkd
        refine Stab.keep_region (fun _ _ _ => True) (fun _ => false) (fun k => k == 2 || k == 7) Stab.pre_none (by kernel_rfl) (by kernel_rfl) fun hcx => ?_
        repeat (first
          | (refine Stab.quiet rfl rfl rfl (fun K hK => ?_); go_big_quiet_op; refine hK _ ?_; clear hK K)
          | (refine Stab.one rfl rfl rfl ?_
             apply Exists.intro
             refine ⟨fun w1 hw1 => ?_, fun K hK => ?_⟩
             · go_simp
               first | (go_at_call 22; exact hKO _)
             go_simp
             refine hK _ ?_
             clear hK K)
          | (refine Stab.skip rfl (fun K hK => ?_); go_simp; refine hK _ ?_; clear hK K))
        refine Stab.nil fun w6 hk6 _ => ?_
        have hkw6 := Stab.Keeps.trans hkw5 hk6
        have hBo6 := hBo5.keep hk6
        have hBt6 := hBt5.keep hk6
        have hG6 : GrowB B2 w6 GmR 25 4 m (.slice al m c) ys := hG5.keep gmS hk6
        have hys : ((kids.take (j + 1)).map newP).filter (takes 6) = ys := by rw [HSN.out, if_neg]; rw [takes_kid _ _ (by omega) (by omega) (by omega), ← HMK.out]; simp only [kidI]; simp; have := HKD.out; omega
        have HYS := Lib.hid hys
        clear hys hcx hBm hBo5 hBt5 hG5 hx5 hs5 hkw5 hk6 t0 t1 t2 t3 tf tl y0 y1 y2 y3 yf yl HSN HMK HMD
        go_wp2_with fail
        exact ⟨⟨j + 1, m, al, c, by omega, by omega, by simp, by rw [HYS.out], hkw6, hBo6, hBt6, by rw [HYS.out]; exact hG6⟩, by simp [intOf]; omega⟩
    · obtain rfl : kn = j := by omega
      have hfull : kids.take kn = kids := List.take_of_length_le (by rw [HKN.out]; exact Nat.le_refl _)
      rw [hfull] at hG ⊢
      have hall : ∀ p ∈ (kids.map newP).filter (takes 6), PgOk p := fun p hp => by
        obtain ⟨r, hr, rfl⟩ := List.mem_map.1 (List.mem_filter.1 hp).1
        exact newP_ok r (HSM.out r hr)
      generalize (kids.map newP).filter (takes 6) = ys at *
      have hyl := hG.len
      have hsz := hk.size
      have hgl : B2 ≤ wr.heap.size := hG.size
      obtain ⟨css, hR⟩ := hG.toRows gmS
      have hokn : PgOk (.node 6 d [] ys) := .mk _ _ _ _ hd4 (by simp) (by simp) (by have := HKN.out; omega) hall
      have HOKN := Lib.hid hokn
      clear hG hfull hall hokn
      have HHS := Lib.hid hsz4
      rcases Nat.eq_zero_or_pos m with h0 | h0
      · subst h0
        have hy0 : ys = [] := List.length_eq_zero_iff.1 hyl
        subst hy0
        have t0 := hB2.cell (i := 0) rfl
        have t1 := hB2.cell (i := 1) rfl
        have t2 := hB2.cell (i := 2) rfl
        have t3 := hB2.cell (i := 3) rfl
        have tf := hB2.free
        have tl := hB2.lt
        have g0 := hB1.cell (i := 0) rfl
        have g1 := hB1.cell (i := 1) rfl
        have g2 := hB1.cell (i := 2) rfl
        have g3 := hB1.cell (i := 3) rfl
        have gf := hB1.free
        have gl := hB1.lt
        have hB1n := (((hB1.set 0 (.int .i64 6)).set 1 (.int .i64 d)).set 2 (.slice none 0 0)).set 3 (.slice al 0 c)
        simp only [List.set] at hB1n
        have hkf : ∀ (G : Nat → Prop), ¬ G (w.heap.size + 1) → KF G wr ((((wr.setCell ⟨w.heap.size + 1, 0, none⟩ (.int .i64 6)).setCell ⟨w.heap.size + 1, 1, none⟩ (.int .i64 d)).setCell ⟨w.heap.size + 1, 2, none⟩ (.slice none 0 0)).setCell ⟨w.heap.size + 1, 3, none⟩ (.slice al 0 c)) := fun G hG' => ((((KF.refl _ _).set hG').set hG').set hG').set hG'
        have hkz : Stab.Keeps w ((((wr.setCell ⟨w.heap.size + 1, 0, none⟩ (.int .i64 6)).setCell ⟨w.heap.size + 1, 1, none⟩ (.int .i64 d)).setCell ⟨w.heap.size + 1, 2, none⟩ (.slice none 0 0)).setCell ⟨w.heap.size + 1, 3, none⟩ (.slice al 0 c)) := by with_reducible (repeat first | exact Kx.r _ | assumption | refine Kx.a ?_ _ | refine Kx.d ?_ | refine Kx.e ?_ _ | refine Kx.s (by simp <;> omega) ?_ _ | refine Kx.t ?_ (by assumption))
        have hSzn := hR.sz.kf (hkf _ (fun h => by have := HHS.out; omega))
        have HR := Lib.hid hR
        clear hR
        go_wp2_with fail
        generalize ((((wr.setCell ⟨w.heap.size + 1, 0, none⟩ (.int .i64 6)).setCell ⟨w.heap.size + 1, 1, none⟩ (.int .i64 d)).setCell ⟨w.heap.size + 1, 2, none⟩ (.slice none 0 0)).setCell ⟨w.heap.size + 1, 3, none⟩ (.slice al 0 c)) = Wz at *
        clear hB1 hB2 t0 t1 t2 t3 tf tl g0 g1 g2 g3 gf gl hkf
        have y0 := hB1n.cell (i := 0) rfl
        have y1 := hB1n.cell (i := 1) rfl
        have y2 := hB1n.cell (i := 2) rfl
        have y3 := hB1n.cell (i := 3) rfl
        have yf := hB1n.free
        have yl := hB1n.lt
        refine bodyPost_ret (v := .agg #[.int .i64 6, .int .i64 d, .slice none 0 0, .slice al 0 c]) (by simp [results, Tryz.results13, go_sem, *]) rfl ⟨[.int .i64 (6 : Nat), .int .i64 d, .slice none 0 0, .slice al 0 c], rfl, hkz, ?_⟩
        exact .mk 6 d _ _ none al _ _ _ _ css rfl (SzF.nil _ _ _) HR.out.lc HR.out.lx HR.out.each (hSzn.mono fun b _ hb => .inr (by have := HHS.out; omega)) (fun i h1 h2 => by simp at h2)
      · have hne1 : ((m : Int) == 0) = false := by simp; omega
        have hne2 : (m == 0) = false := by simp; omega
        have hwp : wholeP 6 d ys = forceP (andD ys) (.node 6 d [] ys) := whole_force _ _ _ (fun e => by rw [e] at hyl; simp at hyl; omega)
        have hgm : GmR wr (fun b => B2 ≤ b) [.int .i64 (6 : Nat), .int .i64 d, .slice none 0 0, .slice al m c] (.node 6 d [] ys) := .mk 6 d _ _ none al _ _ _ _ css rfl (SzF.nil _ _ _) hR.lc hR.lx hR.each hR.sz hR.is
        have hF1 := sforce_ (andD ys) (andD_lt _) (.node 6 d [] ys) HOKN.out _ _ wr hgm
        have HWP := Lib.hid hwp
        clear hR hgm hwp
        have t0 := hB2.cell (i := 0) rfl
        have t1 := hB2.cell (i := 1) rfl
        have t2 := hB2.cell (i := 2) rfl
        have t3 := hB2.cell (i := 3) rfl
        have tf := hB2.free
        have tl := hB2.lt
        go_wp2_with fail
        refine hF1.mono ?_
        clear hF1
        rintro e w5 ⟨cs5, rfl, hk5, hx5⟩
        obtain ⟨zk, zd, zna, znn, znc, zka, zkn, zkc, rfl⟩ := hx5.four
        have hB15 := hB1.keep hk5
        have hkw5 := Stab.Keeps.trans hk hk5
        have hs5 := hk5.size
        clear hB1 hB2 t0 t1 t2 t3 tf tl hk hk5
        have g0 := hB15.cell (i := 0) rfl
        have g1 := hB15.cell (i := 1) rfl
        have g2 := hB15.cell (i := 2) rfl
        have g3 := hB15.cell (i := 3) rfl
        have gf := hB15.free
        have gl := hB15.lt
        have hB1n := (((hB15.set 0 (.int .i64 zk)).set 1 (.int .i64 zd)).set 2 (.slice zna znn znc)).set 3 (.slice zka zkn zkc)
        simp only [List.set] at hB1n
        have hkf : ∀ (G : Nat → Prop), ¬ G (w.heap.size + 1) → KF G w5 ((((w5.setCell ⟨w.heap.size + 1, 0, none⟩ (.int .i64 zk)).setCell ⟨w.heap.size + 1, 1, none⟩ (.int .i64 zd)).setCell ⟨w.heap.size + 1, 2, none⟩ (.slice zna znn znc)).setCell ⟨w.heap.size + 1, 3, none⟩ (.slice zka zkn zkc)) := fun G hG' => ((((KF.refl _ _).set hG').set hG').set hG').set hG'
        have hkz : Stab.Keeps w ((((w5.setCell ⟨w.heap.size + 1, 0, none⟩ (.int .i64 zk)).setCell ⟨w.heap.size + 1, 1, none⟩ (.int .i64 zd)).setCell ⟨w.heap.size + 1, 2, none⟩ (.slice zna znn znc)).setCell ⟨w.heap.size + 1, 3, none⟩ (.slice zka zkn zkc)) := by with_reducible (repeat first | exact Kx.r _ | assumption | refine Kx.a ?_ _ | refine Kx.d ?_ | refine Kx.e ?_ _ | refine Kx.s (by simp <;> omega) ?_ _ | refine Kx.t ?_ (by assumption))
        have hxn := gmS.kf (gmS.mono hx5 (fun b _ hb => hb.elim (fun h => h.elim) (fun h => h))) (hkf _ (fun h => by have := HHS.out; omega))
        clear hx5
        go_wp2_with fail
        generalize ((((w5.setCell ⟨w.heap.size + 1, 0, none⟩ (.int .i64 zk)).setCell ⟨w.heap.size + 1, 1, none⟩ (.int .i64 zd)).setCell ⟨w.heap.size + 1, 2, none⟩ (.slice zna znn znc)).setCell ⟨w.heap.size + 1, 3, none⟩ (.slice zka zkn zkc)) = Wz at *
        clear hB15 g0 g1 g2 g3 gf gl hkf
        have y0 := hB1n.cell (i := 0) rfl
        have y1 := hB1n.cell (i := 1) rfl
        have y2 := hB1n.cell (i := 2) rfl
        have y3 := hB1n.cell (i := 3) rfl
        have yf := hB1n.free
        have yl := hB1n.lt
        refine bodyPost_ret (v := .agg #[.int .i64 zk, .int .i64 zd, .slice zna znn znc, .slice zka zkn zkc]) (by simp [results, Tryz.results13, go_sem, *]) rfl ⟨[.int .i64 zk, .int .i64 zd, .slice zna znn znc, .slice zka zkn zkc], rfl, hkz, ?_⟩
        rw [HWP.out]
        exact gmS.mono hxn (fun b _ hb => .inr (by have := HHS.out; omega))
set_option maxRecDepth 100000 in
set_option maxHeartbeats 4000000 in
theorem newWh0a_ (t : GT) (w : World) (hA : t.At w) (hs : t.Small) (hk : t.hd.kind = 0) (ih : ∀ c ∈ t.kids, SNew c) : Calls Tryz.prog 13 #[t.hd.val] w (RetR w no GmR (newP t)) := by
  obtain ⟨i0, hi, hz0, hz1, hz2⟩ := info_parts infoGm
  have HI := Lib.hid hi
  have HZ0 := Lib.hid hz0
  have HZ1 := Lib.hid hz1
  have HZ2 := Lib.hid hz2
  clear hi hz0 hz1 hz2
  have HOK := Lib.hid (newP_ok t hs)
  cases hA with
  | mk h nums kids hn hkn h1 h2 h3 =>
  obtain ⟨kind, dim, na, nn, nc, ka, kn, kc⟩ := h
  simp only [GT.hd] at hk hn hkn h1 h2 ⊢
  subst hk
  have hkk : kids.length ≤ 1000 := hs.few
  have hkid := hs.kid
  rw [newP_whole _ _ _ (by show kindN (0 : Int) ≠ 1; decide) (by show kindN (0 : Int) ≠ 2; decide)] at HOK ⊢
  simp only [Gm.val]
  have hK : kindN (0 : Int) = 0 := by decide
  simp only [hK] at HOK ⊢
  have hd4 := dim4_lt dim
  have hband : bits .and .i64 dim 3 = (dim4 dim : Int) := by rw [i64_and3]; unfold dim4; omega
  generalize hde : dim4 dim = d at *
  have hle := h2.le
  have hmx := h2.max
  unfold maxLen at hmx
  have HKN := Lib.hid hkn
  have HIH := Lib.hid ih
  have HK3 := Lib.hid h3
  have HSM := Lib.hid hkid
  clear hde hs h1 hn hkn ih h3 hkid hK
  go_enter Tryz.func13, Tryz.ntmps13
  go_wp2_with fail
  have hs1 : (((w.alloc (.cells #[.int .i64 0, .int .i64 dim, .slice na nn nc, .slice ka kn kc] 25)).alloc (.cells #[.int .i64 0, .int .i64 0, .slice none 0 0, .slice none 0 0] 25)).alloc (.cells #[.int .i64 0, .int .i64 d, .slice none 0 0, .slice none 0 0] 25)).heap.size = w.heap.size + 1 + 1 + 1 := by simp
  have hB0 : Blk (((w.alloc (.cells #[.int .i64 0, .int .i64 dim, .slice na nn nc, .slice ka kn kc] 25)).alloc (.cells #[.int .i64 0, .int .i64 0, .slice none 0 0, .slice none 0 0] 25)).alloc (.cells #[.int .i64 0, .int .i64 d, .slice none 0 0, .slice none 0 0] 25)) w.heap.size 25 [.int .i64 0, .int .i64 dim, .slice na nn nc, .slice ka kn kc] := by with_reducible (repeat first | assumption | (refine Bx.n ⟨?_, ?_⟩ <;> focus (first | rfl | (simp; done) | omega)) | refine Bx.a ?_ _ | refine Bx.d ?_ | refine Bx.e ?_ _ | refine Bx.p (by first | omega | simp <;> omega) ?_)
  have hB1 : Blk (((w.alloc (.cells #[.int .i64 0, .int .i64 dim, .slice na nn nc, .slice ka kn kc] 25)).alloc (.cells #[.int .i64 0, .int .i64 0, .slice none 0 0, .slice none 0 0] 25)).alloc (.cells #[.int .i64 0, .int .i64 d, .slice none 0 0, .slice none 0 0] 25)) (w.heap.size + 1) 25 [.int .i64 0, .int .i64 0, .slice none 0 0, .slice none 0 0] := by with_reducible (repeat first | assumption | (refine Bx.n ⟨?_, ?_⟩ <;> focus (first | rfl | (simp; done) | omega)) | refine Bx.a ?_ _ | refine Bx.d ?_ | refine Bx.e ?_ _ | refine Bx.p (by first | omega | simp <;> omega) ?_)
  have hB2 : Blk (((w.alloc (.cells #[.int .i64 0, .int .i64 dim, .slice na nn nc, .slice ka kn kc] 25)).alloc (.cells #[.int .i64 0, .int .i64 0, .slice none 0 0, .slice none 0 0] 25)).alloc (.cells #[.int .i64 0, .int .i64 d, .slice none 0 0, .slice none 0 0] 25)) (w.heap.size + 1 + 1) 25 [.int .i64 0, .int .i64 d, .slice none 0 0, .slice none 0 0] := by with_reducible (repeat first | assumption | (refine Bx.n ⟨?_, ?_⟩ <;> focus (first | rfl | (simp; done) | omega)) | refine Bx.a ?_ _ | refine Bx.d ?_ | refine Bx.e ?_ _ | refine Bx.p (by first | omega | simp <;> omega) ?_)
  have hkw : Stab.Keeps w (((w.alloc (.cells #[.int .i64 0, .int .i64 dim, .slice na nn nc, .slice ka kn kc] 25)).alloc (.cells #[.int .i64 0, .int .i64 0, .slice none 0 0, .slice none 0 0] 25)).alloc (.cells #[.int .i64 0, .int .i64 d, .slice none 0 0, .slice none 0 0] 25)) := by with_reducible (repeat first | exact Kx.r _ | assumption | refine Kx.a ?_ _ | refine Kx.d ?_ | refine Kx.e ?_ _ | refine Kx.s (by simp <;> omega) ?_ _ | refine Kx.t ?_ (by assumption))
  generalize (((w.alloc (.cells #[.int .i64 0, .int .i64 dim, .slice na nn nc, .slice ka kn kc] 25)).alloc (.cells #[.int .i64 0, .int .i64 0, .slice none 0 0, .slice none 0 0] 25)).alloc (.cells #[.int .i64 0, .int .i64 d, .slice none 0 0, .slice none 0 0] 25)) = W0 at *
  refine (leaf_ 0 (by omega) _).mono ?_
  rintro e w4 ⟨rfl, hk4⟩
  have hB04 := hB0.keep hk4
  have hB14 := hB1.keep hk4
  have hB24 := hB2.keep hk4
  have hkw4 : Stab.Keeps w w4 := hkw.trans hk4
  have hsz4 : w.heap.size + 1 + 1 + 1 ≤ w4.heap.size := by have := hk4.size; omega
  clear hB0 hB1 hB2 hkw hk4 hs1
  have g0 := hB04.cell (i := 0) rfl
  have g1 := hB04.cell (i := 1) rfl
  have g2 := hB04.cell (i := 2) rfl
  have g3 := hB04.cell (i := 3) rfl
  have gf := hB04.free
  have gl := hB04.lt
  go_wp2_with fail
  generalize hB2e : w4.heap.size = B2 at *
  have HB2 := Lib.hid hB2e
  clear hB2e
  have hG0 : GrowB B2 w4 GmR 25 4 0 (.slice none 0 0) (((kids.take 0).map newP).filter (takes 0)) := by simpa using GrowB.nil B2 w4 GmR 25 4 (by have := HB2.out; omega)
  go_loopw [5, 55] (fun dv iv wr => ∃ (j m : Nat) (al : Option Addr) (c : Nat), j ≤ kn ∧ m ≤ j ∧ iv = .int .i64 j ∧ dv = .int .i64 (andD (((kids.take j).map newP).filter (takes 0)) : Nat) ∧ Stab.Keeps w wr ∧ Blk wr (w.heap.size + 1) 25 [.int .i64 0, .int .i64 0, .slice none 0 0, .slice none 0 0] ∧ Blk wr (w.heap.size + 1 + 1) 25 [.int .i64 0, .int .i64 d, .slice none 0 0, .slice al m c] ∧ GrowB B2 wr GmR 25 4 m (.slice al m c) (((kids.take j).map newP).filter (takes 0))) (fun _ iv _ => kn - (intOf iv).toNat)
  case atStart => exact ⟨0, 0, none, 0, by omega, by omega, rfl, rfl, hkw4, hB14, hB24, hG0⟩
  case round =>
    clear hB04 hB14 hB24 hkw4 hG0 g0 g1 g2 g3 gf gl
    obtain ⟨j, m, al, c, hj, hmj, rfl, rfl, hk, hB1, hB2, hG⟩ := hrel
    by_cases hlt : j < kn
    · obtain ⟨b, off, ha, hb, hc⟩ := (h2.keep hk).elem hlt
      subst ha
      have hki : j < kids.length := by have := HKN.out; omega
      have e0 : wr.cell? ⟨b, off + j * 4, none⟩ = some (.int .i64 kids[j].hd.kind) := hc 0 _ (by omega) (by rw [flat_get GT.cells 4 GT.cells_len kids j 0 hki (by omega)]; rfl)
      have e1 : wr.cell? ⟨b, off + j * 4 + 1, none⟩ = some (.int .i64 kids[j].hd.dim) := hc 1 _ (by omega) (by rw [flat_get GT.cells 4 GT.cells_len kids j 1 hki (by omega)]; rfl)
      have e2 : wr.cell? ⟨b, off + j * 4 + 2, none⟩ = some (.slice kids[j].hd.na kids[j].hd.nn kids[j].hd.nc) := hc 2 _ (by omega) (by rw [flat_get GT.cells 4 GT.cells_len kids j 2 hki (by omega)]; rfl)
      have e3 : wr.cell? ⟨b, off + j * 4 + 3, none⟩ = some (.slice kids[j].hd.ka kids[j].hd.kn kids[j].hd.kc) := hc 3 _ (by omega) (by rw [flat_get GT.cells 4 GT.cells_len kids j 3 hki (by omega)]; rfl)
      have hM1 := fun w' (hk' : Stab.Keeps w w') => HIH.out kids[j] (List.getElem_mem _) w' ((HK3.out _ (List.getElem_mem _)).keep hk') (HSM.out _ (List.getElem_mem _))
      have hd4y : (newP kids[j]).dim < 4 := (newP_ok _ (HSM.out _ (List.getElem_mem _))).dim4
      have hsn : ((kids.take (j + 1)).map newP).filter (takes 0) = if takes 0 (newP kids[j]) then ((kids.take j).map newP).filter (takes 0) ++ [newP kids[j]] else ((kids.take j).map newP).filter (takes 0) := by rw [List.take_succ_eq_append_getElem hki, List.map_append]; exact filter_snoc _ _ _
      have HSN := Lib.hid hsn
      clear hc hsn
      generalize kids[j] = x at *
      obtain ⟨⟨xk, xd, xna, xnn, xnc, xka, xkn, xkc⟩, xnums, xkids⟩ := x
      simp only [GT.hd, Gm.val] at hM1 e0 e1 e2 e3
      generalize hxe : (GT.node ⟨xk, xd, xna, xnn, xnc, xka, xkn, xkc⟩ xnums xkids) = X at *
      clear hxe
      generalize newP X = y at *
      generalize hYe : ((kids.take j).map newP).filter (takes 0) = ys at *
      have hgl : B2 ≤ wr.heap.size := hG.size
      have hown : ∀ g, (Value.slice al m c).ownBlock = some g → g < wr.heap.size := fun g hg => (hG.own hg).2
      have hkx : Stab.Keeps w (wr.alloc (.cells #[.int .i64 xk, .int .i64 xd, .slice xna xnn xnc, .slice xka xkn xkc] 25)) := by with_reducible (repeat first | exact Kx.r _ | assumption | refine Kx.a ?_ _ | refine Kx.d ?_ | refine Kx.e ?_ _ | refine Kx.s (by simp <;> omega) ?_ _ | refine Kx.t ?_ (by assumption))
      have hbx : wr.heap.size + 1 = (wr.alloc (.cells #[.int .i64 xk, .int .i64 xd, .slice xna xnn xnc, .slice xka xkn xkc] 25)).heap.size := by simp
      go_wp2_with fail
      refine (hM1 _ hkx).mono ?_
      clear hM1
      rintro e w4 ⟨cs4, rfl, hk4, hx4⟩
      have hkw4 := Stab.Keeps.trans hkx hk4
      have hkr4 : Stab.Keeps wr w4 := Stab.Keeps.trans (Stab.Keeps.alloc (Stab.Keeps.refl _) _) hk4
      obtain ⟨mk, md, mna, mnn, mnc, mka, mkn, mkc, rfl⟩ := hx4.four
      have hxd := hx4.kd
      have hmk : mk = y.kind := by have := hxd.1; omega
      have hmd : md = y.dim := by have := hxd.2; omega
      have hmd4 : md < 4 := by omega
      have hgs := hk4.size
      have hgs2 : wr.heap.size + 1 ≤ w4.heap.size := by omega
      have hBo := hB1.keep hkr4
      have hBt := hB2.keep hkr4
      have hGk := hG.keep gmS hkr4
      clear hB1 hB2 hG e0 e1 e2 e3 hk4 hkx hk hxd hgs hbx hkr4
      have HMK := Lib.hid hmk
      have HMD := Lib.hid hmd
      clear hmk hmd
      go_wp2_with fail
      have hkw5 : Stab.Keeps w (w4.alloc (.cells #[.int .i64 mk, .int .i64 md, .slice mna mnn mnc, .slice mka mkn mkc] 25)) := by with_reducible (repeat first | exact Kx.r _ | assumption | refine Kx.a ?_ _ | refine Kx.d ?_ | refine Kx.e ?_ _ | refine Kx.s (by simp <;> omega) ?_ _ | refine Kx.t ?_ (by assumption))
      have hBm : Blk (w4.alloc (.cells #[.int .i64 mk, .int .i64 md, .slice mna mnn mnc, .slice mka mkn mkc] 25)) w4.heap.size 25 [.int .i64 mk, .int .i64 md, .slice mna mnn mnc, .slice mka mkn mkc] := by with_reducible (repeat first | assumption | (refine Bx.n ⟨?_, ?_⟩ <;> focus (first | rfl | (simp; done) | omega)) | refine Bx.a ?_ _ | refine Bx.d ?_ | refine Bx.e ?_ _ | refine Bx.p (by first | omega | simp <;> omega) ?_)
      have hBo5 : Blk (w4.alloc (.cells #[.int .i64 mk, .int .i64 md, .slice mna mnn mnc, .slice mka mkn mkc] 25)) (w.heap.size + 1) 25 [.int .i64 0, .int .i64 0, .slice none 0 0, .slice none 0 0] := by with_reducible (repeat first | assumption | (refine Bx.n ⟨?_, ?_⟩ <;> focus (first | rfl | (simp; done) | omega)) | refine Bx.a ?_ _ | refine Bx.d ?_ | refine Bx.e ?_ _ | refine Bx.p (by first | omega | simp <;> omega) ?_)
      have hBt5 : Blk (w4.alloc (.cells #[.int .i64 mk, .int .i64 md, .slice mna mnn mnc, .slice mka mkn mkc] 25)) (w.heap.size + 1 + 1) 25 [.int .i64 0, .int .i64 d, .slice none 0 0, .slice al m c] := by with_reducible (repeat first | assumption | (refine Bx.n ⟨?_, ?_⟩ <;> focus (first | rfl | (simp; done) | omega)) | refine Bx.a ?_ _ | refine Bx.d ?_ | refine Bx.e ?_ _ | refine Bx.p (by first | omega | simp <;> omega) ?_)
      have hG5 : GrowB B2 (w4.alloc (.cells #[.int .i64 mk, .int .i64 md, .slice mna mnn mnc, .slice mka mkn mkc] 25)) GmR 25 4 m (.slice al m c) ys := hGk.keep gmS (by with_reducible (repeat first | exact Kx.r _ | assumption | refine Kx.a ?_ _ | refine Kx.d ?_ | refine Kx.e ?_ _ | refine Kx.s (by simp <;> omega) ?_ _ | refine Kx.t ?_ (by assumption)))
      have hx5 : GmR (w4.alloc (.cells #[.int .i64 mk, .int .i64 md, .slice mna mnn mnc, .slice mka mkn mkc] 25)) (fun b => wr.heap.size + 1 ≤ b ∧ b < w4.heap.size) [.int .i64 mk, .int .i64 md, .slice mna mnn mnc, .slice mka mkn mkc] y := gmS.kf (gmS.mono hx4 (fun b hb hf => hf.elim (fun h => h.elim) (fun h => ⟨by simpa using h, hb⟩))) ((KF.refl _ _).alloc _)
      have hs5 : w4.heap.size < (w4.alloc (.cells #[.int .i64 mk, .int .i64 md, .slice mna mnn mnc, .slice mka mkn mkc] 25)).heap.size := by simp
      generalize (w4.alloc (.cells #[.int .i64 mk, .int .i64 md, .slice mna mnn mnc, .slice mka mkn mkc] 25)) = W5 at *
      clear hkw4 hx4 hBo hBt hGk
      have t0 := hBt5.cell (i := 0) rfl
      have t1 := hBt5.cell (i := 1) rfl
      have t2 := hBt5.cell (i := 2) rfl
      have t3 := hBt5.cell (i := 3) rfl
      have tf := hBt5.free
      have tl := hBt5.lt
      have y0 := hBm.cell (i := 0) rfl
      have y1 := hBm.cell (i := 1) rfl
      have y2 := hBm.cell (i := 2) rfl
      have y3 := hBm.cell (i := 3) rfl
      have yf := hBm.free
      have yl := hBm.lt
      have hKO : ∀ w', Calls Tryz.prog 22 #[.int .i64 0] w' (One w' (.int .i64 (-1))) := fun w' => kidOf_ 0 (by omega) w'
      by_cases hkd : True
      · have HKD := Lib.hid hkd
        clear hkd
        refine Stab.keep_region (fun _ _ _ => True) (fun _ => false) (fun k => k == 2 || k == 7) Stab.pre_none (by kernel_rfl) (by kernel_rfl) fun hcx => ?_
        iterate 2 ((with_reducible refine Stab.quiet ?_ ?_ ?_ ?_); rfl; rfl; rfl; intro K hK; go_big_quiet_op; refine hK _ ?_; clear hK K)
        (with_reducible refine Stab.one ?_ ?_ ?_ ?_); rfl; rfl; rfl
        apply Exists.intro
        refine ⟨fun w1 hw1 => ?_, fun K hK => ?_⟩
        · go_simp
          (go_at_call 22; exact hKO _)
        go_simp
        refine hK _ ?_
        clear hK K
        iterate 2 ((with_reducible refine Stab.quiet ?_ ?_ ?_ ?_); rfl; rfl; rfl; intro K hK; go_big_quiet_op; refine hK _ ?_; clear hK K)
        iterate 6 ((with_reducible refine Stab.skip ?_ ?_); rfl; intro K hK; go_simp; refine hK _ ?_; clear hK K)
        (with_reducible refine Stab.quiet ?_ ?_ ?_ ?_); rfl; rfl; rfl; intro K hK; go_big_quiet_op; refine hK _ ?_; clear hK K
        refine Stab.nil fun w6 hk6 _ => ?_
        have hkw6 := Stab.Keeps.trans hkw5 hk6
        have hBm6 := hBm.keep hk6
        have hBo6 := hBo5.keep hk6
        have hBt6 := hBt5.keep hk6
        have hG6 : GrowB B2 (w6.alloc (.cells #[.int .i64 mk, .int .i64 md, .slice mna mnn mnc, .slice mka mkn mkc] 25)) GmR 25 4 m (.slice al m c) ys := (hG5.keep gmS hk6).keep gmS ((Stab.Keeps.refl w6).alloc (.cells #[.int .i64 mk, .int .i64 md, .slice mna mnn mnc, .slice mka mkn mkc] 25))
        have hx6 : GmR (w6.alloc (.cells #[.int .i64 mk, .int .i64 md, .slice mna mnn mnc, .slice mka mkn mkc] 25)) (fun b => wr.heap.size + 1 ≤ b ∧ b < w4.heap.size) [.int .i64 mk, .int .i64 md, .slice mna mnn mnc, .slice mka mkn mkc] y := gmS.kf (gmS.kf hx5 (KF.keeps hk6)) ((KF.refl _ _).alloc _)
        have hs6 : w4.heap.size < w6.heap.size := by have := hk6.size; omega
        have hone : ∀ u ∈ ([.int .i64 mk, .int .i64 md, .slice mna mnn mnc, .slice mka mkn mkc] : List Value), u.oneCell' = true := hx6.ones
        clear hcx hBm hBo5 hBt5 hG5 hx5 hs5 hkw5 hk6 t0 t1 t2 t3 tf tl y0 y1 y2 y3 yf yl
        have t0 := hBt6.cell (i := 0) rfl
        have t1 := hBt6.cell (i := 1) rfl
        have t2 := hBt6.cell (i := 2) rfl
        have t3 := hBt6.cell (i := 3) rfl
        have tf := hBt6.free
        have tl := hBt6.lt
        have y0 := hBm6.cell (i := 0) rfl
        have y1 := hBm6.cell (i := 1) rfl
        have y2 := hBm6.cell (i := 2) rfl
        have y3 := hBm6.cell (i := 3) rfl
        have yf := hBm6.free
        have yl := hBm6.lt
        have HG6 := Lib.hid hG6
        clear hG6
        go_wp2_with (at_builtin; (refine append_growB (B := B2) gmS rfl _ _ 23 rfl 25 i0 _ 4 64 Tryz.underlying23 HI.out HZ0.out HZ1.out HZ2.out rfl (by decide) _ m ys rfl HG6.out ⟨w6.heap.size, 0, none⟩ 1 [.int .i64 mk, .int .i64 md, .slice mna mnn mnc, .slice mka mkn mkc] rfl rfl ?c1 hone ?c2 ?c3 y _ hx6 ?c4 ?c5 ?_))
        case c1 => exact new_cells _ _ _ _ rfl
        case c2 => unfold maxLen; omega
        case c3 => omega
        case c4 => exact fun b hb => ⟨by omega, by simp; omega⟩
        case c5 => exact fun g hg hb => by have := hown g hg; omega
        intro al' c' w7 hG7 hB7 hgr
        have hsz7 : w.heap.size + 1 + 1 + 1 ≤ w7.heap.size := by have := hB7.size; simp at this; omega
        have hBt7 : Blk w7 (w.heap.size + 1 + 1) 25 [.int .i64 0, .int .i64 d, .slice none 0 0, .slice al m c] := Blk.below (B := B2) (by with_reducible (repeat first | assumption | (refine Bx.n ⟨?_, ?_⟩ <;> focus (first | rfl | (simp; done) | omega)) | refine Bx.a ?_ _ | refine Bx.d ?_ | refine Bx.e ?_ _ | refine Bx.p (by first | omega | simp <;> omega) ?_)) hB7 (by omega)
        have hBo7 : Blk w7 (w.heap.size + 1) 25 [.int .i64 0, .int .i64 0, .slice none 0 0, .slice none 0 0] := Blk.below (B := B2) (by with_reducible (repeat first | assumption | (refine Bx.n ⟨?_, ?_⟩ <;> focus (first | rfl | (simp; done) | omega)) | refine Bx.a ?_ _ | refine Bx.d ?_ | refine Bx.e ?_ _ | refine Bx.p (by first | omega | simp <;> omega) ?_)) hB7 (by omega)
        have hBm7 : Blk w7 w4.heap.size 25 [.int .i64 mk, .int .i64 md, .slice mna mnn mnc, .slice mka mkn mkc] := Go.Kf.Blk.grown (by with_reducible (repeat first | assumption | (refine Bx.n ⟨?_, ?_⟩ <;> focus (first | rfl | (simp; done) | omega)) | refine Bx.a ?_ _ | refine Bx.d ?_ | refine Bx.e ?_ _ | refine Bx.p (by first | omega | simp <;> omega) ?_)) hgr (fun e => by have := hown _ e; omega)
        have hk7 : Stab.Keeps w w7 := Below.trans (Stab.Keeps.alloc hkw6 _) (Below.mono hB7 (by omega))
        clear hx6 HG6 hown hgr hB7 hBt6 hBo6 hBm6 hkw6 t0 t1 t2 t3 tf tl y0 y1 y2 y3 yf yl
        have hk8 : Stab.Keeps w (w7.setCell ⟨w.heap.size + 1 + 1, 3, none⟩ (.slice al' (m + 1) c')) := Stab.Keeps.setCell (by simp; omega) hk7 _
        have hBt8 := hBt7.set 3 (.slice al' (m + 1) c')
        simp only [List.set] at hBt8
        have hBo8 : Blk (w7.setCell ⟨w.heap.size + 1 + 1, 3, none⟩ (.slice al' (m + 1) c')) (w.heap.size + 1) 25 [.int .i64 0, .int .i64 0, .slice none 0 0, .slice none 0 0] := by with_reducible (repeat first | assumption | (refine Bx.n ⟨?_, ?_⟩ <;> focus (first | rfl | (simp; done) | omega)) | refine Bx.a ?_ _ | refine Bx.d ?_ | refine Bx.e ?_ _ | refine Bx.p (by first | omega | simp <;> omega) ?_)
        have hBm8 : Blk (w7.setCell ⟨w.heap.size + 1 + 1, 3, none⟩ (.slice al' (m + 1) c')) w4.heap.size 25 [.int .i64 mk, .int .i64 md, .slice mna mnn mnc, .slice mka mkn mkc] := by with_reducible (repeat first | assumption | (refine Bx.n ⟨?_, ?_⟩ <;> focus (first | rfl | (simp; done) | omega)) | refine Bx.a ?_ _ | refine Bx.d ?_ | refine Bx.e ?_ _ | refine Bx.p (by first | omega | simp <;> omega) ?_)
        have hG8 := hG7.kf gmS (w4 := w7.setCell ⟨w.heap.size + 1 + 1, 3, none⟩ (.slice al' (m + 1) c')) ((KF.refl _ _).set (fun h => by simp at h; omega))
        have hdd : bits .and .i64 (andD ys : Nat) md = ((andD (ys ++ [y]) : Nat) : Int) := by
          rw [andD_snoc, ← HMD.out]
          exact i64_andN _ _ (andD_lt _) hmd4
        have hys : ((kids.take (j + 1)).map newP).filter (takes 0) = ys ++ [y] := by rw [HSN.out, if_pos]; rfl
        have HYS := Lib.hid hys
        clear hys hG7 hk7 HSN HMK HMD
        have t0 := hBt7.cell (i := 0) rfl
        have t1 := hBt7.cell (i := 1) rfl
        have t2 := hBt7.cell (i := 2) rfl
        have t3 := hBt7.cell (i := 3) rfl
        have tf := hBt7.free
        have tl := hBt7.lt
        go_upto_region 17 with (fail)
        generalize (w7.setCell ⟨w.heap.size + 1 + 1, 3, none⟩ (.slice al' (m + 1) c')) = W8 at *
        clear hBt7 hBo7 hBm7 t0 t1 t2 t3 tf tl
        have y0 := hBm8.cell (i := 0) rfl
        have y1 := hBm8.cell (i := 1) rfl
        have y2 := hBm8.cell (i := 2) rfl
        have y3 := hBm8.cell (i := 3) rfl
        have yf := hBm8.free
        have yl := hBm8.lt
        go_wp2_with fail
        exact ⟨⟨j + 1, m + 1, al', c', by omega, by omega, by simp, by rw [HYS.out], hk8, hBo8, hBt8, by rw [HYS.out]; exact hG8⟩, by simp [intOf]; omega⟩
      · exact absurd trivial hkd
    · obtain rfl : kn = j := by omega
      have hfull : kids.take kn = kids := List.take_of_length_le (by rw [HKN.out]; exact Nat.le_refl _)
      rw [hfull] at hG ⊢
      have hall : ∀ p ∈ (kids.map newP).filter (takes 0), PgOk p := fun p hp => by
        obtain ⟨r, hr, rfl⟩ := List.mem_map.1 (List.mem_filter.1 hp).1
        exact newP_ok r (HSM.out r hr)
      generalize (kids.map newP).filter (takes 0) = ys at *
      have hyl := hG.len
      have hsz := hk.size
      have hgl : B2 ≤ wr.heap.size := hG.size
      obtain ⟨css, hR⟩ := hG.toRows gmS
      have hokn : PgOk (.node 0 d [] ys) := .mk _ _ _ _ hd4 (by simp) (by simp) (by have := HKN.out; omega) hall
      have HOKN := Lib.hid hokn
      clear hG hfull hall hokn
      have HHS := Lib.hid hsz4
      rcases Nat.eq_zero_or_pos m with h0 | h0
      · subst h0
        have hy0 : ys = [] := List.length_eq_zero_iff.1 hyl
        subst hy0
        have t0 := hB2.cell (i := 0) rfl
        have t1 := hB2.cell (i := 1) rfl
        have t2 := hB2.cell (i := 2) rfl
        have t3 := hB2.cell (i := 3) rfl
        have tf := hB2.free
        have tl := hB2.lt
        have g0 := hB1.cell (i := 0) rfl
        have g1 := hB1.cell (i := 1) rfl
        have g2 := hB1.cell (i := 2) rfl
        have g3 := hB1.cell (i := 3) rfl
        have gf := hB1.free
        have gl := hB1.lt
        have hB1n := (((hB1.set 0 (.int .i64 0)).set 1 (.int .i64 d)).set 2 (.slice none 0 0)).set 3 (.slice al 0 c)
        simp only [List.set] at hB1n
        have hkf : ∀ (G : Nat → Prop), ¬ G (w.heap.size + 1) → KF G wr ((((wr.setCell ⟨w.heap.size + 1, 0, none⟩ (.int .i64 0)).setCell ⟨w.heap.size + 1, 1, none⟩ (.int .i64 d)).setCell ⟨w.heap.size + 1, 2, none⟩ (.slice none 0 0)).setCell ⟨w.heap.size + 1, 3, none⟩ (.slice al 0 c)) := fun G hG' => ((((KF.refl _ _).set hG').set hG').set hG').set hG'
        have hkz : Stab.Keeps w ((((wr.setCell ⟨w.heap.size + 1, 0, none⟩ (.int .i64 0)).setCell ⟨w.heap.size + 1, 1, none⟩ (.int .i64 d)).setCell ⟨w.heap.size + 1, 2, none⟩ (.slice none 0 0)).setCell ⟨w.heap.size + 1, 3, none⟩ (.slice al 0 c)) := by with_reducible (repeat first | exact Kx.r _ | assumption | refine Kx.a ?_ _ | refine Kx.d ?_ | refine Kx.e ?_ _ | refine Kx.s (by simp <;> omega) ?_ _ | refine Kx.t ?_ (by assumption))
        have hSzn := hR.sz.kf (hkf _ (fun h => by have := HHS.out; omega))
        have HR := Lib.hid hR
        clear hR
        go_wp2_with fail
        generalize ((((wr.setCell ⟨w.heap.size + 1, 0, none⟩ (.int .i64 0)).setCell ⟨w.heap.size + 1, 1, none⟩ (.int .i64 d)).setCell ⟨w.heap.size + 1, 2, none⟩ (.slice none 0 0)).setCell ⟨w.heap.size + 1, 3, none⟩ (.slice al 0 c)) = Wz at *
        clear hB1 hB2 t0 t1 t2 t3 tf tl g0 g1 g2 g3 gf gl hkf
        have y0 := hB1n.cell (i := 0) rfl
        have y1 := hB1n.cell (i := 1) rfl
        have y2 := hB1n.cell (i := 2) rfl
        have y3 := hB1n.cell (i := 3) rfl
        have yf := hB1n.free
        have yl := hB1n.lt
        refine bodyPost_ret (v := .agg #[.int .i64 0, .int .i64 d, .slice none 0 0, .slice al 0 c]) (by simp [results, Tryz.results13, go_sem, *]) rfl ⟨[.int .i64 (0 : Nat), .int .i64 d, .slice none 0 0, .slice al 0 c], rfl, hkz, ?_⟩
        exact .mk 0 d _ _ none al _ _ _ _ css rfl (SzF.nil _ _ _) HR.out.lc HR.out.lx HR.out.each (hSzn.mono fun b _ hb => .inr (by have := HHS.out; omega)) (fun i h1 h2 => by simp at h2)
      · have hne1 : ((m : Int) == 0) = false := by simp; omega
        have hne2 : (m == 0) = false := by simp; omega
        have hwp : wholeP 0 d ys = forceP (andD ys) (.node 0 d [] ys) := whole_force _ _ _ (fun e => by rw [e] at hyl; simp at hyl; omega)
        have hgm : GmR wr (fun b => B2 ≤ b) [.int .i64 (0 : Nat), .int .i64 d, .slice none 0 0, .slice al m c] (.node 0 d [] ys) := .mk 0 d _ _ none al _ _ _ _ css rfl (SzF.nil _ _ _) hR.lc hR.lx hR.each hR.sz hR.is
        have hF1 := sforce_ (andD ys) (andD_lt _) (.node 0 d [] ys) HOKN.out _ _ wr hgm
        have HWP := Lib.hid hwp
        clear hR hgm hwp
        have t0 := hB2.cell (i := 0) rfl
        have t1 := hB2.cell (i := 1) rfl
        have t2 := hB2.cell (i := 2) rfl
        have t3 := hB2.cell (i := 3) rfl
        have tf := hB2.free
        have tl := hB2.lt
        go_wp2_with fail
        refine hF1.mono ?_
        clear hF1
        rintro e w5 ⟨cs5, rfl, hk5, hx5⟩
        obtain ⟨zk, zd, zna, znn, znc, zka, zkn, zkc, rfl⟩ := hx5.four
        have hB15 := hB1.keep hk5
        have hkw5 := Stab.Keeps.trans hk hk5
        have hs5 := hk5.size
        clear hB1 hB2 t0 t1 t2 t3 tf tl hk hk5
        have g0 := hB15.cell (i := 0) rfl
        have g1 := hB15.cell (i := 1) rfl
        have g2 := hB15.cell (i := 2) rfl
        have g3 := hB15.cell (i := 3) rfl
        have gf := hB15.free
        have gl := hB15.lt
        have hB1n := (((hB15.set 0 (.int .i64 zk)).set 1 (.int .i64 zd)).set 2 (.slice zna znn znc)).set 3 (.slice zka zkn zkc)
        simp only [List.set] at hB1n
        have hkf : ∀ (G : Nat → Prop), ¬ G (w.heap.size + 1) → KF G w5 ((((w5.setCell ⟨w.heap.size + 1, 0, none⟩ (.int .i64 zk)).setCell ⟨w.heap.size + 1, 1, none⟩ (.int .i64 zd)).setCell ⟨w.heap.size + 1, 2, none⟩ (.slice zna znn znc)).setCell ⟨w.heap.size + 1, 3, none⟩ (.slice zka zkn zkc)) := fun G hG' => ((((KF.refl _ _).set hG').set hG').set hG').set hG'
        have hkz : Stab.Keeps w ((((w5.setCell ⟨w.heap.size + 1, 0, none⟩ (.int .i64 zk)).setCell ⟨w.heap.size + 1, 1, none⟩ (.int .i64 zd)).setCell ⟨w.heap.size + 1, 2, none⟩ (.slice zna znn znc)).setCell ⟨w.heap.size + 1, 3, none⟩ (.slice zka zkn zkc)) := by with_reducible (repeat first | exact Kx.r _ | assumption | refine Kx.a ?_ _ | refine Kx.d ?_ | refine Kx.e ?_ _ | refine Kx.s (by simp <;> omega) ?_ _ | refine Kx.t ?_ (by assumption))
        have hxn := gmS.kf (gmS.mono hx5 (fun b _ hb => hb.elim (fun h => h.elim) (fun h => h))) (hkf _ (fun h => by have := HHS.out; omega))
        clear hx5
        go_wp2_with fail
        generalize ((((w5.setCell ⟨w.heap.size + 1, 0, none⟩ (.int .i64 zk)).setCell ⟨w.heap.size + 1, 1, none⟩ (.int .i64 zd)).setCell ⟨w.heap.size + 1, 2, none⟩ (.slice zna znn znc)).setCell ⟨w.heap.size + 1, 3, none⟩ (.slice zka zkn zkc)) = Wz at *
        clear hB15 g0 g1 g2 g3 gf gl hkf
        have y0 := hB1n.cell (i := 0) rfl
        have y1 := hB1n.cell (i := 1) rfl
        have y2 := hB1n.cell (i := 2) rfl
        have y3 := hB1n.cell (i := 3) rfl
        have yf := hB1n.free
        have yl := hB1n.lt
        refine bodyPost_ret (v := .agg #[.int .i64 zk, .int .i64 zd, .slice zna znn znc, .slice zka zkn zkc]) (by simp [results, Tryz.results13, go_sem, *]) rfl ⟨[.int .i64 zk, .int .i64 zd, .slice zna znn znc, .slice zka zkn zkc], rfl, hkz, ?_⟩
        rw [HWP.out]
        exact gmS.mono hxn (fun b _ hb => .inr (by have := HHS.out; omega))
set_option maxRecDepth 100000 in
set_option maxHeartbeats 4000000 in
theorem newWh0b_ (t : GT) (w : World) (hA : t.At w) (hs : t.Small) (hk : t.hd.kind < 0) (ih : ∀ c ∈ t.kids, SNew c) : Calls Tryz.prog 13 #[t.hd.val] w (RetR w no GmR (newP t)) := by
  obtain ⟨i0, hi, hz0, hz1, hz2⟩ := info_parts infoGm
  have HI := Lib.hid hi
  have HZ0 := Lib.hid hz0
  have HZ1 := Lib.hid hz1
  have HZ2 := Lib.hid hz2
  clear hi hz0 hz1 hz2
  have HOK := Lib.hid (newP_ok t hs)
  cases hA with
  | mk h nums kids hn hkn h1 h2 h3 =>
  obtain ⟨kind, dim, na, nn, nc, ka, kn, kc⟩ := h
  simp only [GT.hd] at hk hn hkn h1 h2 ⊢
  have hkk : kids.length ≤ 1000 := hs.few
  have hkid := hs.kid
  have hK : kindN kind = 0 := by unfold kindN; rw [if_neg (by omega)]
  have hk1 : decide (kind < 0) = true := by simpa using hk
  rw [newP_whole _ _ _ (by show kindN kind ≠ 1; rw [hK]; decide) (by show kindN kind ≠ 2; rw [hK]; decide)] at HOK ⊢
  simp only [Gm.val]
  simp only [hK] at HOK ⊢
  have hd4 := dim4_lt dim
  have hband : bits .and .i64 dim 3 = (dim4 dim : Int) := by rw [i64_and3]; unfold dim4; omega
  generalize hde : dim4 dim = d at *
  have hle := h2.le
  have hmx := h2.max
  unfold maxLen at hmx
  have HKN := Lib.hid hkn
  have HIH := Lib.hid ih
  have HK3 := Lib.hid h3
  have HSM := Lib.hid hkid
  clear hde hs h1 hn hkn ih h3 hkid hK hk
  go_enter Tryz.func13, Tryz.ntmps13
  go_wp2_with fail
  have hs1 : (((w.alloc (.cells #[.int .i64 kind, .int .i64 dim, .slice na nn nc, .slice ka kn kc] 25)).alloc (.cells #[.int .i64 0, .int .i64 0, .slice none 0 0, .slice none 0 0] 25)).alloc (.cells #[.int .i64 0, .int .i64 d, .slice none 0 0, .slice none 0 0] 25)).heap.size = w.heap.size + 1 + 1 + 1 := by simp
  have hB0 : Blk (((w.alloc (.cells #[.int .i64 kind, .int .i64 dim, .slice na nn nc, .slice ka kn kc] 25)).alloc (.cells #[.int .i64 0, .int .i64 0, .slice none 0 0, .slice none 0 0] 25)).alloc (.cells #[.int .i64 0, .int .i64 d, .slice none 0 0, .slice none 0 0] 25)) w.heap.size 25 [.int .i64 kind, .int .i64 dim, .slice na nn nc, .slice ka kn kc] := by with_reducible (repeat first | assumption | (refine Bx.n ⟨?_, ?_⟩ <;> focus (first | rfl | (simp; done) | omega)) | refine Bx.a ?_ _ | refine Bx.d ?_ | refine Bx.e ?_ _ | refine Bx.p (by first | omega | simp <;> omega) ?_)
  have hB1 : Blk (((w.alloc (.cells #[.int .i64 kind, .int .i64 dim, .slice na nn nc, .slice ka kn kc] 25)).alloc (.cells #[.int .i64 0, .int .i64 0, .slice none 0 0, .slice none 0 0] 25)).alloc (.cells #[.int .i64 0, .int .i64 d, .slice none 0 0, .slice none 0 0] 25)) (w.heap.size + 1) 25 [.int .i64 0, .int .i64 0, .slice none 0 0, .slice none 0 0] := by with_reducible (repeat first | assumption | (refine Bx.n ⟨?_, ?_⟩ <;> focus (first | rfl | (simp; done) | omega)) | refine Bx.a ?_ _ | refine Bx.d ?_ | refine Bx.e ?_ _ | refine Bx.p (by first | omega | simp <;> omega) ?_)
  have hB2 : Blk (((w.alloc (.cells #[.int .i64 kind, .int .i64 dim, .slice na nn nc, .slice ka kn kc] 25)).alloc (.cells #[.int .i64 0, .int .i64 0, .slice none 0 0, .slice none 0 0] 25)).alloc (.cells #[.int .i64 0, .int .i64 d, .slice none 0 0, .slice none 0 0] 25)) (w.heap.size + 1 + 1) 25 [.int .i64 0, .int .i64 d, .slice none 0 0, .slice none 0 0] := by with_reducible (repeat first | assumption | (refine Bx.n ⟨?_, ?_⟩ <;> focus (first | rfl | (simp; done) | omega)) | refine Bx.a ?_ _ | refine Bx.d ?_ | refine Bx.e ?_ _ | refine Bx.p (by first | omega | simp <;> omega) ?_)
  have hkw : Stab.Keeps w (((w.alloc (.cells #[.int .i64 kind, .int .i64 dim, .slice na nn nc, .slice ka kn kc] 25)).alloc (.cells #[.int .i64 0, .int .i64 0, .slice none 0 0, .slice none 0 0] 25)).alloc (.cells #[.int .i64 0, .int .i64 d, .slice none 0 0, .slice none 0 0] 25)) := by with_reducible (repeat first | exact Kx.r _ | assumption | refine Kx.a ?_ _ | refine Kx.d ?_ | refine Kx.e ?_ _ | refine Kx.s (by simp <;> omega) ?_ _ | refine Kx.t ?_ (by assumption))
  generalize (((w.alloc (.cells #[.int .i64 kind, .int .i64 dim, .slice na nn nc, .slice ka kn kc] 25)).alloc (.cells #[.int .i64 0, .int .i64 0, .slice none 0 0, .slice none 0 0] 25)).alloc (.cells #[.int .i64 0, .int .i64 d, .slice none 0 0, .slice none 0 0] 25)) = W0 at *
  refine (leaf_ 0 (by omega) _).mono ?_
  rintro e w4 ⟨rfl, hk4⟩
  have hB04 := hB0.keep hk4
  have hB14 := hB1.keep hk4
  have hB24 := hB2.keep hk4
  have hkw4 : Stab.Keeps w w4 := hkw.trans hk4
  have hsz4 : w.heap.size + 1 + 1 + 1 ≤ w4.heap.size := by have := hk4.size; omega
  clear hB0 hB1 hB2 hkw hk4 hs1
  have g0 := hB04.cell (i := 0) rfl
  have g1 := hB04.cell (i := 1) rfl
  have g2 := hB04.cell (i := 2) rfl
  have g3 := hB04.cell (i := 3) rfl
  have gf := hB04.free
  have gl := hB04.lt
  go_wp2_with fail
  generalize hB2e : w4.heap.size = B2 at *
  have HB2 := Lib.hid hB2e
  clear hB2e
  have hG0 : GrowB B2 w4 GmR 25 4 0 (.slice none 0 0) (((kids.take 0).map newP).filter (takes 0)) := by simpa using GrowB.nil B2 w4 GmR 25 4 (by have := HB2.out; omega)
  go_loopw [5, 55] (fun dv iv wr => ∃ (j m : Nat) (al : Option Addr) (c : Nat), j ≤ kn ∧ m ≤ j ∧ iv = .int .i64 j ∧ dv = .int .i64 (andD (((kids.take j).map newP).filter (takes 0)) : Nat) ∧ Stab.Keeps w wr ∧ Blk wr (w.heap.size + 1) 25 [.int .i64 0, .int .i64 0, .slice none 0 0, .slice none 0 0] ∧ Blk wr (w.heap.size + 1 + 1) 25 [.int .i64 0, .int .i64 d, .slice none 0 0, .slice al m c] ∧ GrowB B2 wr GmR 25 4 m (.slice al m c) (((kids.take j).map newP).filter (takes 0))) (fun _ iv _ => kn - (intOf iv).toNat)
  case atStart => exact ⟨0, 0, none, 0, by omega, by omega, rfl, rfl, hkw4, hB14, hB24, hG0⟩
  case round =>
    clear hB04 hB14 hB24 hkw4 hG0 g0 g1 g2 g3 gf gl
    obtain ⟨j, m, al, c, hj, hmj, rfl, rfl, hk, hB1, hB2, hG⟩ := hrel
    by_cases hlt : j < kn
    · obtain ⟨b, off, ha, hb, hc⟩ := (h2.keep hk).elem hlt
      subst ha
      have hki : j < kids.length := by have := HKN.out; omega
      have e0 : wr.cell? ⟨b, off + j * 4, none⟩ = some (.int .i64 kids[j].hd.kind) := hc 0 _ (by omega) (by rw [flat_get GT.cells 4 GT.cells_len kids j 0 hki (by omega)]; rfl)
      have e1 : wr.cell? ⟨b, off + j * 4 + 1, none⟩ = some (.int .i64 kids[j].hd.dim) := hc 1 _ (by omega) (by rw [flat_get GT.cells 4 GT.cells_len kids j 1 hki (by omega)]; rfl)
      have e2 : wr.cell? ⟨b, off + j * 4 + 2, none⟩ = some (.slice kids[j].hd.na kids[j].hd.nn kids[j].hd.nc) := hc 2 _ (by omega) (by rw [flat_get GT.cells 4 GT.cells_len kids j 2 hki (by omega)]; rfl)
      have e3 : wr.cell? ⟨b, off + j * 4 + 3, none⟩ = some (.slice kids[j].hd.ka kids[j].hd.kn kids[j].hd.kc) := hc 3 _ (by omega) (by rw [flat_get GT.cells 4 GT.cells_len kids j 3 hki (by omega)]; rfl)
      have hM1 := fun w' (hk' : Stab.Keeps w w') => HIH.out kids[j] (List.getElem_mem _) w' ((HK3.out _ (List.getElem_mem _)).keep hk') (HSM.out _ (List.getElem_mem _))
      have hd4y : (newP kids[j]).dim < 4 := (newP_ok _ (HSM.out _ (List.getElem_mem _))).dim4
      have hsn : ((kids.take (j + 1)).map newP).filter (takes 0) = if takes 0 (newP kids[j]) then ((kids.take j).map newP).filter (takes 0) ++ [newP kids[j]] else ((kids.take j).map newP).filter (takes 0) := by rw [List.take_succ_eq_append_getElem hki, List.map_append]; exact filter_snoc _ _ _
      have HSN := Lib.hid hsn
      clear hc hsn
      generalize kids[j] = x at *
      obtain ⟨⟨xk, xd, xna, xnn, xnc, xka, xkn, xkc⟩, xnums, xkids⟩ := x
      simp only [GT.hd, Gm.val] at hM1 e0 e1 e2 e3
      generalize hxe : (GT.node ⟨xk, xd, xna, xnn, xnc, xka, xkn, xkc⟩ xnums xkids) = X at *
      clear hxe
      generalize newP X = y at *
      generalize hYe : ((kids.take j).map newP).filter (takes 0) = ys at *
      have hgl : B2 ≤ wr.heap.size := hG.size
      have hown : ∀ g, (Value.slice al m c).ownBlock = some g → g < wr.heap.size := fun g hg => (hG.own hg).2
      have hkx : Stab.Keeps w (wr.alloc (.cells #[.int .i64 xk, .int .i64 xd, .slice xna xnn xnc, .slice xka xkn xkc] 25)) := by with_reducible (repeat first | exact Kx.r _ | assumption | refine Kx.a ?_ _ | refine Kx.d ?_ | refine Kx.e ?_ _ | refine Kx.s (by simp <;> omega) ?_ _ | refine Kx.t ?_ (by assumption))
      have hbx : wr.heap.size + 1 = (wr.alloc (.cells #[.int .i64 xk, .int .i64 xd, .slice xna xnn xnc, .slice xka xkn xkc] 25)).heap.size := by simp
      go_wp2_with fail
      refine (hM1 _ hkx).mono ?_
      clear hM1
      rintro e w4 ⟨cs4, rfl, hk4, hx4⟩
      have hkw4 := Stab.Keeps.trans hkx hk4
      have hkr4 : Stab.Keeps wr w4 := Stab.Keeps.trans (Stab.Keeps.alloc (Stab.Keeps.refl _) _) hk4
      obtain ⟨mk, md, mna, mnn, mnc, mka, mkn, mkc, rfl⟩ := hx4.four
      have hxd := hx4.kd
      have hmk : mk = y.kind := by have := hxd.1; omega
      have hmd : md = y.dim := by have := hxd.2; omega
      have hmd4 : md < 4 := by omega
      have hgs := hk4.size
      have hgs2 : wr.heap.size + 1 ≤ w4.heap.size := by omega
      have hBo := hB1.keep hkr4
      have hBt := hB2.keep hkr4
      have hGk := hG.keep gmS hkr4
      clear hB1 hB2 hG e0 e1 e2 e3 hk4 hkx hk hxd hgs hbx hkr4
      have HMK := Lib.hid hmk
      have HMD := Lib.hid hmd
      clear hmk hmd
      go_wp2_with fail
      have hkw5 : Stab.Keeps w (w4.alloc (.cells #[.int .i64 mk, .int .i64 md, .slice mna mnn mnc, .slice mka mkn mkc] 25)) := by with_reducible (repeat first | exact Kx.r _ | assumption | refine Kx.a ?_ _ | refine Kx.d ?_ | refine Kx.e ?_ _ | refine Kx.s (by simp <;> omega) ?_ _ | refine Kx.t ?_ (by assumption))
      have hBm : Blk (w4.alloc (.cells #[.int .i64 mk, .int .i64 md, .slice mna mnn mnc, .slice mka mkn mkc] 25)) w4.heap.size 25 [.int .i64 mk, .int .i64 md, .slice mna mnn mnc, .slice mka mkn mkc] := by with_reducible (repeat first | assumption | (refine Bx.n ⟨?_, ?_⟩ <;> focus (first | rfl | (simp; done) | omega)) | refine Bx.a ?_ _ | refine Bx.d ?_ | refine Bx.e ?_ _ | refine Bx.p (by first | omega | simp <;> omega) ?_)
      have hBo5 : Blk (w4.alloc (.cells #[.int .i64 mk, .int .i64 md, .slice mna mnn mnc, .slice mka mkn mkc] 25)) (w.heap.size + 1) 25 [.int .i64 0, .int .i64 0, .slice none 0 0, .slice none 0 0] := by with_reducible (repeat first | assumption | (refine Bx.n ⟨?_, ?_⟩ <;> focus (first | rfl | (simp; done) | omega)) | refine Bx.a ?_ _ | refine Bx.d ?_ | refine Bx.e ?_ _ | refine Bx.p (by first | omega | simp <;> omega) ?_)
      have hBt5 : Blk (w4.alloc (.cells #[.int .i64 mk, .int .i64 md, .slice mna mnn mnc, .slice mka mkn mkc] 25)) (w.heap.size + 1 + 1) 25 [.int .i64 0, .int .i64 d, .slice none 0 0, .slice al m c] := by with_reducible (repeat first | assumption | (refine Bx.n ⟨?_, ?_⟩ <;> focus (first | rfl | (simp; done) | omega)) | refine Bx.a ?_ _ | refine Bx.d ?_ | refine Bx.e ?_ _ | refine Bx.p (by first | omega | simp <;> omega) ?_)
      have hG5 : GrowB B2 (w4.alloc (.cells #[.int .i64 mk, .int .i64 md, .slice mna mnn mnc, .slice mka mkn mkc] 25)) GmR 25 4 m (.slice al m c) ys := hGk.keep gmS (by with_reducible (repeat first | exact Kx.r _ | assumption | refine Kx.a ?_ _ | refine Kx.d ?_ | refine Kx.e ?_ _ | refine Kx.s (by simp <;> omega) ?_ _ | refine Kx.t ?_ (by assumption)))
      have hx5 : GmR (w4.alloc (.cells #[.int .i64 mk, .int .i64 md, .slice mna mnn mnc, .slice mka mkn mkc] 25)) (fun b => wr.heap.size + 1 ≤ b ∧ b < w4.heap.size) [.int .i64 mk, .int .i64 md, .slice mna mnn mnc, .slice mka mkn mkc] y := gmS.kf (gmS.mono hx4 (fun b hb hf => hf.elim (fun h => h.elim) (fun h => ⟨by simpa using h, hb⟩))) ((KF.refl _ _).alloc _)
      have hs5 : w4.heap.size < (w4.alloc (.cells #[.int .i64 mk, .int .i64 md, .slice mna mnn mnc, .slice mka mkn mkc] 25)).heap.size := by simp
      generalize (w4.alloc (.cells #[.int .i64 mk, .int .i64 md, .slice mna mnn mnc, .slice mka mkn mkc] 25)) = W5 at *
      clear hkw4 hx4 hBo hBt hGk
      have t0 := hBt5.cell (i := 0) rfl
      have t1 := hBt5.cell (i := 1) rfl
      have t2 := hBt5.cell (i := 2) rfl
      have t3 := hBt5.cell (i := 3) rfl
      have tf := hBt5.free
      have tl := hBt5.lt
      have y0 := hBm.cell (i := 0) rfl
      have y1 := hBm.cell (i := 1) rfl
      have y2 := hBm.cell (i := 2) rfl
      have y3 := hBm.cell (i := 3) rfl
      have yf := hBm.free
      have yl := hBm.lt
      have hKO : ∀ w', Calls Tryz.prog 22 #[.int .i64 0] w' (One w' (.int .i64 (-1))) := fun w' => kidOf_ 0 (by omega) w'
      by_cases hkd : True
      · have HKD := Lib.hid hkd
        clear hkd
        refine Stab.keep_region (fun _ _ _ => True) (fun _ => false) (fun k => k == 2 || k == 7) Stab.pre_none (by kernel_rfl) (by kernel_rfl) fun hcx => ?_
        iterate 2 ((with_reducible refine Stab.quiet ?_ ?_ ?_ ?_); rfl; rfl; rfl; intro K hK; go_big_quiet_op; refine hK _ ?_; clear hK K)
        (with_reducible refine Stab.one ?_ ?_ ?_ ?_); rfl; rfl; rfl
        apply Exists.intro
        refine ⟨fun w1 hw1 => ?_, fun K hK => ?_⟩
        · go_simp
          (go_at_call 22; exact hKO _)
        go_simp
        refine hK _ ?_
        clear hK K
        iterate 2 ((with_reducible refine Stab.quiet ?_ ?_ ?_ ?_); rfl; rfl; rfl; intro K hK; go_big_quiet_op; refine hK _ ?_; clear hK K)
        iterate 6 ((with_reducible refine Stab.skip ?_ ?_); rfl; intro K hK; go_simp; refine hK _ ?_; clear hK K)
        (with_reducible refine Stab.quiet ?_ ?_ ?_ ?_); rfl; rfl; rfl; intro K hK; go_big_quiet_op; refine hK _ ?_; clear hK K
        refine Stab.nil fun w6 hk6 _ => ?_
        have hkw6 := Stab.Keeps.trans hkw5 hk6
        have hBm6 := hBm.keep hk6
        have hBo6 := hBo5.keep hk6
        have hBt6 := hBt5.keep hk6
        have hG6 : GrowB B2 (w6.alloc (.cells #[.int .i64 mk, .int .i64 md, .slice mna mnn mnc, .slice mka mkn mkc] 25)) GmR 25 4 m (.slice al m c) ys := (hG5.keep gmS hk6).keep gmS ((Stab.Keeps.refl w6).alloc (.cells #[.int .i64 mk, .int .i64 md, .slice mna mnn mnc, .slice mka mkn mkc] 25))
        have hx6 : GmR (w6.alloc (.cells #[.int .i64 mk, .int .i64 md, .slice mna mnn mnc, .slice mka mkn mkc] 25)) (fun b => wr.heap.size + 1 ≤ b ∧ b < w4.heap.size) [.int .i64 mk, .int .i64 md, .slice mna mnn mnc, .slice mka mkn mkc] y := gmS.kf (gmS.kf hx5 (KF.keeps hk6)) ((KF.refl _ _).alloc _)
        have hs6 : w4.heap.size < w6.heap.size := by have := hk6.size; omega
        have hone : ∀ u ∈ ([.int .i64 mk, .int .i64 md, .slice mna mnn mnc, .slice mka mkn mkc] : List Value), u.oneCell' = true := hx6.ones
        clear hcx hBm hBo5 hBt5 hG5 hx5 hs5 hkw5 hk6 t0 t1 t2 t3 tf tl y0 y1 y2 y3 yf yl
        have t0 := hBt6.cell (i := 0) rfl
        have t1 := hBt6.cell (i := 1) rfl
        have t2 := hBt6.cell (i := 2) rfl
        have t3 := hBt6.cell (i := 3) rfl
        have tf := hBt6.free
        have tl := hBt6.lt
        have y0 := hBm6.cell (i := 0) rfl
        have y1 := hBm6.cell (i := 1) rfl
        have y2 := hBm6.cell (i := 2) rfl
        have y3 := hBm6.cell (i := 3) rfl
        have yf := hBm6.free
        have yl := hBm6.lt
        have HG6 := Lib.hid hG6
        clear hG6
        go_wp2_with (at_builtin; (refine append_growB (B := B2) gmS rfl _ _ 23 rfl 25 i0 _ 4 64 Tryz.underlying23 HI.out HZ0.out HZ1.out HZ2.out rfl (by decide) _ m ys rfl HG6.out ⟨w6.heap.size, 0, none⟩ 1 [.int .i64 mk, .int .i64 md, .slice mna mnn mnc, .slice mka mkn mkc] rfl rfl ?c1 hone ?c2 ?c3 y _ hx6 ?c4 ?c5 ?_))
        case c1 => exact new_cells _ _ _ _ rfl
        case c2 => unfold maxLen; omega
        case c3 => omega
        case c4 => exact fun b hb => ⟨by omega, by simp; omega⟩
        case c5 => exact fun g hg hb => by have := hown g hg; omega
        intro al' c' w7 hG7 hB7 hgr
        have hsz7 : w.heap.size + 1 + 1 + 1 ≤ w7.heap.size := by have := hB7.size; simp at this; omega
        have hBt7 : Blk w7 (w.heap.size + 1 + 1) 25 [.int .i64 0, .int .i64 d, .slice none 0 0, .slice al m c] := Blk.below (B := B2) (by with_reducible (repeat first | assumption | (refine Bx.n ⟨?_, ?_⟩ <;> focus (first | rfl | (simp; done) | omega)) | refine Bx.a ?_ _ | refine Bx.d ?_ | refine Bx.e ?_ _ | refine Bx.p (by first | omega | simp <;> omega) ?_)) hB7 (by omega)
        have hBo7 : Blk w7 (w.heap.size + 1) 25 [.int .i64 0, .int .i64 0, .slice none 0 0, .slice none 0 0] := Blk.below (B := B2) (by with_reducible (repeat first | assumption | (refine Bx.n ⟨?_, ?_⟩ <;> focus (first | rfl | (simp; done) | omega)) | refine Bx.a ?_ _ | refine Bx.d ?_ | refine Bx.e ?_ _ | refine Bx.p (by first | omega | simp <;> omega) ?_)) hB7 (by omega)
        have hBm7 : Blk w7 w4.heap.size 25 [.int .i64 mk, .int .i64 md, .slice mna mnn mnc, .slice mka mkn mkc] := Go.Kf.Blk.grown (by with_reducible (repeat first | assumption | (refine Bx.n ⟨?_, ?_⟩ <;> focus (first | rfl | (simp; done) | omega)) | refine Bx.a ?_ _ | refine Bx.d ?_ | refine Bx.e ?_ _ | refine Bx.p (by first | omega | simp <;> omega) ?_)) hgr (fun e => by have := hown _ e; omega)
        have hk7 : Stab.Keeps w w7 := Below.trans (Stab.Keeps.alloc hkw6 _) (Below.mono hB7 (by omega))
        clear hx6 HG6 hown hgr hB7 hBt6 hBo6 hBm6 hkw6 t0 t1 t2 t3 tf tl y0 y1 y2 y3 yf yl
        have hk8 : Stab.Keeps w (w7.setCell ⟨w.heap.size + 1 + 1, 3, none⟩ (.slice al' (m + 1) c')) := Stab.Keeps.setCell (by simp; omega) hk7 _
        have hBt8 := hBt7.set 3 (.slice al' (m + 1) c')
        simp only [List.set] at hBt8
        have hBo8 : Blk (w7.setCell ⟨w.heap.size + 1 + 1, 3, none⟩ (.slice al' (m + 1) c')) (w.heap.size + 1) 25 [.int .i64 0, .int .i64 0, .slice none 0 0, .slice none 0 0] := by with_reducible (repeat first | assumption | (refine Bx.n ⟨?_, ?_⟩ <;> focus (first | rfl | (simp; done) | omega)) | refine Bx.a ?_ _ | refine Bx.d ?_ | refine Bx.e ?_ _ | refine Bx.p (by first | omega | simp <;> omega) ?_)
        have hBm8 : Blk (w7.setCell ⟨w.heap.size + 1 + 1, 3, none⟩ (.slice al' (m + 1) c')) w4.heap.size 25 [.int .i64 mk, .int .i64 md, .slice mna mnn mnc, .slice mka mkn mkc] := by with_reducible (repeat first | assumption | (refine Bx.n ⟨?_, ?_⟩ <;> focus (first | rfl | (simp; done) | omega)) | refine Bx.a ?_ _ | refine Bx.d ?_ | refine Bx.e ?_ _ | refine Bx.p (by first | omega | simp <;> omega) ?_)
        have hG8 := hG7.kf gmS (w4 := w7.setCell ⟨w.heap.size + 1 + 1, 3, none⟩ (.slice al' (m + 1) c')) ((KF.refl _ _).set (fun h => by simp at h; omega))
        have hdd : bits .and .i64 (andD ys : Nat) md = ((andD (ys ++ [y]) : Nat) : Int) := by
          rw [andD_snoc, ← HMD.out]
          exact i64_andN _ _ (andD_lt _) hmd4
        have hys : ((kids.take (j + 1)).map newP).filter (takes 0) = ys ++ [y] := by rw [HSN.out, if_pos]; rfl
        have HYS := Lib.hid hys
        clear hys hG7 hk7 HSN HMK HMD
        have t0 := hBt7.cell (i := 0) rfl
        have t1 := hBt7.cell (i := 1) rfl
        have t2 := hBt7.cell (i := 2) rfl
        have t3 := hBt7.cell (i := 3) rfl
        have tf := hBt7.free
        have tl := hBt7.lt
        go_upto_region 17 with (fail)
        generalize (w7.setCell ⟨w.heap.size + 1 + 1, 3, none⟩ (.slice al' (m + 1) c')) = W8 at *
        clear hBt7 hBo7 hBm7 t0 t1 t2 t3 tf tl
        have y0 := hBm8.cell (i := 0) rfl
        have y1 := hBm8.cell (i := 1) rfl
        have y2 := hBm8.cell (i := 2) rfl
        have y3 := hBm8.cell (i := 3) rfl
        have yf := hBm8.free
        have yl := hBm8.lt
        go_wp2_with fail
        exact ⟨⟨j + 1, m + 1, al', c', by omega, by omega, by simp, by rw [HYS.out], hk8, hBo8, hBt8, by rw [HYS.out]; exact hG8⟩, by simp [intOf]; omega⟩
      · exact absurd trivial hkd
    · obtain rfl : kn = j := by omega
      have hfull : kids.take kn = kids := List.take_of_length_le (by rw [HKN.out]; exact Nat.le_refl _)
      rw [hfull] at hG ⊢
      have hall : ∀ p ∈ (kids.map newP).filter (takes 0), PgOk p := fun p hp => by
        obtain ⟨r, hr, rfl⟩ := List.mem_map.1 (List.mem_filter.1 hp).1
        exact newP_ok r (HSM.out r hr)
      generalize (kids.map newP).filter (takes 0) = ys at *
      have hyl := hG.len
      have hsz := hk.size
      have hgl : B2 ≤ wr.heap.size := hG.size
      obtain ⟨css, hR⟩ := hG.toRows gmS
      have hokn : PgOk (.node 0 d [] ys) := .mk _ _ _ _ hd4 (by simp) (by simp) (by have := HKN.out; omega) hall
      have HOKN := Lib.hid hokn
      clear hG hfull hall hokn
      have HHS := Lib.hid hsz4
      rcases Nat.eq_zero_or_pos m with h0 | h0
      · subst h0
        have hy0 : ys = [] := List.length_eq_zero_iff.1 hyl
        subst hy0
        have t0 := hB2.cell (i := 0) rfl
        have t1 := hB2.cell (i := 1) rfl
        have t2 := hB2.cell (i := 2) rfl
        have t3 := hB2.cell (i := 3) rfl
        have tf := hB2.free
        have tl := hB2.lt
        have g0 := hB1.cell (i := 0) rfl
        have g1 := hB1.cell (i := 1) rfl
        have g2 := hB1.cell (i := 2) rfl
        have g3 := hB1.cell (i := 3) rfl
        have gf := hB1.free
        have gl := hB1.lt
        have hB1n := (((hB1.set 0 (.int .i64 0)).set 1 (.int .i64 d)).set 2 (.slice none 0 0)).set 3 (.slice al 0 c)
        simp only [List.set] at hB1n
        have hkf : ∀ (G : Nat → Prop), ¬ G (w.heap.size + 1) → KF G wr ((((wr.setCell ⟨w.heap.size + 1, 0, none⟩ (.int .i64 0)).setCell ⟨w.heap.size + 1, 1, none⟩ (.int .i64 d)).setCell ⟨w.heap.size + 1, 2, none⟩ (.slice none 0 0)).setCell ⟨w.heap.size + 1, 3, none⟩ (.slice al 0 c)) := fun G hG' => ((((KF.refl _ _).set hG').set hG').set hG').set hG'
        have hkz : Stab.Keeps w ((((wr.setCell ⟨w.heap.size + 1, 0, none⟩ (.int .i64 0)).setCell ⟨w.heap.size + 1, 1, none⟩ (.int .i64 d)).setCell ⟨w.heap.size + 1, 2, none⟩ (.slice none 0 0)).setCell ⟨w.heap.size + 1, 3, none⟩ (.slice al 0 c)) := by with_reducible (repeat first | exact Kx.r _ | assumption | refine Kx.a ?_ _ | refine Kx.d ?_ | refine Kx.e ?_ _ | refine Kx.s (by simp <;> omega) ?_ _ | refine Kx.t ?_ (by assumption))
        have hSzn := hR.sz.kf (hkf _ (fun h => by have := HHS.out; omega))
        have HR := Lib.hid hR
        clear hR
        go_wp2_with fail
        generalize ((((wr.setCell ⟨w.heap.size + 1, 0, none⟩ (.int .i64 0)).setCell ⟨w.heap.size + 1, 1, none⟩ (.int .i64 d)).setCell ⟨w.heap.size + 1, 2, none⟩ (.slice none 0 0)).setCell ⟨w.heap.size + 1, 3, none⟩ (.slice al 0 c)) = Wz at *
        clear hB1 hB2 t0 t1 t2 t3 tf tl g0 g1 g2 g3 gf gl hkf
        have y0 := hB1n.cell (i := 0) rfl
        have y1 := hB1n.cell (i := 1) rfl
        have y2 := hB1n.cell (i := 2) rfl
        have y3 := hB1n.cell (i := 3) rfl
        have yf := hB1n.free
        have yl := hB1n.lt
        refine bodyPost_ret (v := .agg #[.int .i64 0, .int .i64 d, .slice none 0 0, .slice al 0 c]) (by simp [results, Tryz.results13, go_sem, *]) rfl ⟨[.int .i64 (0 : Nat), .int .i64 d, .slice none 0 0, .slice al 0 c], rfl, hkz, ?_⟩
        exact .mk 0 d _ _ none al _ _ _ _ css rfl (SzF.nil _ _ _) HR.out.lc HR.out.lx HR.out.each (hSzn.mono fun b _ hb => .inr (by have := HHS.out; omega)) (fun i h1 h2 => by simp at h2)
      · have hne1 : ((m : Int) == 0) = false := by simp; omega
        have hne2 : (m == 0) = false := by simp; omega
        have hwp : wholeP 0 d ys = forceP (andD ys) (.node 0 d [] ys) := whole_force _ _ _ (fun e => by rw [e] at hyl; simp at hyl; omega)
        have hgm : GmR wr (fun b => B2 ≤ b) [.int .i64 (0 : Nat), .int .i64 d, .slice none 0 0, .slice al m c] (.node 0 d [] ys) := .mk 0 d _ _ none al _ _ _ _ css rfl (SzF.nil _ _ _) hR.lc hR.lx hR.each hR.sz hR.is
        have hF1 := sforce_ (andD ys) (andD_lt _) (.node 0 d [] ys) HOKN.out _ _ wr hgm
        have HWP := Lib.hid hwp
        clear hR hgm hwp
        have t0 := hB2.cell (i := 0) rfl
        have t1 := hB2.cell (i := 1) rfl
        have t2 := hB2.cell (i := 2) rfl
        have t3 := hB2.cell (i := 3) rfl
        have tf := hB2.free
        have tl := hB2.lt
        go_wp2_with fail
        refine hF1.mono ?_
        clear hF1
        rintro e w5 ⟨cs5, rfl, hk5, hx5⟩
        obtain ⟨zk, zd, zna, znn, znc, zka, zkn, zkc, rfl⟩ := hx5.four
        have hB15 := hB1.keep hk5
        have hkw5 := Stab.Keeps.trans hk hk5
        have hs5 := hk5.size
        clear hB1 hB2 t0 t1 t2 t3 tf tl hk hk5
        have g0 := hB15.cell (i := 0) rfl
        have g1 := hB15.cell (i := 1) rfl
        have g2 := hB15.cell (i := 2) rfl
        have g3 := hB15.cell (i := 3) rfl
        have gf := hB15.free
        have gl := hB15.lt
        have hB1n := (((hB15.set 0 (.int .i64 zk)).set 1 (.int .i64 zd)).set 2 (.slice zna znn znc)).set 3 (.slice zka zkn zkc)
        simp only [List.set] at hB1n
        have hkf : ∀ (G : Nat → Prop), ¬ G (w.heap.size + 1) → KF G w5 ((((w5.setCell ⟨w.heap.size + 1, 0, none⟩ (.int .i64 zk)).setCell ⟨w.heap.size + 1, 1, none⟩ (.int .i64 zd)).setCell ⟨w.heap.size + 1, 2, none⟩ (.slice zna znn znc)).setCell ⟨w.heap.size + 1, 3, none⟩ (.slice zka zkn zkc)) := fun G hG' => ((((KF.refl _ _).set hG').set hG').set hG').set hG'
        have hkz : Stab.Keeps w ((((w5.setCell ⟨w.heap.size + 1, 0, none⟩ (.int .i64 zk)).setCell ⟨w.heap.size + 1, 1, none⟩ (.int .i64 zd)).setCell ⟨w.heap.size + 1, 2, none⟩ (.slice zna znn znc)).setCell ⟨w.heap.size + 1, 3, none⟩ (.slice zka zkn zkc)) := by with_reducible (repeat first | exact Kx.r _ | assumption | refine Kx.a ?_ _ | refine Kx.d ?_ | refine Kx.e ?_ _ | refine Kx.s (by simp <;> omega) ?_ _ | refine Kx.t ?_ (by assumption))
        have hxn := gmS.kf (gmS.mono hx5 (fun b _ hb => hb.elim (fun h => h.elim) (fun h => h))) (hkf _ (fun h => by have := HHS.out; omega))
        clear hx5
        go_wp2_with fail
        generalize ((((w5.setCell ⟨w.heap.size + 1, 0, none⟩ (.int .i64 zk)).setCell ⟨w.heap.size + 1, 1, none⟩ (.int .i64 zd)).setCell ⟨w.heap.size + 1, 2, none⟩ (.slice zna znn znc)).setCell ⟨w.heap.size + 1, 3, none⟩ (.slice zka zkn zkc)) = Wz at *
        clear hB15 g0 g1 g2 g3 gf gl hkf
        have y0 := hB1n.cell (i := 0) rfl
        have y1 := hB1n.cell (i := 1) rfl
        have y2 := hB1n.cell (i := 2) rfl
        have y3 := hB1n.cell (i := 3) rfl
        have yf := hB1n.free
        have yl := hB1n.lt
        refine bodyPost_ret (v := .agg #[.int .i64 zk, .int .i64 zd, .slice zna znn znc, .slice zka zkn zkc]) (by simp [results, Tryz.results13, go_sem, *]) rfl ⟨[.int .i64 zk, .int .i64 zd, .slice zna znn znc, .slice zka zkn zkc], rfl, hkz, ?_⟩
        rw [HWP.out]
        exact gmS.mono hxn (fun b _ hb => .inr (by have := HHS.out; omega))
set_option maxRecDepth 100000 in
set_option maxHeartbeats 4000000 in
theorem newWh0c_ (t : GT) (w : World) (hA : t.At w) (hs : t.Small) (hk : 6 < t.hd.kind) (ih : ∀ c ∈ t.kids, SNew c) : Calls Tryz.prog 13 #[t.hd.val] w (RetR w no GmR (newP t)) := by
  obtain ⟨i0, hi, hz0, hz1, hz2⟩ := info_parts infoGm
  have HI := Lib.hid hi
  have HZ0 := Lib.hid hz0
  have HZ1 := Lib.hid hz1
  have HZ2 := Lib.hid hz2
  clear hi hz0 hz1 hz2
  have HOK := Lib.hid (newP_ok t hs)
  cases hA with
  | mk h nums kids hn hkn h1 h2 h3 =>
  obtain ⟨kind, dim, na, nn, nc, ka, kn, kc⟩ := h
  simp only [GT.hd] at hk hn hkn h1 h2 ⊢
  have hkk : kids.length ≤ 1000 := hs.few
  have hkid := hs.kid
  have hK : kindN kind = 0 := by unfold kindN; rw [if_neg (by omega)]
  have hk1 : decide (kind < 0) = false := by simp; omega
  have hk2 : decide (kind > 6) = true := by simpa using hk
  have hk3 : decide (6 < kind) = true := by simpa using hk
  rw [newP_whole _ _ _ (by show kindN kind ≠ 1; rw [hK]; decide) (by show kindN kind ≠ 2; rw [hK]; decide)] at HOK ⊢
  simp only [Gm.val]
  simp only [hK] at HOK ⊢
  have hd4 := dim4_lt dim
  have hband : bits .and .i64 dim 3 = (dim4 dim : Int) := by rw [i64_and3]; unfold dim4; omega
  generalize hde : dim4 dim = d at *
  have hle := h2.le
  have hmx := h2.max
  unfold maxLen at hmx
  have HKN := Lib.hid hkn
  have HIH := Lib.hid ih
  have HK3 := Lib.hid h3
  have HSM := Lib.hid hkid
  clear hde hs h1 hn hkn ih h3 hkid hK hk
  go_enter Tryz.func13, Tryz.ntmps13
  go_wp2_with fail
  have hs1 : (((w.alloc (.cells #[.int .i64 kind, .int .i64 dim, .slice na nn nc, .slice ka kn kc] 25)).alloc (.cells #[.int .i64 0, .int .i64 0, .slice none 0 0, .slice none 0 0] 25)).alloc (.cells #[.int .i64 0, .int .i64 d, .slice none 0 0, .slice none 0 0] 25)).heap.size = w.heap.size + 1 + 1 + 1 := by simp
  have hB0 : Blk (((w.alloc (.cells #[.int .i64 kind, .int .i64 dim, .slice na nn nc, .slice ka kn kc] 25)).alloc (.cells #[.int .i64 0, .int .i64 0, .slice none 0 0, .slice none 0 0] 25)).alloc (.cells #[.int .i64 0, .int .i64 d, .slice none 0 0, .slice none 0 0] 25)) w.heap.size 25 [.int .i64 kind, .int .i64 dim, .slice na nn nc, .slice ka kn kc] := by with_reducible (repeat first | assumption | (refine Bx.n ⟨?_, ?_⟩ <;> focus (first | rfl | (simp; done) | omega)) | refine Bx.a ?_ _ | refine Bx.d ?_ | refine Bx.e ?_ _ | refine Bx.p (by first | omega | simp <;> omega) ?_)
  have hB1 : Blk (((w.alloc (.cells #[.int .i64 kind, .int .i64 dim, .slice na nn nc, .slice ka kn kc] 25)).alloc (.cells #[.int .i64 0, .int .i64 0, .slice none 0 0, .slice none 0 0] 25)).alloc (.cells #[.int .i64 0, .int .i64 d, .slice none 0 0, .slice none 0 0] 25)) (w.heap.size + 1) 25 [.int .i64 0, .int .i64 0, .slice none 0 0, .slice none 0 0] := by with_reducible (repeat first | assumption | (refine Bx.n ⟨?_, ?_⟩ <;> focus (first | rfl | (simp; done) | omega)) | refine Bx.a ?_ _ | refine Bx.d ?_ | refine Bx.e ?_ _ | refine Bx.p (by first | omega | simp <;> omega) ?_)
  have hB2 : Blk (((w.alloc (.cells #[.int .i64 kind, .int .i64 dim, .slice na nn nc, .slice ka kn kc] 25)).alloc (.cells #[.int .i64 0, .int .i64 0, .slice none 0 0, .slice none 0 0] 25)).alloc (.cells #[.int .i64 0, .int .i64 d, .slice none 0 0, .slice none 0 0] 25)) (w.heap.size + 1 + 1) 25 [.int .i64 0, .int .i64 d, .slice none 0 0, .slice none 0 0] := by with_reducible (repeat first | assumption | (refine Bx.n ⟨?_, ?_⟩ <;> focus (first | rfl | (simp; done) | omega)) | refine Bx.a ?_ _ | refine Bx.d ?_ | refine Bx.e ?_ _ | refine Bx.p (by first | omega | simp <;> omega) ?_)
  have hkw : Stab.Keeps w (((w.alloc (.cells #[.int .i64 kind, .int .i64 dim, .slice na nn nc, .slice ka kn kc] 25)).alloc (.cells #[.int .i64 0, .int .i64 0, .slice none 0 0, .slice none 0 0] 25)).alloc (.cells #[.int .i64 0, .int .i64 d, .slice none 0 0, .slice none 0 0] 25)) := by with_reducible (repeat first | exact Kx.r _ | assumption | refine Kx.a ?_ _ | refine Kx.d ?_ | refine Kx.e ?_ _ | refine Kx.s (by simp <;> omega) ?_ _ | refine Kx.t ?_ (by assumption))
  generalize (((w.alloc (.cells #[.int .i64 kind, .int .i64 dim, .slice na nn nc, .slice ka kn kc] 25)).alloc (.cells #[.int .i64 0, .int .i64 0, .slice none 0 0, .slice none 0 0] 25)).alloc (.cells #[.int .i64 0, .int .i64 d, .slice none 0 0, .slice none 0 0] 25)) = W0 at *
  refine (leaf_ 0 (by omega) _).mono ?_
  rintro e w4 ⟨rfl, hk4⟩
  have hB04 := hB0.keep hk4
  have hB14 := hB1.keep hk4
  have hB24 := hB2.keep hk4
  have hkw4 : Stab.Keeps w w4 := hkw.trans hk4
  have hsz4 : w.heap.size + 1 + 1 + 1 ≤ w4.heap.size := by have := hk4.size; omega
  clear hB0 hB1 hB2 hkw hk4 hs1
  have g0 := hB04.cell (i := 0) rfl
  have g1 := hB04.cell (i := 1) rfl
  have g2 := hB04.cell (i := 2) rfl
  have g3 := hB04.cell (i := 3) rfl
  have gf := hB04.free
  have gl := hB04.lt
  go_wp2_with fail
  generalize hB2e : w4.heap.size = B2 at *
  have HB2 := Lib.hid hB2e
  clear hB2e
  have hG0 : GrowB B2 w4 GmR 25 4 0 (.slice none 0 0) (((kids.take 0).map newP).filter (takes 0)) := by simpa using GrowB.nil B2 w4 GmR 25 4 (by have := HB2.out; omega)
  go_loopw [5, 55] (fun dv iv wr => ∃ (j m : Nat) (al : Option Addr) (c : Nat), j ≤ kn ∧ m ≤ j ∧ iv = .int .i64 j ∧ dv = .int .i64 (andD (((kids.take j).map newP).filter (takes 0)) : Nat) ∧ Stab.Keeps w wr ∧ Blk wr (w.heap.size + 1) 25 [.int .i64 0, .int .i64 0, .slice none 0 0, .slice none 0 0] ∧ Blk wr (w.heap.size + 1 + 1) 25 [.int .i64 0, .int .i64 d, .slice none 0 0, .slice al m c] ∧ GrowB B2 wr GmR 25 4 m (.slice al m c) (((kids.take j).map newP).filter (takes 0))) (fun _ iv _ => kn - (intOf iv).toNat)
  case atStart => exact ⟨0, 0, none, 0, by omega, by omega, rfl, rfl, hkw4, hB14, hB24, hG0⟩
  case round =>
    clear hB04 hB14 hB24 hkw4 hG0 g0 g1 g2 g3 gf gl
    obtain ⟨j, m, al, c, hj, hmj, rfl, rfl, hk, hB1, hB2, hG⟩ := hrel
    by_cases hlt : j < kn
    · obtain ⟨b, off, ha, hb, hc⟩ := (h2.keep hk).elem hlt
      subst ha
      have hki : j < kids.length := by have := HKN.out; omega
      have e0 : wr.cell? ⟨b, off + j * 4, none⟩ = some (.int .i64 kids[j].hd.kind) := hc 0 _ (by omega) (by rw [flat_get GT.cells 4 GT.cells_len kids j 0 hki (by omega)]; rfl)
      have e1 : wr.cell? ⟨b, off + j * 4 + 1, none⟩ = some (.int .i64 kids[j].hd.dim) := hc 1 _ (by omega) (by rw [flat_get GT.cells 4 GT.cells_len kids j 1 hki (by omega)]; rfl)
      have e2 : wr.cell? ⟨b, off + j * 4 + 2, none⟩ = some (.slice kids[j].hd.na kids[j].hd.nn kids[j].hd.nc) := hc 2 _ (by omega) (by rw [flat_get GT.cells 4 GT.cells_len kids j 2 hki (by omega)]; rfl)
      have e3 : wr.cell? ⟨b, off + j * 4 + 3, none⟩ = some (.slice kids[j].hd.ka kids[j].hd.kn kids[j].hd.kc) := hc 3 _ (by omega) (by rw [flat_get GT.cells 4 GT.cells_len kids j 3 hki (by omega)]; rfl)
      have hM1 := fun w' (hk' : Stab.Keeps w w') => HIH.out kids[j] (List.getElem_mem _) w' ((HK3.out _ (List.getElem_mem _)).keep hk') (HSM.out _ (List.getElem_mem _))
      have hd4y : (newP kids[j]).dim < 4 := (newP_ok _ (HSM.out _ (List.getElem_mem _))).dim4
      have hsn : ((kids.take (j + 1)).map newP).filter (takes 0) = if takes 0 (newP kids[j]) then ((kids.take j).map newP).filter (takes 0) ++ [newP kids[j]] else ((kids.take j).map newP).filter (takes 0) := by rw [List.take_succ_eq_append_getElem hki, List.map_append]; exact filter_snoc _ _ _
      have HSN := Lib.hid hsn
      clear hc hsn
      generalize kids[j] = x at *
      obtain ⟨⟨xk, xd, xna, xnn, xnc, xka, xkn, xkc⟩, xnums, xkids⟩ := x
      simp only [GT.hd, Gm.val] at hM1 e0 e1 e2 e3
      generalize hxe : (GT.node ⟨xk, xd, xna, xnn, xnc, xka, xkn, xkc⟩ xnums xkids) = X at *
      clear hxe
      generalize newP X = y at *
      generalize hYe : ((kids.take j).map newP).filter (takes 0) = ys at *
      have hgl : B2 ≤ wr.heap.size := hG.size
      have hown : ∀ g, (Value.slice al m c).ownBlock = some g → g < wr.heap.size := fun g hg => (hG.own hg).2
      have hkx : Stab.Keeps w (wr.alloc (.cells #[.int .i64 xk, .int .i64 xd, .slice xna xnn xnc, .slice xka xkn xkc] 25)) := by with_reducible (repeat first | exact Kx.r _ | assumption | refine Kx.a ?_ _ | refine Kx.d ?_ | refine Kx.e ?_ _ | refine Kx.s (by simp <;> omega) ?_ _ | refine Kx.t ?_ (by assumption))
      have hbx : wr.heap.size + 1 = (wr.alloc (.cells #[.int .i64 xk, .int .i64 xd, .slice xna xnn xnc, .slice xka xkn xkc] 25)).heap.size := by simp
      go_wp2_with fail
      refine (hM1 _ hkx).mono ?_
      clear hM1
      rintro e w4 ⟨cs4, rfl, hk4, hx4⟩
      have hkw4 := Stab.Keeps.trans hkx hk4
      have hkr4 : Stab.Keeps wr w4 := Stab.Keeps.trans (Stab.Keeps.alloc (Stab.Keeps.refl _) _) hk4
      obtain ⟨mk, md, mna, mnn, mnc, mka, mkn, mkc, rfl⟩ := hx4.four
      have hxd := hx4.kd
      have hmk : mk = y.kind := by have := hxd.1; omega
      have hmd : md = y.dim := by have := hxd.2; omega
      have hmd4 : md < 4 := by omega
      have hgs := hk4.size
      have hgs2 : wr.heap.size + 1 ≤ w4.heap.size := by omega
      have hBo := hB1.keep hkr4
      have hBt := hB2.keep hkr4
      have hGk := hG.keep gmS hkr4
      clear hB1 hB2 hG e0 e1 e2 e3 hk4 hkx hk hxd hgs hbx hkr4
      have HMK := Lib.hid hmk
      have HMD := Lib.hid hmd
      clear hmk hmd
      go_wp2_with fail
      have hkw5 : Stab.Keeps w (w4.alloc (.cells #[.int .i64 mk, .int .i64 md, .slice mna mnn mnc, .slice mka mkn mkc] 25)) := by with_reducible (repeat first | exact Kx.r _ | assumption | refine Kx.a ?_ _ | refine Kx.d ?_ | refine Kx.e ?_ _ | refine Kx.s (by simp <;> omega) ?_ _ | refine Kx.t ?_ (by assumption))
      have hBm : Blk (w4.alloc (.cells #[.int .i64 mk, .int .i64 md, .slice mna mnn mnc, .slice mka mkn mkc] 25)) w4.heap.size 25 [.int .i64 mk, .int .i64 md, .slice mna mnn mnc, .slice mka mkn mkc] := by with_reducible (repeat first | assumption | (refine Bx.n ⟨?_, ?_⟩ <;> focus (first | rfl | (simp; done) | omega)) | refine Bx.a ?_ _ | refine Bx.d ?_ | refine Bx.e ?_ _ | refine Bx.p (by first | omega | simp <;> omega) ?_)
      have hBo5 : Blk (w4.alloc (.cells #[.int .i64 mk, .int .i64 md, .slice mna mnn mnc, .slice mka mkn mkc] 25)) (w.heap.size + 1) 25 [.int .i64 0, .int .i64 0, .slice none 0 0, .slice none 0 0] := by with_reducible (repeat first | assumption | (refine Bx.n ⟨?_, ?_⟩ <;> focus (first | rfl | (simp; done) | omega)) | refine Bx.a ?_ _ | refine Bx.d ?_ | refine Bx.e ?_ _ | refine Bx.p (by first | omega | simp <;> omega) ?_)
      have hBt5 : Blk (w4.alloc (.cells #[.int .i64 mk, .int .i64 md, .slice mna mnn mnc, .slice mka mkn mkc] 25)) (w.heap.size + 1 + 1) 25 [.int .i64 0, .int .i64 d, .slice none 0 0, .slice al m c] := by with_reducible (repeat first | assumption | (refine Bx.n ⟨?_, ?_⟩ <;> focus (first | rfl | (simp; done) | omega)) | refine Bx.a ?_ _ | refine Bx.d ?_ | refine Bx.e ?_ _ | refine Bx.p (by first | omega | simp <;> omega) ?_)
      have hG5 : GrowB B2 (w4.alloc (.cells #[.int .i64 mk, .int .i64 md, .slice mna mnn mnc, .slice mka mkn mkc] 25)) GmR 25 4 m (.slice al m c) ys := hGk.keep gmS (by with_reducible (repeat first | exact Kx.r _ | assumption | refine Kx.a ?_ _ | refine Kx.d ?_ | refine Kx.e ?_ _ | refine Kx.s (by simp <;> omega) ?_ _ | refine Kx.t ?_ (by assumption)))
      have hx5 : GmR (w4.alloc (.cells #[.int .i64 mk, .int .i64 md, .slice mna mnn mnc, .slice mka mkn mkc] 25)) (fun b => wr.heap.size + 1 ≤ b ∧ b < w4.heap.size) [.int .i64 mk, .int .i64 md, .slice mna mnn mnc, .slice mka mkn mkc] y := gmS.kf (gmS.mono hx4 (fun b hb hf => hf.elim (fun h => h.elim) (fun h => ⟨by simpa using h, hb⟩))) ((KF.refl _ _).alloc _)
      have hs5 : w4.heap.size < (w4.alloc (.cells #[.int .i64 mk, .int .i64 md, .slice mna mnn mnc, .slice mka mkn mkc] 25)).heap.size := by simp
      generalize (w4.alloc (.cells #[.int .i64 mk, .int .i64 md, .slice mna mnn mnc, .slice mka mkn mkc] 25)) = W5 at *
      clear hkw4 hx4 hBo hBt hGk
      have t0 := hBt5.cell (i := 0) rfl
      have t1 := hBt5.cell (i := 1) rfl
      have t2 := hBt5.cell (i := 2) rfl
      have t3 := hBt5.cell (i := 3) rfl
      have tf := hBt5.free
      have tl := hBt5.lt
      have y0 := hBm.cell (i := 0) rfl
      have y1 := hBm.cell (i := 1) rfl
      have y2 := hBm.cell (i := 2) rfl
      have y3 := hBm.cell (i := 3) rfl
      have yf := hBm.free
      have yl := hBm.lt
      have hKO : ∀ w', Calls Tryz.prog 22 #[.int .i64 0] w' (One w' (.int .i64 (-1))) := fun w' => kidOf_ 0 (by omega) w'
      by_cases hkd : True
      · have HKD := Lib.hid hkd
        clear hkd
        refine Stab.keep_region (fun _ _ _ => True) (fun _ => false) (fun k => k == 2 || k == 7) Stab.pre_none (by kernel_rfl) (by kernel_rfl) fun hcx => ?_
        iterate 2 ((with_reducible refine Stab.quiet ?_ ?_ ?_ ?_); rfl; rfl; rfl; intro K hK; go_big_quiet_op; refine hK _ ?_; clear hK K)
        (with_reducible refine Stab.one ?_ ?_ ?_ ?_); rfl; rfl; rfl
        apply Exists.intro
        refine ⟨fun w1 hw1 => ?_, fun K hK => ?_⟩
        · go_simp
          (go_at_call 22; exact hKO _)
        go_simp
        refine hK _ ?_
        clear hK K
        iterate 2 ((with_reducible refine Stab.quiet ?_ ?_ ?_ ?_); rfl; rfl; rfl; intro K hK; go_big_quiet_op; refine hK _ ?_; clear hK K)
        iterate 6 ((with_reducible refine Stab.skip ?_ ?_); rfl; intro K hK; go_simp; refine hK _ ?_; clear hK K)
        (with_reducible refine Stab.quiet ?_ ?_ ?_ ?_); rfl; rfl; rfl; intro K hK; go_big_quiet_op; refine hK _ ?_; clear hK K
        refine Stab.nil fun w6 hk6 _ => ?_
        have hkw6 := Stab.Keeps.trans hkw5 hk6
        have hBm6 := hBm.keep hk6
        have hBo6 := hBo5.keep hk6
        have hBt6 := hBt5.keep hk6
        have hG6 : GrowB B2 (w6.alloc (.cells #[.int .i64 mk, .int .i64 md, .slice mna mnn mnc, .slice mka mkn mkc] 25)) GmR 25 4 m (.slice al m c) ys := (hG5.keep gmS hk6).keep gmS ((Stab.Keeps.refl w6).alloc (.cells #[.int .i64 mk, .int .i64 md, .slice mna mnn mnc, .slice mka mkn mkc] 25))
        have hx6 : GmR (w6.alloc (.cells #[.int .i64 mk, .int .i64 md, .slice mna mnn mnc, .slice mka mkn mkc] 25)) (fun b => wr.heap.size + 1 ≤ b ∧ b < w4.heap.size) [.int .i64 mk, .int .i64 md, .slice mna mnn mnc, .slice mka mkn mkc] y := gmS.kf (gmS.kf hx5 (KF.keeps hk6)) ((KF.refl _ _).alloc _)
        have hs6 : w4.heap.size < w6.heap.size := by have := hk6.size; omega
        have hone : ∀ u ∈ ([.int .i64 mk, .int .i64 md, .slice mna mnn mnc, .slice mka mkn mkc] : List Value), u.oneCell' = true := hx6.ones
        clear hcx hBm hBo5 hBt5 hG5 hx5 hs5 hkw5 hk6 t0 t1 t2 t3 tf tl y0 y1 y2 y3 yf yl
        have t0 := hBt6.cell (i := 0) rfl
        have t1 := hBt6.cell (i := 1) rfl
        have t2 := hBt6.cell (i := 2) rfl
        have t3 := hBt6.cell (i := 3) rfl
        have tf := hBt6.free
        have tl := hBt6.lt
        have y0 := hBm6.cell (i := 0) rfl
        have y1 := hBm6.cell (i := 1) rfl
        have y2 := hBm6.cell (i := 2) rfl
        have y3 := hBm6.cell (i := 3) rfl
        have yf := hBm6.free
        have yl := hBm6.lt
        have HG6 := Lib.hid hG6
        clear hG6
        go_wp2_with (at_builtin; (refine append_growB (B := B2) gmS rfl _ _ 23 rfl 25 i0 _ 4 64 Tryz.underlying23 HI.out HZ0.out HZ1.out HZ2.out rfl (by decide) _ m ys rfl HG6.out ⟨w6.heap.size, 0, none⟩ 1 [.int .i64 mk, .int .i64 md, .slice mna mnn mnc, .slice mka mkn mkc] rfl rfl ?c1 hone ?c2 ?c3 y _ hx6 ?c4 ?c5 ?_))
        case c1 => exact new_cells _ _ _ _ rfl
        case c2 => unfold maxLen; omega
        case c3 => omega
        case c4 => exact fun b hb => ⟨by omega, by simp; omega⟩
        case c5 => exact fun g hg hb => by have := hown g hg; omega
        intro al' c' w7 hG7 hB7 hgr
        have hsz7 : w.heap.size + 1 + 1 + 1 ≤ w7.heap.size := by have := hB7.size; simp at this; omega
        have hBt7 : Blk w7 (w.heap.size + 1 + 1) 25 [.int .i64 0, .int .i64 d, .slice none 0 0, .slice al m c] := Blk.below (B := B2) (by with_reducible (repeat first | assumption | (refine Bx.n ⟨?_, ?_⟩ <;> focus (first | rfl | (simp; done) | omega)) | refine Bx.a ?_ _ | refine Bx.d ?_ | refine Bx.e ?_ _ | refine Bx.p (by first | omega | simp <;> omega) ?_)) hB7 (by omega)
        have hBo7 : Blk w7 (w.heap.size + 1) 25 [.int .i64 0, .int .i64 0, .slice none 0 0, .slice none 0 0] := Blk.below (B := B2) (by with_reducible (repeat first | assumption | (refine Bx.n ⟨?_, ?_⟩ <;> focus (first | rfl | (simp; done) | omega)) | refine Bx.a ?_ _ | refine Bx.d ?_ | refine Bx.e ?_ _ | refine Bx.p (by first | omega | simp <;> omega) ?_)) hB7 (by omega)
        have hBm7 : Blk w7 w4.heap.size 25 [.int .i64 mk, .int .i64 md, .slice mna mnn mnc, .slice mka mkn mkc] := Go.Kf.Blk.grown (by with_reducible (repeat first | assumption | (refine Bx.n ⟨?_, ?_⟩ <;> focus (first | rfl | (simp; done) | omega)) | refine Bx.a ?_ _ | refine Bx.d ?_ | refine Bx.e ?_ _ | refine Bx.p (by first | omega | simp <;> omega) ?_)) hgr (fun e => by have := hown _ e; omega)
        have hk7 : Stab.Keeps w w7 := Below.trans (Stab.Keeps.alloc hkw6 _) (Below.mono hB7 (by omega))
        clear hx6 HG6 hown hgr hB7 hBt6 hBo6 hBm6 hkw6 t0 t1 t2 t3 tf tl y0 y1 y2 y3 yf yl
        have hk8 : Stab.Keeps w (w7.setCell ⟨w.heap.size + 1 + 1, 3, none⟩ (.slice al' (m + 1) c')) := Stab.Keeps.setCell (by simp; omega) hk7 _
        have hBt8 := hBt7.set 3 (.slice al' (m + 1) c')
        simp only [List.set] at hBt8
        have hBo8 : Blk (w7.setCell ⟨w.heap.size + 1 + 1, 3, none⟩ (.slice al' (m + 1) c')) (w.heap.size + 1) 25 [.int .i64 0, .int .i64 0, .slice none 0 0, .slice none 0 0] := by with_reducible (repeat first | assumption | (refine Bx.n ⟨?_, ?_⟩ <;> focus (first | rfl | (simp; done) | omega)) | refine Bx.a ?_ _ | refine Bx.d ?_ | refine Bx.e ?_ _ | refine Bx.p (by first | omega | simp <;> omega) ?_)
        have hBm8 : Blk (w7.setCell ⟨w.heap.size + 1 + 1, 3, none⟩ (.slice al' (m + 1) c')) w4.heap.size 25 [.int .i64 mk, .int .i64 md, .slice mna mnn mnc, .slice mka mkn mkc] := by with_reducible (repeat first | assumption | (refine Bx.n ⟨?_, ?_⟩ <;> focus (first | rfl | (simp; done) | omega)) | refine Bx.a ?_ _ | refine Bx.d ?_ | refine Bx.e ?_ _ | refine Bx.p (by first | omega | simp <;> omega) ?_)
        have hG8 := hG7.kf gmS (w4 := w7.setCell ⟨w.heap.size + 1 + 1, 3, none⟩ (.slice al' (m + 1) c')) ((KF.refl _ _).set (fun h => by simp at h; omega))
        have hdd : bits .and .i64 (andD ys : Nat) md = ((andD (ys ++ [y]) : Nat) : Int) := by
          rw [andD_snoc, ← HMD.out]
          exact i64_andN _ _ (andD_lt _) hmd4
        have hys : ((kids.take (j + 1)).map newP).filter (takes 0) = ys ++ [y] := by rw [HSN.out, if_pos]; rfl
        have HYS := Lib.hid hys
        clear hys hG7 hk7 HSN HMK HMD
        have t0 := hBt7.cell (i := 0) rfl
        have t1 := hBt7.cell (i := 1) rfl
        have t2 := hBt7.cell (i := 2) rfl
        have t3 := hBt7.cell (i := 3) rfl
        have tf := hBt7.free
        have tl := hBt7.lt
        go_upto_region 17 with (fail)
        generalize (w7.setCell ⟨w.heap.size + 1 + 1, 3, none⟩ (.slice al' (m + 1) c')) = W8 at *
        clear hBt7 hBo7 hBm7 t0 t1 t2 t3 tf tl
        have y0 := hBm8.cell (i := 0) rfl
        have y1 := hBm8.cell (i := 1) rfl
        have y2 := hBm8.cell (i := 2) rfl
        have y3 := hBm8.cell (i := 3) rfl
        have yf := hBm8.free
        have yl := hBm8.lt
        go_wp2_with fail
        exact ⟨⟨j + 1, m + 1, al', c', by omega, by omega, by simp, by rw [HYS.out], hk8, hBo8, hBt8, by rw [HYS.out]; exact hG8⟩, by simp [intOf]; omega⟩
      · exact absurd trivial hkd
    · obtain rfl : kn = j := by omega
      have hfull : kids.take kn = kids := List.take_of_length_le (by rw [HKN.out]; exact Nat.le_refl _)
      rw [hfull] at hG ⊢
      have hall : ∀ p ∈ (kids.map newP).filter (takes 0), PgOk p := fun p hp => by
        obtain ⟨r, hr, rfl⟩ := List.mem_map.1 (List.mem_filter.1 hp).1
        exact newP_ok r (HSM.out r hr)
      generalize (kids.map newP).filter (takes 0) = ys at *
      have hyl := hG.len
      have hsz := hk.size
      have hgl : B2 ≤ wr.heap.size := hG.size
      obtain ⟨css, hR⟩ := hG.toRows gmS
      have hokn : PgOk (.node 0 d [] ys) := .mk _ _ _ _ hd4 (by simp) (by simp) (by have := HKN.out; omega) hall
      have HOKN := Lib.hid hokn
      clear hG hfull hall hokn
      have HHS := Lib.hid hsz4
      rcases Nat.eq_zero_or_pos m with h0 | h0
      · subst h0
        have hy0 : ys = [] := List.length_eq_zero_iff.1 hyl
        subst hy0
        have t0 := hB2.cell (i := 0) rfl
        have t1 := hB2.cell (i := 1) rfl
        have t2 := hB2.cell (i := 2) rfl
        have t3 := hB2.cell (i := 3) rfl
        have tf := hB2.free
        have tl := hB2.lt
        have g0 := hB1.cell (i := 0) rfl
        have g1 := hB1.cell (i := 1) rfl
        have g2 := hB1.cell (i := 2) rfl
        have g3 := hB1.cell (i := 3) rfl
        have gf := hB1.free
        have gl := hB1.lt
        have hB1n := (((hB1.set 0 (.int .i64 0)).set 1 (.int .i64 d)).set 2 (.slice none 0 0)).set 3 (.slice al 0 c)
        simp only [List.set] at hB1n
        have hkf : ∀ (G : Nat → Prop), ¬ G (w.heap.size + 1) → KF G wr ((((wr.setCell ⟨w.heap.size + 1, 0, none⟩ (.int .i64 0)).setCell ⟨w.heap.size + 1, 1, none⟩ (.int .i64 d)).setCell ⟨w.heap.size + 1, 2, none⟩ (.slice none 0 0)).setCell ⟨w.heap.size + 1, 3, none⟩ (.slice al 0 c)) := fun G hG' => ((((KF.refl _ _).set hG').set hG').set hG').set hG'
        have hkz : Stab.Keeps w ((((wr.setCell ⟨w.heap.size + 1, 0, none⟩ (.int .i64 0)).setCell ⟨w.heap.size + 1, 1, none⟩ (.int .i64 d)).setCell ⟨w.heap.size + 1, 2, none⟩ (.slice none 0 0)).setCell ⟨w.heap.size + 1, 3, none⟩ (.slice al 0 c)) := by with_reducible (repeat first | exact Kx.r _ | assumption | refine Kx.a ?_ _ | refine Kx.d ?_ | refine Kx.e ?_ _ | refine Kx.s (by simp <;> omega) ?_ _ | refine Kx.t ?_ (by assumption))
        have hSzn := hR.sz.kf (hkf _ (fun h => by have := HHS.out; omega))
        have HR := Lib.hid hR
        clear hR
        go_wp2_with fail
        generalize ((((wr.setCell ⟨w.heap.size + 1, 0, none⟩ (.int .i64 0)).setCell ⟨w.heap.size + 1, 1, none⟩ (.int .i64 d)).setCell ⟨w.heap.size + 1, 2, none⟩ (.slice none 0 0)).setCell ⟨w.heap.size + 1, 3, none⟩ (.slice al 0 c)) = Wz at *
        clear hB1 hB2 t0 t1 t2 t3 tf tl g0 g1 g2 g3 gf gl hkf
        have y0 := hB1n.cell (i := 0) rfl
        have y1 := hB1n.cell (i := 1) rfl
        have y2 := hB1n.cell (i := 2) rfl
        have y3 := hB1n.cell (i := 3) rfl
        have yf := hB1n.free
        have yl := hB1n.lt
        refine bodyPost_ret (v := .agg #[.int .i64 0, .int .i64 d, .slice none 0 0, .slice al 0 c]) (by simp [results, Tryz.results13, go_sem, *]) rfl ⟨[.int .i64 (0 : Nat), .int .i64 d, .slice none 0 0, .slice al 0 c], rfl, hkz, ?_⟩
        exact .mk 0 d _ _ none al _ _ _ _ css rfl (SzF.nil _ _ _) HR.out.lc HR.out.lx HR.out.each (hSzn.mono fun b _ hb => .inr (by have := HHS.out; omega)) (fun i h1 h2 => by simp at h2)
      · have hne1 : ((m : Int) == 0) = false := by simp; omega
        have hne2 : (m == 0) = false := by simp; omega
        have hwp : wholeP 0 d ys = forceP (andD ys) (.node 0 d [] ys) := whole_force _ _ _ (fun e => by rw [e] at hyl; simp at hyl; omega)
        have hgm : GmR wr (fun b => B2 ≤ b) [.int .i64 (0 : Nat), .int .i64 d, .slice none 0 0, .slice al m c] (.node 0 d [] ys) := .mk 0 d _ _ none al _ _ _ _ css rfl (SzF.nil _ _ _) hR.lc hR.lx hR.each hR.sz hR.is
        have hF1 := sforce_ (andD ys) (andD_lt _) (.node 0 d [] ys) HOKN.out _ _ wr hgm
        have HWP := Lib.hid hwp
        clear hR hgm hwp
        have t0 := hB2.cell (i := 0) rfl
        have t1 := hB2.cell (i := 1) rfl
        have t2 := hB2.cell (i := 2) rfl
        have t3 := hB2.cell (i := 3) rfl
        have tf := hB2.free
        have tl := hB2.lt
        go_wp2_with fail
        refine hF1.mono ?_
        clear hF1
        rintro e w5 ⟨cs5, rfl, hk5, hx5⟩
        obtain ⟨zk, zd, zna, znn, znc, zka, zkn, zkc, rfl⟩ := hx5.four
        have hB15 := hB1.keep hk5
        have hkw5 := Stab.Keeps.trans hk hk5
        have hs5 := hk5.size
        clear hB1 hB2 t0 t1 t2 t3 tf tl hk hk5
        have g0 := hB15.cell (i := 0) rfl
        have g1 := hB15.cell (i := 1) rfl
        have g2 := hB15.cell (i := 2) rfl
        have g3 := hB15.cell (i := 3) rfl
        have gf := hB15.free
        have gl := hB15.lt
        have hB1n := (((hB15.set 0 (.int .i64 zk)).set 1 (.int .i64 zd)).set 2 (.slice zna znn znc)).set 3 (.slice zka zkn zkc)
        simp only [List.set] at hB1n
        have hkf : ∀ (G : Nat → Prop), ¬ G (w.heap.size + 1) → KF G w5 ((((w5.setCell ⟨w.heap.size + 1, 0, none⟩ (.int .i64 zk)).setCell ⟨w.heap.size + 1, 1, none⟩ (.int .i64 zd)).setCell ⟨w.heap.size + 1, 2, none⟩ (.slice zna znn znc)).setCell ⟨w.heap.size + 1, 3, none⟩ (.slice zka zkn zkc)) := fun G hG' => ((((KF.refl _ _).set hG').set hG').set hG').set hG'
        have hkz : Stab.Keeps w ((((w5.setCell ⟨w.heap.size + 1, 0, none⟩ (.int .i64 zk)).setCell ⟨w.heap.size + 1, 1, none⟩ (.int .i64 zd)).setCell ⟨w.heap.size + 1, 2, none⟩ (.slice zna znn znc)).setCell ⟨w.heap.size + 1, 3, none⟩ (.slice zka zkn zkc)) := by with_reducible (repeat first | exact Kx.r _ | assumption | refine Kx.a ?_ _ | refine Kx.d ?_ | refine Kx.e ?_ _ | refine Kx.s (by simp <;> omega) ?_ _ | refine Kx.t ?_ (by assumption))
        have hxn := gmS.kf (gmS.mono hx5 (fun b _ hb => hb.elim (fun h => h.elim) (fun h => h))) (hkf _ (fun h => by have := HHS.out; omega))
        clear hx5
        go_wp2_with fail
        generalize ((((w5.setCell ⟨w.heap.size + 1, 0, none⟩ (.int .i64 zk)).setCell ⟨w.heap.size + 1, 1, none⟩ (.int .i64 zd)).setCell ⟨w.heap.size + 1, 2, none⟩ (.slice zna znn znc)).setCell ⟨w.heap.size + 1, 3, none⟩ (.slice zka zkn zkc)) = Wz at *
        clear hB15 g0 g1 g2 g3 gf gl hkf
        have y0 := hB1n.cell (i := 0) rfl
        have y1 := hB1n.cell (i := 1) rfl
        have y2 := hB1n.cell (i := 2) rfl
        have y3 := hB1n.cell (i := 3) rfl
        have yf := hB1n.free
        have yl := hB1n.lt
        refine bodyPost_ret (v := .agg #[.int .i64 zk, .int .i64 zd, .slice zna znn znc, .slice zka zkn zkc]) (by simp [results, Tryz.results13, go_sem, *]) rfl ⟨[.int .i64 zk, .int .i64 zd, .slice zna znn znc, .slice zka zkn zkc], rfl, hkz, ?_⟩
        rw [HWP.out]
        exact gmS.mono hxn (fun b _ hb => .inr (by have := HHS.out; omega))
theorem newSpec_ : ∀ t, SNew t := GT.ind fun h nums kids ih w hA hs => by
  have hk : h.kind = 1 ∨ h.kind = 2 ∨ h.kind = 3 ∨ h.kind = 4 ∨ h.kind = 5 ∨ h.kind = 6 ∨ h.kind = 0 ∨ h.kind < 0 ∨ 6 < h.kind := by omega
  rcases hk with hk | hk | hk | hk | hk | hk | hk | hk | hk
  · exact newPt0_ _ w hA hs hk
  · exact newLs_ _ w hA hs hk
  · exact newWh3_ _ w hA hs hk ih
  · exact newWh4_ _ w hA hs hk ih
  · exact newWh5_ _ w hA hs hk ih
  · exact newWh6_ _ w hA hs hk ih
  · exact newWh0a_ _ w hA hs hk ih
  · exact newWh0b_ _ w hA hs hk ih
  · exact newWh0c_ _ w hA hs hk ih
end Go.Proofs.YtbakhldjfplbfaaGreat
