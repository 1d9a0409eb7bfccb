/-
  The package's sequences, points, wholes as plain data: sequences. No condition.
-/
import Derived.Test.YtbakhldjfplbfaaGreatXK
set_option linter.unusedVariables false
set_option linter.unusedSimpArgs false
namespace Go.Proofs.YtbakhldjfplbfaaGreat
open Go.RowKit Go.Fl Go.Sl Go.Pg Go.Ch Go.Kf
set_option maxRecDepth 100000 in
set_option maxHeartbeats 4000000 in
theorem plain0_ {F : Nat → Prop} (ps : List Pl) (a : Option Addr) (n cap : Nat) (w : World) (h : SeqAt w F 0 ps a n cap) : Calls Tryz.prog 67 #[.agg #[.int .u8 0, .slice a n cap]] w (RetR w no GmR (.node 2 0 ps [])) := by
  obtain ⟨i0, hi, hz0, hz1, hz2⟩ := info_parts infoF
  have HI := Lib.hid hi
  have HZ0 := Lib.hid hz0
  have HZ1 := Lib.hid hz1
  have HZ2 := Lib.hid hz2
  clear hi hz0 hz1 hz2
  have hps : ∃ q, ps.length = q := ⟨_, rfl⟩
  obtain ⟨q, hq⟩ := hps
  have hsm := h.sm
  rw [hq] at hsm
  have HQ := Lib.hid hq
  have hS := h.mono (G := fun b => b < w.heap.size) (fun b hb _ => hb)
  have hLn := fun w0 w' (h0 : SeqAt w0 (fun b => b < w.heap.size) 0 ps a n cap) => seqLen_ 0 ps a n cap w' w0 h0
  rw [hq] at hLn
  clear hq h
  go_enter Tryz.func67, Tryz.ntmps67
  go_wp2_with fail
  have hkw : Stab.Keeps w ((w.alloc (.cells #[.int .u8 0, .slice a n cap] 97)).alloc (.cells #[.int .i64 0, .int .i64 0, .slice none 0 0, .slice none 0 0] 25)) := by with_reducible (repeat first | exact Kx.r _ | assumption | refine Kx.a ?_ _ | refine Kx.d ?_ | refine Kx.e ?_ _ | refine Kx.s (by simp <;> omega) ?_ _ | refine Kx.t ?_ (by assumption))
  have hB1 : Blk ((w.alloc (.cells #[.int .u8 0, .slice a n cap] 97)).alloc (.cells #[.int .i64 0, .int .i64 0, .slice none 0 0, .slice none 0 0] 25)) w.heap.size 97 [.int .u8 0, .slice a n cap] := by with_reducible (repeat first | assumption | (refine Bx.n ⟨?_, ?_⟩ <;> focus (first | rfl | (simp; done) | omega)) | refine Bx.a ?_ _ | refine Bx.d ?_ | refine Bx.e ?_ _ | refine Bx.p (by first | omega | simp <;> omega) ?_)
  have hB2 : Blk ((w.alloc (.cells #[.int .u8 0, .slice a n cap] 97)).alloc (.cells #[.int .i64 0, .int .i64 0, .slice none 0 0, .slice none 0 0] 25)) (w.heap.size + 1) 25 [.int .i64 0, .int .i64 0, .slice none 0 0, .slice none 0 0] := by with_reducible (repeat first | assumption | (refine Bx.n ⟨?_, ?_⟩ <;> focus (first | rfl | (simp; done) | omega)) | refine Bx.a ?_ _ | refine Bx.d ?_ | refine Bx.e ?_ _ | refine Bx.p (by first | omega | simp <;> omega) ?_)
  generalize ((w.alloc (.cells #[.int .u8 0, .slice a n cap] 97)).alloc (.cells #[.int .i64 0, .int .i64 0, .slice none 0 0, .slice none 0 0] 25)) = W0 at *
  refine (seqType_ 0 a n cap _).mono ?_
  rintro e w4 ⟨rfl, hk4⟩
  replace hB1 := hB1.keep hk4
  replace hB2 := hB2.keep hk4
  replace hkw := Stab.Keeps.trans hkw hk4
  clear hk4
  go_wp2_with fail
  have hl2 := hB2.lt
  have hkwN : Stab.Keeps w (w4.alloc (.cells #[.int .i64 2, .int .i64 0, .slice none 0 0, .slice none 0 0] 25)) := by with_reducible (repeat first | exact Kx.r _ | assumption | refine Kx.a ?_ _ | refine Kx.d ?_ | refine Kx.e ?_ _ | refine Kx.s (by simp <;> omega) ?_ _ | refine Kx.t ?_ (by assumption))
  have hB1N : Blk (w4.alloc (.cells #[.int .i64 2, .int .i64 0, .slice none 0 0, .slice none 0 0] 25)) w.heap.size 97 [.int .u8 0, .slice a n cap] := by with_reducible (repeat first | assumption | (refine Bx.n ⟨?_, ?_⟩ <;> focus (first | rfl | (simp; done) | omega)) | refine Bx.a ?_ _ | refine Bx.d ?_ | refine Bx.e ?_ _ | refine Bx.p (by first | omega | simp <;> omega) ?_)
  have hB2N : Blk (w4.alloc (.cells #[.int .i64 2, .int .i64 0, .slice none 0 0, .slice none 0 0] 25)) (w.heap.size + 1) 25 [.int .i64 0, .int .i64 0, .slice none 0 0, .slice none 0 0] := by with_reducible (repeat first | assumption | (refine Bx.n ⟨?_, ?_⟩ <;> focus (first | rfl | (simp; done) | omega)) | refine Bx.a ?_ _ | refine Bx.d ?_ | refine Bx.e ?_ _ | refine Bx.p (by first | omega | simp <;> omega) ?_)
  have hB3N : Blk (w4.alloc (.cells #[.int .i64 2, .int .i64 0, .slice none 0 0, .slice none 0 0] 25)) w4.heap.size 25 [.int .i64 2, .int .i64 0, .slice none 0 0, .slice none 0 0] := by with_reducible (repeat first | assumption | (refine Bx.n ⟨?_, ?_⟩ <;> focus (first | rfl | (simp; done) | omega)) | refine Bx.a ?_ _ | refine Bx.d ?_ | refine Bx.e ?_ _ | refine Bx.p (by first | omega | simp <;> omega) ?_)
  have hszN : (w4.alloc (.cells #[.int .i64 2, .int .i64 0, .slice none 0 0, .slice none 0 0] 25)).heap.size = w4.heap.size + 1 := by simp
  generalize (w4.alloc (.cells #[.int .i64 2, .int .i64 0, .slice none 0 0, .slice none 0 0] 25)) = W5 at *
  generalize w4.heap.size = b3 at *
  clear hB1 hB2 hkw
  have hSN := hS.keep hkwN
  obtain ⟨B, hBe⟩ : ∃ B, b3 + 1 = B := ⟨_, rfl⟩
  have hb3B : b3 < B := by omega
  have hb2 : w.heap.size + 1 < b3 := hl2
  have hB5s : B ≤ W5.heap.size := by omega
  clear hBe hl2 hS
  go_loopw [4] (fun iv wr => ∃ (k m : Nat) (al : Option Addr) (c : Nat), k ≤ q ∧ m = k * 2 ∧ iv = .int .i64 k ∧ Stab.Keeps w wr ∧ B ≤ wr.heap.size ∧ SeqAt wr (fun b => b < w.heap.size) 0 ps a n cap ∧ Blk wr w.heap.size 97 [.int .u8 0, .slice a n cap] ∧ Blk wr (w.heap.size + 1) 25 [.int .i64 0, .int .i64 0, .slice none 0 0, .slice none 0 0] ∧ Blk wr b3 25 [.int .i64 2, .int .i64 0, .slice al m c, .slice none 0 0] ∧ wr.ownsRow B 45 1 (.slice al m c) m (encN (numsOf 0 (ps.take k)))) (fun iv _ => q - (intOf iv).toNat)
  case atStart => exact ⟨0, 0, none, 0, by omega, rfl, rfl, hkwN, hB5s, hSN, hB1N, hB2N, hB3N, by simpa [numsOf, encN] using World.ownsRow_nil _ _ _ _⟩
  case round =>
    clear hkwN hB1N hB2N hB3N hSN hB5s hszN
    obtain ⟨k, m, al, c, hk, hm, rfl, hkw, hB, hS, hB1, hB2, hB3, hown⟩ := hrel
    have HM := Lib.hid hm
    have hm6 : m ≤ 1000000 := by omega
    clear hm
    have g0 := hB1.cell (i := 0) rfl
    have g1 := hB1.cell (i := 1) rfl
    have gf := hB1.free
    have gl := hB1.lt
    go_wp2_with fail
    refine (hLn _ _ hS).mono ?_
    rintro e w6 ⟨rfl, hk6⟩
    clear g0 g1 gf gl
    replace hB := Nat.le_trans hB hk6.size
    replace hB1 := hB1.keep hk6
    replace hB2 := hB2.keep hk6
    replace hB3 := hB3.keep hk6
    replace hown := owns_keep hown hk6
    replace hkw := Stab.Keeps.trans hkw hk6
    replace hS := hS.keep hk6
    clear hk6
    by_cases hlt : k < q
    · have hkp : k < ps.length := by have := HQ.out; omega
      have hd1 : decide ((k : Int) < (q : Int)) = true := by simp; omega
      have hG := fun w' (h' : SeqAt w' (fun b => b < w.heap.size) 0 ps a n cap) => get_ 0 ps a n cap k w' h' hkp
      have htk : ps.take (k + 1) = ps.take k ++ [ps[k]] := List.take_succ_eq_append_getElem hkp
      have HTK := Lib.hid htk
      clear htk
      generalize ps[k] = pl at *
      obtain ⟨px, py, pz, pm⟩ := pl
      unfold coV at hG
      have g0 := hB1.cell (i := 0) rfl
      have g1 := hB1.cell (i := 1) rfl
      have gf := hB1.free
      have gl := hB1.lt
      go_wp2_with fail
      refine (hG _ hS).mono ?_
      clear hG g0 g1 gf gl
      rintro e w7 ⟨rfl, hk7⟩
      replace hB := Nat.le_trans hB hk7.size
      replace hB1 := hB1.keep hk7
      replace hB2 := hB2.keep hk7
      replace hB3 := hB3.keep hk7
      replace hown := owns_keep hown hk7
      replace hkw := Stab.Keeps.trans hkw hk7
      replace hS := hS.keep hk7
      clear hk7
      go_upto_region 6 with (fail)
      obtain ⟨WC, hWC⟩ : ∃ WC, (w7.alloc (.cells #[.float .f64 px, .float .f64 py, .float .f64 pz, .float .f64 pm, .int .u8 0] 139)) = WC := ⟨_, rfl⟩
      have hkn : Stab.Keeps w7 WC := by subst hWC; with_reducible (repeat first | exact Kx.r _ | assumption | refine Kx.a ?_ _ | refine Kx.d ?_ | refine Kx.e ?_ _ | refine Kx.s (by simp <;> omega) ?_ _ | refine Kx.t ?_ (by assumption))
      have hB5 : Blk WC w7.heap.size 139 [.float .f64 px, .float .f64 py, .float .f64 pz, .float .f64 pm, .int .u8 0] := by subst hWC; with_reducible (repeat first | assumption | (refine Bx.n ⟨?_, ?_⟩ <;> focus (first | rfl | (simp; done) | omega)) | refine Bx.a ?_ _ | refine Bx.d ?_ | refine Bx.e ?_ _ | refine Bx.p (by first | omega | simp <;> omega) ?_)
      simp only [hWC]
      clear hWC
      have hb5 : B ≤ w7.heap.size := hB
      replace hB := Nat.le_trans hB hkn.size
      generalize w7.heap.size = b5 at *
      replace hB1 := hB1.keep hkn
      replace hB2 := hB2.keep hkn
      replace hB3 := hB3.keep hkn
      replace hown := owns_keep hown hkn
      replace hkw := Stab.Keeps.trans hkw hkn
      replace hS := hS.keep hkn
      clear hkn
      have t0 := hB3.cell (i := 0) rfl
      have t1 := hB3.cell (i := 1) rfl
      have t2 := hB3.cell (i := 2) rfl
      have t3 := hB3.cell (i := 3) rfl
      have tf := hB3.free
      have tl := hB3.lt
      have y0 := hB5.cell (i := 0) rfl
      have y1 := hB5.cell (i := 1) rfl
      have y2 := hB5.cell (i := 2) rfl
      have y3 := hB5.cell (i := 3) rfl
      have y4 := hB5.cell (i := 4) rfl
      have yf := hB5.free
      have yl := hB5.lt
      have hown1 := hown.alloc (.cells #[.float .f64 px, .float .f64 py] 45)
      have hbs := hkw.size
      have hk1 : Below B WC (WC.alloc (.cells #[.float .f64 px, .float .f64 py] 45)) := Below.alloc (Below.refl _ _) (by omega) _
      go_wp2_with (at_builtin; (refine Sl.append_own (w0 := WC) rfl _ _ 22 rfl B 45 i0 _ 1 8 Tryz.underlying22 HI.out HZ0.out HZ1.out HZ2.out rfl (by decide) _ (m) _ rfl hown1 ⟨WC.heap.size, 0, none⟩ 2 2 [.float .f64 px, .float .f64 py] rfl rfl ?ax1 ?ax2 ?ax3 ?ax4 ?ax5 hk1 ?_))
      case ax1 => exact new_cells _ _ _ _ (by simp)
      case ax2 => intro u hu; simp at hu; rcases hu with rfl | rfl <;> rfl
      case ax3 => unfold maxLen; omega
      case ax4 => omega
      case ax5 => simp; omega
      intro al1 c1 W1 hownA hkA hszA hgrA
      have hB5A := blk_grown_own (hB5.alloc _) hown1 (by decide) hgrA
      have hB1A := hB1.below hkA (by omega)
      have hB2A := hB2.below hkA (by omega)
      have hB3A := hB3.below hkA (by omega)
      have hkwA := Below.trans hkw (Below.mono hkA (by omega))
      have hSA := hS.kf (KF.below hkA (fun b (hb : b < w.heap.size) _ => by omega))
      have hxsx : encN (numsOf 0 (ps.take k)) ++ [.float .f64 px, .float .f64 py] = encN (numsOf 0 (ps.take k) ++ [px, py]) := by simp [encN]
      rw [hxsx] at hownA
      clear t0 t1 t2 t3 tf tl y0 y1 y2 y3 y4 yf yl hown hown1 hB1 hB2 hB3 hB5 hk1 hkA hszA hgrA hS hkw hxsx
      have t0 := hB3A.cell (i := 0) rfl
      have t1 := hB3A.cell (i := 1) rfl
      have t2 := hB3A.cell (i := 2) rfl
      have t3 := hB3A.cell (i := 3) rfl
      have tf := hB3A.free
      have tl := hB3A.lt
      have hB3 := hB3A.set 2 (.slice al1 (m + 2) c1)
      simp only [List.set] at hB3
      have hB1 : Blk (W1.setCell ⟨b3, 2, none⟩ (.slice al1 (m + 2) c1)) w.heap.size 97 [.int .u8 0, .slice a n cap] := by with_reducible (repeat first | assumption | (refine Bx.n ⟨?_, ?_⟩ <;> focus (first | rfl | (simp; done) | omega)) | refine Bx.a ?_ _ | refine Bx.d ?_ | refine Bx.e ?_ _ | refine Bx.p (by first | omega | simp <;> omega) ?_)
      have hB2 : Blk (W1.setCell ⟨b3, 2, none⟩ (.slice al1 (m + 2) c1)) (w.heap.size + 1) 25 [.int .i64 0, .int .i64 0, .slice none 0 0, .slice none 0 0] := by with_reducible (repeat first | assumption | (refine Bx.n ⟨?_, ?_⟩ <;> focus (first | rfl | (simp; done) | omega)) | refine Bx.a ?_ _ | refine Bx.d ?_ | refine Bx.e ?_ _ | refine Bx.p (by first | omega | simp <;> omega) ?_)
      have hB5 := Blk.past2 (a := ⟨b3, 2, none⟩) (u := .slice al1 (m + 2) c1) (by simp; omega) hB5A
      have hown := owns_set (i := 2) (u := .slice al1 (m + 2) c1) hownA hb3B
      have hkw : Stab.Keeps w (W1.setCell ⟨b3, 2, none⟩ (.slice al1 (m + 2) c1)) := Stab.Keeps.setCell (by simp; omega) hkwA _
      have hS := hSA.kf (w' := (W1.setCell ⟨b3, 2, none⟩ (.slice al1 (m + 2) c1))) ((KF.refl _ _).set (fun (h : b3 < w.heap.size) => by omega))
      clear hB1A hB2A hB3A hB5A hownA hkwA hSA
      go_upto_region 7 with (fail)
      have hB : B ≤ (W1.setCell ⟨b3, 2, none⟩ (.slice al1 (m + 2) c1)).heap.size := by have := hown; have := hB5.lt; omega
      generalize (W1.setCell ⟨b3, 2, none⟩ (.slice al1 (m + 2) c1)) = WE at *
      clear t0 t1 t2 t3 tf tl
      have y0 := hB5.cell (i := 0) rfl
      have y1 := hB5.cell (i := 1) rfl
      have y2 := hB5.cell (i := 2) rfl
      have y3 := hB5.cell (i := 3) rfl
      have y4 := hB5.cell (i := 4) rfl
      have yf := hB5.free
      have yl := hB5.lt
      go_wp2_with fail
      refine (is3D_ 0 (by omega) _).mono ?_
      clear y0 y1 y2 y3 y4 yf yl
      rintro e WC ⟨rfl, hkc⟩
      replace hB := Nat.le_trans hB hkc.size
      replace hB1 := hB1.keep hkc
      replace hB5 := hB5.keep hkc
      replace hB2 := hB2.keep hkc
      replace hB3 := hB3.keep hkc
      replace hown := owns_keep hown hkc
      replace hkw := Stab.Keeps.trans hkw hkc
      replace hS := hS.keep hkc
      clear hkc
      have y0 := hB5.cell (i := 0) rfl
      have y1 := hB5.cell (i := 1) rfl
      have y2 := hB5.cell (i := 2) rfl
      have y3 := hB5.cell (i := 3) rfl
      have y4 := hB5.cell (i := 4) rfl
      have yf := hB5.free
      have yl := hB5.lt
      go_wp2_with fail
      refine (isM_ 0 (by omega) _).mono ?_
      clear y0 y1 y2 y3 y4 yf yl
      rintro e WC ⟨rfl, hkc⟩
      replace hB := Nat.le_trans hB hkc.size
      replace hB1 := hB1.keep hkc
      replace hB5 := hB5.keep hkc
      replace hB2 := hB2.keep hkc
      replace hB3 := hB3.keep hkc
      replace hown := owns_keep hown hkc
      replace hkw := Stab.Keeps.trans hkw hkc
      replace hS := hS.keep hkc
      clear hkc
      have hxs : numsOf 0 (ps.take k) ++ [px, py] = numsOf 0 (ps.take (k + 1)) := by rw [HTK.out, numsOf_append, numsOf_one]; rfl
      rw [hxs] at hown
      go_wp2_with fail
      exact ⟨⟨k + 1, m + 2, al1, c1, by omega, by have := HM.out; omega, by simp, hkw, hB, hS, hB1, hB2, hB3, hown⟩, by simp [intOf]; omega⟩
    · obtain rfl : k = q := by omega
      have hd1 : decide ((k : Int) < (k : Int)) = false := by simp
      rw [List.take_of_length_le (by rw [HQ.out]; exact Nat.le_refl _)] at hown
      have t0 := hB3.cell (i := 0) rfl
      have t1 := hB3.cell (i := 1) rfl
      have t2 := hB3.cell (i := 2) rfl
      have t3 := hB3.cell (i := 3) rfl
      have tf := hB3.free
      have tl := hB3.lt
      have g0 := hB2.cell (i := 0) rfl
      have g1 := hB2.cell (i := 1) rfl
      have g2 := hB2.cell (i := 2) rfl
      have g3 := hB2.cell (i := 3) rfl
      have gf := hB2.free
      have gl := hB2.lt
      have hB2n := (((hB2.set 0 (.int .i64 2)).set 1 (.int .i64 0)).set 2 (.slice al m c)).set 3 (.slice none 0 0)
      simp only [List.set] at hB2n
      have hkf : ∀ (G : Nat → Prop), ¬ G (w.heap.size + 1) → KF G w6 ((((w6.setCell ⟨w.heap.size + 1, 0, none⟩ (.int .i64 2)).setCell ⟨w.heap.size + 1, 1, none⟩ (.int .i64 0)).setCell ⟨w.heap.size + 1, 2, none⟩ (.slice al m c)).setCell ⟨w.heap.size + 1, 3, none⟩ (.slice none 0 0)) := fun G hG' => ((((KF.refl _ _).set hG').set hG').set hG').set hG'
      have hkz : Stab.Keeps w ((((w6.setCell ⟨w.heap.size + 1, 0, none⟩ (.int .i64 2)).setCell ⟨w.heap.size + 1, 1, none⟩ (.int .i64 0)).setCell ⟨w.heap.size + 1, 2, none⟩ (.slice al m c)).setCell ⟨w.heap.size + 1, 3, none⟩ (.slice none 0 0)) := by with_reducible (repeat first | exact Kx.r _ | assumption | refine Kx.a ?_ _ | refine Kx.d ?_ | refine Kx.e ?_ _ | refine Kx.s (by simp <;> omega) ?_ _ | refine Kx.t ?_ (by assumption))
      have hSz := (SzF.of_owns (F := fun b => B ≤ b) hown (fun b hb => hb)).kf (hkf _ (fun h => by omega))
      have hml : m = (numsOf 0 ps).length := by rw [numsOf_len, HQ.out, HM.out]; rfl
      have HML := Lib.hid hml
      clear hml hkf hown
      go_wp2_with fail
      generalize ((((w6.setCell ⟨w.heap.size + 1, 0, none⟩ (.int .i64 2)).setCell ⟨w.heap.size + 1, 1, none⟩ (.int .i64 0)).setCell ⟨w.heap.size + 1, 2, none⟩ (.slice al m c)).setCell ⟨w.heap.size + 1, 3, none⟩ (.slice none 0 0)) = Wz at *
      clear hB1 hB2 hB3 t0 t1 t2 t3 tf tl g0 g1 g2 g3 gf gl hS hkw
      have y0 := hB2n.cell (i := 0) rfl
      have y1 := hB2n.cell (i := 1) rfl
      have y2 := hB2n.cell (i := 2) rfl
      have y3 := hB2n.cell (i := 3) rfl
      have yf := hB2n.free
      have yl := hB2n.lt
      refine bodyPost_ret (v := .agg #[.int .i64 2, .int .i64 0, .slice al m c, .slice none 0 0]) (by simp [results, Tryz.results67, go_sem, *]) rfl ⟨[.int .i64 (2 : Nat), .int .i64 (0 : Nat), .slice al m c, .slice none 0 0], rfl, hkz, ?_⟩
      exact .mk 2 0 _ _ al none _ _ _ _ [] HML.out (hSz.mono fun b _ hb => .inr (by omega)) rfl rfl (by simp) (SzF.nil _ _ _) (fun i h1 => by simp at h1)
set_option maxRecDepth 100000 in
set_option maxHeartbeats 4000000 in
theorem plain1_ {F : Nat → Prop} (ps : List Pl) (a : Option Addr) (n cap : Nat) (w : World) (h : SeqAt w F 1 ps a n cap) : Calls Tryz.prog 67 #[.agg #[.int .u8 1, .slice a n cap]] w (RetR w no GmR (.node 2 1 ps [])) := by
  obtain ⟨i0, hi, hz0, hz1, hz2⟩ := info_parts infoF
  have HI := Lib.hid hi
  have HZ0 := Lib.hid hz0
  have HZ1 := Lib.hid hz1
  have HZ2 := Lib.hid hz2
  clear hi hz0 hz1 hz2
  have hps : ∃ q, ps.length = q := ⟨_, rfl⟩
  obtain ⟨q, hq⟩ := hps
  have hsm := h.sm
  rw [hq] at hsm
  have HQ := Lib.hid hq
  have hS := h.mono (G := fun b => b < w.heap.size) (fun b hb _ => hb)
  have hLn := fun w0 w' (h0 : SeqAt w0 (fun b => b < w.heap.size) 1 ps a n cap) => seqLen_ 1 ps a n cap w' w0 h0
  rw [hq] at hLn
  clear hq h
  go_enter Tryz.func67, Tryz.ntmps67
  go_wp2_with fail
  have hkw : Stab.Keeps w ((w.alloc (.cells #[.int .u8 1, .slice a n cap] 97)).alloc (.cells #[.int .i64 0, .int .i64 0, .slice none 0 0, .slice none 0 0] 25)) := by with_reducible (repeat first | exact Kx.r _ | assumption | refine Kx.a ?_ _ | refine Kx.d ?_ | refine Kx.e ?_ _ | refine Kx.s (by simp <;> omega) ?_ _ | refine Kx.t ?_ (by assumption))
  have hB1 : Blk ((w.alloc (.cells #[.int .u8 1, .slice a n cap] 97)).alloc (.cells #[.int .i64 0, .int .i64 0, .slice none 0 0, .slice none 0 0] 25)) w.heap.size 97 [.int .u8 1, .slice a n cap] := by with_reducible (repeat first | assumption | (refine Bx.n ⟨?_, ?_⟩ <;> focus (first | rfl | (simp; done) | omega)) | refine Bx.a ?_ _ | refine Bx.d ?_ | refine Bx.e ?_ _ | refine Bx.p (by first | omega | simp <;> omega) ?_)
  have hB2 : Blk ((w.alloc (.cells #[.int .u8 1, .slice a n cap] 97)).alloc (.cells #[.int .i64 0, .int .i64 0, .slice none 0 0, .slice none 0 0] 25)) (w.heap.size + 1) 25 [.int .i64 0, .int .i64 0, .slice none 0 0, .slice none 0 0] := by with_reducible (repeat first | assumption | (refine Bx.n ⟨?_, ?_⟩ <;> focus (first | rfl | (simp; done) | omega)) | refine Bx.a ?_ _ | refine Bx.d ?_ | refine Bx.e ?_ _ | refine Bx.p (by first | omega | simp <;> omega) ?_)
  generalize ((w.alloc (.cells #[.int .u8 1, .slice a n cap] 97)).alloc (.cells #[.int .i64 0, .int .i64 0, .slice none 0 0, .slice none 0 0] 25)) = W0 at *
  refine (seqType_ 1 a n cap _).mono ?_
  rintro e w4 ⟨rfl, hk4⟩
  replace hB1 := hB1.keep hk4
  replace hB2 := hB2.keep hk4
  replace hkw := Stab.Keeps.trans hkw hk4
  clear hk4
  go_wp2_with fail
  have hl2 := hB2.lt
  have hkwN : Stab.Keeps w (w4.alloc (.cells #[.int .i64 2, .int .i64 1, .slice none 0 0, .slice none 0 0] 25)) := by with_reducible (repeat first | exact Kx.r _ | assumption | refine Kx.a ?_ _ | refine Kx.d ?_ | refine Kx.e ?_ _ | refine Kx.s (by simp <;> omega) ?_ _ | refine Kx.t ?_ (by assumption))
  have hB1N : Blk (w4.alloc (.cells #[.int .i64 2, .int .i64 1, .slice none 0 0, .slice none 0 0] 25)) w.heap.size 97 [.int .u8 1, .slice a n cap] := by with_reducible (repeat first | assumption | (refine Bx.n ⟨?_, ?_⟩ <;> focus (first | rfl | (simp; done) | omega)) | refine Bx.a ?_ _ | refine Bx.d ?_ | refine Bx.e ?_ _ | refine Bx.p (by first | omega | simp <;> omega) ?_)
  have hB2N : Blk (w4.alloc (.cells #[.int .i64 2, .int .i64 1, .slice none 0 0, .slice none 0 0] 25)) (w.heap.size + 1) 25 [.int .i64 0, .int .i64 0, .slice none 0 0, .slice none 0 0] := by with_reducible (repeat first | assumption | (refine Bx.n ⟨?_, ?_⟩ <;> focus (first | rfl | (simp; done) | omega)) | refine Bx.a ?_ _ | refine Bx.d ?_ | refine Bx.e ?_ _ | refine Bx.p (by first | omega | simp <;> omega) ?_)
  have hB3N : Blk (w4.alloc (.cells #[.int .i64 2, .int .i64 1, .slice none 0 0, .slice none 0 0] 25)) w4.heap.size 25 [.int .i64 2, .int .i64 1, .slice none 0 0, .slice none 0 0] := by with_reducible (repeat first | assumption | (refine Bx.n ⟨?_, ?_⟩ <;> focus (first | rfl | (simp; done) | omega)) | refine Bx.a ?_ _ | refine Bx.d ?_ | refine Bx.e ?_ _ | refine Bx.p (by first | omega | simp <;> omega) ?_)
  have hszN : (w4.alloc (.cells #[.int .i64 2, .int .i64 1, .slice none 0 0, .slice none 0 0] 25)).heap.size = w4.heap.size + 1 := by simp
  generalize (w4.alloc (.cells #[.int .i64 2, .int .i64 1, .slice none 0 0, .slice none 0 0] 25)) = W5 at *
  generalize w4.heap.size = b3 at *
  clear hB1 hB2 hkw
  have hSN := hS.keep hkwN
  obtain ⟨B, hBe⟩ : ∃ B, b3 + 1 = B := ⟨_, rfl⟩
  have hb3B : b3 < B := by omega
  have hb2 : w.heap.size + 1 < b3 := hl2
  have hB5s : B ≤ W5.heap.size := by omega
  clear hBe hl2 hS
  go_loopw [4] (fun iv wr => ∃ (k m : Nat) (al : Option Addr) (c : Nat), k ≤ q ∧ m = k * 3 ∧ iv = .int .i64 k ∧ Stab.Keeps w wr ∧ B ≤ wr.heap.size ∧ SeqAt wr (fun b => b < w.heap.size) 1 ps a n cap ∧ Blk wr w.heap.size 97 [.int .u8 1, .slice a n cap] ∧ Blk wr (w.heap.size + 1) 25 [.int .i64 0, .int .i64 0, .slice none 0 0, .slice none 0 0] ∧ Blk wr b3 25 [.int .i64 2, .int .i64 1, .slice al m c, .slice none 0 0] ∧ wr.ownsRow B 45 1 (.slice al m c) m (encN (numsOf 1 (ps.take k)))) (fun iv _ => q - (intOf iv).toNat)
  case atStart => exact ⟨0, 0, none, 0, by omega, rfl, rfl, hkwN, hB5s, hSN, hB1N, hB2N, hB3N, by simpa [numsOf, encN] using World.ownsRow_nil _ _ _ _⟩
  case round =>
    clear hkwN hB1N hB2N hB3N hSN hB5s hszN
    obtain ⟨k, m, al, c, hk, hm, rfl, hkw, hB, hS, hB1, hB2, hB3, hown⟩ := hrel
    have HM := Lib.hid hm
    have hm6 : m ≤ 1000000 := by omega
    clear hm
    have g0 := hB1.cell (i := 0) rfl
    have g1 := hB1.cell (i := 1) rfl
    have gf := hB1.free
    have gl := hB1.lt
    go_wp2_with fail
    refine (hLn _ _ hS).mono ?_
    rintro e w6 ⟨rfl, hk6⟩
    clear g0 g1 gf gl
    replace hB := Nat.le_trans hB hk6.size
    replace hB1 := hB1.keep hk6
    replace hB2 := hB2.keep hk6
    replace hB3 := hB3.keep hk6
    replace hown := owns_keep hown hk6
    replace hkw := Stab.Keeps.trans hkw hk6
    replace hS := hS.keep hk6
    clear hk6
    by_cases hlt : k < q
    · have hkp : k < ps.length := by have := HQ.out; omega
      have hd1 : decide ((k : Int) < (q : Int)) = true := by simp; omega
      have hG := fun w' (h' : SeqAt w' (fun b => b < w.heap.size) 1 ps a n cap) => get_ 1 ps a n cap k w' h' hkp
      have htk : ps.take (k + 1) = ps.take k ++ [ps[k]] := List.take_succ_eq_append_getElem hkp
      have HTK := Lib.hid htk
      clear htk
      generalize ps[k] = pl at *
      obtain ⟨px, py, pz, pm⟩ := pl
      unfold coV at hG
      have g0 := hB1.cell (i := 0) rfl
      have g1 := hB1.cell (i := 1) rfl
      have gf := hB1.free
      have gl := hB1.lt
      go_wp2_with fail
      refine (hG _ hS).mono ?_
      clear hG g0 g1 gf gl
      rintro e w7 ⟨rfl, hk7⟩
      replace hB := Nat.le_trans hB hk7.size
      replace hB1 := hB1.keep hk7
      replace hB2 := hB2.keep hk7
      replace hB3 := hB3.keep hk7
      replace hown := owns_keep hown hk7
      replace hkw := Stab.Keeps.trans hkw hk7
      replace hS := hS.keep hk7
      clear hk7
      go_upto_region 6 with (fail)
      obtain ⟨WC, hWC⟩ : ∃ WC, (w7.alloc (.cells #[.float .f64 px, .float .f64 py, .float .f64 pz, .float .f64 pm, .int .u8 1] 139)) = WC := ⟨_, rfl⟩
      have hkn : Stab.Keeps w7 WC := by subst hWC; with_reducible (repeat first | exact Kx.r _ | assumption | refine Kx.a ?_ _ | refine Kx.d ?_ | refine Kx.e ?_ _ | refine Kx.s (by simp <;> omega) ?_ _ | refine Kx.t ?_ (by assumption))
      have hB5 : Blk WC w7.heap.size 139 [.float .f64 px, .float .f64 py, .float .f64 pz, .float .f64 pm, .int .u8 1] := by subst hWC; with_reducible (repeat first | assumption | (refine Bx.n ⟨?_, ?_⟩ <;> focus (first | rfl | (simp; done) | omega)) | refine Bx.a ?_ _ | refine Bx.d ?_ | refine Bx.e ?_ _ | refine Bx.p (by first | omega | simp <;> omega) ?_)
      simp only [hWC]
      clear hWC
      have hb5 : B ≤ w7.heap.size := hB
      replace hB := Nat.le_trans hB hkn.size
      generalize w7.heap.size = b5 at *
      replace hB1 := hB1.keep hkn
      replace hB2 := hB2.keep hkn
      replace hB3 := hB3.keep hkn
      replace hown := owns_keep hown hkn
      replace hkw := Stab.Keeps.trans hkw hkn
      replace hS := hS.keep hkn
      clear hkn
      have t0 := hB3.cell (i := 0) rfl
      have t1 := hB3.cell (i := 1) rfl
      have t2 := hB3.cell (i := 2) rfl
      have t3 := hB3.cell (i := 3) rfl
      have tf := hB3.free
      have tl := hB3.lt
      have y0 := hB5.cell (i := 0) rfl
      have y1 := hB5.cell (i := 1) rfl
      have y2 := hB5.cell (i := 2) rfl
      have y3 := hB5.cell (i := 3) rfl
      have y4 := hB5.cell (i := 4) rfl
      have yf := hB5.free
      have yl := hB5.lt
      have hown1 := hown.alloc (.cells #[.float .f64 px, .float .f64 py] 45)
      have hbs := hkw.size
      have hk1 : Below B WC (WC.alloc (.cells #[.float .f64 px, .float .f64 py] 45)) := Below.alloc (Below.refl _ _) (by omega) _
      go_wp2_with (at_builtin; (refine Sl.append_own (w0 := WC) rfl _ _ 22 rfl B 45 i0 _ 1 8 Tryz.underlying22 HI.out HZ0.out HZ1.out HZ2.out rfl (by decide) _ (m) _ rfl hown1 ⟨WC.heap.size, 0, none⟩ 2 2 [.float .f64 px, .float .f64 py] rfl rfl ?ax1 ?ax2 ?ax3 ?ax4 ?ax5 hk1 ?_))
      case ax1 => exact new_cells _ _ _ _ (by simp)
      case ax2 => intro u hu; simp at hu; rcases hu with rfl | rfl <;> rfl
      case ax3 => unfold maxLen; omega
      case ax4 => omega
      case ax5 => simp; omega
      intro al1 c1 W1 hownA hkA hszA hgrA
      have hB5A := blk_grown_own (hB5.alloc _) hown1 (by decide) hgrA
      have hB1A := hB1.below hkA (by omega)
      have hB2A := hB2.below hkA (by omega)
      have hB3A := hB3.below hkA (by omega)
      have hkwA := Below.trans hkw (Below.mono hkA (by omega))
      have hSA := hS.kf (KF.below hkA (fun b (hb : b < w.heap.size) _ => by omega))
      have hxsx : encN (numsOf 1 (ps.take k)) ++ [.float .f64 px, .float .f64 py] = encN (numsOf 1 (ps.take k) ++ [px, py]) := by simp [encN]
      rw [hxsx] at hownA
      clear t0 t1 t2 t3 tf tl y0 y1 y2 y3 y4 yf yl hown hown1 hB1 hB2 hB3 hB5 hk1 hkA hszA hgrA hS hkw hxsx
      have t0 := hB3A.cell (i := 0) rfl
      have t1 := hB3A.cell (i := 1) rfl
      have t2 := hB3A.cell (i := 2) rfl
      have t3 := hB3A.cell (i := 3) rfl
      have tf := hB3A.free
      have tl := hB3A.lt
      have hB3 := hB3A.set 2 (.slice al1 (m + 2) c1)
      simp only [List.set] at hB3
      have hB1 : Blk (W1.setCell ⟨b3, 2, none⟩ (.slice al1 (m + 2) c1)) w.heap.size 97 [.int .u8 1, .slice a n cap] := by with_reducible (repeat first | assumption | (refine Bx.n ⟨?_, ?_⟩ <;> focus (first | rfl | (simp; done) | omega)) | refine Bx.a ?_ _ | refine Bx.d ?_ | refine Bx.e ?_ _ | refine Bx.p (by first | omega | simp <;> omega) ?_)
      have hB2 : Blk (W1.setCell ⟨b3, 2, none⟩ (.slice al1 (m + 2) c1)) (w.heap.size + 1) 25 [.int .i64 0, .int .i64 0, .slice none 0 0, .slice none 0 0] := by with_reducible (repeat first | assumption | (refine Bx.n ⟨?_, ?_⟩ <;> focus (first | rfl | (simp; done) | omega)) | refine Bx.a ?_ _ | refine Bx.d ?_ | refine Bx.e ?_ _ | refine Bx.p (by first | omega | simp <;> omega) ?_)
      have hB5 := Blk.past2 (a := ⟨b3, 2, none⟩) (u := .slice al1 (m + 2) c1) (by simp; omega) hB5A
      have hown := owns_set (i := 2) (u := .slice al1 (m + 2) c1) hownA hb3B
      have hkw : Stab.Keeps w (W1.setCell ⟨b3, 2, none⟩ (.slice al1 (m + 2) c1)) := Stab.Keeps.setCell (by simp; omega) hkwA _
      have hS := hSA.kf (w' := (W1.setCell ⟨b3, 2, none⟩ (.slice al1 (m + 2) c1))) ((KF.refl _ _).set (fun (h : b3 < w.heap.size) => by omega))
      clear hB1A hB2A hB3A hB5A hownA hkwA hSA
      go_upto_region 7 with (fail)
      have hB : B ≤ (W1.setCell ⟨b3, 2, none⟩ (.slice al1 (m + 2) c1)).heap.size := by have := hown; have := hB5.lt; omega
      generalize (W1.setCell ⟨b3, 2, none⟩ (.slice al1 (m + 2) c1)) = WE at *
      clear t0 t1 t2 t3 tf tl
      have y0 := hB5.cell (i := 0) rfl
      have y1 := hB5.cell (i := 1) rfl
      have y2 := hB5.cell (i := 2) rfl
      have y3 := hB5.cell (i := 3) rfl
      have y4 := hB5.cell (i := 4) rfl
      have yf := hB5.free
      have yl := hB5.lt
      go_wp2_with fail
      refine (is3D_ 1 (by omega) _).mono ?_
      clear y0 y1 y2 y3 y4 yf yl
      rintro e WC ⟨rfl, hkc⟩
      replace hB := Nat.le_trans hB hkc.size
      replace hB1 := hB1.keep hkc
      replace hB5 := hB5.keep hkc
      replace hB2 := hB2.keep hkc
      replace hB3 := hB3.keep hkc
      replace hown := owns_keep hown hkc
      replace hkw := Stab.Keeps.trans hkw hkc
      replace hS := hS.keep hkc
      clear hkc
      have t0 := hB3.cell (i := 0) rfl
      have t1 := hB3.cell (i := 1) rfl
      have t2 := hB3.cell (i := 2) rfl
      have t3 := hB3.cell (i := 3) rfl
      have tf := hB3.free
      have tl := hB3.lt
      have y0 := hB5.cell (i := 0) rfl
      have y1 := hB5.cell (i := 1) rfl
      have y2 := hB5.cell (i := 2) rfl
      have y3 := hB5.cell (i := 3) rfl
      have y4 := hB5.cell (i := 4) rfl
      have yf := hB5.free
      have yl := hB5.lt
      have hown1 := hown.alloc (.cells #[.float .f64 pz] 45)
      have hbs := hkw.size
      have hk1 : Below B WC (WC.alloc (.cells #[.float .f64 pz] 45)) := Below.alloc (Below.refl _ _) (by omega) _
      go_wp2_with (at_builtin; (refine Sl.append_own (w0 := WC) rfl _ _ 22 rfl B 45 i0 _ 1 8 Tryz.underlying22 HI.out HZ0.out HZ1.out HZ2.out rfl (by decide) _ (m + 2) _ rfl hown1 ⟨WC.heap.size, 0, none⟩ 1 1 [.float .f64 pz] rfl rfl ?az1 ?az2 ?az3 ?az4 ?az5 hk1 ?_))
      case az1 => exact new_cells _ _ _ _ (by simp)
      case az2 => intro u hu; simp at hu; subst hu; rfl
      case az3 => unfold maxLen; omega
      case az4 => omega
      case az5 => simp; omega
      intro al1 c1 W1 hownA hkA hszA hgrA
      have hB5A := blk_grown_own (hB5.alloc _) hown1 (by decide) hgrA
      have hB1A := hB1.below hkA (by omega)
      have hB2A := hB2.below hkA (by omega)
      have hB3A := hB3.below hkA (by omega)
      have hkwA := Below.trans hkw (Below.mono hkA (by omega))
      have hSA := hS.kf (KF.below hkA (fun b (hb : b < w.heap.size) _ => by omega))
      have hxsz : encN (numsOf 1 (ps.take k) ++ [px, py]) ++ [.float .f64 pz] = encN (numsOf 1 (ps.take k) ++ [px, py, pz]) := by simp [encN]
      rw [hxsz] at hownA
      clear t0 t1 t2 t3 tf tl y0 y1 y2 y3 y4 yf yl hown hown1 hB1 hB2 hB3 hB5 hk1 hkA hszA hgrA hS hkw hxsz
      have t0 := hB3A.cell (i := 0) rfl
      have t1 := hB3A.cell (i := 1) rfl
      have t2 := hB3A.cell (i := 2) rfl
      have t3 := hB3A.cell (i := 3) rfl
      have tf := hB3A.free
      have tl := hB3A.lt
      have hB3 := hB3A.set 2 (.slice al1 (m + 2 + 1) c1)
      simp only [List.set] at hB3
      have hB1 : Blk (W1.setCell ⟨b3, 2, none⟩ (.slice al1 (m + 2 + 1) c1)) w.heap.size 97 [.int .u8 1, .slice a n cap] := by with_reducible (repeat first | assumption | (refine Bx.n ⟨?_, ?_⟩ <;> focus (first | rfl | (simp; done) | omega)) | refine Bx.a ?_ _ | refine Bx.d ?_ | refine Bx.e ?_ _ | refine Bx.p (by first | omega | simp <;> omega) ?_)
      have hB2 : Blk (W1.setCell ⟨b3, 2, none⟩ (.slice al1 (m + 2 + 1) c1)) (w.heap.size + 1) 25 [.int .i64 0, .int .i64 0, .slice none 0 0, .slice none 0 0] := by with_reducible (repeat first | assumption | (refine Bx.n ⟨?_, ?_⟩ <;> focus (first | rfl | (simp; done) | omega)) | refine Bx.a ?_ _ | refine Bx.d ?_ | refine Bx.e ?_ _ | refine Bx.p (by first | omega | simp <;> omega) ?_)
      have hB5 := Blk.past2 (a := ⟨b3, 2, none⟩) (u := .slice al1 (m + 2 + 1) c1) (by simp; omega) hB5A
      have hown := owns_set (i := 2) (u := .slice al1 (m + 2 + 1) c1) hownA hb3B
      have hkw : Stab.Keeps w (W1.setCell ⟨b3, 2, none⟩ (.slice al1 (m + 2 + 1) c1)) := Stab.Keeps.setCell (by simp; omega) hkwA _
      have hS := hSA.kf (w' := (W1.setCell ⟨b3, 2, none⟩ (.slice al1 (m + 2 + 1) c1))) ((KF.refl _ _).set (fun (h : b3 < w.heap.size) => by omega))
      clear hB1A hB2A hB3A hB5A hownA hkwA hSA
      go_upto_region 9 with (fail)
      have hB : B ≤ (W1.setCell ⟨b3, 2, none⟩ (.slice al1 (m + 2 + 1) c1)).heap.size := by have := hown; have := hB5.lt; omega
      generalize (W1.setCell ⟨b3, 2, none⟩ (.slice al1 (m + 2 + 1) c1)) = WE at *
      clear t0 t1 t2 t3 tf tl
      have y0 := hB5.cell (i := 0) rfl
      have y1 := hB5.cell (i := 1) rfl
      have y2 := hB5.cell (i := 2) rfl
      have y3 := hB5.cell (i := 3) rfl
      have y4 := hB5.cell (i := 4) rfl
      have yf := hB5.free
      have yl := hB5.lt
      go_wp2_with fail
      refine (isM_ 1 (by omega) _).mono ?_
      clear y0 y1 y2 y3 y4 yf yl
      rintro e WC ⟨rfl, hkc⟩
      replace hB := Nat.le_trans hB hkc.size
      replace hB1 := hB1.keep hkc
      replace hB5 := hB5.keep hkc
      replace hB2 := hB2.keep hkc
      replace hB3 := hB3.keep hkc
      replace hown := owns_keep hown hkc
      replace hkw := Stab.Keeps.trans hkw hkc
      replace hS := hS.keep hkc
      clear hkc
      have hxs : numsOf 1 (ps.take k) ++ [px, py, pz] = numsOf 1 (ps.take (k + 1)) := by rw [HTK.out, numsOf_append, numsOf_one]; rfl
      rw [hxs] at hown
      go_wp2_with fail
      exact ⟨⟨k + 1, m + 2 + 1, al1, c1, by omega, by have := HM.out; omega, by simp, hkw, hB, hS, hB1, hB2, hB3, hown⟩, by simp [intOf]; omega⟩
    · obtain rfl : k = q := by omega
      have hd1 : decide ((k : Int) < (k : Int)) = false := by simp
      rw [List.take_of_length_le (by rw [HQ.out]; exact Nat.le_refl _)] at hown
      have t0 := hB3.cell (i := 0) rfl
      have t1 := hB3.cell (i := 1) rfl
      have t2 := hB3.cell (i := 2) rfl
      have t3 := hB3.cell (i := 3) rfl
      have tf := hB3.free
      have tl := hB3.lt
      have g0 := hB2.cell (i := 0) rfl
      have g1 := hB2.cell (i := 1) rfl
      have g2 := hB2.cell (i := 2) rfl
      have g3 := hB2.cell (i := 3) rfl
      have gf := hB2.free
      have gl := hB2.lt
      have hB2n := (((hB2.set 0 (.int .i64 2)).set 1 (.int .i64 1)).set 2 (.slice al m c)).set 3 (.slice none 0 0)
      simp only [List.set] at hB2n
      have hkf : ∀ (G : Nat → Prop), ¬ G (w.heap.size + 1) → KF G w6 ((((w6.setCell ⟨w.heap.size + 1, 0, none⟩ (.int .i64 2)).setCell ⟨w.heap.size + 1, 1, none⟩ (.int .i64 1)).setCell ⟨w.heap.size + 1, 2, none⟩ (.slice al m c)).setCell ⟨w.heap.size + 1, 3, none⟩ (.slice none 0 0)) := fun G hG' => ((((KF.refl _ _).set hG').set hG').set hG').set hG'
      have hkz : Stab.Keeps w ((((w6.setCell ⟨w.heap.size + 1, 0, none⟩ (.int .i64 2)).setCell ⟨w.heap.size + 1, 1, none⟩ (.int .i64 1)).setCell ⟨w.heap.size + 1, 2, none⟩ (.slice al m c)).setCell ⟨w.heap.size + 1, 3, none⟩ (.slice none 0 0)) := by with_reducible (repeat first | exact Kx.r _ | assumption | refine Kx.a ?_ _ | refine Kx.d ?_ | refine Kx.e ?_ _ | refine Kx.s (by simp <;> omega) ?_ _ | refine Kx.t ?_ (by assumption))
      have hSz := (SzF.of_owns (F := fun b => B ≤ b) hown (fun b hb => hb)).kf (hkf _ (fun h => by omega))
      have hml : m = (numsOf 1 ps).length := by rw [numsOf_len, HQ.out, HM.out]; rfl
      have HML := Lib.hid hml
      clear hml hkf hown
      go_wp2_with fail
      generalize ((((w6.setCell ⟨w.heap.size + 1, 0, none⟩ (.int .i64 2)).setCell ⟨w.heap.size + 1, 1, none⟩ (.int .i64 1)).setCell ⟨w.heap.size + 1, 2, none⟩ (.slice al m c)).setCell ⟨w.heap.size + 1, 3, none⟩ (.slice none 0 0)) = Wz at *
      clear hB1 hB2 hB3 t0 t1 t2 t3 tf tl g0 g1 g2 g3 gf gl hS hkw
      have y0 := hB2n.cell (i := 0) rfl
      have y1 := hB2n.cell (i := 1) rfl
      have y2 := hB2n.cell (i := 2) rfl
      have y3 := hB2n.cell (i := 3) rfl
      have yf := hB2n.free
      have yl := hB2n.lt
      refine bodyPost_ret (v := .agg #[.int .i64 2, .int .i64 1, .slice al m c, .slice none 0 0]) (by simp [results, Tryz.results67, go_sem, *]) rfl ⟨[.int .i64 (2 : Nat), .int .i64 (1 : Nat), .slice al m c, .slice none 0 0], rfl, hkz, ?_⟩
      exact .mk 2 1 _ _ al none _ _ _ _ [] HML.out (hSz.mono fun b _ hb => .inr (by omega)) rfl rfl (by simp) (SzF.nil _ _ _) (fun i h1 => by simp at h1)
set_option maxRecDepth 100000 in
set_option maxHeartbeats 4000000 in
theorem plain2_ {F : Nat → Prop} (ps : List Pl) (a : Option Addr) (n cap : Nat) (w : World) (h : SeqAt w F 2 ps a n cap) : Calls Tryz.prog 67 #[.agg #[.int .u8 2, .slice a n cap]] w (RetR w no GmR (.node 2 2 ps [])) := by
  obtain ⟨i0, hi, hz0, hz1, hz2⟩ := info_parts infoF
  have HI := Lib.hid hi
  have HZ0 := Lib.hid hz0
  have HZ1 := Lib.hid hz1
  have HZ2 := Lib.hid hz2
  clear hi hz0 hz1 hz2
  have hps : ∃ q, ps.length = q := ⟨_, rfl⟩
  obtain ⟨q, hq⟩ := hps
  have hsm := h.sm
  rw [hq] at hsm
  have HQ := Lib.hid hq
  have hS := h.mono (G := fun b => b < w.heap.size) (fun b hb _ => hb)
  have hLn := fun w0 w' (h0 : SeqAt w0 (fun b => b < w.heap.size) 2 ps a n cap) => seqLen_ 2 ps a n cap w' w0 h0
  rw [hq] at hLn
  clear hq h
  go_enter Tryz.func67, Tryz.ntmps67
  go_wp2_with fail
  have hkw : Stab.Keeps w ((w.alloc (.cells #[.int .u8 2, .slice a n cap] 97)).alloc (.cells #[.int .i64 0, .int .i64 0, .slice none 0 0, .slice none 0 0] 25)) := by with_reducible (repeat first | exact Kx.r _ | assumption | refine Kx.a ?_ _ | refine Kx.d ?_ | refine Kx.e ?_ _ | refine Kx.s (by simp <;> omega) ?_ _ | refine Kx.t ?_ (by assumption))
  have hB1 : Blk ((w.alloc (.cells #[.int .u8 2, .slice a n cap] 97)).alloc (.cells #[.int .i64 0, .int .i64 0, .slice none 0 0, .slice none 0 0] 25)) w.heap.size 97 [.int .u8 2, .slice a n cap] := by with_reducible (repeat first | assumption | (refine Bx.n ⟨?_, ?_⟩ <;> focus (first | rfl | (simp; done) | omega)) | refine Bx.a ?_ _ | refine Bx.d ?_ | refine Bx.e ?_ _ | refine Bx.p (by first | omega | simp <;> omega) ?_)
  have hB2 : Blk ((w.alloc (.cells #[.int .u8 2, .slice a n cap] 97)).alloc (.cells #[.int .i64 0, .int .i64 0, .slice none 0 0, .slice none 0 0] 25)) (w.heap.size + 1) 25 [.int .i64 0, .int .i64 0, .slice none 0 0, .slice none 0 0] := by with_reducible (repeat first | assumption | (refine Bx.n ⟨?_, ?_⟩ <;> focus (first | rfl | (simp; done) | omega)) | refine Bx.a ?_ _ | refine Bx.d ?_ | refine Bx.e ?_ _ | refine Bx.p (by first | omega | simp <;> omega) ?_)
  generalize ((w.alloc (.cells #[.int .u8 2, .slice a n cap] 97)).alloc (.cells #[.int .i64 0, .int .i64 0, .slice none 0 0, .slice none 0 0] 25)) = W0 at *
  refine (seqType_ 2 a n cap _).mono ?_
  rintro e w4 ⟨rfl, hk4⟩
  replace hB1 := hB1.keep hk4
  replace hB2 := hB2.keep hk4
  replace hkw := Stab.Keeps.trans hkw hk4
  clear hk4
  go_wp2_with fail
  have hl2 := hB2.lt
  have hkwN : Stab.Keeps w (w4.alloc (.cells #[.int .i64 2, .int .i64 2, .slice none 0 0, .slice none 0 0] 25)) := by with_reducible (repeat first | exact Kx.r _ | assumption | refine Kx.a ?_ _ | refine Kx.d ?_ | refine Kx.e ?_ _ | refine Kx.s (by simp <;> omega) ?_ _ | refine Kx.t ?_ (by assumption))
  have hB1N : Blk (w4.alloc (.cells #[.int .i64 2, .int .i64 2, .slice none 0 0, .slice none 0 0] 25)) w.heap.size 97 [.int .u8 2, .slice a n cap] := by with_reducible (repeat first | assumption | (refine Bx.n ⟨?_, ?_⟩ <;> focus (first | rfl | (simp; done) | omega)) | refine Bx.a ?_ _ | refine Bx.d ?_ | refine Bx.e ?_ _ | refine Bx.p (by first | omega | simp <;> omega) ?_)
  have hB2N : Blk (w4.alloc (.cells #[.int .i64 2, .int .i64 2, .slice none 0 0, .slice none 0 0] 25)) (w.heap.size + 1) 25 [.int .i64 0, .int .i64 0, .slice none 0 0, .slice none 0 0] := by with_reducible (repeat first | assumption | (refine Bx.n ⟨?_, ?_⟩ <;> focus (first | rfl | (simp; done) | omega)) | refine Bx.a ?_ _ | refine Bx.d ?_ | refine Bx.e ?_ _ | refine Bx.p (by first | omega | simp <;> omega) ?_)
  have hB3N : Blk (w4.alloc (.cells #[.int .i64 2, .int .i64 2, .slice none 0 0, .slice none 0 0] 25)) w4.heap.size 25 [.int .i64 2, .int .i64 2, .slice none 0 0, .slice none 0 0] := by with_reducible (repeat first | assumption | (refine Bx.n ⟨?_, ?_⟩ <;> focus (first | rfl | (simp; done) | omega)) | refine Bx.a ?_ _ | refine Bx.d ?_ | refine Bx.e ?_ _ | refine Bx.p (by first | omega | simp <;> omega) ?_)
  have hszN : (w4.alloc (.cells #[.int .i64 2, .int .i64 2, .slice none 0 0, .slice none 0 0] 25)).heap.size = w4.heap.size + 1 := by simp
  generalize (w4.alloc (.cells #[.int .i64 2, .int .i64 2, .slice none 0 0, .slice none 0 0] 25)) = W5 at *
  generalize w4.heap.size = b3 at *
  clear hB1 hB2 hkw
  have hSN := hS.keep hkwN
  obtain ⟨B, hBe⟩ : ∃ B, b3 + 1 = B := ⟨_, rfl⟩
  have hb3B : b3 < B := by omega
  have hb2 : w.heap.size + 1 < b3 := hl2
  have hB5s : B ≤ W5.heap.size := by omega
  clear hBe hl2 hS
  go_loopw [4] (fun iv wr => ∃ (k m : Nat) (al : Option Addr) (c : Nat), k ≤ q ∧ m = k * 3 ∧ iv = .int .i64 k ∧ Stab.Keeps w wr ∧ B ≤ wr.heap.size ∧ SeqAt wr (fun b => b < w.heap.size) 2 ps a n cap ∧ Blk wr w.heap.size 97 [.int .u8 2, .slice a n cap] ∧ Blk wr (w.heap.size + 1) 25 [.int .i64 0, .int .i64 0, .slice none 0 0, .slice none 0 0] ∧ Blk wr b3 25 [.int .i64 2, .int .i64 2, .slice al m c, .slice none 0 0] ∧ wr.ownsRow B 45 1 (.slice al m c) m (encN (numsOf 2 (ps.take k)))) (fun iv _ => q - (intOf iv).toNat)
  case atStart => exact ⟨0, 0, none, 0, by omega, rfl, rfl, hkwN, hB5s, hSN, hB1N, hB2N, hB3N, by simpa [numsOf, encN] using World.ownsRow_nil _ _ _ _⟩
  case round =>
    clear hkwN hB1N hB2N hB3N hSN hB5s hszN
    obtain ⟨k, m, al, c, hk, hm, rfl, hkw, hB, hS, hB1, hB2, hB3, hown⟩ := hrel
    have HM := Lib.hid hm
    have hm6 : m ≤ 1000000 := by omega
    clear hm
    have g0 := hB1.cell (i := 0) rfl
    have g1 := hB1.cell (i := 1) rfl
    have gf := hB1.free
    have gl := hB1.lt
    go_wp2_with fail
    refine (hLn _ _ hS).mono ?_
    rintro e w6 ⟨rfl, hk6⟩
    clear g0 g1 gf gl
    replace hB := Nat.le_trans hB hk6.size
    replace hB1 := hB1.keep hk6
    replace hB2 := hB2.keep hk6
    replace hB3 := hB3.keep hk6
    replace hown := owns_keep hown hk6
    replace hkw := Stab.Keeps.trans hkw hk6
    replace hS := hS.keep hk6
    clear hk6
    by_cases hlt : k < q
    · have hkp : k < ps.length := by have := HQ.out; omega
      have hd1 : decide ((k : Int) < (q : Int)) = true := by simp; omega
      have hG := fun w' (h' : SeqAt w' (fun b => b < w.heap.size) 2 ps a n cap) => get_ 2 ps a n cap k w' h' hkp
      have htk : ps.take (k + 1) = ps.take k ++ [ps[k]] := List.take_succ_eq_append_getElem hkp
      have HTK := Lib.hid htk
      clear htk
      generalize ps[k] = pl at *
      obtain ⟨px, py, pz, pm⟩ := pl
      unfold coV at hG
      have g0 := hB1.cell (i := 0) rfl
      have g1 := hB1.cell (i := 1) rfl
      have gf := hB1.free
      have gl := hB1.lt
      go_wp2_with fail
      refine (hG _ hS).mono ?_
      clear hG g0 g1 gf gl
      rintro e w7 ⟨rfl, hk7⟩
      replace hB := Nat.le_trans hB hk7.size
      replace hB1 := hB1.keep hk7
      replace hB2 := hB2.keep hk7
      replace hB3 := hB3.keep hk7
      replace hown := owns_keep hown hk7
      replace hkw := Stab.Keeps.trans hkw hk7
      replace hS := hS.keep hk7
      clear hk7
      go_upto_region 6 with (fail)
      obtain ⟨WC, hWC⟩ : ∃ WC, (w7.alloc (.cells #[.float .f64 px, .float .f64 py, .float .f64 pz, .float .f64 pm, .int .u8 2] 139)) = WC := ⟨_, rfl⟩
      have hkn : Stab.Keeps w7 WC := by subst hWC; with_reducible (repeat first | exact Kx.r _ | assumption | refine Kx.a ?_ _ | refine Kx.d ?_ | refine Kx.e ?_ _ | refine Kx.s (by simp <;> omega) ?_ _ | refine Kx.t ?_ (by assumption))
      have hB5 : Blk WC w7.heap.size 139 [.float .f64 px, .float .f64 py, .float .f64 pz, .float .f64 pm, .int .u8 2] := by subst hWC; with_reducible (repeat first | assumption | (refine Bx.n ⟨?_, ?_⟩ <;> focus (first | rfl | (simp; done) | omega)) | refine Bx.a ?_ _ | refine Bx.d ?_ | refine Bx.e ?_ _ | refine Bx.p (by first | omega | simp <;> omega) ?_)
      simp only [hWC]
      clear hWC
      have hb5 : B ≤ w7.heap.size := hB
      replace hB := Nat.le_trans hB hkn.size
      generalize w7.heap.size = b5 at *
      replace hB1 := hB1.keep hkn
      replace hB2 := hB2.keep hkn
      replace hB3 := hB3.keep hkn
      replace hown := owns_keep hown hkn
      replace hkw := Stab.Keeps.trans hkw hkn
      replace hS := hS.keep hkn
      clear hkn
      have t0 := hB3.cell (i := 0) rfl
      have t1 := hB3.cell (i := 1) rfl
      have t2 := hB3.cell (i := 2) rfl
      have t3 := hB3.cell (i := 3) rfl
      have tf := hB3.free
      have tl := hB3.lt
      have y0 := hB5.cell (i := 0) rfl
      have y1 := hB5.cell (i := 1) rfl
      have y2 := hB5.cell (i := 2) rfl
      have y3 := hB5.cell (i := 3) rfl
      have y4 := hB5.cell (i := 4) rfl
      have yf := hB5.free
      have yl := hB5.lt
      have hown1 := hown.alloc (.cells #[.float .f64 px, .float .f64 py] 45)
      have hbs := hkw.size
      have hk1 : Below B WC (WC.alloc (.cells #[.float .f64 px, .float .f64 py] 45)) := Below.alloc (Below.refl _ _) (by omega) _
      go_wp2_with (at_builtin; (refine Sl.append_own (w0 := WC) rfl _ _ 22 rfl B 45 i0 _ 1 8 Tryz.underlying22 HI.out HZ0.out HZ1.out HZ2.out rfl (by decide) _ (m) _ rfl hown1 ⟨WC.heap.size, 0, none⟩ 2 2 [.float .f64 px, .float .f64 py] rfl rfl ?ax1 ?ax2 ?ax3 ?ax4 ?ax5 hk1 ?_))
      case ax1 => exact new_cells _ _ _ _ (by simp)
      case ax2 => intro u hu; simp at hu; rcases hu with rfl | rfl <;> rfl
      case ax3 => unfold maxLen; omega
      case ax4 => omega
      case ax5 => simp; omega
      intro al1 c1 W1 hownA hkA hszA hgrA
      have hB5A := blk_grown_own (hB5.alloc _) hown1 (by decide) hgrA
      have hB1A := hB1.below hkA (by omega)
      have hB2A := hB2.below hkA (by omega)
      have hB3A := hB3.below hkA (by omega)
      have hkwA := Below.trans hkw (Below.mono hkA (by omega))
      have hSA := hS.kf (KF.below hkA (fun b (hb : b < w.heap.size) _ => by omega))
      have hxsx : encN (numsOf 2 (ps.take k)) ++ [.float .f64 px, .float .f64 py] = encN (numsOf 2 (ps.take k) ++ [px, py]) := by simp [encN]
      rw [hxsx] at hownA
      clear t0 t1 t2 t3 tf tl y0 y1 y2 y3 y4 yf yl hown hown1 hB1 hB2 hB3 hB5 hk1 hkA hszA hgrA hS hkw hxsx
      have t0 := hB3A.cell (i := 0) rfl
      have t1 := hB3A.cell (i := 1) rfl
      have t2 := hB3A.cell (i := 2) rfl
      have t3 := hB3A.cell (i := 3) rfl
      have tf := hB3A.free
      have tl := hB3A.lt
      have hB3 := hB3A.set 2 (.slice al1 (m + 2) c1)
      simp only [List.set] at hB3
      have hB1 : Blk (W1.setCell ⟨b3, 2, none⟩ (.slice al1 (m + 2) c1)) w.heap.size 97 [.int .u8 2, .slice a n cap] := by with_reducible (repeat first | assumption | (refine Bx.n ⟨?_, ?_⟩ <;> focus (first | rfl | (simp; done) | omega)) | refine Bx.a ?_ _ | refine Bx.d ?_ | refine Bx.e ?_ _ | refine Bx.p (by first | omega | simp <;> omega) ?_)
      have hB2 : Blk (W1.setCell ⟨b3, 2, none⟩ (.slice al1 (m + 2) c1)) (w.heap.size + 1) 25 [.int .i64 0, .int .i64 0, .slice none 0 0, .slice none 0 0] := by with_reducible (repeat first | assumption | (refine Bx.n ⟨?_, ?_⟩ <;> focus (first | rfl | (simp; done) | omega)) | refine Bx.a ?_ _ | refine Bx.d ?_ | refine Bx.e ?_ _ | refine Bx.p (by first | omega | simp <;> omega) ?_)
      have hB5 := Blk.past2 (a := ⟨b3, 2, none⟩) (u := .slice al1 (m + 2) c1) (by simp; omega) hB5A
      have hown := owns_set (i := 2) (u := .slice al1 (m + 2) c1) hownA hb3B
      have hkw : Stab.Keeps w (W1.setCell ⟨b3, 2, none⟩ (.slice al1 (m + 2) c1)) := Stab.Keeps.setCell (by simp; omega) hkwA _
      have hS := hSA.kf (w' := (W1.setCell ⟨b3, 2, none⟩ (.slice al1 (m + 2) c1))) ((KF.refl _ _).set (fun (h : b3 < w.heap.size) => by omega))
      clear hB1A hB2A hB3A hB5A hownA hkwA hSA
      go_upto_region 7 with (fail)
      have hB : B ≤ (W1.setCell ⟨b3, 2, none⟩ (.slice al1 (m + 2) c1)).heap.size := by have := hown; have := hB5.lt; omega
      generalize (W1.setCell ⟨b3, 2, none⟩ (.slice al1 (m + 2) c1)) = WE at *
      clear t0 t1 t2 t3 tf tl
      have y0 := hB5.cell (i := 0) rfl
      have y1 := hB5.cell (i := 1) rfl
      have y2 := hB5.cell (i := 2) rfl
      have y3 := hB5.cell (i := 3) rfl
      have y4 := hB5.cell (i := 4) rfl
      have yf := hB5.free
      have yl := hB5.lt
      go_wp2_with fail
      refine (is3D_ 2 (by omega) _).mono ?_
      clear y0 y1 y2 y3 y4 yf yl
      rintro e WC ⟨rfl, hkc⟩
      replace hB := Nat.le_trans hB hkc.size
      replace hB1 := hB1.keep hkc
      replace hB5 := hB5.keep hkc
      replace hB2 := hB2.keep hkc
      replace hB3 := hB3.keep hkc
      replace hown := owns_keep hown hkc
      replace hkw := Stab.Keeps.trans hkw hkc
      replace hS := hS.keep hkc
      clear hkc
      have y0 := hB5.cell (i := 0) rfl
      have y1 := hB5.cell (i := 1) rfl
      have y2 := hB5.cell (i := 2) rfl
      have y3 := hB5.cell (i := 3) rfl
      have y4 := hB5.cell (i := 4) rfl
      have yf := hB5.free
      have yl := hB5.lt
      go_wp2_with fail
      refine (isM_ 2 (by omega) _).mono ?_
      clear y0 y1 y2 y3 y4 yf yl
      rintro e WC ⟨rfl, hkc⟩
      replace hB := Nat.le_trans hB hkc.size
      replace hB1 := hB1.keep hkc
      replace hB5 := hB5.keep hkc
      replace hB2 := hB2.keep hkc
      replace hB3 := hB3.keep hkc
      replace hown := owns_keep hown hkc
      replace hkw := Stab.Keeps.trans hkw hkc
      replace hS := hS.keep hkc
      clear hkc
      have t0 := hB3.cell (i := 0) rfl
      have t1 := hB3.cell (i := 1) rfl
      have t2 := hB3.cell (i := 2) rfl
      have t3 := hB3.cell (i := 3) rfl
      have tf := hB3.free
      have tl := hB3.lt
      have y0 := hB5.cell (i := 0) rfl
      have y1 := hB5.cell (i := 1) rfl
      have y2 := hB5.cell (i := 2) rfl
      have y3 := hB5.cell (i := 3) rfl
      have y4 := hB5.cell (i := 4) rfl
      have yf := hB5.free
      have yl := hB5.lt
      have hown1 := hown.alloc (.cells #[.float .f64 pm] 45)
      have hbs := hkw.size
      have hk1 : Below B WC (WC.alloc (.cells #[.float .f64 pm] 45)) := Below.alloc (Below.refl _ _) (by omega) _
      go_wp2_with (at_builtin; (refine Sl.append_own (w0 := WC) rfl _ _ 22 rfl B 45 i0 _ 1 8 Tryz.underlying22 HI.out HZ0.out HZ1.out HZ2.out rfl (by decide) _ (m + 2) _ rfl hown1 ⟨WC.heap.size, 0, none⟩ 1 1 [.float .f64 pm] rfl rfl ?am1 ?am2 ?am3 ?am4 ?am5 hk1 ?_))
      case am1 => exact new_cells _ _ _ _ (by simp)
      case am2 => intro u hu; simp at hu; subst hu; rfl
      case am3 => unfold maxLen; omega
      case am4 => omega
      case am5 => simp; omega
      intro al1 c1 W1 hownA hkA hszA hgrA
      have hB5A := blk_grown_own (hB5.alloc _) hown1 (by decide) hgrA
      have hB1A := hB1.below hkA (by omega)
      have hB2A := hB2.below hkA (by omega)
      have hB3A := hB3.below hkA (by omega)
      have hkwA := Below.trans hkw (Below.mono hkA (by omega))
      have hSA := hS.kf (KF.below hkA (fun b (hb : b < w.heap.size) _ => by omega))
      have hxsm : encN (numsOf 2 (ps.take k) ++ [px, py]) ++ [.float .f64 pm] = encN (numsOf 2 (ps.take k) ++ [px, py, pm]) := by simp [encN]
      rw [hxsm] at hownA
      clear t0 t1 t2 t3 tf tl y0 y1 y2 y3 y4 yf yl hown hown1 hB1 hB2 hB3 hB5 hk1 hkA hszA hgrA hS hkw hxsm
      have t0 := hB3A.cell (i := 0) rfl
      have t1 := hB3A.cell (i := 1) rfl
      have t2 := hB3A.cell (i := 2) rfl
      have t3 := hB3A.cell (i := 3) rfl
      have tf := hB3A.free
      have tl := hB3A.lt
      have hB3 := hB3A.set 2 (.slice al1 (m + 2 + 1) c1)
      simp only [List.set] at hB3
      have hB1 : Blk (W1.setCell ⟨b3, 2, none⟩ (.slice al1 (m + 2 + 1) c1)) w.heap.size 97 [.int .u8 2, .slice a n cap] := by with_reducible (repeat first | assumption | (refine Bx.n ⟨?_, ?_⟩ <;> focus (first | rfl | (simp; done) | omega)) | refine Bx.a ?_ _ | refine Bx.d ?_ | refine Bx.e ?_ _ | refine Bx.p (by first | omega | simp <;> omega) ?_)
      have hB2 : Blk (W1.setCell ⟨b3, 2, none⟩ (.slice al1 (m + 2 + 1) c1)) (w.heap.size + 1) 25 [.int .i64 0, .int .i64 0, .slice none 0 0, .slice none 0 0] := by with_reducible (repeat first | assumption | (refine Bx.n ⟨?_, ?_⟩ <;> focus (first | rfl | (simp; done) | omega)) | refine Bx.a ?_ _ | refine Bx.d ?_ | refine Bx.e ?_ _ | refine Bx.p (by first | omega | simp <;> omega) ?_)
      have hB5 := Blk.past2 (a := ⟨b3, 2, none⟩) (u := .slice al1 (m + 2 + 1) c1) (by simp; omega) hB5A
      have hown := owns_set (i := 2) (u := .slice al1 (m + 2 + 1) c1) hownA hb3B
      have hkw : Stab.Keeps w (W1.setCell ⟨b3, 2, none⟩ (.slice al1 (m + 2 + 1) c1)) := Stab.Keeps.setCell (by simp; omega) hkwA _
      have hS := hSA.kf (w' := (W1.setCell ⟨b3, 2, none⟩ (.slice al1 (m + 2 + 1) c1))) ((KF.refl _ _).set (fun (h : b3 < w.heap.size) => by omega))
      clear hB1A hB2A hB3A hB5A hownA hkwA hSA
      have hB : B ≤ (W1.setCell ⟨b3, 2, none⟩ (.slice al1 (m + 2 + 1) c1)).heap.size := by have := hB5.lt; omega
      go_upto_region 4 with (fail)
      generalize (W1.setCell ⟨b3, 2, none⟩ (.slice al1 (m + 2 + 1) c1)) = WC at *
      clear t0 t1 t2 t3 tf tl
      have hxs : numsOf 2 (ps.take k) ++ [px, py, pm] = numsOf 2 (ps.take (k + 1)) := by rw [HTK.out, numsOf_append, numsOf_one]; rfl
      rw [hxs] at hown
      go_wp2_with fail
      exact ⟨⟨k + 1, m + 2 + 1, al1, c1, by omega, by have := HM.out; omega, by simp, hkw, hB, hS, hB1, hB2, hB3, hown⟩, by simp [intOf]; omega⟩
    · obtain rfl : k = q := by omega
      have hd1 : decide ((k : Int) < (k : Int)) = false := by simp
      rw [List.take_of_length_le (by rw [HQ.out]; exact Nat.le_refl _)] at hown
      have t0 := hB3.cell (i := 0) rfl
      have t1 := hB3.cell (i := 1) rfl
      have t2 := hB3.cell (i := 2) rfl
      have t3 := hB3.cell (i := 3) rfl
      have tf := hB3.free
      have tl := hB3.lt
      have g0 := hB2.cell (i := 0) rfl
      have g1 := hB2.cell (i := 1) rfl
      have g2 := hB2.cell (i := 2) rfl
      have g3 := hB2.cell (i := 3) rfl
      have gf := hB2.free
      have gl := hB2.lt
      have hB2n := (((hB2.set 0 (.int .i64 2)).set 1 (.int .i64 2)).set 2 (.slice al m c)).set 3 (.slice none 0 0)
      simp only [List.set] at hB2n
      have hkf : ∀ (G : Nat → Prop), ¬ G (w.heap.size + 1) → KF G w6 ((((w6.setCell ⟨w.heap.size + 1, 0, none⟩ (.int .i64 2)).setCell ⟨w.heap.size + 1, 1, none⟩ (.int .i64 2)).setCell ⟨w.heap.size + 1, 2, none⟩ (.slice al m c)).setCell ⟨w.heap.size + 1, 3, none⟩ (.slice none 0 0)) := fun G hG' => ((((KF.refl _ _).set hG').set hG').set hG').set hG'
      have hkz : Stab.Keeps w ((((w6.setCell ⟨w.heap.size + 1, 0, none⟩ (.int .i64 2)).setCell ⟨w.heap.size + 1, 1, none⟩ (.int .i64 2)).setCell ⟨w.heap.size + 1, 2, none⟩ (.slice al m c)).setCell ⟨w.heap.size + 1, 3, none⟩ (.slice none 0 0)) := by with_reducible (repeat first | exact Kx.r _ | assumption | refine Kx.a ?_ _ | refine Kx.d ?_ | refine Kx.e ?_ _ | refine Kx.s (by simp <;> omega) ?_ _ | refine Kx.t ?_ (by assumption))
      have hSz := (SzF.of_owns (F := fun b => B ≤ b) hown (fun b hb => hb)).kf (hkf _ (fun h => by omega))
      have hml : m = (numsOf 2 ps).length := by rw [numsOf_len, HQ.out, HM.out]; rfl
      have HML := Lib.hid hml
      clear hml hkf hown
      go_wp2_with fail
      generalize ((((w6.setCell ⟨w.heap.size + 1, 0, none⟩ (.int .i64 2)).setCell ⟨w.heap.size + 1, 1, none⟩ (.int .i64 2)).setCell ⟨w.heap.size + 1, 2, none⟩ (.slice al m c)).setCell ⟨w.heap.size + 1, 3, none⟩ (.slice none 0 0)) = Wz at *
      clear hB1 hB2 hB3 t0 t1 t2 t3 tf tl g0 g1 g2 g3 gf gl hS hkw
      have y0 := hB2n.cell (i := 0) rfl
      have y1 := hB2n.cell (i := 1) rfl
      have y2 := hB2n.cell (i := 2) rfl
      have y3 := hB2n.cell (i := 3) rfl
      have yf := hB2n.free
      have yl := hB2n.lt
      refine bodyPost_ret (v := .agg #[.int .i64 2, .int .i64 2, .slice al m c, .slice none 0 0]) (by simp [results, Tryz.results67, go_sem, *]) rfl ⟨[.int .i64 (2 : Nat), .int .i64 (2 : Nat), .slice al m c, .slice none 0 0], rfl, hkz, ?_⟩
      exact .mk 2 2 _ _ al none _ _ _ _ [] HML.out (hSz.mono fun b _ hb => .inr (by omega)) rfl rfl (by simp) (SzF.nil _ _ _) (fun i h1 => by simp at h1)
set_option maxRecDepth 100000 in
set_option maxHeartbeats 4000000 in
theorem plain3_ {F : Nat → Prop} (ps : List Pl) (a : Option Addr) (n cap : Nat) (w : World) (h : SeqAt w F 3 ps a n cap) : Calls Tryz.prog 67 #[.agg #[.int .u8 3, .slice a n cap]] w (RetR w no GmR (.node 2 3 ps [])) := by
  obtain ⟨i0, hi, hz0, hz1, hz2⟩ := info_parts infoF
  have HI := Lib.hid hi
  have HZ0 := Lib.hid hz0
  have HZ1 := Lib.hid hz1
  have HZ2 := Lib.hid hz2
  clear hi hz0 hz1 hz2
  have hps : ∃ q, ps.length = q := ⟨_, rfl⟩
  obtain ⟨q, hq⟩ := hps
  have hsm := h.sm
  rw [hq] at hsm
  have HQ := Lib.hid hq
  have hS := h.mono (G := fun b => b < w.heap.size) (fun b hb _ => hb)
  have hLn := fun w0 w' (h0 : SeqAt w0 (fun b => b < w.heap.size) 3 ps a n cap) => seqLen_ 3 ps a n cap w' w0 h0
  rw [hq] at hLn
  clear hq h
  go_enter Tryz.func67, Tryz.ntmps67
  go_wp2_with fail
  have hkw : Stab.Keeps w ((w.alloc (.cells #[.int .u8 3, .slice a n cap] 97)).alloc (.cells #[.int .i64 0, .int .i64 0, .slice none 0 0, .slice none 0 0] 25)) := by with_reducible (repeat first | exact Kx.r _ | assumption | refine Kx.a ?_ _ | refine Kx.d ?_ | refine Kx.e ?_ _ | refine Kx.s (by simp <;> omega) ?_ _ | refine Kx.t ?_ (by assumption))
  have hB1 : Blk ((w.alloc (.cells #[.int .u8 3, .slice a n cap] 97)).alloc (.cells #[.int .i64 0, .int .i64 0, .slice none 0 0, .slice none 0 0] 25)) w.heap.size 97 [.int .u8 3, .slice a n cap] := by with_reducible (repeat first | assumption | (refine Bx.n ⟨?_, ?_⟩ <;> focus (first | rfl | (simp; done) | omega)) | refine Bx.a ?_ _ | refine Bx.d ?_ | refine Bx.e ?_ _ | refine Bx.p (by first | omega | simp <;> omega) ?_)
  have hB2 : Blk ((w.alloc (.cells #[.int .u8 3, .slice a n cap] 97)).alloc (.cells #[.int .i64 0, .int .i64 0, .slice none 0 0, .slice none 0 0] 25)) (w.heap.size + 1) 25 [.int .i64 0, .int .i64 0, .slice none 0 0, .slice none 0 0] := by with_reducible (repeat first | assumption | (refine Bx.n ⟨?_, ?_⟩ <;> focus (first | rfl | (simp; done) | omega)) | refine Bx.a ?_ _ | refine Bx.d ?_ | refine Bx.e ?_ _ | refine Bx.p (by first | omega | simp <;> omega) ?_)
  generalize ((w.alloc (.cells #[.int .u8 3, .slice a n cap] 97)).alloc (.cells #[.int .i64 0, .int .i64 0, .slice none 0 0, .slice none 0 0] 25)) = W0 at *
  refine (seqType_ 3 a n cap _).mono ?_
  rintro e w4 ⟨rfl, hk4⟩
  replace hB1 := hB1.keep hk4
  replace hB2 := hB2.keep hk4
  replace hkw := Stab.Keeps.trans hkw hk4
  clear hk4
  go_wp2_with fail
  have hl2 := hB2.lt
  have hkwN : Stab.Keeps w (w4.alloc (.cells #[.int .i64 2, .int .i64 3, .slice none 0 0, .slice none 0 0] 25)) := by with_reducible (repeat first | exact Kx.r _ | assumption | refine Kx.a ?_ _ | refine Kx.d ?_ | refine Kx.e ?_ _ | refine Kx.s (by simp <;> omega) ?_ _ | refine Kx.t ?_ (by assumption))
  have hB1N : Blk (w4.alloc (.cells #[.int .i64 2, .int .i64 3, .slice none 0 0, .slice none 0 0] 25)) w.heap.size 97 [.int .u8 3, .slice a n cap] := by with_reducible (repeat first | assumption | (refine Bx.n ⟨?_, ?_⟩ <;> focus (first | rfl | (simp; done) | omega)) | refine Bx.a ?_ _ | refine Bx.d ?_ | refine Bx.e ?_ _ | refine Bx.p (by first | omega | simp <;> omega) ?_)
  have hB2N : Blk (w4.alloc (.cells #[.int .i64 2, .int .i64 3, .slice none 0 0, .slice none 0 0] 25)) (w.heap.size + 1) 25 [.int .i64 0, .int .i64 0, .slice none 0 0, .slice none 0 0] := by with_reducible (repeat first | assumption | (refine Bx.n ⟨?_, ?_⟩ <;> focus (first | rfl | (simp; done) | omega)) | refine Bx.a ?_ _ | refine Bx.d ?_ | refine Bx.e ?_ _ | refine Bx.p (by first | omega | simp <;> omega) ?_)
  have hB3N : Blk (w4.alloc (.cells #[.int .i64 2, .int .i64 3, .slice none 0 0, .slice none 0 0] 25)) w4.heap.size 25 [.int .i64 2, .int .i64 3, .slice none 0 0, .slice none 0 0] := by with_reducible (repeat first | assumption | (refine Bx.n ⟨?_, ?_⟩ <;> focus (first | rfl | (simp; done) | omega)) | refine Bx.a ?_ _ | refine Bx.d ?_ | refine Bx.e ?_ _ | refine Bx.p (by first | omega | simp <;> omega) ?_)
  have hszN : (w4.alloc (.cells #[.int .i64 2, .int .i64 3, .slice none 0 0, .slice none 0 0] 25)).heap.size = w4.heap.size + 1 := by simp
  generalize (w4.alloc (.cells #[.int .i64 2, .int .i64 3, .slice none 0 0, .slice none 0 0] 25)) = W5 at *
  generalize w4.heap.size = b3 at *
  clear hB1 hB2 hkw
  have hSN := hS.keep hkwN
  obtain ⟨B, hBe⟩ : ∃ B, b3 + 1 = B := ⟨_, rfl⟩
  have hb3B : b3 < B := by omega
  have hb2 : w.heap.size + 1 < b3 := hl2
  have hB5s : B ≤ W5.heap.size := by omega
  clear hBe hl2 hS
  go_loopw [4] (fun iv wr => ∃ (k m : Nat) (al : Option Addr) (c : Nat), k ≤ q ∧ m = k * 4 ∧ iv = .int .i64 k ∧ Stab.Keeps w wr ∧ B ≤ wr.heap.size ∧ SeqAt wr (fun b => b < w.heap.size) 3 ps a n cap ∧ Blk wr w.heap.size 97 [.int .u8 3, .slice a n cap] ∧ Blk wr (w.heap.size + 1) 25 [.int .i64 0, .int .i64 0, .slice none 0 0, .slice none 0 0] ∧ Blk wr b3 25 [.int .i64 2, .int .i64 3, .slice al m c, .slice none 0 0] ∧ wr.ownsRow B 45 1 (.slice al m c) m (encN (numsOf 3 (ps.take k)))) (fun iv _ => q - (intOf iv).toNat)
  case atStart => exact ⟨0, 0, none, 0, by omega, rfl, rfl, hkwN, hB5s, hSN, hB1N, hB2N, hB3N, by simpa [numsOf, encN] using World.ownsRow_nil _ _ _ _⟩
  case round =>
    clear hkwN hB1N hB2N hB3N hSN hB5s hszN
    obtain ⟨k, m, al, c, hk, hm, rfl, hkw, hB, hS, hB1, hB2, hB3, hown⟩ := hrel
    have HM := Lib.hid hm
    have hm6 : m ≤ 1000000 := by omega
    clear hm
    have g0 := hB1.cell (i := 0) rfl
    have g1 := hB1.cell (i := 1) rfl
    have gf := hB1.free
    have gl := hB1.lt
    go_wp2_with fail
    refine (hLn _ _ hS).mono ?_
    rintro e w6 ⟨rfl, hk6⟩
    clear g0 g1 gf gl
    replace hB := Nat.le_trans hB hk6.size
    replace hB1 := hB1.keep hk6
    replace hB2 := hB2.keep hk6
    replace hB3 := hB3.keep hk6
    replace hown := owns_keep hown hk6
    replace hkw := Stab.Keeps.trans hkw hk6
    replace hS := hS.keep hk6
    clear hk6
    by_cases hlt : k < q
    · have hkp : k < ps.length := by have := HQ.out; omega
      have hd1 : decide ((k : Int) < (q : Int)) = true := by simp; omega
      have hG := fun w' (h' : SeqAt w' (fun b => b < w.heap.size) 3 ps a n cap) => get_ 3 ps a n cap k w' h' hkp
      have htk : ps.take (k + 1) = ps.take k ++ [ps[k]] := List.take_succ_eq_append_getElem hkp
      have HTK := Lib.hid htk
      clear htk
      generalize ps[k] = pl at *
      obtain ⟨px, py, pz, pm⟩ := pl
      unfold coV at hG
      have g0 := hB1.cell (i := 0) rfl
      have g1 := hB1.cell (i := 1) rfl
      have gf := hB1.free
      have gl := hB1.lt
      go_wp2_with fail
      refine (hG _ hS).mono ?_
      clear hG g0 g1 gf gl
      rintro e w7 ⟨rfl, hk7⟩
      replace hB := Nat.le_trans hB hk7.size
      replace hB1 := hB1.keep hk7
      replace hB2 := hB2.keep hk7
      replace hB3 := hB3.keep hk7
      replace hown := owns_keep hown hk7
      replace hkw := Stab.Keeps.trans hkw hk7
      replace hS := hS.keep hk7
      clear hk7
      go_upto_region 6 with (fail)
      obtain ⟨WC, hWC⟩ : ∃ WC, (w7.alloc (.cells #[.float .f64 px, .float .f64 py, .float .f64 pz, .float .f64 pm, .int .u8 3] 139)) = WC := ⟨_, rfl⟩
      have hkn : Stab.Keeps w7 WC := by subst hWC; with_reducible (repeat first | exact Kx.r _ | assumption | refine Kx.a ?_ _ | refine Kx.d ?_ | refine Kx.e ?_ _ | refine Kx.s (by simp <;> omega) ?_ _ | refine Kx.t ?_ (by assumption))
      have hB5 : Blk WC w7.heap.size 139 [.float .f64 px, .float .f64 py, .float .f64 pz, .float .f64 pm, .int .u8 3] := by subst hWC; with_reducible (repeat first | assumption | (refine Bx.n ⟨?_, ?_⟩ <;> focus (first | rfl | (simp; done) | omega)) | refine Bx.a ?_ _ | refine Bx.d ?_ | refine Bx.e ?_ _ | refine Bx.p (by first | omega | simp <;> omega) ?_)
      simp only [hWC]
      clear hWC
      have hb5 : B ≤ w7.heap.size := hB
      replace hB := Nat.le_trans hB hkn.size
      generalize w7.heap.size = b5 at *
      replace hB1 := hB1.keep hkn
      replace hB2 := hB2.keep hkn
      replace hB3 := hB3.keep hkn
      replace hown := owns_keep hown hkn
      replace hkw := Stab.Keeps.trans hkw hkn
      replace hS := hS.keep hkn
      clear hkn
      have t0 := hB3.cell (i := 0) rfl
      have t1 := hB3.cell (i := 1) rfl
      have t2 := hB3.cell (i := 2) rfl
      have t3 := hB3.cell (i := 3) rfl
      have tf := hB3.free
      have tl := hB3.lt
      have y0 := hB5.cell (i := 0) rfl
      have y1 := hB5.cell (i := 1) rfl
      have y2 := hB5.cell (i := 2) rfl
      have y3 := hB5.cell (i := 3) rfl
      have y4 := hB5.cell (i := 4) rfl
      have yf := hB5.free
      have yl := hB5.lt
      have hown1 := hown.alloc (.cells #[.float .f64 px, .float .f64 py] 45)
      have hbs := hkw.size
      have hk1 : Below B WC (WC.alloc (.cells #[.float .f64 px, .float .f64 py] 45)) := Below.alloc (Below.refl _ _) (by omega) _
      go_wp2_with (at_builtin; (refine Sl.append_own (w0 := WC) rfl _ _ 22 rfl B 45 i0 _ 1 8 Tryz.underlying22 HI.out HZ0.out HZ1.out HZ2.out rfl (by decide) _ (m) _ rfl hown1 ⟨WC.heap.size, 0, none⟩ 2 2 [.float .f64 px, .float .f64 py] rfl rfl ?ax1 ?ax2 ?ax3 ?ax4 ?ax5 hk1 ?_))
      case ax1 => exact new_cells _ _ _ _ (by simp)
      case ax2 => intro u hu; simp at hu; rcases hu with rfl | rfl <;> rfl
      case ax3 => unfold maxLen; omega
      case ax4 => omega
      case ax5 => simp; omega
      intro al1 c1 W1 hownA hkA hszA hgrA
      have hB5A := blk_grown_own (hB5.alloc _) hown1 (by decide) hgrA
      have hB1A := hB1.below hkA (by omega)
      have hB2A := hB2.below hkA (by omega)
      have hB3A := hB3.below hkA (by omega)
      have hkwA := Below.trans hkw (Below.mono hkA (by omega))
      have hSA := hS.kf (KF.below hkA (fun b (hb : b < w.heap.size) _ => by omega))
      have hxsx : encN (numsOf 3 (ps.take k)) ++ [.float .f64 px, .float .f64 py] = encN (numsOf 3 (ps.take k) ++ [px, py]) := by simp [encN]
      rw [hxsx] at hownA
      clear t0 t1 t2 t3 tf tl y0 y1 y2 y3 y4 yf yl hown hown1 hB1 hB2 hB3 hB5 hk1 hkA hszA hgrA hS hkw hxsx
      have t0 := hB3A.cell (i := 0) rfl
      have t1 := hB3A.cell (i := 1) rfl
      have t2 := hB3A.cell (i := 2) rfl
      have t3 := hB3A.cell (i := 3) rfl
      have tf := hB3A.free
      have tl := hB3A.lt
      have hB3 := hB3A.set 2 (.slice al1 (m + 2) c1)
      simp only [List.set] at hB3
      have hB1 : Blk (W1.setCell ⟨b3, 2, none⟩ (.slice al1 (m + 2) c1)) w.heap.size 97 [.int .u8 3, .slice a n cap] := by with_reducible (repeat first | assumption | (refine Bx.n ⟨?_, ?_⟩ <;> focus (first | rfl | (simp; done) | omega)) | refine Bx.a ?_ _ | refine Bx.d ?_ | refine Bx.e ?_ _ | refine Bx.p (by first | omega | simp <;> omega) ?_)
      have hB2 : Blk (W1.setCell ⟨b3, 2, none⟩ (.slice al1 (m + 2) c1)) (w.heap.size + 1) 25 [.int .i64 0, .int .i64 0, .slice none 0 0, .slice none 0 0] := by with_reducible (repeat first | assumption | (refine Bx.n ⟨?_, ?_⟩ <;> focus (first | rfl | (simp; done) | omega)) | refine Bx.a ?_ _ | refine Bx.d ?_ | refine Bx.e ?_ _ | refine Bx.p (by first | omega | simp <;> omega) ?_)
      have hB5 := Blk.past2 (a := ⟨b3, 2, none⟩) (u := .slice al1 (m + 2) c1) (by simp; omega) hB5A
      have hown := owns_set (i := 2) (u := .slice al1 (m + 2) c1) hownA hb3B
      have hkw : Stab.Keeps w (W1.setCell ⟨b3, 2, none⟩ (.slice al1 (m + 2) c1)) := Stab.Keeps.setCell (by simp; omega) hkwA _
      have hS := hSA.kf (w' := (W1.setCell ⟨b3, 2, none⟩ (.slice al1 (m + 2) c1))) ((KF.refl _ _).set (fun (h : b3 < w.heap.size) => by omega))
      clear hB1A hB2A hB3A hB5A hownA hkwA hSA
      go_upto_region 7 with (fail)
      have hB : B ≤ (W1.setCell ⟨b3, 2, none⟩ (.slice al1 (m + 2) c1)).heap.size := by have := hown; have := hB5.lt; omega
      generalize (W1.setCell ⟨b3, 2, none⟩ (.slice al1 (m + 2) c1)) = WE at *
      clear t0 t1 t2 t3 tf tl
      have y0 := hB5.cell (i := 0) rfl
      have y1 := hB5.cell (i := 1) rfl
      have y2 := hB5.cell (i := 2) rfl
      have y3 := hB5.cell (i := 3) rfl
      have y4 := hB5.cell (i := 4) rfl
      have yf := hB5.free
      have yl := hB5.lt
      go_wp2_with fail
      refine (is3D_ 3 (by omega) _).mono ?_
      clear y0 y1 y2 y3 y4 yf yl
      rintro e WC ⟨rfl, hkc⟩
      replace hB := Nat.le_trans hB hkc.size
      replace hB1 := hB1.keep hkc
      replace hB5 := hB5.keep hkc
      replace hB2 := hB2.keep hkc
      replace hB3 := hB3.keep hkc
      replace hown := owns_keep hown hkc
      replace hkw := Stab.Keeps.trans hkw hkc
      replace hS := hS.keep hkc
      clear hkc
      have t0 := hB3.cell (i := 0) rfl
      have t1 := hB3.cell (i := 1) rfl
      have t2 := hB3.cell (i := 2) rfl
      have t3 := hB3.cell (i := 3) rfl
      have tf := hB3.free
      have tl := hB3.lt
      have y0 := hB5.cell (i := 0) rfl
      have y1 := hB5.cell (i := 1) rfl
      have y2 := hB5.cell (i := 2) rfl
      have y3 := hB5.cell (i := 3) rfl
      have y4 := hB5.cell (i := 4) rfl
      have yf := hB5.free
      have yl := hB5.lt
      have hown1 := hown.alloc (.cells #[.float .f64 pz] 45)
      have hbs := hkw.size
      have hk1 : Below B WC (WC.alloc (.cells #[.float .f64 pz] 45)) := Below.alloc (Below.refl _ _) (by omega) _
      go_wp2_with (at_builtin; (refine Sl.append_own (w0 := WC) rfl _ _ 22 rfl B 45 i0 _ 1 8 Tryz.underlying22 HI.out HZ0.out HZ1.out HZ2.out rfl (by decide) _ (m + 2) _ rfl hown1 ⟨WC.heap.size, 0, none⟩ 1 1 [.float .f64 pz] rfl rfl ?az1 ?az2 ?az3 ?az4 ?az5 hk1 ?_))
      case az1 => exact new_cells _ _ _ _ (by simp)
      case az2 => intro u hu; simp at hu; subst hu; rfl
      case az3 => unfold maxLen; omega
      case az4 => omega
      case az5 => simp; omega
      intro al1 c1 W1 hownA hkA hszA hgrA
      have hB5A := blk_grown_own (hB5.alloc _) hown1 (by decide) hgrA
      have hB1A := hB1.below hkA (by omega)
      have hB2A := hB2.below hkA (by omega)
      have hB3A := hB3.below hkA (by omega)
      have hkwA := Below.trans hkw (Below.mono hkA (by omega))
      have hSA := hS.kf (KF.below hkA (fun b (hb : b < w.heap.size) _ => by omega))
      have hxsz : encN (numsOf 3 (ps.take k) ++ [px, py]) ++ [.float .f64 pz] = encN (numsOf 3 (ps.take k) ++ [px, py, pz]) := by simp [encN]
      rw [hxsz] at hownA
      clear t0 t1 t2 t3 tf tl y0 y1 y2 y3 y4 yf yl hown hown1 hB1 hB2 hB3 hB5 hk1 hkA hszA hgrA hS hkw hxsz
      have t0 := hB3A.cell (i := 0) rfl
      have t1 := hB3A.cell (i := 1) rfl
      have t2 := hB3A.cell (i := 2) rfl
      have t3 := hB3A.cell (i := 3) rfl
      have tf := hB3A.free
      have tl := hB3A.lt
      have hB3 := hB3A.set 2 (.slice al1 (m + 2 + 1) c1)
      simp only [List.set] at hB3
      have hB1 : Blk (W1.setCell ⟨b3, 2, none⟩ (.slice al1 (m + 2 + 1) c1)) w.heap.size 97 [.int .u8 3, .slice a n cap] := by with_reducible (repeat first | assumption | (refine Bx.n ⟨?_, ?_⟩ <;> focus (first | rfl | (simp; done) | omega)) | refine Bx.a ?_ _ | refine Bx.d ?_ | refine Bx.e ?_ _ | refine Bx.p (by first | omega | simp <;> omega) ?_)
      have hB2 : Blk (W1.setCell ⟨b3, 2, none⟩ (.slice al1 (m + 2 + 1) c1)) (w.heap.size + 1) 25 [.int .i64 0, .int .i64 0, .slice none 0 0, .slice none 0 0] := by with_reducible (repeat first | assumption | (refine Bx.n ⟨?_, ?_⟩ <;> focus (first | rfl | (simp; done) | omega)) | refine Bx.a ?_ _ | refine Bx.d ?_ | refine Bx.e ?_ _ | refine Bx.p (by first | omega | simp <;> omega) ?_)
      have hB5 := Blk.past2 (a := ⟨b3, 2, none⟩) (u := .slice al1 (m + 2 + 1) c1) (by simp; omega) hB5A
      have hown := owns_set (i := 2) (u := .slice al1 (m + 2 + 1) c1) hownA hb3B
      have hkw : Stab.Keeps w (W1.setCell ⟨b3, 2, none⟩ (.slice al1 (m + 2 + 1) c1)) := Stab.Keeps.setCell (by simp; omega) hkwA _
      have hS := hSA.kf (w' := (W1.setCell ⟨b3, 2, none⟩ (.slice al1 (m + 2 + 1) c1))) ((KF.refl _ _).set (fun (h : b3 < w.heap.size) => by omega))
      clear hB1A hB2A hB3A hB5A hownA hkwA hSA
      go_upto_region 9 with (fail)
      have hB : B ≤ (W1.setCell ⟨b3, 2, none⟩ (.slice al1 (m + 2 + 1) c1)).heap.size := by have := hown; have := hB5.lt; omega
      generalize (W1.setCell ⟨b3, 2, none⟩ (.slice al1 (m + 2 + 1) c1)) = WE at *
      clear t0 t1 t2 t3 tf tl
      have y0 := hB5.cell (i := 0) rfl
      have y1 := hB5.cell (i := 1) rfl
      have y2 := hB5.cell (i := 2) rfl
      have y3 := hB5.cell (i := 3) rfl
      have y4 := hB5.cell (i := 4) rfl
      have yf := hB5.free
      have yl := hB5.lt
      go_wp2_with fail
      refine (isM_ 3 (by omega) _).mono ?_
      clear y0 y1 y2 y3 y4 yf yl
      rintro e WC ⟨rfl, hkc⟩
      replace hB := Nat.le_trans hB hkc.size
      replace hB1 := hB1.keep hkc
      replace hB5 := hB5.keep hkc
      replace hB2 := hB2.keep hkc
      replace hB3 := hB3.keep hkc
      replace hown := owns_keep hown hkc
      replace hkw := Stab.Keeps.trans hkw hkc
      replace hS := hS.keep hkc
      clear hkc
      have t0 := hB3.cell (i := 0) rfl
      have t1 := hB3.cell (i := 1) rfl
      have t2 := hB3.cell (i := 2) rfl
      have t3 := hB3.cell (i := 3) rfl
      have tf := hB3.free
      have tl := hB3.lt
      have y0 := hB5.cell (i := 0) rfl
      have y1 := hB5.cell (i := 1) rfl
      have y2 := hB5.cell (i := 2) rfl
      have y3 := hB5.cell (i := 3) rfl
      have y4 := hB5.cell (i := 4) rfl
      have yf := hB5.free
      have yl := hB5.lt
      have hown1 := hown.alloc (.cells #[.float .f64 pm] 45)
      have hbs := hkw.size
      have hk1 : Below B WC (WC.alloc (.cells #[.float .f64 pm] 45)) := Below.alloc (Below.refl _ _) (by omega) _
      go_wp2_with (at_builtin; (refine Sl.append_own (w0 := WC) rfl _ _ 22 rfl B 45 i0 _ 1 8 Tryz.underlying22 HI.out HZ0.out HZ1.out HZ2.out rfl (by decide) _ (m + 2 + 1) _ rfl hown1 ⟨WC.heap.size, 0, none⟩ 1 1 [.float .f64 pm] rfl rfl ?am1 ?am2 ?am3 ?am4 ?am5 hk1 ?_))
      case am1 => exact new_cells _ _ _ _ (by simp)
      case am2 => intro u hu; simp at hu; subst hu; rfl
      case am3 => unfold maxLen; omega
      case am4 => omega
      case am5 => simp; omega
      intro al1 c1 W1 hownA hkA hszA hgrA
      have hB5A := blk_grown_own (hB5.alloc _) hown1 (by decide) hgrA
      have hB1A := hB1.below hkA (by omega)
      have hB2A := hB2.below hkA (by omega)
      have hB3A := hB3.below hkA (by omega)
      have hkwA := Below.trans hkw (Below.mono hkA (by omega))
      have hSA := hS.kf (KF.below hkA (fun b (hb : b < w.heap.size) _ => by omega))
      have hxsm : encN (numsOf 3 (ps.take k) ++ [px, py, pz]) ++ [.float .f64 pm] = encN (numsOf 3 (ps.take k) ++ [px, py, pz, pm]) := by simp [encN]
      rw [hxsm] at hownA
      clear t0 t1 t2 t3 tf tl y0 y1 y2 y3 y4 yf yl hown hown1 hB1 hB2 hB3 hB5 hk1 hkA hszA hgrA hS hkw hxsm
      have t0 := hB3A.cell (i := 0) rfl
      have t1 := hB3A.cell (i := 1) rfl
      have t2 := hB3A.cell (i := 2) rfl
      have t3 := hB3A.cell (i := 3) rfl
      have tf := hB3A.free
      have tl := hB3A.lt
      have hB3 := hB3A.set 2 (.slice al1 (m + 2 + 1 + 1) c1)
      simp only [List.set] at hB3
      have hB1 : Blk (W1.setCell ⟨b3, 2, none⟩ (.slice al1 (m + 2 + 1 + 1) c1)) w.heap.size 97 [.int .u8 3, .slice a n cap] := by with_reducible (repeat first | assumption | (refine Bx.n ⟨?_, ?_⟩ <;> focus (first | rfl | (simp; done) | omega)) | refine Bx.a ?_ _ | refine Bx.d ?_ | refine Bx.e ?_ _ | refine Bx.p (by first | omega | simp <;> omega) ?_)
      have hB2 : Blk (W1.setCell ⟨b3, 2, none⟩ (.slice al1 (m + 2 + 1 + 1) c1)) (w.heap.size + 1) 25 [.int .i64 0, .int .i64 0, .slice none 0 0, .slice none 0 0] := by with_reducible (repeat first | assumption | (refine Bx.n ⟨?_, ?_⟩ <;> focus (first | rfl | (simp; done) | omega)) | refine Bx.a ?_ _ | refine Bx.d ?_ | refine Bx.e ?_ _ | refine Bx.p (by first | omega | simp <;> omega) ?_)
      have hB5 := Blk.past2 (a := ⟨b3, 2, none⟩) (u := .slice al1 (m + 2 + 1 + 1) c1) (by simp; omega) hB5A
      have hown := owns_set (i := 2) (u := .slice al1 (m + 2 + 1 + 1) c1) hownA hb3B
      have hkw : Stab.Keeps w (W1.setCell ⟨b3, 2, none⟩ (.slice al1 (m + 2 + 1 + 1) c1)) := Stab.Keeps.setCell (by simp; omega) hkwA _
      have hS := hSA.kf (w' := (W1.setCell ⟨b3, 2, none⟩ (.slice al1 (m + 2 + 1 + 1) c1))) ((KF.refl _ _).set (fun (h : b3 < w.heap.size) => by omega))
      clear hB1A hB2A hB3A hB5A hownA hkwA hSA
      have hB : B ≤ (W1.setCell ⟨b3, 2, none⟩ (.slice al1 (m + 2 + 1 + 1) c1)).heap.size := by have := hB5.lt; omega
      go_upto_region 4 with (fail)
      generalize (W1.setCell ⟨b3, 2, none⟩ (.slice al1 (m + 2 + 1 + 1) c1)) = WC at *
      clear t0 t1 t2 t3 tf tl
      have hxs : numsOf 3 (ps.take k) ++ [px, py, pz, pm] = numsOf 3 (ps.take (k + 1)) := by rw [HTK.out, numsOf_append, numsOf_one]; rfl
      rw [hxs] at hown
      go_wp2_with fail
      exact ⟨⟨k + 1, m + 2 + 1 + 1, al1, c1, by omega, by have := HM.out; omega, by simp, hkw, hB, hS, hB1, hB2, hB3, hown⟩, by simp [intOf]; omega⟩
    · obtain rfl : k = q := by omega
      have hd1 : decide ((k : Int) < (k : Int)) = false := by simp
      rw [List.take_of_length_le (by rw [HQ.out]; exact Nat.le_refl _)] at hown
      have t0 := hB3.cell (i := 0) rfl
      have t1 := hB3.cell (i := 1) rfl
      have t2 := hB3.cell (i := 2) rfl
      have t3 := hB3.cell (i := 3) rfl
      have tf := hB3.free
      have tl := hB3.lt
      have g0 := hB2.cell (i := 0) rfl
      have g1 := hB2.cell (i := 1) rfl
      have g2 := hB2.cell (i := 2) rfl
      have g3 := hB2.cell (i := 3) rfl
      have gf := hB2.free
      have gl := hB2.lt
      have hB2n := (((hB2.set 0 (.int .i64 2)).set 1 (.int .i64 3)).set 2 (.slice al m c)).set 3 (.slice none 0 0)
      simp only [List.set] at hB2n
      have hkf : ∀ (G : Nat → Prop), ¬ G (w.heap.size + 1) → KF G w6 ((((w6.setCell ⟨w.heap.size + 1, 0, none⟩ (.int .i64 2)).setCell ⟨w.heap.size + 1, 1, none⟩ (.int .i64 3)).setCell ⟨w.heap.size + 1, 2, none⟩ (.slice al m c)).setCell ⟨w.heap.size + 1, 3, none⟩ (.slice none 0 0)) := fun G hG' => ((((KF.refl _ _).set hG').set hG').set hG').set hG'
      have hkz : Stab.Keeps w ((((w6.setCell ⟨w.heap.size + 1, 0, none⟩ (.int .i64 2)).setCell ⟨w.heap.size + 1, 1, none⟩ (.int .i64 3)).setCell ⟨w.heap.size + 1, 2, none⟩ (.slice al m c)).setCell ⟨w.heap.size + 1, 3, none⟩ (.slice none 0 0)) := by with_reducible (repeat first | exact Kx.r _ | assumption | refine Kx.a ?_ _ | refine Kx.d ?_ | refine Kx.e ?_ _ | refine Kx.s (by simp <;> omega) ?_ _ | refine Kx.t ?_ (by assumption))
      have hSz := (SzF.of_owns (F := fun b => B ≤ b) hown (fun b hb => hb)).kf (hkf _ (fun h => by omega))
      have hml : m = (numsOf 3 ps).length := by rw [numsOf_len, HQ.out, HM.out]; rfl
      have HML := Lib.hid hml
      clear hml hkf hown
      go_wp2_with fail
      generalize ((((w6.setCell ⟨w.heap.size + 1, 0, none⟩ (.int .i64 2)).setCell ⟨w.heap.size + 1, 1, none⟩ (.int .i64 3)).setCell ⟨w.heap.size + 1, 2, none⟩ (.slice al m c)).setCell ⟨w.heap.size + 1, 3, none⟩ (.slice none 0 0)) = Wz at *
      clear hB1 hB2 hB3 t0 t1 t2 t3 tf tl g0 g1 g2 g3 gf gl hS hkw
      have y0 := hB2n.cell (i := 0) rfl
      have y1 := hB2n.cell (i := 1) rfl
      have y2 := hB2n.cell (i := 2) rfl
      have y3 := hB2n.cell (i := 3) rfl
      have yf := hB2n.free
      have yl := hB2n.lt
      refine bodyPost_ret (v := .agg #[.int .i64 2, .int .i64 3, .slice al m c, .slice none 0 0]) (by simp [results, Tryz.results67, go_sem, *]) rfl ⟨[.int .i64 (2 : Nat), .int .i64 (3 : Nat), .slice al m c, .slice none 0 0], rfl, hkz, ?_⟩
      exact .mk 2 3 _ _ al none _ _ _ _ [] HML.out (hSz.mono fun b _ hb => .inr (by omega)) rfl rfl (by simp) (SzF.nil _ _ _) (fun i h1 => by simp at h1)
theorem plain_ {F : Nat → Prop} (d : Nat) (ps : List Pl) (a : Option Addr) (n cap : Nat) (w : World) (h : SeqAt w F d ps a n cap) : Calls Tryz.prog 67 #[.agg #[.int .u8 d, .slice a n cap]] w (RetR w no GmR (.node 2 d ps [])) := by
  have : d = 0 ∨ d = 1 ∨ d = 2 ∨ d = 3 := by have := h.d4; omega
  rcases this with rfl | rfl | rfl | rfl
  · exact plain0_ ps a n cap w h
  · exact plain1_ ps a n cap w h
  · exact plain2_ ps a n cap w h
  · exact plain3_ ps a n cap w h
end Go.Proofs.YtbakhldjfplbfaaGreat
