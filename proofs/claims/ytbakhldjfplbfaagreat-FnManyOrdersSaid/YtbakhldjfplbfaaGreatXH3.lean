/-
  Multis of points: brought to another type of coordinates, made of parts; wholes as geometries. No condition.
-/
import Derived.Test.YtbakhldjfplbfaaGreatXH2
set_option linter.unusedVariables false
set_option linter.unusedSimpArgs false
namespace Go.Proofs.YtbakhldjfplbfaaGreat
open Go.RowKit Go.Fl Go.Sl Go.Pg Go.Ch Go.Kf
/-- a callee that returns a slice of things -/
def RetS {α : Type} (w : World) (F : Nat → Prop) (R : World → (Nat → Prop) → List Value → α → Prop) (kc n : Nat) (ys : List α) (e : Ending) (w' : World) : Prop := ∃ a cap css, e = .returned (.slice a n cap) ∧ Stab.Keeps w w' ∧ Go.Kf.Rows w' (orNew F w.heap.size) R a n cap kc css ys
set_option maxRecDepth 100000 in
set_option maxHeartbeats 2000000 in
theorem forcePts_ {F : Nat → Prop} (d' : Nat) (hd' : d' < 4) (a : Option Addr) (n cap : Nat) (css : List (List Value)) (kids : List Pg) (w : World) (hn : n ≤ 250000) (hR : Go.Kf.Rows w F PtR a n cap 6 css kids) :
    Calls Tryz.prog 173 #[.slice a n cap, .int .u8 d'] w (RetS w F PtR 6 n (kids.map (forceP d'))) := by
  have hmk := fun w => run_makeN (P := Tryz.prog) 124 141 _ 6 48 n Tryz.underlying124 infoPt (by omega) (by omega) w
  have hle := hR.sz.sz.le
  have hmx := hR.sz.sz.max
  unfold maxLen at hmx
  have hR0 := hR.mono (G := Go.Kf.old F w.heap.size) (fun b h1 h2 => ⟨h2, h1⟩) (fun c x hx => ptS.mono hx fun b h1 h2 => ⟨h2, h1⟩)
  have HLK := Lib.hid hR.lx
  clear hR
  go_enter Tryz.func173, Tryz.ntmps173
  go_wp2_with fail
  have hFl := Fill.start w w (orNew (Go.Kf.old F w.heap.size) (w.heap.size + 1)) PtR n 6 (madeCells #[.float .f64 0, .float .f64 0, .float .f64 0, .float .f64 0, .int .u8 0, .bool false] (n * 6)) 141 (kids.map (forceP d')) (Stab.Keeps.refl w) (size_madeCells _ _) (by simp [orNew, Go.Kf.old])
  generalize (w.alloc (.cells (madeCells #[.float .f64 0, .float .f64 0, .float .f64 0, .float .f64 0, .int .u8 0, .bool false] (n * 6)) 141)) = W at hFl ⊢
  clear hmk
  go_wp2_with fail
  go_loopw [13] (fun iv wr => ∃ (k : Nat) (cs' : List (List Value)), k ≤ n ∧ iv = .int .i64 k ∧ Fill w wr (orNew (Go.Kf.old F w.heap.size) (w.heap.size + 1)) PtR w.heap.size n k 6 cs' (kids.map (forceP d'))) (fun iv _ => n - (intOf iv).toNat)
  case atStart => exact ⟨0, [], by omega, rfl, hFl⟩
  case round =>
    clear hFl
    obtain ⟨k, cs', k2, rfl, hFl⟩ := hrel
    by_cases hlt : k < n
    · obtain ⟨b, off, c, ha, hb, _, _, hc2, hcc, hx⟩ := (hR0.kf (KF.keeps hFl.keeps) (fun c x hx => ptS.kf hx (KF.keeps hFl.keeps))).elem hlt
      obtain ⟨xq, yq, zq, mq, dq, fq, rfl⟩ := hx.six
      subst ha
      have e0 : wr.cell? ⟨b, off + k * 6, none⟩ = some (.float .f64 xq) := by have := hcc 0 _ rfl; simpa using this
      have e1 : wr.cell? ⟨b, off + k * 6 + 1, none⟩ = some (.float .f64 yq) := hcc 1 _ rfl
      have e2 : wr.cell? ⟨b, off + k * 6 + 2, none⟩ = some (.float .f64 zq) := hcc 2 _ rfl
      have e3 : wr.cell? ⟨b, off + k * 6 + 3, none⟩ = some (.float .f64 mq) := hcc 3 _ rfl
      have e4 : wr.cell? ⟨b, off + k * 6 + 4, none⟩ = some (.int .u8 dq) := hcc 4 _ rfl
      have e5 : wr.cell? ⟨b, off + k * 6 + 5, none⟩ = some (.bool fq) := hcc 5 _ rfl
      have hF1 := fun w' (hk : Stab.Keeps wr w') => forcePt_ d' hd' [.float .f64 xq, .float .f64 yq, .float .f64 zq, .float .f64 mq, .int .u8 dq, .bool fq] _ w' (ptS.kf hx (KF.keeps hk))
      have hkk : k < kids.length := by have := HLK.out; omega
      generalize hke : kids[k] = kid at *
      have HKE := Lib.hid hke
      clear hcc hx hke
      go_wp2_with fail
      refine (hF1 _ (by with_reducible (repeat first | exact Kx.r _ | assumption | refine Kx.a ?_ _ | refine Kx.d ?_ | refine Kx.e ?_ _ | refine Kx.s (by simp <;> omega) ?_ _ | refine Kx.t ?_ (by assumption)))).mono ?_
      clear hF1
      rintro e w4 ⟨cs4, rfl, hk4, hx4⟩
      obtain ⟨xz, yz, zz, mz, dz, fz, rfl⟩ := hx4.six
      have hlw : w.heap.size < wr.heap.size := hFl.lt
      have hk5 : Stab.Keeps wr w4 := by with_reducible (repeat first | exact Kx.r _ | assumption | refine Kx.a ?_ _ | refine Kx.d ?_ | refine Kx.e ?_ _ | refine Kx.s (by simp <;> omega) ?_ _ | refine Kx.t ?_ (by assumption))
      have hFl4 := hFl.keep ptS hk5
      have hx5 := ptS.mono (G := orNew (Go.Kf.old F w.heap.size) (w.heap.size + 1)) hx4 (fun b _ hb => on_old (by simp; omega) hb)
      have hkm : k < (kids.map (forceP d')).length := by simpa using hkk
      have hxe : (kids.map (forceP d'))[k] = forceP d' kid := by rw [List.getElem_map, HKE.out]
      rw [← hxe] at hx5
      have hFl5 := hFl4.put6 ptS hlt hkm hx5
      obtain ⟨x0, r0⟩ := hFl4.room.cell (k * 6) (by omega)
      obtain ⟨x1, r1⟩ := hFl4.room.cell (k * 6 + 1) (by omega)
      obtain ⟨x2, r2⟩ := hFl4.room.cell (k * 6 + 2) (by omega)
      obtain ⟨x3, r3⟩ := hFl4.room.cell (k * 6 + 3) (by omega)
      obtain ⟨x4, r4⟩ := hFl4.room.cell (k * 6 + 4) (by omega)
      obtain ⟨x5, r5⟩ := hFl4.room.cell (k * 6 + 5) (by omega)
      have rf := hFl4.room.free
      have hl4 := hFl4.lt
      clear hFl hFl4 hx4 hx5 hxe hkm e0 e1 e2 e3 e4 e5 hk4 hk5 hlw
      go_wp2_with fail
      go_roundw
      case rel => exact ⟨k + 1, _, by omega, by go_num, hFl5⟩
      case measure => simp [intOf]; omega
    · obtain rfl : n = k := by omega
      go_wp2_with fail
      go_ret
      exact ⟨_, n, cs', rfl, hFl.keeps, hFl.rows ptS (by rw [List.length_map]; exact HLK.out) (by unfold maxLen; omega) (fun b _ hb => on_mono (by omega) hb) (.inr (Nat.le_refl _))⟩
set_option maxRecDepth 100000 in
set_option maxHeartbeats 1000000 in
theorem forceMp_ {F : Nat → Prop} (d' : Nat) (hd' : d' < 4) (cs : List Value) (p : Pg) (w : World) (h : MpR w F cs p) : Calls Tryz.prog 157 #[.agg cs.toArray, .int .u8 d'] w (RetR w F MpR (forceP d' p)) := by
  obtain ⟨d, a, n, cap, css, kids, rfl, rfl, hd, hn, hR, hdim⟩ := h
  have hR0 := hR.mono (G := Go.Kf.old F w.heap.size) (fun b h1 h2 => ⟨h2, h1⟩) (fun c x hx => ptS.mono hx fun b h1 h2 => ⟨h2, h1⟩)
  have hF := fun w' (hk : Stab.Keeps w w') => forcePts_ d' hd' a n cap css kids w' hn (hR0.kf (KF.keeps hk) fun c x hx => ptS.kf hx (KF.keeps hk))
  go_enter Tryz.func157, Tryz.ntmps157
  go_wp2_with fail
  refine (hF _ (by with_reducible (repeat first | exact Kx.r _ | assumption | refine Kx.a ?_ _ | refine Kx.d ?_ | refine Kx.e ?_ _ | refine Kx.s (by simp <;> omega) ?_ _ | refine Kx.t ?_ (by assumption)))).mono ?_
  clear hF
  rintro e w2 ⟨a2, cap2, css2, rfl, hk2, h2⟩
  have hB : Blk w2 (w.heap.size + 1) 126 [.slice none 0 0, .int .u8 0] := Blk.keep (by with_reducible (repeat first | assumption | (refine Bx.n ⟨?_, ?_⟩ <;> focus (first | rfl | (simp; done) | omega)) | refine Bx.a ?_ _ | refine Bx.d ?_ | refine Bx.e ?_ _ | refine Bx.p (by first | omega | simp <;> omega) ?_)) hk2
  have hkk : Stab.Keeps w w2 := by with_reducible (repeat first | exact Kx.r _ | assumption | refine Kx.a ?_ _ | refine Kx.d ?_ | refine Kx.e ?_ _ | refine Kx.s (by simp <;> omega) ?_ _ | refine Kx.t ?_ (by assumption))
  have hs2 : ((w.alloc (.cells #[.slice a n cap, .int .u8 d] 126)).alloc (.cells #[.slice none 0 0, .int .u8 0] 126)).heap.size = w.heap.size + 1 + 1 := by simp
  rw [hs2] at h2
  clear hk2 hs2
  have r0 := hB.cell (i := 0) rfl
  have r1 := hB.cell (i := 1) rfl
  have rf := hB.free
  have rl := hB.lt
  go_wp2_with fail
  refine bodyPost_ret (v := .agg #[.slice a2 n cap2, .int .u8 d']) (by simp [results, Tryz.results157, go_sem, *]) rfl ⟨[.slice a2 n cap2, .int .u8 d'], rfl, ?_, d', a2, n, cap2, css2, kids.map (forceP d'), rfl, by rw [forceP_eq]; rfl, hd', hn, ?_, fun c hc => ?_⟩
  · with_reducible (repeat first | exact Kx.r _ | assumption | refine Kx.a ?_ _ | refine Kx.d ?_ | refine Kx.e ?_ _ | refine Kx.s (by simp <;> omega) ?_ _ | refine Kx.t ?_ (by assumption))
  · refine (h2.kf (w' := _) ?_ ?_).mono (fun b _ hb => on_mono (by omega) hb) (fun c x hx => ptS.mono hx fun b _ hb => on_mono (by omega) hb)
    · repeat (first | (with_reducible exact KF.refl _ _) | (with_reducible assumption) | (with_reducible refine KF.alloc ?_ _) | (with_reducible refine KF.drew ?_) | (with_reducible refine KF.drewN ?_ _) | ((with_reducible refine KF.set ?_ ?_); focus (first | assumption | (simp [orNew, old]; done) | (simp [orNew, old]; omega) | (simp [orNew, old] at *; omega))) | (with_reducible refine KF.trans ?_ (KF.keeps (by with_reducible assumption))))
    · intro c x hx
      refine ptS.kf hx ?_
      repeat (first | (with_reducible exact KF.refl _ _) | (with_reducible assumption) | (with_reducible refine KF.alloc ?_ _) | (with_reducible refine KF.drew ?_) | (with_reducible refine KF.drewN ?_ _) | ((with_reducible refine KF.set ?_ ?_); focus (first | assumption | (simp [orNew, old]; done) | (simp [orNew, old]; omega) | (simp [orNew, old] at *; omega))) | (with_reducible refine KF.trans ?_ (KF.keeps (by with_reducible assumption))))
  · obtain ⟨q, _, rfl⟩ := List.mem_map.1 hc
    exact forceP_dim d' q
set_option maxRecDepth 100000 in
set_option maxHeartbeats 2000000 in
theorem newMpN_ {F : Nat → Prop} (a : Option Addr) (n cap : Nat) (css : List (List Value)) (kids : List Pg) (w : World) (hn0 : 0 < n) (hn : n ≤ 250000) (hR : Go.Kf.Rows w F PtR a n cap 6 css kids) :
    Calls Tryz.prog 98 #[.slice a n cap] w (RetR w F MpR (wholeP 4 0 kids)) := by
  have hle := hR.sz.sz.le
  have hmx := hR.sz.sz.max
  unfold maxLen at hmx
  have hR0 := hR.mono (G := Go.Kf.old F w.heap.size) (fun b h1 h2 => ⟨h2, h1⟩) (fun c x hx => ptS.mono hx fun b h1 h2 => ⟨h2, h1⟩)
  have HLK := Lib.hid hR.lx
  have hdk : ∀ i (hi : i < kids.length), kids[i].dim < 4 := fun i hi => (hR.is i (by rw [hR.lc, ← hR.lx]; exact hi) hi).dim
  have HDK := Lib.hid hdk
  have hwh : wholeP 4 0 kids = .node 4 (andD kids) [] (kids.map (forceP (andD kids))) := by
    unfold wholeP
    have : kids ≠ [] := fun h => by have := hR.lx; rw [h] at this; simp at this; omega
    simp [this]
  rw [hwh]
  have g2 : ((n : Int) == 0) = false := by simp; omega
  have g3 : (n == 0) = false := by simp; omega
  have hFF := fun d' hd' w' (hk : Stab.Keeps w w') => forcePts_ d' hd' a n cap css kids w' hn (hR0.kf (KF.keeps hk) fun c x hx => ptS.kf hx (KF.keeps hk))
  clear hR hdk hwh
  go_enter Tryz.func98, Tryz.ntmps98
  go_wp2_with fail
  have hkw : Stab.Keeps w (w.alloc (.cells #[.slice none 0 0, .int .u8 0] 126)) := by with_reducible (repeat first | exact Kx.r _ | assumption | refine Kx.a ?_ _ | refine Kx.d ?_ | refine Kx.e ?_ _ | refine Kx.s (by simp <;> omega) ?_ _ | refine Kx.t ?_ (by assumption))
  have hB1 : Blk (w.alloc (.cells #[.slice none 0 0, .int .u8 0] 126)) w.heap.size 126 [.slice none 0 0, .int .u8 0] := by with_reducible (repeat first | assumption | (refine Bx.n ⟨?_, ?_⟩ <;> focus (first | rfl | (simp; done) | omega)) | refine Bx.a ?_ _ | refine Bx.d ?_ | refine Bx.e ?_ _ | refine Bx.p (by first | omega | simp <;> omega) ?_)
  have hs1 : (w.alloc (.cells #[.slice none 0 0, .int .u8 0] 126)).heap.size = w.heap.size + 1 := by simp
  generalize hw1 : (w.alloc (.cells #[.slice none 0 0, .int .u8 0] 126)) = w1 at *
  clear hw1
  have HS1 := Lib.hid hs1
  clear hs1 g2 g3
  go_loopw [3, 13] (fun cv iv wr => ∃ k : Nat, k ≤ n ∧ iv = .int .i64 k ∧ cv = .int .u8 (andD (kids.take k)) ∧ Stab.Keeps w1 wr) (fun _ iv _ => n - (intOf iv).toNat)
  case atStart => exact ⟨0, by omega, rfl, rfl, Stab.Keeps.refl _⟩
  case round =>
    obtain ⟨k, k2, rfl, rfl, hk⟩ := hrel
    by_cases hlt : k < n
    · have hkW := Stab.Keeps.trans hkw hk
      obtain ⟨b, off, c, ha, hb, _, _, hc2, hcc, hx⟩ := (hR0.kf (KF.keeps hkW) (fun c x hx => ptS.kf hx (KF.keeps hkW))).elem hlt
      obtain ⟨xq, yq, zq, mq, dq, fq, rfl⟩ := hx.six
      subst ha
      have e0 : wr.cell? ⟨b, off + k * 6, none⟩ = some (.float .f64 xq) := by have := hcc 0 _ rfl; simpa using this
      have e1 : wr.cell? ⟨b, off + k * 6 + 1, none⟩ = some (.float .f64 yq) := hcc 1 _ rfl
      have e2 : wr.cell? ⟨b, off + k * 6 + 2, none⟩ = some (.float .f64 zq) := hcc 2 _ rfl
      have e3 : wr.cell? ⟨b, off + k * 6 + 3, none⟩ = some (.float .f64 mq) := hcc 3 _ rfl
      have e4 : wr.cell? ⟨b, off + k * 6 + 4, none⟩ = some (.int .u8 dq) := hcc 4 _ rfl
      have e5 : wr.cell? ⟨b, off + k * 6 + 5, none⟩ = some (.bool fq) := hcc 5 _ rfl
      have hkk : k < kids.length := by have := HLK.out; omega
      have hT := fun w' => typePt_ [.float .f64 xq, .float .f64 yq, .float .f64 zq, .float .f64 mq, .int .u8 dq, .bool fq] _ w' wr hx
      have hand := and_u8 (andD (kids.take k)) kids[k].dim (andD_lt _) (HDK.out k hkk)
      have hsn : andD (kids.take k) &&& kids[k].dim = andD (kids.take (k + 1)) := by rw [List.take_succ_eq_append_getElem hkk, andD_snoc]
      rw [hsn] at hand
      have hal := andD_lt (kids.take (k + 1))
      generalize kids[k] = kid at *
      generalize hD1 : andD (kids.take (k + 1)) = D1 at *
      have HD1 := Lib.hid hD1
      clear hD1
      generalize andD (kids.take k) = D0 at *
      have hm256 : ((D1 : Nat) : Int) % 256 = D1 := by omega
      clear hcc hx hsn hFF
      go_wp2_with fail
      refine (hT _).mono ?_
      clear hT
      rintro e w4 ⟨rfl, hk4⟩
      have hk5 : Stab.Keeps w1 w4 := by with_reducible (repeat first | exact Kx.r _ | assumption | refine Kx.a ?_ _ | refine Kx.d ?_ | refine Kx.e ?_ _ | refine Kx.s (by simp <;> omega) ?_ _ | refine Kx.t ?_ (by assumption))
      clear e0 e1 e2 e3 e4 e5 hk4
      go_wp2_with fail
      go_roundw
      case rel => exact ⟨k + 1, by omega, by go_num, by rw [HD1.out], hk5⟩
      case measure => simp [intOf]; omega
    · obtain rfl : n = k := by omega
      rw [List.take_of_length_le (by rw [HLK.out]; exact Nat.le_refl _)]
      have hD4 := andD_lt kids
      have hF2 := hFF (andD kids) hD4 wr (Stab.Keeps.trans hkw hk)
      generalize hDe : andD kids = D at *
      clear hDe hFF
      go_wp2_with fail
      refine hF2.mono ?_
      clear hF2
      rintro e w5 ⟨a2, cap2, css2, rfl, hk2, h2⟩
      have hB2 := (hB1.keep hk).keep hk2
      have hkf : Stab.Keeps w w5 := by with_reducible (repeat first | exact Kx.r _ | assumption | refine Kx.a ?_ _ | refine Kx.d ?_ | refine Kx.e ?_ _ | refine Kx.s (by simp <;> omega) ?_ _ | refine Kx.t ?_ (by assumption))
      have hs1 := HS1.out
      have hsz := hk.size
      clear hk2 hk
      have r0 := hB2.cell (i := 0) rfl
      have r1 := hB2.cell (i := 1) rfl
      have rf := hB2.free
      have rl := hB2.lt
      go_wp2_with fail
      refine bodyPost_ret (v := .agg #[.slice a2 n cap2, .int .u8 D]) (by simp [results, Tryz.results98, go_sem, *]) rfl ⟨[.slice a2 n cap2, .int .u8 D], rfl, ?_, D, a2, n, cap2, css2, kids.map (forceP D), rfl, rfl, hD4, hn, ?_, fun c hc => ?_⟩
      · with_reducible (repeat first | exact Kx.r _ | assumption | refine Kx.a ?_ _ | refine Kx.d ?_ | refine Kx.e ?_ _ | refine Kx.s (by simp <;> omega) ?_ _ | refine Kx.t ?_ (by assumption))
      · have hnf : ¬ orNew (Go.Kf.old F w.heap.size) wr.heap.size w.heap.size := by simp [orNew, Go.Kf.old]; omega
        refine (h2.kf (w' := _) ?_ ?_).mono (fun b _ hb => on_mono (by omega) hb) (fun c x hx => ptS.mono hx fun b _ hb => on_mono (by omega) hb)
        · repeat (first | (with_reducible exact KF.refl _ _) | (with_reducible assumption) | (with_reducible refine KF.alloc ?_ _) | (with_reducible refine KF.drew ?_) | (with_reducible refine KF.drewN ?_ _) | ((with_reducible refine KF.set ?_ ?_); focus (first | assumption | (simp [orNew, old]; done) | (simp [orNew, old]; omega) | (simp [orNew, old] at *; omega))) | (with_reducible refine KF.trans ?_ (KF.keeps (by with_reducible assumption))))
        · intro c x hx
          refine ptS.kf hx ?_
          repeat (first | (with_reducible exact KF.refl _ _) | (with_reducible assumption) | (with_reducible refine KF.alloc ?_ _) | (with_reducible refine KF.drew ?_) | (with_reducible refine KF.drewN ?_ _) | ((with_reducible refine KF.set ?_ ?_); focus (first | assumption | (simp [orNew, old]; done) | (simp [orNew, old]; omega) | (simp [orNew, old] at *; omega))) | (with_reducible refine KF.trans ?_ (KF.keeps (by with_reducible assumption))))
      · obtain ⟨q, _, rfl⟩ := List.mem_map.1 hc
        exact forceP_dim D q
set_option maxRecDepth 100000 in
theorem newMp0_ {F : Nat → Prop} (a : Option Addr) (cap : Nat) (w : World) : Calls Tryz.prog 98 #[.slice a 0 cap] w (RetR w F MpR (wholeP 4 0 [])) := by
  go_enter Tryz.func98, Tryz.ntmps98
  go_wp2_with fail
  refine bodyPost_ret (v := .agg #[.slice none 0 0, .int .u8 0]) (by simp [results, Tryz.results98, go_sem]) rfl ⟨[.slice none 0 0, .int .u8 0], rfl, ?_, 0, none, 0, 0, [], [], rfl, rfl, by omega, by omega, Go.Kf.Rows.nil _ _ _ _, fun c hc => by simp at hc⟩
  with_reducible (repeat first | exact Kx.r _ | assumption | refine Kx.a ?_ _ | refine Kx.d ?_ | refine Kx.e ?_ _ | refine Kx.s (by simp <;> omega) ?_ _ | refine Kx.t ?_ (by assumption))
set_option maxRecDepth 100000 in
theorem geoPy_ (a : Option Addr) (n cap d : Nat) (w : World) : Calls Tryz.prog 82 #[.agg #[.slice a n cap, .int .u8 d]] w (Held w 3 191 121 [.slice a n cap, .int .u8 d]) := by
  go_enter Tryz.func82, Tryz.ntmps82
  go_wp2
  refine bodyPost_ret (by simp [results, Tryz.results82, go_sem]) rfl ⟨w.heap.size, rfl, ?_, Nat.le_refl _, ?_⟩
  · with_reducible (repeat first | exact Kx.r _ | assumption | refine Kx.a ?_ _ | refine Kx.d ?_ | refine Kx.e ?_ _ | refine Kx.s (by simp <;> omega) ?_ _ | refine Kx.t ?_ (by assumption))
  · with_reducible (repeat first | assumption | (refine Bx.n ⟨?_, ?_⟩ <;> focus (first | rfl | (simp; done) | omega)) | refine Bx.a ?_ _ | refine Bx.d ?_ | refine Bx.e ?_ _ | refine Bx.p (by first | omega | simp <;> omega) ?_)
set_option maxRecDepth 100000 in
theorem geoMp_ (a : Option Addr) (n cap d : Nat) (w : World) : Calls Tryz.prog 84 #[.agg #[.slice a n cap, .int .u8 d]] w (Held w 4 192 126 [.slice a n cap, .int .u8 d]) := by
  go_enter Tryz.func84, Tryz.ntmps84
  go_wp2
  refine bodyPost_ret (by simp [results, Tryz.results84, go_sem]) rfl ⟨w.heap.size, rfl, ?_, Nat.le_refl _, ?_⟩
  · with_reducible (repeat first | exact Kx.r _ | assumption | refine Kx.a ?_ _ | refine Kx.d ?_ | refine Kx.e ?_ _ | refine Kx.s (by simp <;> omega) ?_ _ | refine Kx.t ?_ (by assumption))
  · with_reducible (repeat first | assumption | (refine Bx.n ⟨?_, ?_⟩ <;> focus (first | rfl | (simp; done) | omega)) | refine Bx.a ?_ _ | refine Bx.d ?_ | refine Bx.e ?_ _ | refine Bx.p (by first | omega | simp <;> omega) ?_)
set_option maxRecDepth 100000 in
theorem geoMl_ (a : Option Addr) (n cap d : Nat) (w : World) : Calls Tryz.prog 86 #[.agg #[.slice a n cap, .int .u8 d]] w (Held w 5 197 129 [.slice a n cap, .int .u8 d]) := by
  go_enter Tryz.func86, Tryz.ntmps86
  go_wp2
  refine bodyPost_ret (by simp [results, Tryz.results86, go_sem]) rfl ⟨w.heap.size, rfl, ?_, Nat.le_refl _, ?_⟩
  · with_reducible (repeat first | exact Kx.r _ | assumption | refine Kx.a ?_ _ | refine Kx.d ?_ | refine Kx.e ?_ _ | refine Kx.s (by simp <;> omega) ?_ _ | refine Kx.t ?_ (by assumption))
  · with_reducible (repeat first | assumption | (refine Bx.n ⟨?_, ?_⟩ <;> focus (first | rfl | (simp; done) | omega)) | refine Bx.a ?_ _ | refine Bx.d ?_ | refine Bx.e ?_ _ | refine Bx.p (by first | omega | simp <;> omega) ?_)
set_option maxRecDepth 100000 in
theorem geoMy_ (a : Option Addr) (n cap d : Nat) (w : World) : Calls Tryz.prog 88 #[.agg #[.slice a n cap, .int .u8 d]] w (Held w 6 199 134 [.slice a n cap, .int .u8 d]) := by
  go_enter Tryz.func88, Tryz.ntmps88
  go_wp2
  refine bodyPost_ret (by simp [results, Tryz.results88, go_sem]) rfl ⟨w.heap.size, rfl, ?_, Nat.le_refl _, ?_⟩
  · with_reducible (repeat first | exact Kx.r _ | assumption | refine Kx.a ?_ _ | refine Kx.d ?_ | refine Kx.e ?_ _ | refine Kx.s (by simp <;> omega) ?_ _ | refine Kx.t ?_ (by assumption))
  · with_reducible (repeat first | assumption | (refine Bx.n ⟨?_, ?_⟩ <;> focus (first | rfl | (simp; done) | omega)) | refine Bx.a ?_ _ | refine Bx.d ?_ | refine Bx.e ?_ _ | refine Bx.p (by first | omega | simp <;> omega) ?_)
set_option maxRecDepth 100000 in
theorem geoGc_ (a : Option Addr) (n cap d : Nat) (w : World) : Calls Tryz.prog 90 #[.agg #[.slice a n cap, .int .u8 d]] w (Held w 0 210 150 [.slice a n cap, .int .u8 d]) := by
  go_enter Tryz.func90, Tryz.ntmps90
  go_wp2
  refine bodyPost_ret (by simp [results, Tryz.results90, go_sem]) rfl ⟨w.heap.size, rfl, ?_, Nat.le_refl _, ?_⟩
  · with_reducible (repeat first | exact Kx.r _ | assumption | refine Kx.a ?_ _ | refine Kx.d ?_ | refine Kx.e ?_ _ | refine Kx.s (by simp <;> omega) ?_ _ | refine Kx.t ?_ (by assumption))
  · with_reducible (repeat first | assumption | (refine Bx.n ⟨?_, ?_⟩ <;> focus (first | rfl | (simp; done) | omega)) | refine Bx.a ?_ _ | refine Bx.d ?_ | refine Bx.e ?_ _ | refine Bx.p (by first | omega | simp <;> omega) ?_)
end Go.Proofs.YtbakhldjfplbfaaGreat
