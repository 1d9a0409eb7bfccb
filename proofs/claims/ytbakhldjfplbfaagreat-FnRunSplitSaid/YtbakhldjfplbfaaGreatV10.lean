/-
  impl.HullPlaces. No condition.
-/
import Derived.Test.YtbakhldjfplbfaaGreatV9
set_option linter.unusedVariables false
set_option linter.unusedSimpArgs false
namespace Go.Proofs.YtbakhldjfplbfaaGreat
open Go.RowKit Go.Fl Go.Sl Go.Pg Go.Ch Go.Kf
theorem infoIxy : (Tryz.prog.info? 47).map (fun i => (i.zero, i.size, i.bytes)) = some (some (.agg #[.float .f64 0, .float .f64 0]), 2, 16) := by kernel_rfl
theorem plainXY_ (x y : Nat) (w : World) : Calls Tryz.prog 93 #[.agg #[.float .f64 x, .float .f64 y]] w (One w (.agg #[.float .f64 x, .float .f64 y])) := by
  go_enter Tryz.func93, Tryz.ntmps93
  go_wp2_with fail
  refine bodyPost_ret (v := .agg #[.float .f64 x, .float .f64 y]) (by simp [results, Tryz.results93, go_sem, *]) rfl ⟨rfl, ?_⟩
  with_reducible (repeat (first | exact Kx.r _ | assumption | refine Kx.a ?_ _ | refine Kx.d ?_ | refine Kx.e ?_ _ | (refine Kx.s ?_ ?_ _; focus (first | (simp; done) | (simp; omega))) | refine Kx.t ?_ (by assumption)))
theorem xy_cells {w : World} {b off k : Nat} {l : List Pl} (hk : k < l.length) (hc : ∀ (j : Nat) (v : Value), j < 2 → (l.flatMap xyC)[k * 2 + j]? = some v → w.cell? ⟨b, off + k * 2 + j, none⟩ = some v) :
    w.cell? ⟨b, off + k * 2, none⟩ = some (.float .f64 l[k].x) ∧ w.cell? ⟨b, off + k * 2 + 1, none⟩ = some (.float .f64 l[k].y) :=
  ⟨hc 0 _ (by omega) (by rw [flat_get xyC 2 xyC_len l k 0 hk (by omega)]; rfl), hc 1 _ (by omega) (by rw [flat_get xyC 2 xyC_len l k 1 hk (by omega)]; rfl)⟩
set_option maxRecDepth 100000 in
set_option maxHeartbeats 2000000 in
theorem plainXYs_ (l : List Pl) (a : Option Addr) (cap : Nat) (w : World) (hN : l.length ≤ 1000000) (h : Sz w a l.length cap 2 (l.flatMap xyC)) : Calls Tryz.prog 49 #[.slice a l.length cap] w (XyPost w l) := by
  obtain ⟨n0, hn0⟩ : ∃ n0, l.length = n0 := ⟨_, rfl⟩
  rw [hn0] at h hN ⊢
  have HN0 := Lib.hid hn0
  clear hn0
  have hle := h.le
  have hmx := h.max
  unfold maxLen at hmx
  have hmk := fun w => run_makeN (P := Tryz.prog) 39 47 _ 2 16 n0 Tryz.underlying39 infoIxy (by omega) (by omega) w
  have hFl := Fill.start w w (fun _ => False) XyR n0 2 (madeCells (#[.float .f64 0, .float .f64 0]) (n0 * 2)) 47 l (Stab.Keeps.refl w) (size_madeCells _ _) (by simp)
  go_enter Tryz.func49, Tryz.ntmps49
  go_upto_region 2 with (fail)
  generalize (w.alloc (.cells (madeCells (#[.float .f64 0, .float .f64 0]) (n0 * 2)) 47)) = W at *
  clear hmk
  generalize hfb : w.heap.size = fb at *
  clear hfb
  go_wp2_with fail
  go_loopw [11] (fun iv wr => ∃ (k : Nat) (cs' : List (List Value)), k ≤ n0 ∧ iv = .int .i64 k ∧ Fill w wr (fun _ => False) XyR fb n0 k 2 cs' l) (fun iv _ => n0 - (intOf iv).toNat)
  case atStart => exact ⟨0, [], by omega, rfl, hFl⟩
  case round =>
    clear hFl
    obtain ⟨k, cs', k2, rfl, hFl⟩ := hrel
    by_cases hlt : k < n0
    · obtain ⟨b, off, ha, hb, hc⟩ := (h.keep hFl.keeps).elem hlt
      subst ha
      have hki : k < l.length := by have := HN0.out; omega
      obtain ⟨c0, c1⟩ := xy_cells hki hc
      have hx5 : ∀ w4, XyR w4 (fun _ => False) [.float .f64 l[k].x, .float .f64 l[k].y] l[k] := fun _ => rfl
      clear hc
      go_wp2_with fail
      refine (plainXY_ _ _ _).mono ?_
      rintro e w4 ⟨rfl, hk4⟩
      have hk5 : Stab.Keeps wr w4 := by with_reducible (repeat (first | exact Kx.r _ | assumption | refine Kx.a ?_ _ | refine Kx.d ?_ | refine Kx.e ?_ _ | (refine Kx.s ?_ ?_ _; focus (first | (simp; done) | (simp; omega))) | refine Kx.t ?_ (by assumption)))
      have hFl4 := hFl.keep xyS hk5
      have hFl5 := hFl4.put2 xyS hlt hki (hx5 _)
      obtain ⟨x0, r0⟩ := hFl4.room.cell (k * 2) (by omega)
      obtain ⟨x1, r1⟩ := hFl4.room.cell (k * 2 + 1) (by omega)
      have rf := hFl4.room.free
      have hl4 := hFl4.lt
      clear hFl hFl4 hx5 hk4 hk5 c0 c1
      go_wp2_with fail
      exact ⟨⟨k + 1, _, by omega, by go_num, hFl5⟩, by simp [intOf]; omega⟩
    · have hkk : n0 = k := by omega
      subst hkk
      have hRw := hFl.rows xyS HN0.out (by unfold maxLen; omega) (G := fun _ => True) (fun _ _ _ => trivial) trivial
      have hkw := hFl.keeps
      go_wp2_with fail
      go_ret
      exact ⟨some ⟨fb, 0, none⟩, n0, by rw [HN0.out]; rfl, hkw, by rw [HN0.out]; exact rows_xy hRw⟩
theorem doorHull_ {F : Nat → Prop} (cs : List Value) (c : Pg) (w : World) (h : GeoR w F cs c) (hN : (hullL c).length ≤ 1000000) : Calls Tryz.prog 50 #[.agg cs.toArray] w (XyPost w (hullL c)) := by
  have hH := fun w' (hk : Stab.Keeps w w') => hullOk_ c F cs w' (geoS.kf h (KF.keeps hk)) hN
  obtain ⟨k, T, b, rfl⟩ := h.two
  clear h
  go_enter Tryz.func50, Tryz.ntmps50
  go_wp2_with fail
  refine (hH _ (by with_reducible (repeat (first | exact Kx.r _ | assumption | refine Kx.a ?_ _ | refine Kx.d ?_ | refine Kx.e ?_ _ | (refine Kx.s ?_ ?_ _; focus (first | (simp; done) | (simp; omega))) | refine Kx.t ?_ (by assumption))))).mono ?_
  clear hH
  rintro e w2 ⟨a, cap, rfl, hk2, hz⟩
  go_wp2_with fail
  go_ret
  exact ⟨a, cap, rfl, by with_reducible (repeat (first | exact Kx.r _ | assumption | refine Kx.a ?_ _ | refine Kx.d ?_ | refine Kx.e ?_ _ | (refine Kx.s ?_ ?_ _; focus (first | (simp; done) | (simp; omega))) | refine Kx.t ?_ (by assumption))), hz⟩
set_option maxRecDepth 100000 in
theorem implHull_ (t : GT) (w : World) (hA : t.At w) (hs : t.Small) (hN : (hullL (newP t)).length ≤ 1000000) : Calls Tryz.prog 19 #[t.hd.val] w (XyPost w (hullL (newP t))) := by
  have hM := fun w' (hk : Stab.Keeps w w') => makeGeo_ t w' (hA.keep hk) hs
  clear hA hs
  have HN := Lib.hid hN
  clear hN
  generalize newP t = p at *
  obtain ⟨⟨kind, dim, na, nn, nc, ka, kn, kc⟩, nums, kids⟩ := t
  simp only [GT.hd, Gm.val] at hM ⊢
  go_enter Tryz.func19, Tryz.ntmps19
  go_wp2_with fail
  refine (hM _ (by with_reducible (repeat (first | exact Kx.r _ | assumption | refine Kx.a ?_ _ | refine Kx.d ?_ | refine Kx.e ?_ _ | (refine Kx.s ?_ ?_ _; focus (first | (simp; done) | (simp; omega))) | refine Kx.t ?_ (by assumption))))).mono ?_
  clear hM
  rintro e w2 ⟨cs, rfl, hk2, hx⟩
  have hD := doorHull_ cs p w2 hx HN.out
  obtain ⟨k, T, b, rfl⟩ := hx.two
  clear hx
  go_wp2_with fail
  refine hD.mono ?_
  clear hD
  rintro e w3 ⟨a, cap, rfl, hk3, hz⟩
  go_wp2_with fail
  refine (plainXYs_ _ a cap w3 HN.out hz).mono ?_
  clear hz
  rintro e w4 ⟨a4, cap4, rfl, hk4, hz4⟩
  go_wp2_with fail
  go_ret
  exact ⟨a4, cap4, rfl, by with_reducible (repeat (first | exact Kx.r _ | assumption | refine Kx.a ?_ _ | refine Kx.d ?_ | refine Kx.e ?_ _ | (refine Kx.s ?_ ?_ _; focus (first | (simp; done) | (simp; omega))) | refine Kx.t ?_ (by assumption))), hz4⟩
end Go.Proofs.YtbakhldjfplbfaaGreat
