/-
  Geometries and collections brought to another type of coordinates; collections made of parts. No condition.
-/
import Derived.Test.YtbakhldjfplbfaaGreatXH5
set_option linter.unusedVariables false
set_option linter.unusedSimpArgs false
namespace Go.Proofs.YtbakhldjfplbfaaGreat
open Go.RowKit Go.Fl Go.Sl Go.Pg Go.Ch Go.Kf
theorem Pg.ind {P : Pg → Prop} (h : ∀ k d ps kids, (∀ c ∈ kids, P c) → P (.node k d ps kids)) : ∀ p, P p
  | .node k d ps kids => h k d ps kids (fun c hc => Pg.ind h c)
termination_by p => SizeOf.sizeOf p
decreasing_by
  have := List.sizeOf_lt_of_mem hc
  simp
  omega
/-- what is asked of the parts -/
def ForceOk (d' : Nat) (c : Pg) : Prop := ∀ (G : Nat → Prop) (cs : List Value) (w : World), GeoR w G cs c → Calls Tryz.prog 169 #[.agg cs.toArray, .int .u8 d'] w (RetR w G GeoR (forceP d' c))
set_option maxRecDepth 100000 in
set_option maxHeartbeats 2000000 in
theorem forceGc_ {F : Nat → Prop} (d' : Nat) (hd' : d' < 4) (cs : List Value) (p : Pg) (w : World) (h : GcR w F cs p) (hFP : ∀ c ∈ p.kids, ForceOk d' c) : Calls Tryz.prog 160 #[.agg cs.toArray, .int .u8 d'] w (RetR w F GcR (forceP d' p)) := by
  obtain ⟨d, a, n, cap, css, kids, rfl, rfl, hd, hn, hR, hdim⟩ := h
  have hmk := fun w => run_makeN (P := Tryz.prog) 148 78 _ 2 24 n Tryz.underlying148 infoGeo (by omega) (by omega) w
  have hle := hR.sz.sz.le
  have hmx := hR.sz.sz.max
  unfold maxLen at hmx
  have hlk := hR.lx
  have hR0 := hR.mono (G := Go.Kf.old F w.heap.size) (fun b h1 h2 => ⟨h2, h1⟩) (fun c x hx => geoS.mono hx fun b h1 h2 => ⟨h2, h1⟩)
  have HLK := Lib.hid hlk
  have HDM := Lib.hid hdim
  replace hFP : ∀ c ∈ kids, ForceOk d' c := hFP
  have HFP := Lib.hid hFP
  clear hFP
  clear hR hlk hdim hd
  go_enter Tryz.func160, Tryz.ntmps160
  go_wp2_with fail
  have hB0 : Blk ((w.alloc (.cells #[.slice a n cap, .int .u8 d] 150)).alloc (.cells #[.slice none 0 0, .int .u8 0] 150)) w.heap.size 150 [.slice a n cap, .int .u8 d] := by with_reducible (repeat first | assumption | (refine Bx.n ⟨?_, ?_⟩ <;> focus (first | rfl | (simp; done) | omega)) | refine Bx.a ?_ _ | refine Bx.d ?_ | refine Bx.e ?_ _ | refine Bx.p (by first | omega | simp <;> omega) ?_)
  have hB1 : Blk ((w.alloc (.cells #[.slice a n cap, .int .u8 d] 150)).alloc (.cells #[.slice none 0 0, .int .u8 0] 150)) (w.heap.size + 1) 150 [.slice none 0 0, .int .u8 0] := by with_reducible (repeat first | assumption | (refine Bx.n ⟨?_, ?_⟩ <;> focus (first | rfl | (simp; done) | omega)) | refine Bx.a ?_ _ | refine Bx.d ?_ | refine Bx.e ?_ _ | refine Bx.p (by first | omega | simp <;> omega) ?_)
  have hkw : Stab.Keeps w ((w.alloc (.cells #[.slice a n cap, .int .u8 d] 150)).alloc (.cells #[.slice none 0 0, .int .u8 0] 150)) := by with_reducible (repeat first | exact Kx.r _ | assumption | refine Kx.a ?_ _ | refine Kx.d ?_ | refine Kx.e ?_ _ | refine Kx.s (by simp <;> omega) ?_ _ | refine Kx.t ?_ (by assumption))
  have hsz : ((w.alloc (.cells #[.slice a n cap, .int .u8 d] 150)).alloc (.cells #[.slice none 0 0, .int .u8 0] 150)).heap.size = w.heap.size + 1 + 1 := by simp
  have hFl := Fill.start w ((w.alloc (.cells #[.slice a n cap, .int .u8 d] 150)).alloc (.cells #[.slice none 0 0, .int .u8 0] 150)) (orNew (Go.Kf.old F w.heap.size) (w.heap.size + 1 + 1 + 1)) GeoR n 2 (madeCells (#[.int .i64 0, .nilIface]) (n * 2)) 78 (kids.map (forceP d')) hkw (size_madeCells _ _) (by simp [orNew, Go.Kf.old]; omega)
  rw [hsz] at hFl
  have hB0' := hB0.alloc (.cells (madeCells (#[.int .i64 0, .nilIface]) (n * 2)) 78)
  have hB1' := hB1.alloc (.cells (madeCells (#[.int .i64 0, .nilIface]) (n * 2)) 78)
  generalize ((w.alloc (.cells #[.slice a n cap, .int .u8 d] 150)).alloc (.cells #[.slice none 0 0, .int .u8 0] 150)).alloc (.cells (madeCells (#[.int .i64 0, .nilIface]) (n * 2)) 78) = W at hFl hB0' hB1' ⊢
  clear hB0 hB1 hkw hsz hmk
  have m0 := hB0'.cell (i := 0) rfl
  have ml := hB0'.lt
  go_wp2_with fail
  go_loopw [14] (fun iv wr => ∃ (k : Nat) (cs' : List (List Value)), k ≤ n ∧ iv = .int .i64 k ∧ Blk wr w.heap.size 150 [.slice a n cap, .int .u8 d] ∧ Blk wr (w.heap.size + 1) 150 [.slice none 0 0, .int .u8 0] ∧ Fill w wr (orNew (Go.Kf.old F w.heap.size) (w.heap.size + 1 + 1 + 1)) GeoR (w.heap.size + 1 + 1) n k 2 cs' (kids.map (forceP d'))) (fun iv _ => n - (intOf iv).toNat)
  case atStart => exact ⟨0, [], by omega, rfl, hB0', hB1', hFl⟩
  case round =>
    clear hFl hB0' hB1' m0 ml
    obtain ⟨k, cs', k2, rfl, hB0, hB1, hFl⟩ := hrel
    by_cases hlt : k < n
    · obtain ⟨b, off, c, ha, hb, _, _, hc2, hcc, hx⟩ := (hR0.kf (KF.keeps hFl.keeps) (fun c x hx => geoS.kf hx (KF.keeps hFl.keeps))).elem hlt
      obtain ⟨kq, tq, bq, rfl⟩ := hx.two
      subst ha
      have e0 : wr.cell? ⟨b, off + k * 2, none⟩ = some (.int .i64 kq) := by have := hcc 0 _ rfl; simpa using this
      have e1 : wr.cell? ⟨b, off + k * 2 + 1, none⟩ = some (.iface tq (.pointer (some ⟨bq, 0, none⟩))) := hcc 1 _ rfl
      have hF1 := fun w' (hk : Stab.Keeps wr w') => HFP.out _ (List.getElem_mem _) _ [.int .i64 kq, .iface tq (.pointer (some ⟨bq, 0, none⟩))] w' (geoS.kf hx (KF.keeps hk))
      have hkk : k < kids.length := by have := HLK.out; omega
      generalize hke : kids[k] = kid at *
      have HKE := Lib.hid hke
      clear hcc hx hke
      have m0 := hB0.cell (i := 0) rfl
      have ml := hB0.lt
      go_wp2_with fail
      refine (hF1 _ (Stab.Keeps.refl _)).mono ?_
      clear hF1
      rintro e w4 ⟨cs4, rfl, hk4, hx4⟩
      obtain ⟨kz, tz, bz, rfl⟩ := hx4.two
      have hlw : w.heap.size + 1 + 1 < wr.heap.size := hFl.lt
      have hFl4 := hFl.keep geoS hk4
      have hB04 := hB0.keep hk4
      have hB14 := hB1.keep hk4
      have hx5 := geoS.mono (G := orNew (Go.Kf.old F w.heap.size) (w.heap.size + 1 + 1 + 1)) hx4 (fun b _ hb => on_old (by omega) hb)
      have hkm : k < (kids.map (forceP d')).length := by simpa using hkk
      have hxe : (kids.map (forceP d'))[k] = forceP d' kid := by rw [List.getElem_map, HKE.out]
      rw [← hxe] at hx5
      have hFl5 := hFl4.put2 geoS hlt hkm hx5
      obtain ⟨x0, r0⟩ := hFl4.room.cell (k * 2) (by omega)
      obtain ⟨x1, r1⟩ := hFl4.room.cell (k * 2 + 1) (by omega)
      have rf := hFl4.room.free
      have hl4 := hFl4.lt
      clear hFl hFl4 hB0 hB1 hx4 hx5 hxe hkm e0 e1 m0 ml hk4 hlw
      go_wp2_with fail
      go_roundw
      case rel =>
        refine ⟨k + 1, _, by omega, by go_num, ?_, ?_, hFl5⟩
        · with_reducible (repeat first | assumption | (refine Bx.n ⟨?_, ?_⟩ <;> focus (first | rfl | (simp; done) | omega)) | refine Bx.a ?_ _ | refine Bx.d ?_ | refine Bx.e ?_ _ | refine Bx.p (by first | omega | simp <;> omega) ?_)
        · with_reducible (repeat first | assumption | (refine Bx.n ⟨?_, ?_⟩ <;> focus (first | rfl | (simp; done) | omega)) | refine Bx.a ?_ _ | refine Bx.d ?_ | refine Bx.e ?_ _ | refine Bx.p (by first | omega | simp <;> omega) ?_)
      case measure => simp [intOf]; omega
    · obtain rfl : n = k := by omega
      have r0 := hB1.cell (i := 0) rfl
      have r1 := hB1.cell (i := 1) rfl
      have rf := hB1.free
      have rl := hB1.lt
      go_wp2_with fail
      refine bodyPost_ret (v := .agg #[.slice (some ⟨w.heap.size + 1 + 1, 0, none⟩) n n, .int .u8 d']) (by simp [results, Tryz.results160, go_sem, *]) rfl ⟨[.slice (some ⟨w.heap.size + 1 + 1, 0, none⟩) n n, .int .u8 d'], rfl, ?_, d', _, n, n, cs', kids.map (forceP d'), rfl, by rw [forceP_eq]; rfl, hd', hn, ?_, fun c hc => ?_⟩
      · have := hFl.keeps
        with_reducible (repeat first | exact Kx.r _ | assumption | refine Kx.a ?_ _ | refine Kx.d ?_ | refine Kx.e ?_ _ | refine Kx.s (by simp <;> omega) ?_ _ | refine Kx.t ?_ (by assumption))
      · exact ((hFl.past geoS (by omega) (by simp [orNew, Go.Kf.old]; omega) (by omega) _).past geoS (by omega) (by simp [orNew, Go.Kf.old]; omega) (by omega) _).rows geoS (by rw [List.length_map]; exact HLK.out) (by unfold maxLen; omega) (fun b _ hb => on_mono (by omega) hb) (.inr (by omega))
      · obtain ⟨q, _, rfl⟩ := List.mem_map.1 hc
        exact forceP_dim d' q
set_option maxRecDepth 100000 in
set_option maxHeartbeats 4000000 in
theorem forceGeo_ (d' : Nat) (hd' : d' < 4) : ∀ p, ForceOk d' p := by
  refine Pg.ind fun k0 d0 ps0 kids0 ih => ?_
  intro F cs w hgeo
  have hgeo2 := geoS.mono (G := Go.Kf.old F w.heap.size) hgeo (fun b h1 h2 => ⟨h2, h1⟩)
  generalize hpe : Pg.node k0 d0 ps0 kids0 = p at *
  rcases hgeo2 with ⟨b, cs, _, hF, hB, h⟩ | ⟨b, cs, _, hF, hB, h⟩ | ⟨b, cs, _, hF, hB, h⟩ | ⟨b, cs, _, hF, hB, h⟩ | ⟨b, cs, _, hF, hB, h⟩ | ⟨b, cs, _, hF, hB, h⟩ | ⟨b, d, a, n, cap, css, kids, hF, hB, hd, hn, lc, lx, each, sz, is, hdim⟩
  · obtain ⟨x, y, z, m, d, f, rfl⟩ := h.six
    have hM := fun w' (hk' : Stab.Keeps w w') => mustPt_ x y z m d f b w' (hB.keep hk')
    have hF2 := fun w' (hk' : Stab.Keeps w w') => forcePt_ (F := Go.Kf.old F w.heap.size) d' hd' [.float .f64 x, .float .f64 y, .float .f64 z, .float .f64 m, .int .u8 d, .bool f] _ w' (ptS.kf h (KF.keeps hk'))
    have hG := fun d l w' => ptGeo_ d l w'
    clear hB h
    go_enter Tryz.func169, Tryz.ntmps169
    go_wp2_with fail
    refine (hM _ (by with_reducible (repeat first | exact Kx.r _ | assumption | refine Kx.a ?_ _ | refine Kx.d ?_ | refine Kx.e ?_ _ | refine Kx.s (by simp <;> omega) ?_ _ | refine Kx.t ?_ (by assumption)))).mono ?_
    clear hM
    rintro e w2 ⟨rfl, hk2⟩
    have hkf2 : Stab.Keeps w w2 := by with_reducible (repeat first | exact Kx.r _ | assumption | refine Kx.a ?_ _ | refine Kx.d ?_ | refine Kx.e ?_ _ | refine Kx.s (by simp <;> omega) ?_ _ | refine Kx.t ?_ (by assumption))
    have hsz2 : w.heap.size + 1 + 1 ≤ w2.heap.size := by have := hk2.size; simp at this; omega
    go_wp2_with fail
    refine (hF2 _ hkf2).mono ?_
    clear hF2
    rintro e w3 ⟨cs3, rfl, hk3, hx3⟩
    have hx3' := hx3
    obtain ⟨dd, l, rfl, hrest⟩ := hx3'
    go_wp2_with fail
    refine (hG dd l _).mono ?_
    clear hG
    rintro e w4 ⟨b4, rfl, hk4, hb4, hB4⟩
    have hR : Blk w4 (w.heap.size + 1) 78 [.int .i64 0, .nilIface] := Blk.keep (Blk.keep (Blk.keep (by with_reducible (repeat first | assumption | (refine Bx.n ⟨?_, ?_⟩ <;> focus (first | rfl | (simp; done) | omega)) | refine Bx.a ?_ _ | refine Bx.d ?_ | refine Bx.e ?_ _ | refine Bx.p (by first | omega | simp <;> omega) ?_)) hk2) hk3) hk4
    have hkf : Stab.Keeps w w4 := by with_reducible (repeat first | exact Kx.r _ | assumption | refine Kx.a ?_ _ | refine Kx.d ?_ | refine Kx.e ?_ _ | refine Kx.s (by simp <;> omega) ?_ _ | refine Kx.t ?_ (by assumption))
    have hsz3 := hk3.size
    have hx4 := ptS.kf hx3 (KF.keeps hk4)
    clear hk2 hk3 hk4
    have r0 := hR.cell (i := 0) rfl
    have r1 := hR.cell (i := 1) rfl
    have rf := hR.free
    have rl := hR.lt
    go_wp2_with fail
    refine bodyPost_ret (v := .agg #[.int .i64 1, .iface 204 (.pointer (some ⟨b4, 0, none⟩))]) (by simp [results, Tryz.results169, go_sem, *]) rfl ⟨[.int .i64 1, .iface 204 (.pointer (some ⟨b4, 0, none⟩))], rfl, ?_, ?_⟩
    · with_reducible (repeat first | exact Kx.r _ | assumption | refine Kx.a ?_ _ | refine Kx.d ?_ | refine Kx.e ?_ _ | refine Kx.s (by simp <;> omega) ?_ _ | refine Kx.t ?_ (by assumption))
    · have hnf : ¬ orNew (Go.Kf.old F w.heap.size) w2.heap.size (w.heap.size + 1) := by intro h; rcases h with h | h; exact absurd h.2 (by omega); omega
      have hx5 := ptS.mono (ptS.kf (w' := (w4.setCell ⟨w.heap.size + 1, 0, none⟩ (.int .i64 1)).setCell ⟨w.heap.size + 1, 1, none⟩ (.iface 204 (.pointer (some ⟨b4, 0, none⟩)))) hx4 (by repeat (first | (with_reducible exact KF.refl _ _) | (with_reducible assumption) | (with_reducible refine KF.alloc ?_ _) | (with_reducible refine KF.drew ?_) | (with_reducible refine KF.drewN ?_ _) | ((with_reducible refine KF.set ?_ ?_); focus (first | assumption | (simp [orNew, old]; done) | (simp [orNew, old]; omega) | (simp [orNew, old] at *; omega))) | (with_reducible refine KF.trans ?_ (KF.keeps (by with_reducible assumption)))))) (G := orNew F w.heap.size) (fun b _ hb => on_mono (by omega) hb)
      refine .pt b4 _ _ (.inr (by omega)) ?_ hx5
      · with_reducible (repeat first | assumption | (refine Bx.n ⟨?_, ?_⟩ <;> focus (first | rfl | (simp; done) | omega)) | refine Bx.a ?_ _ | refine Bx.d ?_ | refine Bx.e ?_ _ | refine Bx.p (by first | omega | simp <;> omega) ?_)
  · obtain ⟨d, a, n, c, rfl⟩ := h.two
    have hM := fun w' (hk' : Stab.Keeps w w') => mustLs_ a n c d b w' (hB.keep hk')
    have hF2 := fun w' (hk' : Stab.Keeps w w') => forceLs_ (F := Go.Kf.old F w.heap.size) d' hd' [.int .u8 d, .slice a n c] _ w' (lsS.kf h (KF.keeps hk'))
    have hG := fun d a n c w' => lineGeo_ d a n c w'
    clear hB h
    go_enter Tryz.func169, Tryz.ntmps169
    go_wp2_with fail
    refine (hM _ (by with_reducible (repeat first | exact Kx.r _ | assumption | refine Kx.a ?_ _ | refine Kx.d ?_ | refine Kx.e ?_ _ | refine Kx.s (by simp <;> omega) ?_ _ | refine Kx.t ?_ (by assumption)))).mono ?_
    clear hM
    rintro e w2 ⟨rfl, hk2⟩
    have hkf2 : Stab.Keeps w w2 := by with_reducible (repeat first | exact Kx.r _ | assumption | refine Kx.a ?_ _ | refine Kx.d ?_ | refine Kx.e ?_ _ | refine Kx.s (by simp <;> omega) ?_ _ | refine Kx.t ?_ (by assumption))
    have hsz2 : w.heap.size + 1 + 1 ≤ w2.heap.size := by have := hk2.size; simp at this; omega
    go_wp2_with fail
    refine (hF2 _ hkf2).mono ?_
    clear hF2
    rintro e w3 ⟨cs3, rfl, hk3, hx3⟩
    obtain ⟨d3, a3, n3, c3, rfl⟩ := hx3.two
    go_wp2_with fail
    refine (hG d3 a3 n3 c3 _).mono ?_
    clear hG
    rintro e w4 ⟨b4, rfl, hk4, hb4, hB4⟩
    have hR : Blk w4 (w.heap.size + 1) 78 [.int .i64 0, .nilIface] := Blk.keep (Blk.keep (Blk.keep (by with_reducible (repeat first | assumption | (refine Bx.n ⟨?_, ?_⟩ <;> focus (first | rfl | (simp; done) | omega)) | refine Bx.a ?_ _ | refine Bx.d ?_ | refine Bx.e ?_ _ | refine Bx.p (by first | omega | simp <;> omega) ?_)) hk2) hk3) hk4
    have hkf : Stab.Keeps w w4 := by with_reducible (repeat first | exact Kx.r _ | assumption | refine Kx.a ?_ _ | refine Kx.d ?_ | refine Kx.e ?_ _ | refine Kx.s (by simp <;> omega) ?_ _ | refine Kx.t ?_ (by assumption))
    have hsz3 := hk3.size
    have hx4 := lsS.kf hx3 (KF.keeps hk4)
    clear hk2 hk3 hk4
    have r0 := hR.cell (i := 0) rfl
    have r1 := hR.cell (i := 1) rfl
    have rf := hR.free
    have rl := hR.lt
    go_wp2_with fail
    refine bodyPost_ret (v := .agg #[.int .i64 2, .iface 190 (.pointer (some ⟨b4, 0, none⟩))]) (by simp [results, Tryz.results169, go_sem, *]) rfl ⟨[.int .i64 2, .iface 190 (.pointer (some ⟨b4, 0, none⟩))], rfl, ?_, ?_⟩
    · with_reducible (repeat first | exact Kx.r _ | assumption | refine Kx.a ?_ _ | refine Kx.d ?_ | refine Kx.e ?_ _ | refine Kx.s (by simp <;> omega) ?_ _ | refine Kx.t ?_ (by assumption))
    · have hnf : ¬ orNew (Go.Kf.old F w.heap.size) w2.heap.size (w.heap.size + 1) := by intro h; rcases h with h | h; exact absurd h.2 (by omega); omega
      have hx5 := lsS.mono (lsS.kf (w' := (w4.setCell ⟨w.heap.size + 1, 0, none⟩ (.int .i64 2)).setCell ⟨w.heap.size + 1, 1, none⟩ (.iface 190 (.pointer (some ⟨b4, 0, none⟩)))) hx4 (by repeat (first | (with_reducible exact KF.refl _ _) | (with_reducible assumption) | (with_reducible refine KF.alloc ?_ _) | (with_reducible refine KF.drew ?_) | (with_reducible refine KF.drewN ?_ _) | ((with_reducible refine KF.set ?_ ?_); focus (first | assumption | (simp [orNew, old]; done) | (simp [orNew, old]; omega) | (simp [orNew, old] at *; omega))) | (with_reducible refine KF.trans ?_ (KF.keeps (by with_reducible assumption)))))) (G := orNew F w.heap.size) (fun b _ hb => on_mono (by omega) hb)
      refine .ls b4 _ _ (.inr (by omega)) ?_ hx5
      · with_reducible (repeat first | assumption | (refine Bx.n ⟨?_, ?_⟩ <;> focus (first | rfl | (simp; done) | omega)) | refine Bx.a ?_ _ | refine Bx.d ?_ | refine Bx.e ?_ _ | refine Bx.p (by first | omega | simp <;> omega) ?_)
  · obtain ⟨a, n, c, d, rfl⟩ := h.two
    have hM := fun w' (hk' : Stab.Keeps w w') => mustPy_ a n c d b w' (hB.keep hk')
    have hF2 := fun w' (hk' : Stab.Keeps w w') => forcePy_ (F := Go.Kf.old F w.heap.size) d' hd' [.slice a n c, .int .u8 d] _ w' (pyS.kf h (KF.keeps hk'))
    have hG := fun a n c d w' => geoPy_ a n c d w'
    clear hB h
    go_enter Tryz.func169, Tryz.ntmps169
    go_wp2_with fail
    refine (hM _ (by with_reducible (repeat first | exact Kx.r _ | assumption | refine Kx.a ?_ _ | refine Kx.d ?_ | refine Kx.e ?_ _ | refine Kx.s (by simp <;> omega) ?_ _ | refine Kx.t ?_ (by assumption)))).mono ?_
    clear hM
    rintro e w2 ⟨rfl, hk2⟩
    have hkf2 : Stab.Keeps w w2 := by with_reducible (repeat first | exact Kx.r _ | assumption | refine Kx.a ?_ _ | refine Kx.d ?_ | refine Kx.e ?_ _ | refine Kx.s (by simp <;> omega) ?_ _ | refine Kx.t ?_ (by assumption))
    have hsz2 : w.heap.size + 1 + 1 ≤ w2.heap.size := by have := hk2.size; simp at this; omega
    go_wp2_with fail
    refine (hF2 _ hkf2).mono ?_
    clear hF2
    rintro e w3 ⟨cs3, rfl, hk3, hx3⟩
    obtain ⟨a3, n3, c3, d3, rfl⟩ := hx3.two
    go_wp2_with fail
    refine (hG a3 n3 c3 d3 _).mono ?_
    clear hG
    rintro e w4 ⟨b4, rfl, hk4, hb4, hB4⟩
    have hR : Blk w4 (w.heap.size + 1) 78 [.int .i64 0, .nilIface] := Blk.keep (Blk.keep (Blk.keep (by with_reducible (repeat first | assumption | (refine Bx.n ⟨?_, ?_⟩ <;> focus (first | rfl | (simp; done) | omega)) | refine Bx.a ?_ _ | refine Bx.d ?_ | refine Bx.e ?_ _ | refine Bx.p (by first | omega | simp <;> omega) ?_)) hk2) hk3) hk4
    have hkf : Stab.Keeps w w4 := by with_reducible (repeat first | exact Kx.r _ | assumption | refine Kx.a ?_ _ | refine Kx.d ?_ | refine Kx.e ?_ _ | refine Kx.s (by simp <;> omega) ?_ _ | refine Kx.t ?_ (by assumption))
    have hsz3 := hk3.size
    have hx4 := pyS.kf hx3 (KF.keeps hk4)
    clear hk2 hk3 hk4
    have r0 := hR.cell (i := 0) rfl
    have r1 := hR.cell (i := 1) rfl
    have rf := hR.free
    have rl := hR.lt
    go_wp2_with fail
    refine bodyPost_ret (v := .agg #[.int .i64 3, .iface 191 (.pointer (some ⟨b4, 0, none⟩))]) (by simp [results, Tryz.results169, go_sem, *]) rfl ⟨[.int .i64 3, .iface 191 (.pointer (some ⟨b4, 0, none⟩))], rfl, ?_, ?_⟩
    · with_reducible (repeat first | exact Kx.r _ | assumption | refine Kx.a ?_ _ | refine Kx.d ?_ | refine Kx.e ?_ _ | refine Kx.s (by simp <;> omega) ?_ _ | refine Kx.t ?_ (by assumption))
    · have hnf : ¬ orNew (Go.Kf.old F w.heap.size) w2.heap.size (w.heap.size + 1) := by intro h; rcases h with h | h; exact absurd h.2 (by omega); omega
      have hx5 := pyS.mono (pyS.kf (w' := (w4.setCell ⟨w.heap.size + 1, 0, none⟩ (.int .i64 3)).setCell ⟨w.heap.size + 1, 1, none⟩ (.iface 191 (.pointer (some ⟨b4, 0, none⟩)))) hx4 (by repeat (first | (with_reducible exact KF.refl _ _) | (with_reducible assumption) | (with_reducible refine KF.alloc ?_ _) | (with_reducible refine KF.drew ?_) | (with_reducible refine KF.drewN ?_ _) | ((with_reducible refine KF.set ?_ ?_); focus (first | assumption | (simp [orNew, old]; done) | (simp [orNew, old]; omega) | (simp [orNew, old] at *; omega))) | (with_reducible refine KF.trans ?_ (KF.keeps (by with_reducible assumption)))))) (G := orNew F w.heap.size) (fun b _ hb => on_mono (by omega) hb)
      refine .py b4 _ _ (.inr (by omega)) ?_ hx5
      · with_reducible (repeat first | assumption | (refine Bx.n ⟨?_, ?_⟩ <;> focus (first | rfl | (simp; done) | omega)) | refine Bx.a ?_ _ | refine Bx.d ?_ | refine Bx.e ?_ _ | refine Bx.p (by first | omega | simp <;> omega) ?_)
  · obtain ⟨a, n, c, d, rfl⟩ := h.two
    have hM := fun w' (hk' : Stab.Keeps w w') => mustMp_ a n c d b w' (hB.keep hk')
    have hF2 := fun w' (hk' : Stab.Keeps w w') => forceMp_ (F := Go.Kf.old F w.heap.size) d' hd' [.slice a n c, .int .u8 d] _ w' (mpS.kf h (KF.keeps hk'))
    have hG := fun a n c d w' => geoMp_ a n c d w'
    clear hB h
    go_enter Tryz.func169, Tryz.ntmps169
    go_wp2_with fail
    refine (hM _ (by with_reducible (repeat first | exact Kx.r _ | assumption | refine Kx.a ?_ _ | refine Kx.d ?_ | refine Kx.e ?_ _ | refine Kx.s (by simp <;> omega) ?_ _ | refine Kx.t ?_ (by assumption)))).mono ?_
    clear hM
    rintro e w2 ⟨rfl, hk2⟩
    have hkf2 : Stab.Keeps w w2 := by with_reducible (repeat first | exact Kx.r _ | assumption | refine Kx.a ?_ _ | refine Kx.d ?_ | refine Kx.e ?_ _ | refine Kx.s (by simp <;> omega) ?_ _ | refine Kx.t ?_ (by assumption))
    have hsz2 : w.heap.size + 1 + 1 ≤ w2.heap.size := by have := hk2.size; simp at this; omega
    go_wp2_with fail
    refine (hF2 _ hkf2).mono ?_
    clear hF2
    rintro e w3 ⟨cs3, rfl, hk3, hx3⟩
    obtain ⟨a3, n3, c3, d3, rfl⟩ := hx3.two
    go_wp2_with fail
    refine (hG a3 n3 c3 d3 _).mono ?_
    clear hG
    rintro e w4 ⟨b4, rfl, hk4, hb4, hB4⟩
    have hR : Blk w4 (w.heap.size + 1) 78 [.int .i64 0, .nilIface] := Blk.keep (Blk.keep (Blk.keep (by with_reducible (repeat first | assumption | (refine Bx.n ⟨?_, ?_⟩ <;> focus (first | rfl | (simp; done) | omega)) | refine Bx.a ?_ _ | refine Bx.d ?_ | refine Bx.e ?_ _ | refine Bx.p (by first | omega | simp <;> omega) ?_)) hk2) hk3) hk4
    have hkf : Stab.Keeps w w4 := by with_reducible (repeat first | exact Kx.r _ | assumption | refine Kx.a ?_ _ | refine Kx.d ?_ | refine Kx.e ?_ _ | refine Kx.s (by simp <;> omega) ?_ _ | refine Kx.t ?_ (by assumption))
    have hsz3 := hk3.size
    have hx4 := mpS.kf hx3 (KF.keeps hk4)
    clear hk2 hk3 hk4
    have r0 := hR.cell (i := 0) rfl
    have r1 := hR.cell (i := 1) rfl
    have rf := hR.free
    have rl := hR.lt
    go_wp2_with fail
    refine bodyPost_ret (v := .agg #[.int .i64 4, .iface 192 (.pointer (some ⟨b4, 0, none⟩))]) (by simp [results, Tryz.results169, go_sem, *]) rfl ⟨[.int .i64 4, .iface 192 (.pointer (some ⟨b4, 0, none⟩))], rfl, ?_, ?_⟩
    · with_reducible (repeat first | exact Kx.r _ | assumption | refine Kx.a ?_ _ | refine Kx.d ?_ | refine Kx.e ?_ _ | refine Kx.s (by simp <;> omega) ?_ _ | refine Kx.t ?_ (by assumption))
    · have hnf : ¬ orNew (Go.Kf.old F w.heap.size) w2.heap.size (w.heap.size + 1) := by intro h; rcases h with h | h; exact absurd h.2 (by omega); omega
      have hx5 := mpS.mono (mpS.kf (w' := (w4.setCell ⟨w.heap.size + 1, 0, none⟩ (.int .i64 4)).setCell ⟨w.heap.size + 1, 1, none⟩ (.iface 192 (.pointer (some ⟨b4, 0, none⟩)))) hx4 (by repeat (first | (with_reducible exact KF.refl _ _) | (with_reducible assumption) | (with_reducible refine KF.alloc ?_ _) | (with_reducible refine KF.drew ?_) | (with_reducible refine KF.drewN ?_ _) | ((with_reducible refine KF.set ?_ ?_); focus (first | assumption | (simp [orNew, old]; done) | (simp [orNew, old]; omega) | (simp [orNew, old] at *; omega))) | (with_reducible refine KF.trans ?_ (KF.keeps (by with_reducible assumption)))))) (G := orNew F w.heap.size) (fun b _ hb => on_mono (by omega) hb)
      refine .mp b4 _ _ (.inr (by omega)) ?_ hx5
      · with_reducible (repeat first | assumption | (refine Bx.n ⟨?_, ?_⟩ <;> focus (first | rfl | (simp; done) | omega)) | refine Bx.a ?_ _ | refine Bx.d ?_ | refine Bx.e ?_ _ | refine Bx.p (by first | omega | simp <;> omega) ?_)
  · obtain ⟨a, n, c, d, rfl⟩ := h.two
    have hM := fun w' (hk' : Stab.Keeps w w') => mustMl_ a n c d b w' (hB.keep hk')
    have hF2 := fun w' (hk' : Stab.Keeps w w') => forceMl_ (F := Go.Kf.old F w.heap.size) d' hd' [.slice a n c, .int .u8 d] _ w' (mlS.kf h (KF.keeps hk'))
    have hG := fun a n c d w' => geoMl_ a n c d w'
    clear hB h
    go_enter Tryz.func169, Tryz.ntmps169
    go_wp2_with fail
    refine (hM _ (by with_reducible (repeat first | exact Kx.r _ | assumption | refine Kx.a ?_ _ | refine Kx.d ?_ | refine Kx.e ?_ _ | refine Kx.s (by simp <;> omega) ?_ _ | refine Kx.t ?_ (by assumption)))).mono ?_
    clear hM
    rintro e w2 ⟨rfl, hk2⟩
    have hkf2 : Stab.Keeps w w2 := by with_reducible (repeat first | exact Kx.r _ | assumption | refine Kx.a ?_ _ | refine Kx.d ?_ | refine Kx.e ?_ _ | refine Kx.s (by simp <;> omega) ?_ _ | refine Kx.t ?_ (by assumption))
    have hsz2 : w.heap.size + 1 + 1 ≤ w2.heap.size := by have := hk2.size; simp at this; omega
    go_wp2_with fail
    refine (hF2 _ hkf2).mono ?_
    clear hF2
    rintro e w3 ⟨cs3, rfl, hk3, hx3⟩
    obtain ⟨a3, n3, c3, d3, rfl⟩ := hx3.two
    go_wp2_with fail
    refine (hG a3 n3 c3 d3 _).mono ?_
    clear hG
    rintro e w4 ⟨b4, rfl, hk4, hb4, hB4⟩
    have hR : Blk w4 (w.heap.size + 1) 78 [.int .i64 0, .nilIface] := Blk.keep (Blk.keep (Blk.keep (by with_reducible (repeat first | assumption | (refine Bx.n ⟨?_, ?_⟩ <;> focus (first | rfl | (simp; done) | omega)) | refine Bx.a ?_ _ | refine Bx.d ?_ | refine Bx.e ?_ _ | refine Bx.p (by first | omega | simp <;> omega) ?_)) hk2) hk3) hk4
    have hkf : Stab.Keeps w w4 := by with_reducible (repeat first | exact Kx.r _ | assumption | refine Kx.a ?_ _ | refine Kx.d ?_ | refine Kx.e ?_ _ | refine Kx.s (by simp <;> omega) ?_ _ | refine Kx.t ?_ (by assumption))
    have hsz3 := hk3.size
    have hx4 := mlS.kf hx3 (KF.keeps hk4)
    clear hk2 hk3 hk4
    have r0 := hR.cell (i := 0) rfl
    have r1 := hR.cell (i := 1) rfl
    have rf := hR.free
    have rl := hR.lt
    go_wp2_with fail
    refine bodyPost_ret (v := .agg #[.int .i64 5, .iface 197 (.pointer (some ⟨b4, 0, none⟩))]) (by simp [results, Tryz.results169, go_sem, *]) rfl ⟨[.int .i64 5, .iface 197 (.pointer (some ⟨b4, 0, none⟩))], rfl, ?_, ?_⟩
    · with_reducible (repeat first | exact Kx.r _ | assumption | refine Kx.a ?_ _ | refine Kx.d ?_ | refine Kx.e ?_ _ | refine Kx.s (by simp <;> omega) ?_ _ | refine Kx.t ?_ (by assumption))
    · have hnf : ¬ orNew (Go.Kf.old F w.heap.size) w2.heap.size (w.heap.size + 1) := by intro h; rcases h with h | h; exact absurd h.2 (by omega); omega
      have hx5 := mlS.mono (mlS.kf (w' := (w4.setCell ⟨w.heap.size + 1, 0, none⟩ (.int .i64 5)).setCell ⟨w.heap.size + 1, 1, none⟩ (.iface 197 (.pointer (some ⟨b4, 0, none⟩)))) hx4 (by repeat (first | (with_reducible exact KF.refl _ _) | (with_reducible assumption) | (with_reducible refine KF.alloc ?_ _) | (with_reducible refine KF.drew ?_) | (with_reducible refine KF.drewN ?_ _) | ((with_reducible refine KF.set ?_ ?_); focus (first | assumption | (simp [orNew, old]; done) | (simp [orNew, old]; omega) | (simp [orNew, old] at *; omega))) | (with_reducible refine KF.trans ?_ (KF.keeps (by with_reducible assumption)))))) (G := orNew F w.heap.size) (fun b _ hb => on_mono (by omega) hb)
      refine .ml b4 _ _ (.inr (by omega)) ?_ hx5
      · with_reducible (repeat first | assumption | (refine Bx.n ⟨?_, ?_⟩ <;> focus (first | rfl | (simp; done) | omega)) | refine Bx.a ?_ _ | refine Bx.d ?_ | refine Bx.e ?_ _ | refine Bx.p (by first | omega | simp <;> omega) ?_)
  · obtain ⟨a, n, c, d, rfl⟩ := h.two
    have hM := fun w' (hk' : Stab.Keeps w w') => mustMy_ a n c d b w' (hB.keep hk')
    have hF2 := fun w' (hk' : Stab.Keeps w w') => forceMy_ (F := Go.Kf.old F w.heap.size) d' hd' [.slice a n c, .int .u8 d] _ w' (myS.kf h (KF.keeps hk'))
    have hG := fun a n c d w' => geoMy_ a n c d w'
    clear hB h
    go_enter Tryz.func169, Tryz.ntmps169
    go_wp2_with fail
    refine (hM _ (by with_reducible (repeat first | exact Kx.r _ | assumption | refine Kx.a ?_ _ | refine Kx.d ?_ | refine Kx.e ?_ _ | refine Kx.s (by simp <;> omega) ?_ _ | refine Kx.t ?_ (by assumption)))).mono ?_
    clear hM
    rintro e w2 ⟨rfl, hk2⟩
    have hkf2 : Stab.Keeps w w2 := by with_reducible (repeat first | exact Kx.r _ | assumption | refine Kx.a ?_ _ | refine Kx.d ?_ | refine Kx.e ?_ _ | refine Kx.s (by simp <;> omega) ?_ _ | refine Kx.t ?_ (by assumption))
    have hsz2 : w.heap.size + 1 + 1 ≤ w2.heap.size := by have := hk2.size; simp at this; omega
    go_wp2_with fail
    refine (hF2 _ hkf2).mono ?_
    clear hF2
    rintro e w3 ⟨cs3, rfl, hk3, hx3⟩
    obtain ⟨a3, n3, c3, d3, rfl⟩ := hx3.two
    go_wp2_with fail
    refine (hG a3 n3 c3 d3 _).mono ?_
    clear hG
    rintro e w4 ⟨b4, rfl, hk4, hb4, hB4⟩
    have hR : Blk w4 (w.heap.size + 1) 78 [.int .i64 0, .nilIface] := Blk.keep (Blk.keep (Blk.keep (by with_reducible (repeat first | assumption | (refine Bx.n ⟨?_, ?_⟩ <;> focus (first | rfl | (simp; done) | omega)) | refine Bx.a ?_ _ | refine Bx.d ?_ | refine Bx.e ?_ _ | refine Bx.p (by first | omega | simp <;> omega) ?_)) hk2) hk3) hk4
    have hkf : Stab.Keeps w w4 := by with_reducible (repeat first | exact Kx.r _ | assumption | refine Kx.a ?_ _ | refine Kx.d ?_ | refine Kx.e ?_ _ | refine Kx.s (by simp <;> omega) ?_ _ | refine Kx.t ?_ (by assumption))
    have hsz3 := hk3.size
    have hx4 := myS.kf hx3 (KF.keeps hk4)
    clear hk2 hk3 hk4
    have r0 := hR.cell (i := 0) rfl
    have r1 := hR.cell (i := 1) rfl
    have rf := hR.free
    have rl := hR.lt
    go_wp2_with fail
    refine bodyPost_ret (v := .agg #[.int .i64 6, .iface 199 (.pointer (some ⟨b4, 0, none⟩))]) (by simp [results, Tryz.results169, go_sem, *]) rfl ⟨[.int .i64 6, .iface 199 (.pointer (some ⟨b4, 0, none⟩))], rfl, ?_, ?_⟩
    · with_reducible (repeat first | exact Kx.r _ | assumption | refine Kx.a ?_ _ | refine Kx.d ?_ | refine Kx.e ?_ _ | refine Kx.s (by simp <;> omega) ?_ _ | refine Kx.t ?_ (by assumption))
    · have hnf : ¬ orNew (Go.Kf.old F w.heap.size) w2.heap.size (w.heap.size + 1) := by intro h; rcases h with h | h; exact absurd h.2 (by omega); omega
      have hx5 := myS.mono (myS.kf (w' := (w4.setCell ⟨w.heap.size + 1, 0, none⟩ (.int .i64 6)).setCell ⟨w.heap.size + 1, 1, none⟩ (.iface 199 (.pointer (some ⟨b4, 0, none⟩)))) hx4 (by repeat (first | (with_reducible exact KF.refl _ _) | (with_reducible assumption) | (with_reducible refine KF.alloc ?_ _) | (with_reducible refine KF.drew ?_) | (with_reducible refine KF.drewN ?_ _) | ((with_reducible refine KF.set ?_ ?_); focus (first | assumption | (simp [orNew, old]; done) | (simp [orNew, old]; omega) | (simp [orNew, old] at *; omega))) | (with_reducible refine KF.trans ?_ (KF.keeps (by with_reducible assumption)))))) (G := orNew F w.heap.size) (fun b _ hb => on_mono (by omega) hb)
      refine .my b4 _ _ (.inr (by omega)) ?_ hx5
      · with_reducible (repeat first | assumption | (refine Bx.n ⟨?_, ?_⟩ <;> focus (first | rfl | (simp; done) | omega)) | refine Bx.a ?_ _ | refine Bx.d ?_ | refine Bx.e ?_ _ | refine Bx.p (by first | omega | simp <;> omega) ?_)
  · have h : GcR w (Go.Kf.old F w.heap.size) [.slice a n cap, .int .u8 (d : Nat)] (.node 0 d [] kids) := ⟨d, a, n, cap, css, kids, rfl, rfl, hd, hn, ⟨lc, lx, each, sz, is⟩, hdim⟩
    have hke : kids0 = kids := by injection hpe
    clear sz is each hdim lc lx hpe
    subst hke
    have IH := Lib.hid ih
    clear ih
    have hM := fun w' (hk' : Stab.Keeps w w') => mustGc_ a n cap d b w' (hB.keep hk')
    have hF2 := fun w' (hk' : Stab.Keeps w w') => forceGc_ (F := Go.Kf.old F w.heap.size) d' hd' [.slice a n cap, .int .u8 (d : Nat)] _ w' (gcS.kf h (KF.keeps hk')) IH.out
    have hG := fun a n c d w' => geoGc_ a n c d w'
    clear hB h
    go_enter Tryz.func169, Tryz.ntmps169
    go_wp2_with fail
    refine (hM _ (by with_reducible (repeat first | exact Kx.r _ | assumption | refine Kx.a ?_ _ | refine Kx.d ?_ | refine Kx.e ?_ _ | refine Kx.s (by simp <;> omega) ?_ _ | refine Kx.t ?_ (by assumption)))).mono ?_
    clear hM
    rintro e w2 ⟨rfl, hk2⟩
    have hkf2 : Stab.Keeps w w2 := by with_reducible (repeat first | exact Kx.r _ | assumption | refine Kx.a ?_ _ | refine Kx.d ?_ | refine Kx.e ?_ _ | refine Kx.s (by simp <;> omega) ?_ _ | refine Kx.t ?_ (by assumption))
    have hsz2 : w.heap.size + 1 + 1 ≤ w2.heap.size := by have := hk2.size; simp at this; omega
    go_wp2_with fail
    refine (hF2 _ hkf2).mono ?_
    clear hF2
    rintro e w3 ⟨cs3, rfl, hk3, hx3⟩
    obtain ⟨a3, n3, c3, d3, rfl⟩ := hx3.two
    go_wp2_with fail
    refine (hG a3 n3 c3 d3 _).mono ?_
    clear hG
    rintro e w4 ⟨b4, rfl, hk4, hb4, hB4⟩
    have hR : Blk w4 (w.heap.size + 1) 78 [.int .i64 0, .nilIface] := Blk.keep (Blk.keep (Blk.keep (by with_reducible (repeat first | assumption | (refine Bx.n ⟨?_, ?_⟩ <;> focus (first | rfl | (simp; done) | omega)) | refine Bx.a ?_ _ | refine Bx.d ?_ | refine Bx.e ?_ _ | refine Bx.p (by first | omega | simp <;> omega) ?_)) hk2) hk3) hk4
    have hkf : Stab.Keeps w w4 := by with_reducible (repeat first | exact Kx.r _ | assumption | refine Kx.a ?_ _ | refine Kx.d ?_ | refine Kx.e ?_ _ | refine Kx.s (by simp <;> omega) ?_ _ | refine Kx.t ?_ (by assumption))
    have hsz3 := hk3.size
    have hx4 := gcS.kf hx3 (KF.keeps hk4)
    clear hk2 hk3 hk4
    have r0 := hR.cell (i := 0) rfl
    have r1 := hR.cell (i := 1) rfl
    have rf := hR.free
    have rl := hR.lt
    go_wp2_with fail
    refine bodyPost_ret (v := .agg #[.int .i64 0, .iface 210 (.pointer (some ⟨b4, 0, none⟩))]) (by simp [results, Tryz.results169, go_sem, *]) rfl ⟨[.int .i64 0, .iface 210 (.pointer (some ⟨b4, 0, none⟩))], rfl, ?_, ?_⟩
    · with_reducible (repeat first | exact Kx.r _ | assumption | refine Kx.a ?_ _ | refine Kx.d ?_ | refine Kx.e ?_ _ | refine Kx.s (by simp <;> omega) ?_ _ | refine Kx.t ?_ (by assumption))
    · have hnf : ¬ orNew (Go.Kf.old F w.heap.size) w2.heap.size (w.heap.size + 1) := by intro h; rcases h with h | h; exact absurd h.2 (by omega); omega
      have hx5 := gcS.mono (gcS.kf (w' := (w4.setCell ⟨w.heap.size + 1, 0, none⟩ (.int .i64 0)).setCell ⟨w.heap.size + 1, 1, none⟩ (.iface 210 (.pointer (some ⟨b4, 0, none⟩)))) hx4 (by repeat (first | (with_reducible exact KF.refl _ _) | (with_reducible assumption) | (with_reducible refine KF.alloc ?_ _) | (with_reducible refine KF.drew ?_) | (with_reducible refine KF.drewN ?_ _) | ((with_reducible refine KF.set ?_ ?_); focus (first | assumption | (simp [orNew, old]; done) | (simp [orNew, old]; omega) | (simp [orNew, old] at *; omega))) | (with_reducible refine KF.trans ?_ (KF.keeps (by with_reducible assumption)))))) (G := orNew F w.heap.size) (fun b _ hb => on_mono (by omega) hb)
      refine GcR.geo hx5 (.inr (by omega)) ?_
      with_reducible (repeat first | assumption | (refine Bx.n ⟨?_, ?_⟩ <;> focus (first | rfl | (simp; done) | omega)) | refine Bx.a ?_ _ | refine Bx.d ?_ | refine Bx.e ?_ _ | refine Bx.p (by first | omega | simp <;> omega) ?_)
theorem GeoR.dim {w : World} {F : Nat → Prop} {cs : List Value} {p : Pg} (h : GeoR w F cs p) : p.dim < 4 := by
  cases h with
  | pt b cs p hF hB h => exact PtR.dim h
  | ls b cs p hF hB h => exact LsR.dim h
  | py b cs p hF hB h => exact WholeR.dim h
  | mp b cs p hF hB h => exact WholeR.dim h
  | ml b cs p hF hB h => exact WholeR.dim h
  | my b cs p hF hB h => exact WholeR.dim h
  | gc b d a n cap css kids hF hB hd hn lc lx each sz is hdim => exact hd
set_option maxRecDepth 100000 in
set_option maxHeartbeats 2000000 in
theorem newGcN_ {F : Nat → Prop} (a : Option Addr) (n cap : Nat) (css : List (List Value)) (kids : List Pg) (w : World) (hn0 : 0 < n) (hn : n ≤ 250000) (hR : Go.Kf.Rows w F GeoR a n cap 2 css kids) :
    Calls Tryz.prog 95 #[.slice a n cap] w (RetR w F GcR (wholeP 0 0 kids)) := by
  obtain ⟨i0, hi, hz0, hz1, hz2⟩ := info_parts infoGeo
  have hle := hR.sz.sz.le
  have hmx := hR.sz.sz.max
  unfold maxLen at hmx
  have hR0 := hR.mono (G := Go.Kf.old F w.heap.size) (fun b h1 h2 => ⟨h2, h1⟩) (fun c x hx => geoS.mono hx fun b h1 h2 => ⟨h2, h1⟩)
  have hone := rows_ones hR0 (fun h => h.ones)
  have HLK := Lib.hid hR.lx
  have HLC := Lib.hid hR.lc
  have hdk : ∀ i (hi : i < kids.length), kids[i].dim < 4 := fun i hi => GeoR.dim (hR.is i (by rw [hR.lc, ← hR.lx]; exact hi) hi)
  have HDK := Lib.hid hdk
  have hwh : wholeP 0 0 kids = .node 0 (andD kids) [] (kids.map (forceP (andD kids))) := by
    unfold wholeP
    have : kids ≠ [] := fun h => by have := hR.lx; rw [h] at this; simp at this; omega
    simp [this]
  rw [hwh]
  have g0 : decide (0 < n) = true := decide_eq_true hn0
  have g1 : decide ((n : Int) > 0) = true := decide_eq_true (by omega)
  have g2 : ((n : Int) == 0) = false := by simp; omega
  have g3 : (n == 0) = false := by simp; omega
  have HI := Lib.hid hi
  have HZ0 := Lib.hid hz0
  have HZ1 := Lib.hid hz1
  have HZ2 := Lib.hid hz2
  clear hR hdk hwh hi hz0 hz1 hz2
  go_enter Tryz.func95, Tryz.ntmps95
  go_wp2_with fail
  have hkw : Stab.Keeps w (w.alloc (.cells #[.slice none 0 0, .int .u8 0] 150)) := by with_reducible (repeat first | exact Kx.r _ | assumption | refine Kx.a ?_ _ | refine Kx.d ?_ | refine Kx.e ?_ _ | refine Kx.s (by simp <;> omega) ?_ _ | refine Kx.t ?_ (by assumption))
  have hB1 : Blk (w.alloc (.cells #[.slice none 0 0, .int .u8 0] 150)) w.heap.size 150 [.slice none 0 0, .int .u8 0] := by with_reducible (repeat first | assumption | (refine Bx.n ⟨?_, ?_⟩ <;> focus (first | rfl | (simp; done) | omega)) | refine Bx.a ?_ _ | refine Bx.d ?_ | refine Bx.e ?_ _ | refine Bx.p (by first | omega | simp <;> omega) ?_)
  have hs1 : (w.alloc (.cells #[.slice none 0 0, .int .u8 0] 150)).heap.size = w.heap.size + 1 := by simp
  generalize hw1 : (w.alloc (.cells #[.slice none 0 0, .int .u8 0] 150)) = w1 at *
  clear hw1
  have HS1 := Lib.hid hs1
  clear hs1 g0 g1 g2 g3
  go_loopw [3, 13] (fun cv iv wr => ∃ k : Nat, k ≤ n ∧ iv = .int .i64 k ∧ cv = .int .u8 (andD (kids.take k)) ∧ Stab.Keeps w1 wr) (fun _ iv _ => n - (intOf iv).toNat)
  case atStart => exact ⟨0, by omega, rfl, rfl, Stab.Keeps.refl _⟩
  case round =>
    obtain ⟨k, k2, rfl, rfl, hk⟩ := hrel
    by_cases hlt : k < n
    · have hkW := Stab.Keeps.trans hkw hk
      obtain ⟨b, off, c, ha, hb, _, _, hc2, hcc, hx⟩ := (hR0.kf (KF.keeps hkW) (fun c x hx => geoS.kf hx (KF.keeps hkW))).elem hlt
      obtain ⟨kq, tq, bq, rfl⟩ := hx.two
      subst ha
      have e0 : wr.cell? ⟨b, off + k * 2, none⟩ = some (.int .i64 kq) := by have := hcc 0 _ rfl; simpa using this
      have e1 : wr.cell? ⟨b, off + k * 2 + 1, none⟩ = some (.iface tq (.pointer (some ⟨bq, 0, none⟩))) := hcc 1 _ rfl
      have hkk : k < kids.length := by have := HLK.out; omega
      have hT := fun w' (hk' : Stab.Keeps wr w') => typeGeo_ [.int .i64 kq, .iface tq (.pointer (some ⟨bq, 0, none⟩))] _ w' wr hk' hx
      have hand := and_u8 (andD (kids.take k)) kids[k].dim (andD_lt _) (HDK.out k hkk)
      have hsn : andD (kids.take k) &&& kids[k].dim = andD (kids.take (k + 1)) := by rw [List.take_succ_eq_append_getElem hkk, andD_snoc]
      rw [hsn] at hand
      have hal := andD_lt (kids.take (k + 1))
      generalize kids[k] = kid at *
      generalize hD1 : andD (kids.take (k + 1)) = D1 at *
      have HD1 := Lib.hid hD1
      clear hD1
      generalize andD (kids.take k) = D0 at *
      have hm256 : ((D1 : Nat) : Int) % 256 = D1 := by omega
      clear hcc hx hsn
      go_wp2_with fail
      refine (hT _ (by with_reducible (repeat first | exact Kx.r _ | assumption | refine Kx.a ?_ _ | refine Kx.d ?_ | refine Kx.e ?_ _ | refine Kx.s (by simp <;> omega) ?_ _ | refine Kx.t ?_ (by assumption)))).mono ?_
      clear hT
      rintro e w4 ⟨rfl, hk4⟩
      have hk5 : Stab.Keeps w1 w4 := by with_reducible (repeat first | exact Kx.r _ | assumption | refine Kx.a ?_ _ | refine Kx.d ?_ | refine Kx.e ?_ _ | refine Kx.s (by simp <;> omega) ?_ _ | refine Kx.t ?_ (by assumption))
      clear e0 e1 hk4
      go_wp2_with fail
      go_roundw
      case rel => exact ⟨k + 1, by omega, by go_num, by rw [HD1.out], hk5⟩
      case measure => simp [intOf]; omega
    · obtain rfl : n = k := by omega
      rw [List.take_of_length_le (by rw [HLK.out]; exact Nat.le_refl _)]
      have hD4 := andD_lt kids
      generalize hDe : andD kids = D at *
      have HDE := Lib.hid hDe
      clear hDe
      have hkW := Stab.Keeps.trans hkw hk
      have hSz := (hR0.kf (KF.keeps hkW) (fun c x hx => geoS.kf hx (KF.keeps hkW))).sz.sz
      go_wp2_with (at_builtin; (refine append_sz (w0 := w1) rfl _ _ 148 rfl w1.heap.size 78 i0 _ 2 24 Tryz.underlying148 HI.out HZ0.out HZ1.out HZ2.out rfl (by decide) _ 0 [] rfl (World.ownsRow_nil _ _ _ _) a n cap _ rfl hSz hone (by unfold maxLen; omega) (by omega) hk.size hk ?_))
      intro al c5 w5 hown hk5 hsz5 hgr
      try simp only [Nat.zero_add, List.nil_append] at hown
      have hs1 := HS1.out
      obtain ⟨fb, rfl, hfb, hU, hnc, hcm⟩ := Upd.start (w := w1) (orNew (Go.Kf.old F w.heap.size) w5.heap.size) GeoR (kids.map (forceP D)) hk5 hown hn0 (Nat.le_refl _) HLC.out hR0.each (fun b h1 h2 => by simp [orNew, Go.Kf.old]; omega)
      have hfb5 := hU.lt
      clear hown hgr hSz hk hkW hsz5 hs1
      try simp only [Nat.zero_add]
      unfold maxLen at hcm
      go_wp2_with fail
      go_loopw [26] (fun iv wr => ∃ (k : Nat) (cs' : List (List Value)), k ≤ n ∧ iv = .int .i64 k ∧ w5.heap.size ≤ wr.heap.size ∧ Upd w1 wr (orNew (Go.Kf.old F w.heap.size) w5.heap.size) GeoR fb n k 2 cs' css (kids.map (forceP D))) (fun iv _ => n - (intOf iv).toNat)
      case atStart => exact ⟨0, [], by omega, rfl, Nat.le_refl _, hU⟩
      case round =>
        clear hU
        obtain ⟨k, cs', k2, rfl, hsz5, hU⟩ := hrel
        have hk := hU.keeps
        have hkW := Stab.Keeps.trans hkw hk
        by_cases hlt : k < n
        · have hkc : k < css.length := by have := HLC.out; omega
          have hkk : k < kids.length := by have := HLK.out; omega
          have hx := geoS.kf (hR0.is k hkc hkk) (KF.keeps hkW)
          have hcc := fun j v hv => hU.cell hlt (j := j) (v := v) hv
          generalize hce : css[k] = c at *
          obtain ⟨kq, tq, bq, rfl⟩ := hx.two
          have HCE := Lib.hid hce
          clear hce
          have e0 : wr.cell? ⟨fb, k * 2, none⟩ = some (.int .i64 kq) := by have := hcc 0 _ rfl; simpa using this
          have e1 : wr.cell? ⟨fb, k * 2 + 1, none⟩ = some (.iface tq (.pointer (some ⟨bq, 0, none⟩))) := hcc 1 _ rfl
          have hF1 := fun w' (hk : Stab.Keeps wr w') => forceGeo_ D hD4 _ _ [.int .i64 kq, .iface tq (.pointer (some ⟨bq, 0, none⟩))] w' (geoS.kf hx (KF.keeps hk))
          generalize hke : kids[k] = kid at *
          have HKE := Lib.hid hke
          have hfl := hU.lt
          clear hcc hx hke
          go_wp2_with fail
          refine (hF1 _ (Stab.Keeps.refl _)).mono ?_
          clear hF1
          rintro e w6 ⟨cs4, rfl, hk4, hx4⟩
          obtain ⟨kz, tz, bz, rfl⟩ := hx4.two
          have hU4 := hU.keep geoS hk4
          have hx5 := geoS.mono (G := orNew (Go.Kf.old F w.heap.size) w5.heap.size) hx4 (fun b _ hb => on_old hsz5 hb)
          have hkm : k < (kids.map (forceP D)).length := by simpa using hkk
          have hxe : (kids.map (forceP D))[k] = forceP D kid := by rw [List.getElem_map, HKE.out]
          rw [← hxe] at hx5
          have hU5 := hU4.put2 geoS hlt hkm hx5
          have hsz6 : w5.heap.size ≤ w6.heap.size := Nat.le_trans hsz5 hk4.size
          obtain ⟨x0, r0⟩ := hU4.room.cell (k * 2) (by omega)
          obtain ⟨x1, r1⟩ := hU4.room.cell (k * 2 + 1) (by omega)
          have rf := hU4.room.free
          have hl4 := hU4.lt
          clear hU hU4 hx4 hx5 hxe hkm e0 e1 hk4 hfl
          go_wp2_with fail
          go_roundw
          case rel => exact ⟨k + 1, _, by omega, by go_num, by simpa using hsz6, hU5⟩
          case measure => simp [intOf]; omega
        · obtain rfl : n = k := by omega
          have hB2 := hB1.keep hk
          have r0 := hB2.cell (i := 0) rfl
          have r1 := hB2.cell (i := 1) rfl
          have rf := hB2.free
          have rl := hB2.lt
          have hs1 := HS1.out
          go_wp2_with fail
          refine bodyPost_ret (v := .agg #[.slice (some ⟨fb, 0, none⟩) n c5, .int .u8 D]) (by simp [results, Tryz.results95, go_sem, *]) rfl ⟨[.slice (some ⟨fb, 0, none⟩) n c5, .int .u8 D], rfl, ?_, D, _, n, c5, cs', kids.map (forceP D), rfl, rfl, hD4, hn, ?_, fun c hc => ?_⟩
          · with_reducible (repeat first | exact Kx.r _ | assumption | refine Kx.a ?_ _ | refine Kx.d ?_ | refine Kx.e ?_ _ | refine Kx.s (by simp <;> omega) ?_ _ | refine Kx.t ?_ (by assumption))
          · have hnf : ¬ orNew (Go.Kf.old F w.heap.size) w5.heap.size w.heap.size := by simp [orNew, Go.Kf.old]; omega
            have hk2 : Stab.Keeps w wr := Stab.Keeps.trans hkw hk
            have hU2 : Upd w wr (orNew (Go.Kf.old F w.heap.size) w5.heap.size) GeoR fb n n 2 cs' css (kids.map (forceP D)) := ⟨hk2, hU.room, hU.filled, hU.lc, hU.each, hU.lo, hU.eacho, hU.is, hU.lt, by omega, hU.nin⟩
            exact ((hU2.past geoS (by omega) hnf (by omega) _).past geoS (by omega) hnf (by omega) _).rows geoS (by rw [List.length_map]; exact HLK.out) hnc (by unfold maxLen; omega) (fun b _ hb => on_mono (by omega) hb) (.inr (by omega))
          · obtain ⟨q, _, rfl⟩ := List.mem_map.1 hc
            exact forceP_dim D q
set_option maxRecDepth 100000 in
theorem newGc0_ {F : Nat → Prop} (a : Option Addr) (cap : Nat) (w : World) : Calls Tryz.prog 95 #[.slice a 0 cap] w (RetR w F GcR (wholeP 0 0 [])) := by
  go_enter Tryz.func95, Tryz.ntmps95
  go_wp2_with fail
  refine bodyPost_ret (v := .agg #[.slice none 0 0, .int .u8 0]) (by simp [results, Tryz.results95, go_sem]) rfl ⟨[.slice none 0 0, .int .u8 0], rfl, ?_, 0, none, 0, 0, [], [], rfl, rfl, by omega, by omega, Go.Kf.Rows.nil _ _ _ _, fun c hc => by simp at hc⟩
  with_reducible (repeat first | exact Kx.r _ | assumption | refine Kx.a ?_ _ | refine Kx.d ?_ | refine Kx.e ?_ _ | refine Kx.s (by simp <;> omega) ?_ _ | refine Kx.t ?_ (by assumption))
end Go.Proofs.YtbakhldjfplbfaaGreat
