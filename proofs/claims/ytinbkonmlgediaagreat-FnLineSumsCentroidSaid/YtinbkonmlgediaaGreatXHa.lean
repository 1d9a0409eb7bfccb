/-
  Polygons, multis and collections brought to another type of coordinates. No condition.
  Polygons, multis made of parts. No condition.
  Multis of points: brought to another type of coordinates, made of parts; wholes as geometries. No condition.
-/
import Derived.Test.YtinbkonmlgediaaGreatXRl
set_option linter.unusedVariables false
set_option linter.unusedSimpArgs false
namespace Go.Proofs.YtinbkonmlgediaaGreat
open Go.RowKit Go.Fl Go.Sl Go.Pg Go.Ch Go.Kf
theorem infoLs : (Tryz.prog.info? 51).map (fun i => (i.zero, i.size, i.bytes)) = some (some (.agg #[.int .u8 0, .slice none 0 0]), 2, 32) := by kernel_rfl
theorem infoPy : (Tryz.prog.info? 78).map (fun i => (i.zero, i.size, i.bytes)) = some (some (.agg #[.slice none 0 0, .int .u8 0]), 2, 32) := by kernel_rfl
theorem infoGeo : (Tryz.prog.info? 63).map (fun i => (i.zero, i.size, i.bytes)) = some (some (.agg #[.int .i64 0, .nilIface]), 2, 24) := by kernel_rfl
theorem infoPt : (Tryz.prog.info? 60).map (fun i => (i.zero, i.size, i.bytes)) = some (some (.agg #[.float .f64 0, .float .f64 0, .float .f64 0, .float .f64 0, .int .u8 0, .bool false]), 6, 48) := by kernel_rfl
theorem run_makeN {P : Program} (t e : TypeId) (z : Value) (size bytes n : Nat) (ht : P.underlying t = some (.slice e)) (hi : (P.info? e).map (fun i => (i.zero, i.size, i.bytes)) = some (some z, size, bytes)) (hb : (bytes : Int) * n ≤ 281474976710656) (hn : n ≤ 9223372036854775807) (w : World) :
    (Instr.makeSlice t (.int .i64 n) (.int .i64 n)).run P w = .ok (.slice (some ⟨w.heap.size, 0, none⟩) n n) (w.alloc (.cells (madeCells z.cells (n * size)) e)) := by
  obtain ⟨i0, h0, h1, h2, h3⟩ := info_parts hi
  have := run_make (P := P) w t e i0 z ht h0 h1 .i64 .i64 n n (by omega) (Int.le_refl _) (by rw [h3]; exact hb) (by omega)
  rw [h2] at this
  simpa using this
set_option maxRecDepth 100000 in
set_option maxHeartbeats 2000000 in
theorem forcePy_ {F : Nat → Prop} (d' : Nat) (hd' : d' < 4) (cs : List Value) (p : Pg) (w : World) (h : PyR w F cs p) : Calls Tryz.prog 79 #[.agg cs.toArray, .int .u8 d'] w (RetR w F PyR (forceP d' p)) := by
  obtain ⟨d, a, n, cap, css, kids, rfl, rfl, hd, hn, hR, hdim⟩ := h
  have hmk := fun w => run_makeN (P := Tryz.prog) 76 51 _ 2 32 n Tryz.underlying76 infoLs (by omega) (by omega) w
  have hle := hR.sz.sz.le
  have hmx := hR.sz.sz.max
  unfold maxLen at hmx
  have hlk := hR.lx
  have hR0 := hR.mono (G := Go.Kf.old F w.heap.size) (fun b h1 h2 => ⟨h2, h1⟩) (fun c x hx => lsS.mono hx fun b h1 h2 => ⟨h2, h1⟩)
  have HLK := Lib.hid hlk
  have HDM := Lib.hid hdim
  clear hR hlk hdim hd
  go_enter Tryz.func79, Tryz.ntmps79
  go_wp2_with fail
  have hB0 : Blk ((w.alloc (.cells #[.slice a n cap, .int .u8 d] 78)).alloc (.cells #[.slice none 0 0, .int .u8 0] 78)) w.heap.size 78 [.slice a n cap, .int .u8 d] := by with_reducible (repeat first | assumption | (refine Bx.n ⟨?_, ?_⟩ <;> focus (first | rfl | (simp; done) | omega)) | refine Bx.a ?_ _ | refine Bx.d ?_ | refine Bx.e ?_ _ | refine Bx.p (by first | omega | simp <;> omega) ?_)
  have hB1 : Blk ((w.alloc (.cells #[.slice a n cap, .int .u8 d] 78)).alloc (.cells #[.slice none 0 0, .int .u8 0] 78)) (w.heap.size + 1) 78 [.slice none 0 0, .int .u8 0] := by with_reducible (repeat first | assumption | (refine Bx.n ⟨?_, ?_⟩ <;> focus (first | rfl | (simp; done) | omega)) | refine Bx.a ?_ _ | refine Bx.d ?_ | refine Bx.e ?_ _ | refine Bx.p (by first | omega | simp <;> omega) ?_)
  have hkw : Stab.Keeps w ((w.alloc (.cells #[.slice a n cap, .int .u8 d] 78)).alloc (.cells #[.slice none 0 0, .int .u8 0] 78)) := by with_reducible (repeat first | exact Kx.r _ | assumption | refine Kx.a ?_ _ | refine Kx.d ?_ | refine Kx.e ?_ _ | refine Kx.s (by simp <;> omega) ?_ _ | refine Kx.t ?_ (by assumption))
  have hsz : ((w.alloc (.cells #[.slice a n cap, .int .u8 d] 78)).alloc (.cells #[.slice none 0 0, .int .u8 0] 78)).heap.size = w.heap.size + 1 + 1 := by simp
  have hFl := Fill.start w ((w.alloc (.cells #[.slice a n cap, .int .u8 d] 78)).alloc (.cells #[.slice none 0 0, .int .u8 0] 78)) (orNew (Go.Kf.old F w.heap.size) (w.heap.size + 1 + 1 + 1)) LsR n 2 (madeCells (#[.int .u8 0, .slice none 0 0]) (n * 2)) 51 (kids.map (forceP d')) hkw (size_madeCells _ _) (by simp [orNew, Go.Kf.old]; omega)
  rw [hsz] at hFl
  have hB0' := hB0.alloc (.cells (madeCells (#[.int .u8 0, .slice none 0 0]) (n * 2)) 51)
  have hB1' := hB1.alloc (.cells (madeCells (#[.int .u8 0, .slice none 0 0]) (n * 2)) 51)
  generalize ((w.alloc (.cells #[.slice a n cap, .int .u8 d] 78)).alloc (.cells #[.slice none 0 0, .int .u8 0] 78)).alloc (.cells (madeCells (#[.int .u8 0, .slice none 0 0]) (n * 2)) 51) = W at hFl hB0' hB1' ⊢
  clear hB0 hB1 hkw hsz hmk
  have m0 := hB0'.cell (i := 0) rfl
  have ml := hB0'.lt
  go_wp2_with fail
  go_loopw [14] (fun iv wr => ∃ (k : Nat) (cs' : List (List Value)), k ≤ n ∧ iv = .int .i64 k ∧ Blk wr w.heap.size 78 [.slice a n cap, .int .u8 d] ∧ Blk wr (w.heap.size + 1) 78 [.slice none 0 0, .int .u8 0] ∧ Fill w wr (orNew (Go.Kf.old F w.heap.size) (w.heap.size + 1 + 1 + 1)) LsR (w.heap.size + 1 + 1) n k 2 cs' (kids.map (forceP d'))) (fun iv _ => n - (intOf iv).toNat)
  case atStart => exact ⟨0, [], by omega, rfl, hB0', hB1', hFl⟩
  case round =>
    clear hFl hB0' hB1' m0 ml
    obtain ⟨k, cs', k2, rfl, hB0, hB1, hFl⟩ := hrel
    by_cases hlt : k < n
    · obtain ⟨b, off, c, ha, hb, _, _, hc2, hcc, hx⟩ := (hR0.kf (KF.keeps hFl.keeps) (fun c x hx => lsS.kf hx (KF.keeps hFl.keeps))).elem hlt
      obtain ⟨dq, aq, nq, cq, rfl⟩ := hx.two
      subst ha
      have e0 : wr.cell? ⟨b, off + k * 2, none⟩ = some (.int .u8 dq) := by have := hcc 0 _ rfl; simpa using this
      have e1 : wr.cell? ⟨b, off + k * 2 + 1, none⟩ = some (.slice aq nq cq) := hcc 1 _ rfl
      have hF1 := fun w' (hk : Stab.Keeps wr w') => forceLs_ d' hd' [.int .u8 dq, .slice aq nq cq] _ w' (lsS.kf hx (KF.keeps hk))
      have hkk : k < kids.length := by have := HLK.out; omega
      generalize hke : kids[k] = kid at *
      have HKE := Lib.hid hke
      clear hcc hx hke
      have m0 := hB0.cell (i := 0) rfl
      have ml := hB0.lt
      go_wp2_with fail
      refine (hF1 _ (Stab.Keeps.refl _)).mono ?_
      clear hF1
      rintro e w4 ⟨cs4, rfl, hk4, hx4⟩
      obtain ⟨dz, az, nz, cz, rfl⟩ := hx4.two
      have hlw : w.heap.size + 1 + 1 < wr.heap.size := hFl.lt
      have hFl4 := hFl.keep lsS hk4
      have hB04 := hB0.keep hk4
      have hB14 := hB1.keep hk4
      have hx5 := lsS.mono (G := orNew (Go.Kf.old F w.heap.size) (w.heap.size + 1 + 1 + 1)) hx4 (fun b _ hb => on_old (by omega) hb)
      have hkm : k < (kids.map (forceP d')).length := by simpa using hkk
      have hxe : (kids.map (forceP d'))[k] = forceP d' kid := by rw [List.getElem_map, HKE.out]
      rw [← hxe] at hx5
      have hFl5 := hFl4.put2 lsS hlt hkm hx5
      obtain ⟨x0, r0⟩ := hFl4.room.cell (k * 2) (by omega)
      obtain ⟨x1, r1⟩ := hFl4.room.cell (k * 2 + 1) (by omega)
      have rf := hFl4.room.free
      have hl4 := hFl4.lt
      clear hFl hFl4 hB0 hB1 hx4 hx5 hxe hkm e0 e1 m0 ml hk4 hlw
      go_wp2_with fail
      go_roundw
      case rel =>
        refine ⟨k + 1, _, by omega, by go_num, ?_, ?_, hFl5⟩
        · with_reducible (repeat first | assumption | (refine Bx.n ⟨?_, ?_⟩ <;> focus (first | rfl | (simp; done) | omega)) | refine Bx.a ?_ _ | refine Bx.d ?_ | refine Bx.e ?_ _ | refine Bx.p (by first | omega | simp <;> omega) ?_)
        · with_reducible (repeat first | assumption | (refine Bx.n ⟨?_, ?_⟩ <;> focus (first | rfl | (simp; done) | omega)) | refine Bx.a ?_ _ | refine Bx.d ?_ | refine Bx.e ?_ _ | refine Bx.p (by first | omega | simp <;> omega) ?_)
      case measure => simp [intOf]; omega
    · obtain rfl : n = k := by omega
      have r0 := hB1.cell (i := 0) rfl
      have r1 := hB1.cell (i := 1) rfl
      have rf := hB1.free
      have rl := hB1.lt
      go_wp2_with fail
      refine bodyPost_ret (v := .agg #[.slice (some ⟨w.heap.size + 1 + 1, 0, none⟩) n n, .int .u8 d']) (by simp [results, Tryz.results79, go_sem, *]) rfl ⟨[.slice (some ⟨w.heap.size + 1 + 1, 0, none⟩) n n, .int .u8 d'], rfl, ?_, d', _, n, n, cs', kids.map (forceP d'), rfl, by rw [forceP_eq]; rfl, hd', hn, ?_, fun c hc => ?_⟩
      · have := hFl.keeps
        with_reducible (repeat first | exact Kx.r _ | assumption | refine Kx.a ?_ _ | refine Kx.d ?_ | refine Kx.e ?_ _ | refine Kx.s (by simp <;> omega) ?_ _ | refine Kx.t ?_ (by assumption))
      · exact ((hFl.past lsS (by omega) (by simp [orNew, Go.Kf.old]; omega) (by omega) _).past lsS (by omega) (by simp [orNew, Go.Kf.old]; omega) (by omega) _).rows lsS (by rw [List.length_map]; exact HLK.out) (by unfold maxLen; omega) (fun b _ hb => on_mono (by omega) hb) (.inr (by omega))
      · obtain ⟨q, _, rfl⟩ := List.mem_map.1 hc
        exact forceP_dim d' q
set_option maxRecDepth 100000 in
set_option maxHeartbeats 2000000 in
theorem forceMl_ {F : Nat → Prop} (d' : Nat) (hd' : d' < 4) (cs : List Value) (p : Pg) (w : World) (h : MlR w F cs p) : Calls Tryz.prog 83 #[.agg cs.toArray, .int .u8 d'] w (RetR w F MlR (forceP d' p)) := by
  obtain ⟨d, a, n, cap, css, kids, rfl, rfl, hd, hn, hR, hdim⟩ := h
  have hmk := fun w => run_makeN (P := Tryz.prog) 76 51 _ 2 32 n Tryz.underlying76 infoLs (by omega) (by omega) w
  have hle := hR.sz.sz.le
  have hmx := hR.sz.sz.max
  unfold maxLen at hmx
  have hlk := hR.lx
  have hR0 := hR.mono (G := Go.Kf.old F w.heap.size) (fun b h1 h2 => ⟨h2, h1⟩) (fun c x hx => lsS.mono hx fun b h1 h2 => ⟨h2, h1⟩)
  have HLK := Lib.hid hlk
  have HDM := Lib.hid hdim
  clear hR hlk hdim hd
  go_enter Tryz.func83, Tryz.ntmps83
  go_wp2_with fail
  have hB0 : Blk ((w.alloc (.cells #[.slice a n cap, .int .u8 d] 85)).alloc (.cells #[.slice none 0 0, .int .u8 0] 85)) w.heap.size 85 [.slice a n cap, .int .u8 d] := by with_reducible (repeat first | assumption | (refine Bx.n ⟨?_, ?_⟩ <;> focus (first | rfl | (simp; done) | omega)) | refine Bx.a ?_ _ | refine Bx.d ?_ | refine Bx.e ?_ _ | refine Bx.p (by first | omega | simp <;> omega) ?_)
  have hB1 : Blk ((w.alloc (.cells #[.slice a n cap, .int .u8 d] 85)).alloc (.cells #[.slice none 0 0, .int .u8 0] 85)) (w.heap.size + 1) 85 [.slice none 0 0, .int .u8 0] := by with_reducible (repeat first | assumption | (refine Bx.n ⟨?_, ?_⟩ <;> focus (first | rfl | (simp; done) | omega)) | refine Bx.a ?_ _ | refine Bx.d ?_ | refine Bx.e ?_ _ | refine Bx.p (by first | omega | simp <;> omega) ?_)
  have hkw : Stab.Keeps w ((w.alloc (.cells #[.slice a n cap, .int .u8 d] 85)).alloc (.cells #[.slice none 0 0, .int .u8 0] 85)) := by with_reducible (repeat first | exact Kx.r _ | assumption | refine Kx.a ?_ _ | refine Kx.d ?_ | refine Kx.e ?_ _ | refine Kx.s (by simp <;> omega) ?_ _ | refine Kx.t ?_ (by assumption))
  have hsz : ((w.alloc (.cells #[.slice a n cap, .int .u8 d] 85)).alloc (.cells #[.slice none 0 0, .int .u8 0] 85)).heap.size = w.heap.size + 1 + 1 := by simp
  have hFl := Fill.start w ((w.alloc (.cells #[.slice a n cap, .int .u8 d] 85)).alloc (.cells #[.slice none 0 0, .int .u8 0] 85)) (orNew (Go.Kf.old F w.heap.size) (w.heap.size + 1 + 1 + 1)) LsR n 2 (madeCells (#[.int .u8 0, .slice none 0 0]) (n * 2)) 51 (kids.map (forceP d')) hkw (size_madeCells _ _) (by simp [orNew, Go.Kf.old]; omega)
  rw [hsz] at hFl
  have hB0' := hB0.alloc (.cells (madeCells (#[.int .u8 0, .slice none 0 0]) (n * 2)) 51)
  have hB1' := hB1.alloc (.cells (madeCells (#[.int .u8 0, .slice none 0 0]) (n * 2)) 51)
  generalize ((w.alloc (.cells #[.slice a n cap, .int .u8 d] 85)).alloc (.cells #[.slice none 0 0, .int .u8 0] 85)).alloc (.cells (madeCells (#[.int .u8 0, .slice none 0 0]) (n * 2)) 51) = W at hFl hB0' hB1' ⊢
  clear hB0 hB1 hkw hsz hmk
  have m0 := hB0'.cell (i := 0) rfl
  have ml := hB0'.lt
  go_wp2_with fail
  go_loopw [14] (fun iv wr => ∃ (k : Nat) (cs' : List (List Value)), k ≤ n ∧ iv = .int .i64 k ∧ Blk wr w.heap.size 85 [.slice a n cap, .int .u8 d] ∧ Blk wr (w.heap.size + 1) 85 [.slice none 0 0, .int .u8 0] ∧ Fill w wr (orNew (Go.Kf.old F w.heap.size) (w.heap.size + 1 + 1 + 1)) LsR (w.heap.size + 1 + 1) n k 2 cs' (kids.map (forceP d'))) (fun iv _ => n - (intOf iv).toNat)
  case atStart => exact ⟨0, [], by omega, rfl, hB0', hB1', hFl⟩
  case round =>
    clear hFl hB0' hB1' m0 ml
    obtain ⟨k, cs', k2, rfl, hB0, hB1, hFl⟩ := hrel
    by_cases hlt : k < n
    · obtain ⟨b, off, c, ha, hb, _, _, hc2, hcc, hx⟩ := (hR0.kf (KF.keeps hFl.keeps) (fun c x hx => lsS.kf hx (KF.keeps hFl.keeps))).elem hlt
      obtain ⟨dq, aq, nq, cq, rfl⟩ := hx.two
      subst ha
      have e0 : wr.cell? ⟨b, off + k * 2, none⟩ = some (.int .u8 dq) := by have := hcc 0 _ rfl; simpa using this
      have e1 : wr.cell? ⟨b, off + k * 2 + 1, none⟩ = some (.slice aq nq cq) := hcc 1 _ rfl
      have hF1 := fun w' (hk : Stab.Keeps wr w') => forceLs_ d' hd' [.int .u8 dq, .slice aq nq cq] _ w' (lsS.kf hx (KF.keeps hk))
      have hkk : k < kids.length := by have := HLK.out; omega
      generalize hke : kids[k] = kid at *
      have HKE := Lib.hid hke
      clear hcc hx hke
      have m0 := hB0.cell (i := 0) rfl
      have ml := hB0.lt
      go_wp2_with fail
      refine (hF1 _ (Stab.Keeps.refl _)).mono ?_
      clear hF1
      rintro e w4 ⟨cs4, rfl, hk4, hx4⟩
      obtain ⟨dz, az, nz, cz, rfl⟩ := hx4.two
      have hlw : w.heap.size + 1 + 1 < wr.heap.size := hFl.lt
      have hFl4 := hFl.keep lsS hk4
      have hB04 := hB0.keep hk4
      have hB14 := hB1.keep hk4
      have hx5 := lsS.mono (G := orNew (Go.Kf.old F w.heap.size) (w.heap.size + 1 + 1 + 1)) hx4 (fun b _ hb => on_old (by omega) hb)
      have hkm : k < (kids.map (forceP d')).length := by simpa using hkk
      have hxe : (kids.map (forceP d'))[k] = forceP d' kid := by rw [List.getElem_map, HKE.out]
      rw [← hxe] at hx5
      have hFl5 := hFl4.put2 lsS hlt hkm hx5
      obtain ⟨x0, r0⟩ := hFl4.room.cell (k * 2) (by omega)
      obtain ⟨x1, r1⟩ := hFl4.room.cell (k * 2 + 1) (by omega)
      have rf := hFl4.room.free
      have hl4 := hFl4.lt
      clear hFl hFl4 hB0 hB1 hx4 hx5 hxe hkm e0 e1 m0 ml hk4 hlw
      go_wp2_with fail
      go_roundw
      case rel =>
        refine ⟨k + 1, _, by omega, by go_num, ?_, ?_, hFl5⟩
        · with_reducible (repeat first | assumption | (refine Bx.n ⟨?_, ?_⟩ <;> focus (first | rfl | (simp; done) | omega)) | refine Bx.a ?_ _ | refine Bx.d ?_ | refine Bx.e ?_ _ | refine Bx.p (by first | omega | simp <;> omega) ?_)
        · with_reducible (repeat first | assumption | (refine Bx.n ⟨?_, ?_⟩ <;> focus (first | rfl | (simp; done) | omega)) | refine Bx.a ?_ _ | refine Bx.d ?_ | refine Bx.e ?_ _ | refine Bx.p (by first | omega | simp <;> omega) ?_)
      case measure => simp [intOf]; omega
    · obtain rfl : n = k := by omega
      have r0 := hB1.cell (i := 0) rfl
      have r1 := hB1.cell (i := 1) rfl
      have rf := hB1.free
      have rl := hB1.lt
      go_wp2_with fail
      refine bodyPost_ret (v := .agg #[.slice (some ⟨w.heap.size + 1 + 1, 0, none⟩) n n, .int .u8 d']) (by simp [results, Tryz.results83, go_sem, *]) rfl ⟨[.slice (some ⟨w.heap.size + 1 + 1, 0, none⟩) n n, .int .u8 d'], rfl, ?_, d', _, n, n, cs', kids.map (forceP d'), rfl, by rw [forceP_eq]; rfl, hd', hn, ?_, fun c hc => ?_⟩
      · have := hFl.keeps
        with_reducible (repeat first | exact Kx.r _ | assumption | refine Kx.a ?_ _ | refine Kx.d ?_ | refine Kx.e ?_ _ | refine Kx.s (by simp <;> omega) ?_ _ | refine Kx.t ?_ (by assumption))
      · exact ((hFl.past lsS (by omega) (by simp [orNew, Go.Kf.old]; omega) (by omega) _).past lsS (by omega) (by simp [orNew, Go.Kf.old]; omega) (by omega) _).rows lsS (by rw [List.length_map]; exact HLK.out) (by unfold maxLen; omega) (fun b _ hb => on_mono (by omega) hb) (.inr (by omega))
      · obtain ⟨q, _, rfl⟩ := List.mem_map.1 hc
        exact forceP_dim d' q
set_option maxRecDepth 100000 in
set_option maxHeartbeats 2000000 in
theorem forceMy_ {F : Nat → Prop} (d' : Nat) (hd' : d' < 4) (cs : List Value) (p : Pg) (w : World) (h : MyR w F cs p) : Calls Tryz.prog 85 #[.agg cs.toArray, .int .u8 d'] w (RetR w F MyR (forceP d' p)) := by
  obtain ⟨d, a, n, cap, css, kids, rfl, rfl, hd, hn, hR, hdim⟩ := h
  have hmk := fun w => run_makeN (P := Tryz.prog) 87 78 _ 2 32 n Tryz.underlying87 infoPy (by omega) (by omega) w
  have hle := hR.sz.sz.le
  have hmx := hR.sz.sz.max
  unfold maxLen at hmx
  have hlk := hR.lx
  have hR0 := hR.mono (G := Go.Kf.old F w.heap.size) (fun b h1 h2 => ⟨h2, h1⟩) (fun c x hx => pyS.mono hx fun b h1 h2 => ⟨h2, h1⟩)
  have HLK := Lib.hid hlk
  have HDM := Lib.hid hdim
  clear hR hlk hdim hd
  go_enter Tryz.func85, Tryz.ntmps85
  go_wp2_with fail
  have hB0 : Blk ((w.alloc (.cells #[.slice a n cap, .int .u8 d] 89)).alloc (.cells #[.slice none 0 0, .int .u8 0] 89)) w.heap.size 89 [.slice a n cap, .int .u8 d] := by with_reducible (repeat first | assumption | (refine Bx.n ⟨?_, ?_⟩ <;> focus (first | rfl | (simp; done) | omega)) | refine Bx.a ?_ _ | refine Bx.d ?_ | refine Bx.e ?_ _ | refine Bx.p (by first | omega | simp <;> omega) ?_)
  have hB1 : Blk ((w.alloc (.cells #[.slice a n cap, .int .u8 d] 89)).alloc (.cells #[.slice none 0 0, .int .u8 0] 89)) (w.heap.size + 1) 89 [.slice none 0 0, .int .u8 0] := by with_reducible (repeat first | assumption | (refine Bx.n ⟨?_, ?_⟩ <;> focus (first | rfl | (simp; done) | omega)) | refine Bx.a ?_ _ | refine Bx.d ?_ | refine Bx.e ?_ _ | refine Bx.p (by first | omega | simp <;> omega) ?_)
  have hkw : Stab.Keeps w ((w.alloc (.cells #[.slice a n cap, .int .u8 d] 89)).alloc (.cells #[.slice none 0 0, .int .u8 0] 89)) := by with_reducible (repeat first | exact Kx.r _ | assumption | refine Kx.a ?_ _ | refine Kx.d ?_ | refine Kx.e ?_ _ | refine Kx.s (by simp <;> omega) ?_ _ | refine Kx.t ?_ (by assumption))
  have hsz : ((w.alloc (.cells #[.slice a n cap, .int .u8 d] 89)).alloc (.cells #[.slice none 0 0, .int .u8 0] 89)).heap.size = w.heap.size + 1 + 1 := by simp
  have hFl := Fill.start w ((w.alloc (.cells #[.slice a n cap, .int .u8 d] 89)).alloc (.cells #[.slice none 0 0, .int .u8 0] 89)) (orNew (Go.Kf.old F w.heap.size) (w.heap.size + 1 + 1 + 1)) PyR n 2 (madeCells (#[.slice none 0 0, .int .u8 0]) (n * 2)) 78 (kids.map (forceP d')) hkw (size_madeCells _ _) (by simp [orNew, Go.Kf.old]; omega)
  rw [hsz] at hFl
  have hB0' := hB0.alloc (.cells (madeCells (#[.slice none 0 0, .int .u8 0]) (n * 2)) 78)
  have hB1' := hB1.alloc (.cells (madeCells (#[.slice none 0 0, .int .u8 0]) (n * 2)) 78)
  generalize ((w.alloc (.cells #[.slice a n cap, .int .u8 d] 89)).alloc (.cells #[.slice none 0 0, .int .u8 0] 89)).alloc (.cells (madeCells (#[.slice none 0 0, .int .u8 0]) (n * 2)) 78) = W at hFl hB0' hB1' ⊢
  clear hB0 hB1 hkw hsz hmk
  have m0 := hB0'.cell (i := 0) rfl
  have ml := hB0'.lt
  go_wp2_with fail
  go_loopw [14] (fun iv wr => ∃ (k : Nat) (cs' : List (List Value)), k ≤ n ∧ iv = .int .i64 k ∧ Blk wr w.heap.size 89 [.slice a n cap, .int .u8 d] ∧ Blk wr (w.heap.size + 1) 89 [.slice none 0 0, .int .u8 0] ∧ Fill w wr (orNew (Go.Kf.old F w.heap.size) (w.heap.size + 1 + 1 + 1)) PyR (w.heap.size + 1 + 1) n k 2 cs' (kids.map (forceP d'))) (fun iv _ => n - (intOf iv).toNat)
  case atStart => exact ⟨0, [], by omega, rfl, hB0', hB1', hFl⟩
  case round =>
    clear hFl hB0' hB1' m0 ml
    obtain ⟨k, cs', k2, rfl, hB0, hB1, hFl⟩ := hrel
    by_cases hlt : k < n
    · obtain ⟨b, off, c, ha, hb, _, _, hc2, hcc, hx⟩ := (hR0.kf (KF.keeps hFl.keeps) (fun c x hx => pyS.kf hx (KF.keeps hFl.keeps))).elem hlt
      obtain ⟨aq, nq, cq, dq, rfl⟩ := hx.two
      subst ha
      have e0 : wr.cell? ⟨b, off + k * 2, none⟩ = some (.slice aq nq cq) := by have := hcc 0 _ rfl; simpa using this
      have e1 : wr.cell? ⟨b, off + k * 2 + 1, none⟩ = some (.int .u8 dq) := hcc 1 _ rfl
      have hF1 := fun w' (hk : Stab.Keeps wr w') => forcePy_ d' hd' [.slice aq nq cq, .int .u8 dq] _ w' (pyS.kf hx (KF.keeps hk))
      have hkk : k < kids.length := by have := HLK.out; omega
      generalize hke : kids[k] = kid at *
      have HKE := Lib.hid hke
      clear hcc hx hke
      have m0 := hB0.cell (i := 0) rfl
      have ml := hB0.lt
      go_wp2_with fail
      refine (hF1 _ (Stab.Keeps.refl _)).mono ?_
      clear hF1
      rintro e w4 ⟨cs4, rfl, hk4, hx4⟩
      obtain ⟨az, nz, cz, dz, rfl⟩ := hx4.two
      have hlw : w.heap.size + 1 + 1 < wr.heap.size := hFl.lt
      have hFl4 := hFl.keep pyS hk4
      have hB04 := hB0.keep hk4
      have hB14 := hB1.keep hk4
      have hx5 := pyS.mono (G := orNew (Go.Kf.old F w.heap.size) (w.heap.size + 1 + 1 + 1)) hx4 (fun b _ hb => on_old (by omega) hb)
      have hkm : k < (kids.map (forceP d')).length := by simpa using hkk
      have hxe : (kids.map (forceP d'))[k] = forceP d' kid := by rw [List.getElem_map, HKE.out]
      rw [← hxe] at hx5
      have hFl5 := hFl4.put2 pyS hlt hkm hx5
      obtain ⟨x0, r0⟩ := hFl4.room.cell (k * 2) (by omega)
      obtain ⟨x1, r1⟩ := hFl4.room.cell (k * 2 + 1) (by omega)
      have rf := hFl4.room.free
      have hl4 := hFl4.lt
      clear hFl hFl4 hB0 hB1 hx4 hx5 hxe hkm e0 e1 m0 ml hk4 hlw
      go_wp2_with fail
      go_roundw
      case rel =>
        refine ⟨k + 1, _, by omega, by go_num, ?_, ?_, hFl5⟩
        · with_reducible (repeat first | assumption | (refine Bx.n ⟨?_, ?_⟩ <;> focus (first | rfl | (simp; done) | omega)) | refine Bx.a ?_ _ | refine Bx.d ?_ | refine Bx.e ?_ _ | refine Bx.p (by first | omega | simp <;> omega) ?_)
        · with_reducible (repeat first | assumption | (refine Bx.n ⟨?_, ?_⟩ <;> focus (first | rfl | (simp; done) | omega)) | refine Bx.a ?_ _ | refine Bx.d ?_ | refine Bx.e ?_ _ | refine Bx.p (by first | omega | simp <;> omega) ?_)
      case measure => simp [intOf]; omega
    · obtain rfl : n = k := by omega
      have r0 := hB1.cell (i := 0) rfl
      have r1 := hB1.cell (i := 1) rfl
      have rf := hB1.free
      have rl := hB1.lt
      go_wp2_with fail
      refine bodyPost_ret (v := .agg #[.slice (some ⟨w.heap.size + 1 + 1, 0, none⟩) n n, .int .u8 d']) (by simp [results, Tryz.results85, go_sem, *]) rfl ⟨[.slice (some ⟨w.heap.size + 1 + 1, 0, none⟩) n n, .int .u8 d'], rfl, ?_, d', _, n, n, cs', kids.map (forceP d'), rfl, by rw [forceP_eq]; rfl, hd', hn, ?_, fun c hc => ?_⟩
      · have := hFl.keeps
        with_reducible (repeat first | exact Kx.r _ | assumption | refine Kx.a ?_ _ | refine Kx.d ?_ | refine Kx.e ?_ _ | refine Kx.s (by simp <;> omega) ?_ _ | refine Kx.t ?_ (by assumption))
      · exact ((hFl.past pyS (by omega) (by simp [orNew, Go.Kf.old]; omega) (by omega) _).past pyS (by omega) (by simp [orNew, Go.Kf.old]; omega) (by omega) _).rows pyS (by rw [List.length_map]; exact HLK.out) (by unfold maxLen; omega) (fun b _ hb => on_mono (by omega) hb) (.inr (by omega))
      · obtain ⟨q, _, rfl⟩ := List.mem_map.1 hc
        exact forceP_dim d' q
end Go.Proofs.YtinbkonmlgediaaGreat
set_option linter.unusedVariables false
set_option linter.unusedSimpArgs false
namespace Go.Proofs.YtinbkonmlgediaaGreat
open Go.RowKit Go.Fl Go.Sl Go.Pg Go.Ch Go.Kf
theorem LsR.ones {w : World} {F : Nat → Prop} {cs : List Value} {p : Pg} (h : LsR w F cs p) : ∀ u ∈ cs, u.oneCell' = true := by
  obtain ⟨d, a, n, c, rfl⟩ := h.two
  intro u hu; simp at hu; rcases hu with rfl | rfl <;> rfl
theorem WholeR.ones {k : Nat} {R : World → (Nat → Prop) → List Value → Pg → Prop} {kc : Nat} {w : World} {F : Nat → Prop} {cs : List Value} {p : Pg} (h : WholeR k R kc w F cs p) : ∀ u ∈ cs, u.oneCell' = true := by
  obtain ⟨a, n, c, d, rfl⟩ := h.two
  intro u hu; simp at hu; rcases hu with rfl | rfl <;> rfl
theorem GeoR.ones {w : World} {F : Nat → Prop} {cs : List Value} {p : Pg} (h : GeoR w F cs p) : ∀ u ∈ cs, u.oneCell' = true := by
  obtain ⟨k, t, b, rfl⟩ := h.two
  intro u hu; simp at hu; rcases hu with rfl | rfl <;> rfl
theorem PtR.ones {w : World} {F : Nat → Prop} {cs : List Value} {p : Pg} (h : PtR w F cs p) : ∀ u ∈ cs, u.oneCell' = true := by
  obtain ⟨x, y, z, m, d, f, rfl⟩ := h.six
  intro u hu; simp at hu; rcases hu with rfl | rfl | rfl | rfl | rfl | rfl <;> rfl
theorem rows_ones {w : World} {F : Nat → Prop} {R : World → (Nat → Prop) → List Value → Pg → Prop} {a : Option Addr} {n cap k : Nat} {css : List (List Value)} {xs : List Pg} (h : Go.Kf.Rows w F R a n cap k css xs) (ho : ∀ {c x}, R w F c x → ∀ u ∈ c, u.oneCell' = true) : ∀ u ∈ css.flatten, u.oneCell' = true := by
  intro u hu
  obtain ⟨c, hc, hu⟩ := List.mem_flatten.1 hu
  obtain ⟨i, hi, rfl⟩ := List.mem_iff_getElem.1 hc
  exact ho (h.is i hi (by rw [h.lx, ← h.lc]; exact hi)) u hu
theorem and_u8 (x y : Nat) (hx : x < 4) (hy : y < 4) : bits .and .u8 (x : Int) (y : Int) = ((x &&& y : Nat) : Int) := by
  have h1 : x = 0 ∨ x = 1 ∨ x = 2 ∨ x = 3 := by omega
  have h2 : y = 0 ∨ y = 1 ∨ y = 2 ∨ y = 3 := by omega
  rcases h1 with rfl | rfl | rfl | rfl <;> rcases h2 with rfl | rfl | rfl | rfl <;> decide
/-- what a part's type is -/
theorem LsR.dim {w : World} {F : Nat → Prop} {cs : List Value} {p : Pg} (h : LsR w F cs p) : p.dim < 4 := by obtain ⟨_, _, _, _, _, _, rfl, h⟩ := h; exact h.d4
theorem PtR.dim {w : World} {F : Nat → Prop} {cs : List Value} {p : Pg} (h : PtR w F cs p) : p.dim < 4 := by obtain ⟨_, _, _, rfl, h, _⟩ := h; exact h
theorem WholeR.dim {k : Nat} {R : World → (Nat → Prop) → List Value → Pg → Prop} {kc : Nat} {w : World} {F : Nat → Prop} {cs : List Value} {p : Pg} (h : WholeR k R kc w F cs p) : p.dim < 4 := by obtain ⟨_, _, _, _, _, _, _, rfl, h, _⟩ := h; exact h
set_option maxRecDepth 100000 in
set_option maxHeartbeats 2000000 in
theorem newPyN_ {F : Nat → Prop} (a : Option Addr) (n cap : Nat) (css : List (List Value)) (kids : List Pg) (w : World) (hn0 : 0 < n) (hn : n ≤ 250000) (hR : Go.Kf.Rows w F LsR a n cap 2 css kids) :
    Calls Tryz.prog 80 #[.slice a n cap] w (RetR w F PyR (wholeP 3 0 kids)) := by
  obtain ⟨i0, hi, hz0, hz1, hz2⟩ := info_parts infoLs
  have hle := hR.sz.sz.le
  have hmx := hR.sz.sz.max
  unfold maxLen at hmx
  have hR0 := hR.mono (G := Go.Kf.old F w.heap.size) (fun b h1 h2 => ⟨h2, h1⟩) (fun c x hx => lsS.mono hx fun b h1 h2 => ⟨h2, h1⟩)
  have hone := rows_ones hR0 (fun h => h.ones)
  have HLK := Lib.hid hR.lx
  have HLC := Lib.hid hR.lc
  have hdk : ∀ i (hi : i < kids.length), kids[i].dim < 4 := fun i hi => (hR.is i (by rw [hR.lc, ← hR.lx]; exact hi) hi).dim
  have HDK := Lib.hid hdk
  have hwh : wholeP 3 0 kids = .node 3 (andD kids) [] (kids.map (forceP (andD kids))) := by
    unfold wholeP
    have : kids ≠ [] := fun h => by have := hR.lx; rw [h] at this; simp at this; omega
    simp [this]
  rw [hwh]
  have g0 : decide (0 < n) = true := decide_eq_true hn0
  have g1 : decide ((n : Int) > 0) = true := decide_eq_true (by omega)
  have g2 : ((n : Int) == 0) = false := by simp; omega
  have g3 : (n == 0) = false := by simp; omega
  have HI := Lib.hid hi
  have HZ0 := Lib.hid hz0
  have HZ1 := Lib.hid hz1
  have HZ2 := Lib.hid hz2
  clear hR hdk hwh hi hz0 hz1 hz2
  go_enter Tryz.func80, Tryz.ntmps80
  go_wp2_with fail
  have hkw : Stab.Keeps w (w.alloc (.cells #[.slice none 0 0, .int .u8 0] 78)) := by with_reducible (repeat first | exact Kx.r _ | assumption | refine Kx.a ?_ _ | refine Kx.d ?_ | refine Kx.e ?_ _ | refine Kx.s (by simp <;> omega) ?_ _ | refine Kx.t ?_ (by assumption))
  have hB1 : Blk (w.alloc (.cells #[.slice none 0 0, .int .u8 0] 78)) w.heap.size 78 [.slice none 0 0, .int .u8 0] := by with_reducible (repeat first | assumption | (refine Bx.n ⟨?_, ?_⟩ <;> focus (first | rfl | (simp; done) | omega)) | refine Bx.a ?_ _ | refine Bx.d ?_ | refine Bx.e ?_ _ | refine Bx.p (by first | omega | simp <;> omega) ?_)
  have hs1 : (w.alloc (.cells #[.slice none 0 0, .int .u8 0] 78)).heap.size = w.heap.size + 1 := by simp
  generalize hw1 : (w.alloc (.cells #[.slice none 0 0, .int .u8 0] 78)) = w1 at *
  clear hw1
  have HS1 := Lib.hid hs1
  clear hs1 g0 g1 g2 g3
  go_loopw [3, 12] (fun cv iv wr => ∃ k : Nat, k ≤ n ∧ iv = .int .i64 k ∧ cv = .int .u8 (andD (kids.take k)) ∧ Stab.Keeps w1 wr) (fun _ iv _ => n - (intOf iv).toNat)
  case atStart => exact ⟨0, by omega, rfl, rfl, Stab.Keeps.refl _⟩
  case round =>
    obtain ⟨k, k2, rfl, rfl, hk⟩ := hrel
    by_cases hlt : k < n
    · have hkW := Stab.Keeps.trans hkw hk
      obtain ⟨b, off, c, ha, hb, _, _, hc2, hcc, hx⟩ := (hR0.kf (KF.keeps hkW) (fun c x hx => lsS.kf hx (KF.keeps hkW))).elem hlt
      obtain ⟨dq, aq, nq, cq, rfl⟩ := hx.two
      subst ha
      have e0 : wr.cell? ⟨b, off + k * 2, none⟩ = some (.int .u8 dq) := by have := hcc 0 _ rfl; simpa using this
      have e1 : wr.cell? ⟨b, off + k * 2 + 1, none⟩ = some (.slice aq nq cq) := hcc 1 _ rfl
      have hkk : k < kids.length := by have := HLK.out; omega
      have hT := fun w' => typeLs_ [.int .u8 dq, .slice aq nq cq] _ w' wr hx
      have hand := and_u8 (andD (kids.take k)) kids[k].dim (andD_lt _) (HDK.out k hkk)
      have hsn : andD (kids.take k) &&& kids[k].dim = andD (kids.take (k + 1)) := by rw [List.take_succ_eq_append_getElem hkk, andD_snoc]
      rw [hsn] at hand
      have hal := andD_lt (kids.take (k + 1))
      generalize kids[k] = kid at *
      generalize hD1 : andD (kids.take (k + 1)) = D1 at *
      have HD1 := Lib.hid hD1
      clear hD1
      generalize andD (kids.take k) = D0 at *
      have hm256 : ((D1 : Nat) : Int) % 256 = D1 := by omega
      clear hcc hx hsn
      go_wp2_with fail
      refine (hT _).mono ?_
      clear hT
      rintro e w4 ⟨rfl, hk4⟩
      have hk5 : Stab.Keeps w1 w4 := by with_reducible (repeat first | exact Kx.r _ | assumption | refine Kx.a ?_ _ | refine Kx.d ?_ | refine Kx.e ?_ _ | refine Kx.s (by simp <;> omega) ?_ _ | refine Kx.t ?_ (by assumption))
      clear e0 e1 hk4
      go_wp2_with fail
      go_roundw
      case rel => exact ⟨k + 1, by omega, by go_num, by rw [HD1.out], hk5⟩
      case measure => simp [intOf]; omega
    · obtain rfl : n = k := by omega
      rw [List.take_of_length_le (by rw [HLK.out]; exact Nat.le_refl _)]
      have hD4 := andD_lt kids
      generalize hDe : andD kids = D at *
      have HDE := Lib.hid hDe
      clear hDe
      have hkW := Stab.Keeps.trans hkw hk
      have hSz := (hR0.kf (KF.keeps hkW) (fun c x hx => lsS.kf hx (KF.keeps hkW))).sz.sz
      go_wp2_with (at_builtin; (refine append_sz (w0 := w1) rfl _ _ 76 rfl w1.heap.size 51 i0 _ 2 32 Tryz.underlying76 HI.out HZ0.out HZ1.out HZ2.out rfl (by decide) _ 0 [] rfl (World.ownsRow_nil _ _ _ _) a n cap _ rfl hSz hone (by unfold maxLen; omega) (by omega) hk.size hk ?_))
      intro al c5 w5 hown hk5 hsz5 hgr
      try simp only [Nat.zero_add, List.nil_append] at hown
      have hs1 := HS1.out
      obtain ⟨fb, rfl, hfb, hU, hnc, hcm⟩ := Upd.start (w := w1) (orNew (Go.Kf.old F w.heap.size) w5.heap.size) LsR (kids.map (forceP D)) hk5 hown hn0 (Nat.le_refl _) HLC.out hR0.each (fun b h1 h2 => by simp [orNew, Go.Kf.old]; omega)
      have hfb5 := hU.lt
      clear hown hgr hSz hk hkW hsz5 hs1
      try simp only [Nat.zero_add]
      unfold maxLen at hcm
      go_wp2_with fail
      go_loopw [25] (fun iv wr => ∃ (k : Nat) (cs' : List (List Value)), k ≤ n ∧ iv = .int .i64 k ∧ w5.heap.size ≤ wr.heap.size ∧ Upd w1 wr (orNew (Go.Kf.old F w.heap.size) w5.heap.size) LsR fb n k 2 cs' css (kids.map (forceP D))) (fun iv _ => n - (intOf iv).toNat)
      case atStart => exact ⟨0, [], by omega, rfl, Nat.le_refl _, hU⟩
      case round =>
        clear hU
        obtain ⟨k, cs', k2, rfl, hsz5, hU⟩ := hrel
        have hk := hU.keeps
        have hkW := Stab.Keeps.trans hkw hk
        by_cases hlt : k < n
        · have hkc : k < css.length := by have := HLC.out; omega
          have hkk : k < kids.length := by have := HLK.out; omega
          have hx := lsS.kf (hR0.is k hkc hkk) (KF.keeps hkW)
          have hcc := fun j v hv => hU.cell hlt (j := j) (v := v) hv
          generalize hce : css[k] = c at *
          obtain ⟨dq, aq, nq, cq, rfl⟩ := hx.two
          have HCE := Lib.hid hce
          clear hce
          have e0 : wr.cell? ⟨fb, k * 2, none⟩ = some (.int .u8 dq) := by have := hcc 0 _ rfl; simpa using this
          have e1 : wr.cell? ⟨fb, k * 2 + 1, none⟩ = some (.slice aq nq cq) := hcc 1 _ rfl
          have hF1 := fun w' (hk : Stab.Keeps wr w') => forceLs_ D hD4 [.int .u8 dq, .slice aq nq cq] _ w' (lsS.kf hx (KF.keeps hk))
          generalize hke : kids[k] = kid at *
          have HKE := Lib.hid hke
          have hfl := hU.lt
          clear hcc hx hke
          go_wp2_with fail
          refine (hF1 _ (Stab.Keeps.refl _)).mono ?_
          clear hF1
          rintro e w6 ⟨cs4, rfl, hk4, hx4⟩
          obtain ⟨dz, az, nz, cz, rfl⟩ := hx4.two
          have hU4 := hU.keep lsS hk4
          have hx5 := lsS.mono (G := orNew (Go.Kf.old F w.heap.size) w5.heap.size) hx4 (fun b _ hb => on_old hsz5 hb)
          have hkm : k < (kids.map (forceP D)).length := by simpa using hkk
          have hxe : (kids.map (forceP D))[k] = forceP D kid := by rw [List.getElem_map, HKE.out]
          rw [← hxe] at hx5
          have hU5 := hU4.put2 lsS hlt hkm hx5
          have hsz6 : w5.heap.size ≤ w6.heap.size := Nat.le_trans hsz5 hk4.size
          obtain ⟨x0, r0⟩ := hU4.room.cell (k * 2) (by omega)
          obtain ⟨x1, r1⟩ := hU4.room.cell (k * 2 + 1) (by omega)
          have rf := hU4.room.free
          have hl4 := hU4.lt
          clear hU hU4 hx4 hx5 hxe hkm e0 e1 hk4 hfl
          go_wp2_with fail
          go_roundw
          case rel => exact ⟨k + 1, _, by omega, by go_num, by simpa using hsz6, hU5⟩
          case measure => simp [intOf]; omega
        · obtain rfl : n = k := by omega
          have hB2 := hB1.keep hk
          have r0 := hB2.cell (i := 0) rfl
          have r1 := hB2.cell (i := 1) rfl
          have rf := hB2.free
          have rl := hB2.lt
          have hs1 := HS1.out
          go_wp2_with fail
          refine bodyPost_ret (v := .agg #[.slice (some ⟨fb, 0, none⟩) n c5, .int .u8 D]) (by simp [results, Tryz.results80, go_sem, *]) rfl ⟨[.slice (some ⟨fb, 0, none⟩) n c5, .int .u8 D], rfl, ?_, D, _, n, c5, cs', kids.map (forceP D), rfl, rfl, hD4, hn, ?_, fun c hc => ?_⟩
          · with_reducible (repeat first | exact Kx.r _ | assumption | refine Kx.a ?_ _ | refine Kx.d ?_ | refine Kx.e ?_ _ | refine Kx.s (by simp <;> omega) ?_ _ | refine Kx.t ?_ (by assumption))
          · have hnf : ¬ orNew (Go.Kf.old F w.heap.size) w5.heap.size w.heap.size := by simp [orNew, Go.Kf.old]; omega
            have hk2 : Stab.Keeps w wr := Stab.Keeps.trans hkw hk
            have hU2 : Upd w wr (orNew (Go.Kf.old F w.heap.size) w5.heap.size) LsR fb n n 2 cs' css (kids.map (forceP D)) := ⟨hk2, hU.room, hU.filled, hU.lc, hU.each, hU.lo, hU.eacho, hU.is, hU.lt, by omega, hU.nin⟩
            exact ((hU2.past lsS (by omega) hnf (by omega) _).past lsS (by omega) hnf (by omega) _).rows lsS (by rw [List.length_map]; exact HLK.out) hnc (by unfold maxLen; omega) (fun b _ hb => on_mono (by omega) hb) (.inr (by omega))
          · obtain ⟨q, _, rfl⟩ := List.mem_map.1 hc
            exact forceP_dim D q
set_option maxRecDepth 100000 in
set_option maxHeartbeats 2000000 in
theorem newMlN_ {F : Nat → Prop} (a : Option Addr) (n cap : Nat) (css : List (List Value)) (kids : List Pg) (w : World) (hn0 : 0 < n) (hn : n ≤ 250000) (hR : Go.Kf.Rows w F LsR a n cap 2 css kids) :
    Calls Tryz.prog 84 #[.slice a n cap] w (RetR w F MlR (wholeP 5 0 kids)) := by
  obtain ⟨i0, hi, hz0, hz1, hz2⟩ := info_parts infoLs
  have hle := hR.sz.sz.le
  have hmx := hR.sz.sz.max
  unfold maxLen at hmx
  have hR0 := hR.mono (G := Go.Kf.old F w.heap.size) (fun b h1 h2 => ⟨h2, h1⟩) (fun c x hx => lsS.mono hx fun b h1 h2 => ⟨h2, h1⟩)
  have hone := rows_ones hR0 (fun h => h.ones)
  have HLK := Lib.hid hR.lx
  have HLC := Lib.hid hR.lc
  have hdk : ∀ i (hi : i < kids.length), kids[i].dim < 4 := fun i hi => (hR.is i (by rw [hR.lc, ← hR.lx]; exact hi) hi).dim
  have HDK := Lib.hid hdk
  have hwh : wholeP 5 0 kids = .node 5 (andD kids) [] (kids.map (forceP (andD kids))) := by
    unfold wholeP
    have : kids ≠ [] := fun h => by have := hR.lx; rw [h] at this; simp at this; omega
    simp [this]
  rw [hwh]
  have g0 : decide (0 < n) = true := decide_eq_true hn0
  have g1 : decide ((n : Int) > 0) = true := decide_eq_true (by omega)
  have g2 : ((n : Int) == 0) = false := by simp; omega
  have g3 : (n == 0) = false := by simp; omega
  have HI := Lib.hid hi
  have HZ0 := Lib.hid hz0
  have HZ1 := Lib.hid hz1
  have HZ2 := Lib.hid hz2
  clear hR hdk hwh hi hz0 hz1 hz2
  go_enter Tryz.func84, Tryz.ntmps84
  go_wp2_with fail
  have hkw : Stab.Keeps w (w.alloc (.cells #[.slice none 0 0, .int .u8 0] 85)) := by with_reducible (repeat first | exact Kx.r _ | assumption | refine Kx.a ?_ _ | refine Kx.d ?_ | refine Kx.e ?_ _ | refine Kx.s (by simp <;> omega) ?_ _ | refine Kx.t ?_ (by assumption))
  have hB1 : Blk (w.alloc (.cells #[.slice none 0 0, .int .u8 0] 85)) w.heap.size 85 [.slice none 0 0, .int .u8 0] := by with_reducible (repeat first | assumption | (refine Bx.n ⟨?_, ?_⟩ <;> focus (first | rfl | (simp; done) | omega)) | refine Bx.a ?_ _ | refine Bx.d ?_ | refine Bx.e ?_ _ | refine Bx.p (by first | omega | simp <;> omega) ?_)
  have hs1 : (w.alloc (.cells #[.slice none 0 0, .int .u8 0] 85)).heap.size = w.heap.size + 1 := by simp
  generalize hw1 : (w.alloc (.cells #[.slice none 0 0, .int .u8 0] 85)) = w1 at *
  clear hw1
  have HS1 := Lib.hid hs1
  clear hs1 g0 g1 g2 g3
  go_loopw [3, 13] (fun cv iv wr => ∃ k : Nat, k ≤ n ∧ iv = .int .i64 k ∧ cv = .int .u8 (andD (kids.take k)) ∧ Stab.Keeps w1 wr) (fun _ iv _ => n - (intOf iv).toNat)
  case atStart => exact ⟨0, by omega, rfl, rfl, Stab.Keeps.refl _⟩
  case round =>
    obtain ⟨k, k2, rfl, rfl, hk⟩ := hrel
    by_cases hlt : k < n
    · have hkW := Stab.Keeps.trans hkw hk
      obtain ⟨b, off, c, ha, hb, _, _, hc2, hcc, hx⟩ := (hR0.kf (KF.keeps hkW) (fun c x hx => lsS.kf hx (KF.keeps hkW))).elem hlt
      obtain ⟨dq, aq, nq, cq, rfl⟩ := hx.two
      subst ha
      have e0 : wr.cell? ⟨b, off + k * 2, none⟩ = some (.int .u8 dq) := by have := hcc 0 _ rfl; simpa using this
      have e1 : wr.cell? ⟨b, off + k * 2 + 1, none⟩ = some (.slice aq nq cq) := hcc 1 _ rfl
      have hkk : k < kids.length := by have := HLK.out; omega
      have hT := fun w' => typeLs_ [.int .u8 dq, .slice aq nq cq] _ w' wr hx
      have hand := and_u8 (andD (kids.take k)) kids[k].dim (andD_lt _) (HDK.out k hkk)
      have hsn : andD (kids.take k) &&& kids[k].dim = andD (kids.take (k + 1)) := by rw [List.take_succ_eq_append_getElem hkk, andD_snoc]
      rw [hsn] at hand
      have hal := andD_lt (kids.take (k + 1))
      generalize kids[k] = kid at *
      generalize hD1 : andD (kids.take (k + 1)) = D1 at *
      have HD1 := Lib.hid hD1
      clear hD1
      generalize andD (kids.take k) = D0 at *
      have hm256 : ((D1 : Nat) : Int) % 256 = D1 := by omega
      clear hcc hx hsn
      go_wp2_with fail
      refine (hT _).mono ?_
      clear hT
      rintro e w4 ⟨rfl, hk4⟩
      have hk5 : Stab.Keeps w1 w4 := by with_reducible (repeat first | exact Kx.r _ | assumption | refine Kx.a ?_ _ | refine Kx.d ?_ | refine Kx.e ?_ _ | refine Kx.s (by simp <;> omega) ?_ _ | refine Kx.t ?_ (by assumption))
      clear e0 e1 hk4
      go_wp2_with fail
      go_roundw
      case rel => exact ⟨k + 1, by omega, by go_num, by rw [HD1.out], hk5⟩
      case measure => simp [intOf]; omega
    · obtain rfl : n = k := by omega
      rw [List.take_of_length_le (by rw [HLK.out]; exact Nat.le_refl _)]
      have hD4 := andD_lt kids
      generalize hDe : andD kids = D at *
      have HDE := Lib.hid hDe
      clear hDe
      have hkW := Stab.Keeps.trans hkw hk
      have hSz := (hR0.kf (KF.keeps hkW) (fun c x hx => lsS.kf hx (KF.keeps hkW))).sz.sz
      go_wp2_with (at_builtin; (refine append_sz (w0 := w1) rfl _ _ 76 rfl w1.heap.size 51 i0 _ 2 32 Tryz.underlying76 HI.out HZ0.out HZ1.out HZ2.out rfl (by decide) _ 0 [] rfl (World.ownsRow_nil _ _ _ _) a n cap _ rfl hSz hone (by unfold maxLen; omega) (by omega) hk.size hk ?_))
      intro al c5 w5 hown hk5 hsz5 hgr
      try simp only [Nat.zero_add, List.nil_append] at hown
      have hs1 := HS1.out
      obtain ⟨fb, rfl, hfb, hU, hnc, hcm⟩ := Upd.start (w := w1) (orNew (Go.Kf.old F w.heap.size) w5.heap.size) LsR (kids.map (forceP D)) hk5 hown hn0 (Nat.le_refl _) HLC.out hR0.each (fun b h1 h2 => by simp [orNew, Go.Kf.old]; omega)
      have hfb5 := hU.lt
      clear hown hgr hSz hk hkW hsz5 hs1
      try simp only [Nat.zero_add]
      unfold maxLen at hcm
      go_wp2_with fail
      go_loopw [26] (fun iv wr => ∃ (k : Nat) (cs' : List (List Value)), k ≤ n ∧ iv = .int .i64 k ∧ w5.heap.size ≤ wr.heap.size ∧ Upd w1 wr (orNew (Go.Kf.old F w.heap.size) w5.heap.size) LsR fb n k 2 cs' css (kids.map (forceP D))) (fun iv _ => n - (intOf iv).toNat)
      case atStart => exact ⟨0, [], by omega, rfl, Nat.le_refl _, hU⟩
      case round =>
        clear hU
        obtain ⟨k, cs', k2, rfl, hsz5, hU⟩ := hrel
        have hk := hU.keeps
        have hkW := Stab.Keeps.trans hkw hk
        by_cases hlt : k < n
        · have hkc : k < css.length := by have := HLC.out; omega
          have hkk : k < kids.length := by have := HLK.out; omega
          have hx := lsS.kf (hR0.is k hkc hkk) (KF.keeps hkW)
          have hcc := fun j v hv => hU.cell hlt (j := j) (v := v) hv
          generalize hce : css[k] = c at *
          obtain ⟨dq, aq, nq, cq, rfl⟩ := hx.two
          have HCE := Lib.hid hce
          clear hce
          have e0 : wr.cell? ⟨fb, k * 2, none⟩ = some (.int .u8 dq) := by have := hcc 0 _ rfl; simpa using this
          have e1 : wr.cell? ⟨fb, k * 2 + 1, none⟩ = some (.slice aq nq cq) := hcc 1 _ rfl
          have hF1 := fun w' (hk : Stab.Keeps wr w') => forceLs_ D hD4 [.int .u8 dq, .slice aq nq cq] _ w' (lsS.kf hx (KF.keeps hk))
          generalize hke : kids[k] = kid at *
          have HKE := Lib.hid hke
          have hfl := hU.lt
          clear hcc hx hke
          go_wp2_with fail
          refine (hF1 _ (Stab.Keeps.refl _)).mono ?_
          clear hF1
          rintro e w6 ⟨cs4, rfl, hk4, hx4⟩
          obtain ⟨dz, az, nz, cz, rfl⟩ := hx4.two
          have hU4 := hU.keep lsS hk4
          have hx5 := lsS.mono (G := orNew (Go.Kf.old F w.heap.size) w5.heap.size) hx4 (fun b _ hb => on_old hsz5 hb)
          have hkm : k < (kids.map (forceP D)).length := by simpa using hkk
          have hxe : (kids.map (forceP D))[k] = forceP D kid := by rw [List.getElem_map, HKE.out]
          rw [← hxe] at hx5
          have hU5 := hU4.put2 lsS hlt hkm hx5
          have hsz6 : w5.heap.size ≤ w6.heap.size := Nat.le_trans hsz5 hk4.size
          obtain ⟨x0, r0⟩ := hU4.room.cell (k * 2) (by omega)
          obtain ⟨x1, r1⟩ := hU4.room.cell (k * 2 + 1) (by omega)
          have rf := hU4.room.free
          have hl4 := hU4.lt
          clear hU hU4 hx4 hx5 hxe hkm e0 e1 hk4 hfl
          go_wp2_with fail
          go_roundw
          case rel => exact ⟨k + 1, _, by omega, by go_num, by simpa using hsz6, hU5⟩
          case measure => simp [intOf]; omega
        · obtain rfl : n = k := by omega
          have hB2 := hB1.keep hk
          have r0 := hB2.cell (i := 0) rfl
          have r1 := hB2.cell (i := 1) rfl
          have rf := hB2.free
          have rl := hB2.lt
          have hs1 := HS1.out
          go_wp2_with fail
          refine bodyPost_ret (v := .agg #[.slice (some ⟨fb, 0, none⟩) n c5, .int .u8 D]) (by simp [results, Tryz.results84, go_sem, *]) rfl ⟨[.slice (some ⟨fb, 0, none⟩) n c5, .int .u8 D], rfl, ?_, D, _, n, c5, cs', kids.map (forceP D), rfl, rfl, hD4, hn, ?_, fun c hc => ?_⟩
          · with_reducible (repeat first | exact Kx.r _ | assumption | refine Kx.a ?_ _ | refine Kx.d ?_ | refine Kx.e ?_ _ | refine Kx.s (by simp <;> omega) ?_ _ | refine Kx.t ?_ (by assumption))
          · have hnf : ¬ orNew (Go.Kf.old F w.heap.size) w5.heap.size w.heap.size := by simp [orNew, Go.Kf.old]; omega
            have hk2 : Stab.Keeps w wr := Stab.Keeps.trans hkw hk
            have hU2 : Upd w wr (orNew (Go.Kf.old F w.heap.size) w5.heap.size) LsR fb n n 2 cs' css (kids.map (forceP D)) := ⟨hk2, hU.room, hU.filled, hU.lc, hU.each, hU.lo, hU.eacho, hU.is, hU.lt, by omega, hU.nin⟩
            exact ((hU2.past lsS (by omega) hnf (by omega) _).past lsS (by omega) hnf (by omega) _).rows lsS (by rw [List.length_map]; exact HLK.out) hnc (by unfold maxLen; omega) (fun b _ hb => on_mono (by omega) hb) (.inr (by omega))
          · obtain ⟨q, _, rfl⟩ := List.mem_map.1 hc
            exact forceP_dim D q
set_option maxRecDepth 100000 in
theorem typePy_ {F : Nat → Prop} (cs : List Value) (p : Pg) (w w0 : World) (h : PyR w0 F cs p) : Calls Tryz.prog 126 #[.agg cs.toArray] w (One w (.int .u8 p.dim)) := by
  obtain ⟨d, a, n, cap, css, kids, rfl, rfl, h⟩ := h
  show Calls _ _ _ _ (One w (.int .u8 d))
  go_enter Tryz.func126, Tryz.ntmps126
  go_wp2
  go_ret
  refine ⟨rfl, ?_⟩
  with_reducible (repeat first | exact Kx.r _ | assumption | refine Kx.a ?_ _ | refine Kx.d ?_ | refine Kx.e ?_ _ | refine Kx.s (by simp <;> omega) ?_ _ | refine Kx.t ?_ (by assumption))
set_option maxRecDepth 100000 in
set_option maxHeartbeats 2000000 in
theorem newMyN_ {F : Nat → Prop} (a : Option Addr) (n cap : Nat) (css : List (List Value)) (kids : List Pg) (w : World) (hn0 : 0 < n) (hn : n ≤ 250000) (hR : Go.Kf.Rows w F PyR a n cap 2 css kids) :
    Calls Tryz.prog 86 #[.slice a n cap] w (RetR w F MyR (wholeP 6 0 kids)) := by
  obtain ⟨i0, hi, hz0, hz1, hz2⟩ := info_parts infoPy
  have hle := hR.sz.sz.le
  have hmx := hR.sz.sz.max
  unfold maxLen at hmx
  have hR0 := hR.mono (G := Go.Kf.old F w.heap.size) (fun b h1 h2 => ⟨h2, h1⟩) (fun c x hx => pyS.mono hx fun b h1 h2 => ⟨h2, h1⟩)
  have hone := rows_ones hR0 (fun h => h.ones)
  have HLK := Lib.hid hR.lx
  have HLC := Lib.hid hR.lc
  have hdk : ∀ i (hi : i < kids.length), kids[i].dim < 4 := fun i hi => (hR.is i (by rw [hR.lc, ← hR.lx]; exact hi) hi).dim
  have HDK := Lib.hid hdk
  have hwh : wholeP 6 0 kids = .node 6 (andD kids) [] (kids.map (forceP (andD kids))) := by
    unfold wholeP
    have : kids ≠ [] := fun h => by have := hR.lx; rw [h] at this; simp at this; omega
    simp [this]
  rw [hwh]
  have g0 : decide (0 < n) = true := decide_eq_true hn0
  have g1 : decide ((n : Int) > 0) = true := decide_eq_true (by omega)
  have g2 : ((n : Int) == 0) = false := by simp; omega
  have g3 : (n == 0) = false := by simp; omega
  have HI := Lib.hid hi
  have HZ0 := Lib.hid hz0
  have HZ1 := Lib.hid hz1
  have HZ2 := Lib.hid hz2
  clear hR hdk hwh hi hz0 hz1 hz2
  go_enter Tryz.func86, Tryz.ntmps86
  go_wp2_with fail
  have hkw : Stab.Keeps w (w.alloc (.cells #[.slice none 0 0, .int .u8 0] 89)) := by with_reducible (repeat first | exact Kx.r _ | assumption | refine Kx.a ?_ _ | refine Kx.d ?_ | refine Kx.e ?_ _ | refine Kx.s (by simp <;> omega) ?_ _ | refine Kx.t ?_ (by assumption))
  have hB1 : Blk (w.alloc (.cells #[.slice none 0 0, .int .u8 0] 89)) w.heap.size 89 [.slice none 0 0, .int .u8 0] := by with_reducible (repeat first | assumption | (refine Bx.n ⟨?_, ?_⟩ <;> focus (first | rfl | (simp; done) | omega)) | refine Bx.a ?_ _ | refine Bx.d ?_ | refine Bx.e ?_ _ | refine Bx.p (by first | omega | simp <;> omega) ?_)
  have hs1 : (w.alloc (.cells #[.slice none 0 0, .int .u8 0] 89)).heap.size = w.heap.size + 1 := by simp
  generalize hw1 : (w.alloc (.cells #[.slice none 0 0, .int .u8 0] 89)) = w1 at *
  clear hw1
  have HS1 := Lib.hid hs1
  clear hs1 g0 g1 g2 g3
  go_loopw [3, 12] (fun cv iv wr => ∃ k : Nat, k ≤ n ∧ iv = .int .i64 k ∧ cv = .int .u8 (andD (kids.take k)) ∧ Stab.Keeps w1 wr) (fun _ iv _ => n - (intOf iv).toNat)
  case atStart => exact ⟨0, by omega, rfl, rfl, Stab.Keeps.refl _⟩
  case round =>
    obtain ⟨k, k2, rfl, rfl, hk⟩ := hrel
    by_cases hlt : k < n
    · have hkW := Stab.Keeps.trans hkw hk
      obtain ⟨b, off, c, ha, hb, _, _, hc2, hcc, hx⟩ := (hR0.kf (KF.keeps hkW) (fun c x hx => pyS.kf hx (KF.keeps hkW))).elem hlt
      obtain ⟨aq, nq, cq, dq, rfl⟩ := hx.two
      subst ha
      have e0 : wr.cell? ⟨b, off + k * 2, none⟩ = some (.slice aq nq cq) := by have := hcc 0 _ rfl; simpa using this
      have e1 : wr.cell? ⟨b, off + k * 2 + 1, none⟩ = some (.int .u8 dq) := hcc 1 _ rfl
      have hkk : k < kids.length := by have := HLK.out; omega
      have hT := fun w' => typePy_ [.slice aq nq cq, .int .u8 dq] _ w' wr hx
      have hand := and_u8 (andD (kids.take k)) kids[k].dim (andD_lt _) (HDK.out k hkk)
      have hsn : andD (kids.take k) &&& kids[k].dim = andD (kids.take (k + 1)) := by rw [List.take_succ_eq_append_getElem hkk, andD_snoc]
      rw [hsn] at hand
      have hal := andD_lt (kids.take (k + 1))
      generalize kids[k] = kid at *
      generalize hD1 : andD (kids.take (k + 1)) = D1 at *
      have HD1 := Lib.hid hD1
      clear hD1
      generalize andD (kids.take k) = D0 at *
      have hm256 : ((D1 : Nat) : Int) % 256 = D1 := by omega
      clear hcc hx hsn
      go_wp2_with fail
      refine (hT _).mono ?_
      clear hT
      rintro e w4 ⟨rfl, hk4⟩
      have hk5 : Stab.Keeps w1 w4 := by with_reducible (repeat first | exact Kx.r _ | assumption | refine Kx.a ?_ _ | refine Kx.d ?_ | refine Kx.e ?_ _ | refine Kx.s (by simp <;> omega) ?_ _ | refine Kx.t ?_ (by assumption))
      clear e0 e1 hk4
      go_wp2_with fail
      go_roundw
      case rel => exact ⟨k + 1, by omega, by go_num, by rw [HD1.out], hk5⟩
      case measure => simp [intOf]; omega
    · obtain rfl : n = k := by omega
      rw [List.take_of_length_le (by rw [HLK.out]; exact Nat.le_refl _)]
      have hD4 := andD_lt kids
      generalize hDe : andD kids = D at *
      have HDE := Lib.hid hDe
      clear hDe
      have hkW := Stab.Keeps.trans hkw hk
      have hSz := (hR0.kf (KF.keeps hkW) (fun c x hx => pyS.kf hx (KF.keeps hkW))).sz.sz
      go_wp2_with (at_builtin; (refine append_sz (w0 := w1) rfl _ _ 87 rfl w1.heap.size 78 i0 _ 2 32 Tryz.underlying87 HI.out HZ0.out HZ1.out HZ2.out rfl (by decide) _ 0 [] rfl (World.ownsRow_nil _ _ _ _) a n cap _ rfl hSz hone (by unfold maxLen; omega) (by omega) hk.size hk ?_))
      intro al c5 w5 hown hk5 hsz5 hgr
      try simp only [Nat.zero_add, List.nil_append] at hown
      have hs1 := HS1.out
      obtain ⟨fb, rfl, hfb, hU, hnc, hcm⟩ := Upd.start (w := w1) (orNew (Go.Kf.old F w.heap.size) w5.heap.size) PyR (kids.map (forceP D)) hk5 hown hn0 (Nat.le_refl _) HLC.out hR0.each (fun b h1 h2 => by simp [orNew, Go.Kf.old]; omega)
      have hfb5 := hU.lt
      clear hown hgr hSz hk hkW hsz5 hs1
      try simp only [Nat.zero_add]
      unfold maxLen at hcm
      go_wp2_with fail
      go_loopw [25] (fun iv wr => ∃ (k : Nat) (cs' : List (List Value)), k ≤ n ∧ iv = .int .i64 k ∧ w5.heap.size ≤ wr.heap.size ∧ Upd w1 wr (orNew (Go.Kf.old F w.heap.size) w5.heap.size) PyR fb n k 2 cs' css (kids.map (forceP D))) (fun iv _ => n - (intOf iv).toNat)
      case atStart => exact ⟨0, [], by omega, rfl, Nat.le_refl _, hU⟩
      case round =>
        clear hU
        obtain ⟨k, cs', k2, rfl, hsz5, hU⟩ := hrel
        have hk := hU.keeps
        have hkW := Stab.Keeps.trans hkw hk
        by_cases hlt : k < n
        · have hkc : k < css.length := by have := HLC.out; omega
          have hkk : k < kids.length := by have := HLK.out; omega
          have hx := pyS.kf (hR0.is k hkc hkk) (KF.keeps hkW)
          have hcc := fun j v hv => hU.cell hlt (j := j) (v := v) hv
          generalize hce : css[k] = c at *
          obtain ⟨aq, nq, cq, dq, rfl⟩ := hx.two
          have HCE := Lib.hid hce
          clear hce
          have e0 : wr.cell? ⟨fb, k * 2, none⟩ = some (.slice aq nq cq) := by have := hcc 0 _ rfl; simpa using this
          have e1 : wr.cell? ⟨fb, k * 2 + 1, none⟩ = some (.int .u8 dq) := hcc 1 _ rfl
          have hF1 := fun w' (hk : Stab.Keeps wr w') => forcePy_ D hD4 [.slice aq nq cq, .int .u8 dq] _ w' (pyS.kf hx (KF.keeps hk))
          generalize hke : kids[k] = kid at *
          have HKE := Lib.hid hke
          have hfl := hU.lt
          clear hcc hx hke
          go_wp2_with fail
          refine (hF1 _ (Stab.Keeps.refl _)).mono ?_
          clear hF1
          rintro e w6 ⟨cs4, rfl, hk4, hx4⟩
          obtain ⟨az, nz, cz, dz, rfl⟩ := hx4.two
          have hU4 := hU.keep pyS hk4
          have hx5 := pyS.mono (G := orNew (Go.Kf.old F w.heap.size) w5.heap.size) hx4 (fun b _ hb => on_old hsz5 hb)
          have hkm : k < (kids.map (forceP D)).length := by simpa using hkk
          have hxe : (kids.map (forceP D))[k] = forceP D kid := by rw [List.getElem_map, HKE.out]
          rw [← hxe] at hx5
          have hU5 := hU4.put2 pyS hlt hkm hx5
          have hsz6 : w5.heap.size ≤ w6.heap.size := Nat.le_trans hsz5 hk4.size
          obtain ⟨x0, r0⟩ := hU4.room.cell (k * 2) (by omega)
          obtain ⟨x1, r1⟩ := hU4.room.cell (k * 2 + 1) (by omega)
          have rf := hU4.room.free
          have hl4 := hU4.lt
          clear hU hU4 hx4 hx5 hxe hkm e0 e1 hk4 hfl
          go_wp2_with fail
          go_roundw
          case rel => exact ⟨k + 1, _, by omega, by go_num, by simpa using hsz6, hU5⟩
          case measure => simp [intOf]; omega
        · obtain rfl : n = k := by omega
          have hB2 := hB1.keep hk
          have r0 := hB2.cell (i := 0) rfl
          have r1 := hB2.cell (i := 1) rfl
          have rf := hB2.free
          have rl := hB2.lt
          have hs1 := HS1.out
          go_wp2_with fail
          refine bodyPost_ret (v := .agg #[.slice (some ⟨fb, 0, none⟩) n c5, .int .u8 D]) (by simp [results, Tryz.results86, go_sem, *]) rfl ⟨[.slice (some ⟨fb, 0, none⟩) n c5, .int .u8 D], rfl, ?_, D, _, n, c5, cs', kids.map (forceP D), rfl, rfl, hD4, hn, ?_, fun c hc => ?_⟩
          · with_reducible (repeat first | exact Kx.r _ | assumption | refine Kx.a ?_ _ | refine Kx.d ?_ | refine Kx.e ?_ _ | refine Kx.s (by simp <;> omega) ?_ _ | refine Kx.t ?_ (by assumption))
          · have hnf : ¬ orNew (Go.Kf.old F w.heap.size) w5.heap.size w.heap.size := by simp [orNew, Go.Kf.old]; omega
            have hk2 : Stab.Keeps w wr := Stab.Keeps.trans hkw hk
            have hU2 : Upd w wr (orNew (Go.Kf.old F w.heap.size) w5.heap.size) PyR fb n n 2 cs' css (kids.map (forceP D)) := ⟨hk2, hU.room, hU.filled, hU.lc, hU.each, hU.lo, hU.eacho, hU.is, hU.lt, by omega, hU.nin⟩
            exact ((hU2.past pyS (by omega) hnf (by omega) _).past pyS (by omega) hnf (by omega) _).rows pyS (by rw [List.length_map]; exact HLK.out) hnc (by unfold maxLen; omega) (fun b _ hb => on_mono (by omega) hb) (.inr (by omega))
          · obtain ⟨q, _, rfl⟩ := List.mem_map.1 hc
            exact forceP_dim D q
end Go.Proofs.YtinbkonmlgediaaGreat
set_option linter.unusedVariables false
set_option linter.unusedSimpArgs false
namespace Go.Proofs.YtinbkonmlgediaaGreat
open Go.RowKit Go.Fl Go.Sl Go.Pg Go.Ch Go.Kf
/-- a callee that returns a slice of things -/
def RetS {α : Type} (w : World) (F : Nat → Prop) (R : World → (Nat → Prop) → List Value → α → Prop) (kc n : Nat) (ys : List α) (e : Ending) (w' : World) : Prop := ∃ a cap css, e = .returned (.slice a n cap) ∧ Stab.Keeps w w' ∧ Go.Kf.Rows w' (orNew F w.heap.size) R a n cap kc css ys
set_option maxRecDepth 100000 in
set_option maxHeartbeats 2000000 in
theorem forcePts_ {F : Nat → Prop} (d' : Nat) (hd' : d' < 4) (a : Option Addr) (n cap : Nat) (css : List (List Value)) (kids : List Pg) (w : World) (hn : n ≤ 250000) (hR : Go.Kf.Rows w F PtR a n cap 6 css kids) :
    Calls Tryz.prog 125 #[.slice a n cap, .int .u8 d'] w (RetS w F PtR 6 n (kids.map (forceP d'))) := by
  have hmk := fun w => run_makeN (P := Tryz.prog) 80 60 _ 6 48 n Tryz.underlying80 infoPt (by omega) (by omega) w
  have hle := hR.sz.sz.le
  have hmx := hR.sz.sz.max
  unfold maxLen at hmx
  have hR0 := hR.mono (G := Go.Kf.old F w.heap.size) (fun b h1 h2 => ⟨h2, h1⟩) (fun c x hx => ptS.mono hx fun b h1 h2 => ⟨h2, h1⟩)
  have HLK := Lib.hid hR.lx
  clear hR
  go_enter Tryz.func125, Tryz.ntmps125
  go_wp2_with fail
  have hFl := Fill.start w w (orNew (Go.Kf.old F w.heap.size) (w.heap.size + 1)) PtR n 6 (madeCells #[.float .f64 0, .float .f64 0, .float .f64 0, .float .f64 0, .int .u8 0, .bool false] (n * 6)) 60 (kids.map (forceP d')) (Stab.Keeps.refl w) (size_madeCells _ _) (by simp [orNew, Go.Kf.old])
  generalize (w.alloc (.cells (madeCells #[.float .f64 0, .float .f64 0, .float .f64 0, .float .f64 0, .int .u8 0, .bool false] (n * 6)) 60)) = W at hFl ⊢
  clear hmk
  go_wp2_with fail
  go_loopw [13] (fun iv wr => ∃ (k : Nat) (cs' : List (List Value)), k ≤ n ∧ iv = .int .i64 k ∧ Fill w wr (orNew (Go.Kf.old F w.heap.size) (w.heap.size + 1)) PtR w.heap.size n k 6 cs' (kids.map (forceP d'))) (fun iv _ => n - (intOf iv).toNat)
  case atStart => exact ⟨0, [], by omega, rfl, hFl⟩
  case round =>
    clear hFl
    obtain ⟨k, cs', k2, rfl, hFl⟩ := hrel
    by_cases hlt : k < n
    · obtain ⟨b, off, c, ha, hb, _, _, hc2, hcc, hx⟩ := (hR0.kf (KF.keeps hFl.keeps) (fun c x hx => ptS.kf hx (KF.keeps hFl.keeps))).elem hlt
      obtain ⟨xq, yq, zq, mq, dq, fq, rfl⟩ := hx.six
      subst ha
      have e0 : wr.cell? ⟨b, off + k * 6, none⟩ = some (.float .f64 xq) := by have := hcc 0 _ rfl; simpa using this
      have e1 : wr.cell? ⟨b, off + k * 6 + 1, none⟩ = some (.float .f64 yq) := hcc 1 _ rfl
      have e2 : wr.cell? ⟨b, off + k * 6 + 2, none⟩ = some (.float .f64 zq) := hcc 2 _ rfl
      have e3 : wr.cell? ⟨b, off + k * 6 + 3, none⟩ = some (.float .f64 mq) := hcc 3 _ rfl
      have e4 : wr.cell? ⟨b, off + k * 6 + 4, none⟩ = some (.int .u8 dq) := hcc 4 _ rfl
      have e5 : wr.cell? ⟨b, off + k * 6 + 5, none⟩ = some (.bool fq) := hcc 5 _ rfl
      have hF1 := fun w' (hk : Stab.Keeps wr w') => forcePt_ d' hd' [.float .f64 xq, .float .f64 yq, .float .f64 zq, .float .f64 mq, .int .u8 dq, .bool fq] _ w' (ptS.kf hx (KF.keeps hk))
      have hkk : k < kids.length := by have := HLK.out; omega
      generalize hke : kids[k] = kid at *
      have HKE := Lib.hid hke
      clear hcc hx hke
      go_wp2_with fail
      refine (hF1 _ (by with_reducible (repeat first | exact Kx.r _ | assumption | refine Kx.a ?_ _ | refine Kx.d ?_ | refine Kx.e ?_ _ | refine Kx.s (by simp <;> omega) ?_ _ | refine Kx.t ?_ (by assumption)))).mono ?_
      clear hF1
      rintro e w4 ⟨cs4, rfl, hk4, hx4⟩
      obtain ⟨xz, yz, zz, mz, dz, fz, rfl⟩ := hx4.six
      have hlw : w.heap.size < wr.heap.size := hFl.lt
      have hk5 : Stab.Keeps wr w4 := by with_reducible (repeat first | exact Kx.r _ | assumption | refine Kx.a ?_ _ | refine Kx.d ?_ | refine Kx.e ?_ _ | refine Kx.s (by simp <;> omega) ?_ _ | refine Kx.t ?_ (by assumption))
      have hFl4 := hFl.keep ptS hk5
      have hx5 := ptS.mono (G := orNew (Go.Kf.old F w.heap.size) (w.heap.size + 1)) hx4 (fun b _ hb => on_old (by simp; omega) hb)
      have hkm : k < (kids.map (forceP d')).length := by simpa using hkk
      have hxe : (kids.map (forceP d'))[k] = forceP d' kid := by rw [List.getElem_map, HKE.out]
      rw [← hxe] at hx5
      have hFl5 := hFl4.put6 ptS hlt hkm hx5
      obtain ⟨x0, r0⟩ := hFl4.room.cell (k * 6) (by omega)
      obtain ⟨x1, r1⟩ := hFl4.room.cell (k * 6 + 1) (by omega)
      obtain ⟨x2, r2⟩ := hFl4.room.cell (k * 6 + 2) (by omega)
      obtain ⟨x3, r3⟩ := hFl4.room.cell (k * 6 + 3) (by omega)
      obtain ⟨x4, r4⟩ := hFl4.room.cell (k * 6 + 4) (by omega)
      obtain ⟨x5, r5⟩ := hFl4.room.cell (k * 6 + 5) (by omega)
      have rf := hFl4.room.free
      have hl4 := hFl4.lt
      clear hFl hFl4 hx4 hx5 hxe hkm e0 e1 e2 e3 e4 e5 hk4 hk5 hlw
      go_wp2_with fail
      go_roundw
      case rel => exact ⟨k + 1, _, by omega, by go_num, hFl5⟩
      case measure => simp [intOf]; omega
    · obtain rfl : n = k := by omega
      go_wp2_with fail
      go_ret
      exact ⟨_, n, cs', rfl, hFl.keeps, hFl.rows ptS (by rw [List.length_map]; exact HLK.out) (by unfold maxLen; omega) (fun b _ hb => on_mono (by omega) hb) (.inr (Nat.le_refl _))⟩
set_option maxRecDepth 100000 in
set_option maxHeartbeats 1000000 in
theorem forceMp_ {F : Nat → Prop} (d' : Nat) (hd' : d' < 4) (cs : List Value) (p : Pg) (w : World) (h : MpR w F cs p) : Calls Tryz.prog 81 #[.agg cs.toArray, .int .u8 d'] w (RetR w F MpR (forceP d' p)) := by
  obtain ⟨d, a, n, cap, css, kids, rfl, rfl, hd, hn, hR, hdim⟩ := h
  have hR0 := hR.mono (G := Go.Kf.old F w.heap.size) (fun b h1 h2 => ⟨h2, h1⟩) (fun c x hx => ptS.mono hx fun b h1 h2 => ⟨h2, h1⟩)
  have hF := fun w' (hk : Stab.Keeps w w') => forcePts_ d' hd' a n cap css kids w' hn (hR0.kf (KF.keeps hk) fun c x hx => ptS.kf hx (KF.keeps hk))
  go_enter Tryz.func81, Tryz.ntmps81
  go_wp2_with fail
  refine (hF _ (by with_reducible (repeat first | exact Kx.r _ | assumption | refine Kx.a ?_ _ | refine Kx.d ?_ | refine Kx.e ?_ _ | refine Kx.s (by simp <;> omega) ?_ _ | refine Kx.t ?_ (by assumption)))).mono ?_
  clear hF
  rintro e w2 ⟨a2, cap2, css2, rfl, hk2, h2⟩
  have hB : Blk w2 (w.heap.size + 1) 82 [.slice none 0 0, .int .u8 0] := Blk.keep (by with_reducible (repeat first | assumption | (refine Bx.n ⟨?_, ?_⟩ <;> focus (first | rfl | (simp; done) | omega)) | refine Bx.a ?_ _ | refine Bx.d ?_ | refine Bx.e ?_ _ | refine Bx.p (by first | omega | simp <;> omega) ?_)) hk2
  have hkk : Stab.Keeps w w2 := by with_reducible (repeat first | exact Kx.r _ | assumption | refine Kx.a ?_ _ | refine Kx.d ?_ | refine Kx.e ?_ _ | refine Kx.s (by simp <;> omega) ?_ _ | refine Kx.t ?_ (by assumption))
  have hs2 : ((w.alloc (.cells #[.slice a n cap, .int .u8 d] 82)).alloc (.cells #[.slice none 0 0, .int .u8 0] 82)).heap.size = w.heap.size + 1 + 1 := by simp
  rw [hs2] at h2
  clear hk2 hs2
  have r0 := hB.cell (i := 0) rfl
  have r1 := hB.cell (i := 1) rfl
  have rf := hB.free
  have rl := hB.lt
  go_wp2_with fail
  refine bodyPost_ret (v := .agg #[.slice a2 n cap2, .int .u8 d']) (by simp [results, Tryz.results81, go_sem, *]) rfl ⟨[.slice a2 n cap2, .int .u8 d'], rfl, ?_, d', a2, n, cap2, css2, kids.map (forceP d'), rfl, by rw [forceP_eq]; rfl, hd', hn, ?_, fun c hc => ?_⟩
  · with_reducible (repeat first | exact Kx.r _ | assumption | refine Kx.a ?_ _ | refine Kx.d ?_ | refine Kx.e ?_ _ | refine Kx.s (by simp <;> omega) ?_ _ | refine Kx.t ?_ (by assumption))
  · refine (h2.kf (w' := _) ?_ ?_).mono (fun b _ hb => on_mono (by omega) hb) (fun c x hx => ptS.mono hx fun b _ hb => on_mono (by omega) hb)
    · repeat (first | (with_reducible exact KF.refl _ _) | (with_reducible assumption) | (with_reducible refine KF.alloc ?_ _) | (with_reducible refine KF.drew ?_) | (with_reducible refine KF.drewN ?_ _) | ((with_reducible refine KF.set ?_ ?_); focus (first | assumption | (simp [orNew, old]; done) | (simp [orNew, old]; omega) | (simp [orNew, old] at *; omega))) | (with_reducible refine KF.trans ?_ (KF.keeps (by with_reducible assumption))))
    · intro c x hx
      refine ptS.kf hx ?_
      repeat (first | (with_reducible exact KF.refl _ _) | (with_reducible assumption) | (with_reducible refine KF.alloc ?_ _) | (with_reducible refine KF.drew ?_) | (with_reducible refine KF.drewN ?_ _) | ((with_reducible refine KF.set ?_ ?_); focus (first | assumption | (simp [orNew, old]; done) | (simp [orNew, old]; omega) | (simp [orNew, old] at *; omega))) | (with_reducible refine KF.trans ?_ (KF.keeps (by with_reducible assumption))))
  · obtain ⟨q, _, rfl⟩ := List.mem_map.1 hc
    exact forceP_dim d' q
set_option maxRecDepth 100000 in
set_option maxHeartbeats 2000000 in
theorem newMpN_ {F : Nat → Prop} (a : Option Addr) (n cap : Nat) (css : List (List Value)) (kids : List Pg) (w : World) (hn0 : 0 < n) (hn : n ≤ 250000) (hR : Go.Kf.Rows w F PtR a n cap 6 css kids) :
    Calls Tryz.prog 82 #[.slice a n cap] w (RetR w F MpR (wholeP 4 0 kids)) := by
  have hle := hR.sz.sz.le
  have hmx := hR.sz.sz.max
  unfold maxLen at hmx
  have hR0 := hR.mono (G := Go.Kf.old F w.heap.size) (fun b h1 h2 => ⟨h2, h1⟩) (fun c x hx => ptS.mono hx fun b h1 h2 => ⟨h2, h1⟩)
  have HLK := Lib.hid hR.lx
  have hdk : ∀ i (hi : i < kids.length), kids[i].dim < 4 := fun i hi => (hR.is i (by rw [hR.lc, ← hR.lx]; exact hi) hi).dim
  have HDK := Lib.hid hdk
  have hwh : wholeP 4 0 kids = .node 4 (andD kids) [] (kids.map (forceP (andD kids))) := by
    unfold wholeP
    have : kids ≠ [] := fun h => by have := hR.lx; rw [h] at this; simp at this; omega
    simp [this]
  rw [hwh]
  have g2 : ((n : Int) == 0) = false := by simp; omega
  have g3 : (n == 0) = false := by simp; omega
  have hFF := fun d' hd' w' (hk : Stab.Keeps w w') => forcePts_ d' hd' a n cap css kids w' hn (hR0.kf (KF.keeps hk) fun c x hx => ptS.kf hx (KF.keeps hk))
  clear hR hdk hwh
  go_enter Tryz.func82, Tryz.ntmps82
  go_wp2_with fail
  have hkw : Stab.Keeps w (w.alloc (.cells #[.slice none 0 0, .int .u8 0] 82)) := by with_reducible (repeat first | exact Kx.r _ | assumption | refine Kx.a ?_ _ | refine Kx.d ?_ | refine Kx.e ?_ _ | refine Kx.s (by simp <;> omega) ?_ _ | refine Kx.t ?_ (by assumption))
  have hB1 : Blk (w.alloc (.cells #[.slice none 0 0, .int .u8 0] 82)) w.heap.size 82 [.slice none 0 0, .int .u8 0] := by with_reducible (repeat first | assumption | (refine Bx.n ⟨?_, ?_⟩ <;> focus (first | rfl | (simp; done) | omega)) | refine Bx.a ?_ _ | refine Bx.d ?_ | refine Bx.e ?_ _ | refine Bx.p (by first | omega | simp <;> omega) ?_)
  have hs1 : (w.alloc (.cells #[.slice none 0 0, .int .u8 0] 82)).heap.size = w.heap.size + 1 := by simp
  generalize hw1 : (w.alloc (.cells #[.slice none 0 0, .int .u8 0] 82)) = w1 at *
  clear hw1
  have HS1 := Lib.hid hs1
  clear hs1 g2 g3
  go_loopw [3, 13] (fun cv iv wr => ∃ k : Nat, k ≤ n ∧ iv = .int .i64 k ∧ cv = .int .u8 (andD (kids.take k)) ∧ Stab.Keeps w1 wr) (fun _ iv _ => n - (intOf iv).toNat)
  case atStart => exact ⟨0, by omega, rfl, rfl, Stab.Keeps.refl _⟩
  case round =>
    obtain ⟨k, k2, rfl, rfl, hk⟩ := hrel
    by_cases hlt : k < n
    · have hkW := Stab.Keeps.trans hkw hk
      obtain ⟨b, off, c, ha, hb, _, _, hc2, hcc, hx⟩ := (hR0.kf (KF.keeps hkW) (fun c x hx => ptS.kf hx (KF.keeps hkW))).elem hlt
      obtain ⟨xq, yq, zq, mq, dq, fq, rfl⟩ := hx.six
      subst ha
      have e0 : wr.cell? ⟨b, off + k * 6, none⟩ = some (.float .f64 xq) := by have := hcc 0 _ rfl; simpa using this
      have e1 : wr.cell? ⟨b, off + k * 6 + 1, none⟩ = some (.float .f64 yq) := hcc 1 _ rfl
      have e2 : wr.cell? ⟨b, off + k * 6 + 2, none⟩ = some (.float .f64 zq) := hcc 2 _ rfl
      have e3 : wr.cell? ⟨b, off + k * 6 + 3, none⟩ = some (.float .f64 mq) := hcc 3 _ rfl
      have e4 : wr.cell? ⟨b, off + k * 6 + 4, none⟩ = some (.int .u8 dq) := hcc 4 _ rfl
      have e5 : wr.cell? ⟨b, off + k * 6 + 5, none⟩ = some (.bool fq) := hcc 5 _ rfl
      have hkk : k < kids.length := by have := HLK.out; omega
      have hT := fun w' => typePt_ [.float .f64 xq, .float .f64 yq, .float .f64 zq, .float .f64 mq, .int .u8 dq, .bool fq] _ w' wr hx
      have hand := and_u8 (andD (kids.take k)) kids[k].dim (andD_lt _) (HDK.out k hkk)
      have hsn : andD (kids.take k) &&& kids[k].dim = andD (kids.take (k + 1)) := by rw [List.take_succ_eq_append_getElem hkk, andD_snoc]
      rw [hsn] at hand
      have hal := andD_lt (kids.take (k + 1))
      generalize kids[k] = kid at *
      generalize hD1 : andD (kids.take (k + 1)) = D1 at *
      have HD1 := Lib.hid hD1
      clear hD1
      generalize andD (kids.take k) = D0 at *
      have hm256 : ((D1 : Nat) : Int) % 256 = D1 := by omega
      clear hcc hx hsn hFF
      go_wp2_with fail
      refine (hT _).mono ?_
      clear hT
      rintro e w4 ⟨rfl, hk4⟩
      have hk5 : Stab.Keeps w1 w4 := by with_reducible (repeat first | exact Kx.r _ | assumption | refine Kx.a ?_ _ | refine Kx.d ?_ | refine Kx.e ?_ _ | refine Kx.s (by simp <;> omega) ?_ _ | refine Kx.t ?_ (by assumption))
      clear e0 e1 e2 e3 e4 e5 hk4
      go_wp2_with fail
      go_roundw
      case rel => exact ⟨k + 1, by omega, by go_num, by rw [HD1.out], hk5⟩
      case measure => simp [intOf]; omega
    · obtain rfl : n = k := by omega
      rw [List.take_of_length_le (by rw [HLK.out]; exact Nat.le_refl _)]
      have hD4 := andD_lt kids
      have hF2 := hFF (andD kids) hD4 wr (Stab.Keeps.trans hkw hk)
      generalize hDe : andD kids = D at *
      clear hDe hFF
      go_wp2_with fail
      refine hF2.mono ?_
      clear hF2
      rintro e w5 ⟨a2, cap2, css2, rfl, hk2, h2⟩
      have hB2 := (hB1.keep hk).keep hk2
      have hkf : Stab.Keeps w w5 := by with_reducible (repeat first | exact Kx.r _ | assumption | refine Kx.a ?_ _ | refine Kx.d ?_ | refine Kx.e ?_ _ | refine Kx.s (by simp <;> omega) ?_ _ | refine Kx.t ?_ (by assumption))
      have hs1 := HS1.out
      have hsz := hk.size
      clear hk2 hk
      have r0 := hB2.cell (i := 0) rfl
      have r1 := hB2.cell (i := 1) rfl
      have rf := hB2.free
      have rl := hB2.lt
      go_wp2_with fail
      refine bodyPost_ret (v := .agg #[.slice a2 n cap2, .int .u8 D]) (by simp [results, Tryz.results82, go_sem, *]) rfl ⟨[.slice a2 n cap2, .int .u8 D], rfl, ?_, D, a2, n, cap2, css2, kids.map (forceP D), rfl, rfl, hD4, hn, ?_, fun c hc => ?_⟩
      · with_reducible (repeat first | exact Kx.r _ | assumption | refine Kx.a ?_ _ | refine Kx.d ?_ | refine Kx.e ?_ _ | refine Kx.s (by simp <;> omega) ?_ _ | refine Kx.t ?_ (by assumption))
      · have hnf : ¬ orNew (Go.Kf.old F w.heap.size) wr.heap.size w.heap.size := by simp [orNew, Go.Kf.old]; omega
        refine (h2.kf (w' := _) ?_ ?_).mono (fun b _ hb => on_mono (by omega) hb) (fun c x hx => ptS.mono hx fun b _ hb => on_mono (by omega) hb)
        · repeat (first | (with_reducible exact KF.refl _ _) | (with_reducible assumption) | (with_reducible refine KF.alloc ?_ _) | (with_reducible refine KF.drew ?_) | (with_reducible refine KF.drewN ?_ _) | ((with_reducible refine KF.set ?_ ?_); focus (first | assumption | (simp [orNew, old]; done) | (simp [orNew, old]; omega) | (simp [orNew, old] at *; omega))) | (with_reducible refine KF.trans ?_ (KF.keeps (by with_reducible assumption))))
        · intro c x hx
          refine ptS.kf hx ?_
          repeat (first | (with_reducible exact KF.refl _ _) | (with_reducible assumption) | (with_reducible refine KF.alloc ?_ _) | (with_reducible refine KF.drew ?_) | (with_reducible refine KF.drewN ?_ _) | ((with_reducible refine KF.set ?_ ?_); focus (first | assumption | (simp [orNew, old]; done) | (simp [orNew, old]; omega) | (simp [orNew, old] at *; omega))) | (with_reducible refine KF.trans ?_ (KF.keeps (by with_reducible assumption))))
      · obtain ⟨q, _, rfl⟩ := List.mem_map.1 hc
        exact forceP_dim D q
set_option maxRecDepth 100000 in
theorem geoPy_ (a : Option Addr) (n cap d : Nat) (w : World) : Calls Tryz.prog 35 #[.agg #[.slice a n cap, .int .u8 d]] w (Held w 3 128 78 [.slice a n cap, .int .u8 d]) := by
  go_enter Tryz.func35, Tryz.ntmps35
  go_wp2
  refine bodyPost_ret (by simp [results, Tryz.results35, go_sem]) rfl ⟨w.heap.size, rfl, ?_, Nat.le_refl _, ?_⟩
  · with_reducible (repeat first | exact Kx.r _ | assumption | refine Kx.a ?_ _ | refine Kx.d ?_ | refine Kx.e ?_ _ | refine Kx.s (by simp <;> omega) ?_ _ | refine Kx.t ?_ (by assumption))
  · with_reducible (repeat first | assumption | (refine Bx.n ⟨?_, ?_⟩ <;> focus (first | rfl | (simp; done) | omega)) | refine Bx.a ?_ _ | refine Bx.d ?_ | refine Bx.e ?_ _ | refine Bx.p (by first | omega | simp <;> omega) ?_)
set_option maxRecDepth 100000 in
theorem geoMp_ (a : Option Addr) (n cap d : Nat) (w : World) : Calls Tryz.prog 37 #[.agg #[.slice a n cap, .int .u8 d]] w (Held w 4 131 82 [.slice a n cap, .int .u8 d]) := by
  go_enter Tryz.func37, Tryz.ntmps37
  go_wp2
  refine bodyPost_ret (by simp [results, Tryz.results37, go_sem]) rfl ⟨w.heap.size, rfl, ?_, Nat.le_refl _, ?_⟩
  · with_reducible (repeat first | exact Kx.r _ | assumption | refine Kx.a ?_ _ | refine Kx.d ?_ | refine Kx.e ?_ _ | refine Kx.s (by simp <;> omega) ?_ _ | refine Kx.t ?_ (by assumption))
  · with_reducible (repeat first | assumption | (refine Bx.n ⟨?_, ?_⟩ <;> focus (first | rfl | (simp; done) | omega)) | refine Bx.a ?_ _ | refine Bx.d ?_ | refine Bx.e ?_ _ | refine Bx.p (by first | omega | simp <;> omega) ?_)
set_option maxRecDepth 100000 in
theorem geoMl_ (a : Option Addr) (n cap d : Nat) (w : World) : Calls Tryz.prog 39 #[.agg #[.slice a n cap, .int .u8 d]] w (Held w 5 134 85 [.slice a n cap, .int .u8 d]) := by
  go_enter Tryz.func39, Tryz.ntmps39
  go_wp2
  refine bodyPost_ret (by simp [results, Tryz.results39, go_sem]) rfl ⟨w.heap.size, rfl, ?_, Nat.le_refl _, ?_⟩
  · with_reducible (repeat first | exact Kx.r _ | assumption | refine Kx.a ?_ _ | refine Kx.d ?_ | refine Kx.e ?_ _ | refine Kx.s (by simp <;> omega) ?_ _ | refine Kx.t ?_ (by assumption))
  · with_reducible (repeat first | assumption | (refine Bx.n ⟨?_, ?_⟩ <;> focus (first | rfl | (simp; done) | omega)) | refine Bx.a ?_ _ | refine Bx.d ?_ | refine Bx.e ?_ _ | refine Bx.p (by first | omega | simp <;> omega) ?_)
set_option maxRecDepth 100000 in
theorem geoMy_ (a : Option Addr) (n cap d : Nat) (w : World) : Calls Tryz.prog 41 #[.agg #[.slice a n cap, .int .u8 d]] w (Held w 6 137 89 [.slice a n cap, .int .u8 d]) := by
  go_enter Tryz.func41, Tryz.ntmps41
  go_wp2
  refine bodyPost_ret (by simp [results, Tryz.results41, go_sem]) rfl ⟨w.heap.size, rfl, ?_, Nat.le_refl _, ?_⟩
  · with_reducible (repeat first | exact Kx.r _ | assumption | refine Kx.a ?_ _ | refine Kx.d ?_ | refine Kx.e ?_ _ | refine Kx.s (by simp <;> omega) ?_ _ | refine Kx.t ?_ (by assumption))
  · with_reducible (repeat first | assumption | (refine Bx.n ⟨?_, ?_⟩ <;> focus (first | rfl | (simp; done) | omega)) | refine Bx.a ?_ _ | refine Bx.d ?_ | refine Bx.e ?_ _ | refine Bx.p (by first | omega | simp <;> omega) ?_)
set_option maxRecDepth 100000 in
theorem geoGc_ (a : Option Addr) (n cap d : Nat) (w : World) : Calls Tryz.prog 43 #[.agg #[.slice a n cap, .int .u8 d]] w (Held w 0 141 93 [.slice a n cap, .int .u8 d]) := by
  go_enter Tryz.func43, Tryz.ntmps43
  go_wp2
  refine bodyPost_ret (by simp [results, Tryz.results43, go_sem]) rfl ⟨w.heap.size, rfl, ?_, Nat.le_refl _, ?_⟩
  · with_reducible (repeat first | exact Kx.r _ | assumption | refine Kx.a ?_ _ | refine Kx.d ?_ | refine Kx.e ?_ _ | refine Kx.s (by simp <;> omega) ?_ _ | refine Kx.t ?_ (by assumption))
  · with_reducible (repeat first | assumption | (refine Bx.n ⟨?_, ?_⟩ <;> focus (first | rfl | (simp; done) | omega)) | refine Bx.a ?_ _ | refine Bx.d ?_ | refine Bx.e ?_ _ | refine Bx.p (by first | omega | simp <;> omega) ?_)
end Go.Proofs.YtinbkonmlgediaaGreat
