/-
  Polygons, multis and collections brought to another type of coordinates. No condition.
-/
import Derived.Test.YtbakhldjfplbfaaGreatXRl
set_option linter.unusedVariables false
set_option linter.unusedSimpArgs false
namespace Go.Proofs.YtbakhldjfplbfaaGreat
open Go.RowKit Go.Fl Go.Sl Go.Pg Go.Ch Go.Kf
theorem infoLs : (Tryz.prog.info? 99).map (fun i => (i.zero, i.size, i.bytes)) = some (some (.agg #[.int .u8 0, .slice none 0 0]), 2, 32) := by kernel_rfl
theorem infoPy : (Tryz.prog.info? 121).map (fun i => (i.zero, i.size, i.bytes)) = some (some (.agg #[.slice none 0 0, .int .u8 0]), 2, 32) := by kernel_rfl
theorem infoGeo : (Tryz.prog.info? 78).map (fun i => (i.zero, i.size, i.bytes)) = some (some (.agg #[.int .i64 0, .nilIface]), 2, 24) := by kernel_rfl
theorem infoPt : (Tryz.prog.info? 141).map (fun i => (i.zero, i.size, i.bytes)) = some (some (.agg #[.float .f64 0, .float .f64 0, .float .f64 0, .float .f64 0, .int .u8 0, .bool false]), 6, 48) := by kernel_rfl
theorem run_makeN {P : Program} (t e : TypeId) (z : Value) (size bytes n : Nat) (ht : P.underlying t = some (.slice e)) (hi : (P.info? e).map (fun i => (i.zero, i.size, i.bytes)) = some (some z, size, bytes)) (hb : (bytes : Int) * n ≤ 281474976710656) (hn : n ≤ 9223372036854775807) (w : World) :
    (Instr.makeSlice t (.int .i64 n) (.int .i64 n)).run P w = .ok (.slice (some ⟨w.heap.size, 0, none⟩) n n) (w.alloc (.cells (madeCells z.cells (n * size)) e)) := by
  obtain ⟨i0, h0, h1, h2, h3⟩ := info_parts hi
  have := run_make (P := P) w t e i0 z ht h0 h1 .i64 .i64 n n (by omega) (Int.le_refl _) (by rw [h3]; exact hb) (by omega)
  rw [h2] at this
  simpa using this
set_option maxRecDepth 100000 in
set_option maxHeartbeats 2000000 in
theorem forcePy_ {F : Nat → Prop} (d' : Nat) (hd' : d' < 4) (cs : List Value) (p : Pg) (w : World) (h : PyR w F cs p) : Calls Tryz.prog 156 #[.agg cs.toArray, .int .u8 d'] w (RetR w F PyR (forceP d' p)) := by
  obtain ⟨d, a, n, cap, css, kids, rfl, rfl, hd, hn, hR, hdim⟩ := h
  have hmk := fun w => run_makeN (P := Tryz.prog) 119 99 _ 2 32 n Tryz.underlying119 infoLs (by omega) (by omega) w
  have hle := hR.sz.sz.le
  have hmx := hR.sz.sz.max
  unfold maxLen at hmx
  have hlk := hR.lx
  have hR0 := hR.mono (G := Go.Kf.old F w.heap.size) (fun b h1 h2 => ⟨h2, h1⟩) (fun c x hx => lsS.mono hx fun b h1 h2 => ⟨h2, h1⟩)
  have HLK := Lib.hid hlk
  have HDM := Lib.hid hdim
  clear hR hlk hdim hd
  go_enter Tryz.func156, Tryz.ntmps156
  go_wp2_with fail
  have hB0 : Blk ((w.alloc (.cells #[.slice a n cap, .int .u8 d] 121)).alloc (.cells #[.slice none 0 0, .int .u8 0] 121)) w.heap.size 121 [.slice a n cap, .int .u8 d] := by with_reducible (repeat first | assumption | (refine Bx.n ⟨?_, ?_⟩ <;> focus (first | rfl | (simp; done) | omega)) | refine Bx.a ?_ _ | refine Bx.d ?_ | refine Bx.e ?_ _ | refine Bx.p (by first | omega | simp <;> omega) ?_)
  have hB1 : Blk ((w.alloc (.cells #[.slice a n cap, .int .u8 d] 121)).alloc (.cells #[.slice none 0 0, .int .u8 0] 121)) (w.heap.size + 1) 121 [.slice none 0 0, .int .u8 0] := by with_reducible (repeat first | assumption | (refine Bx.n ⟨?_, ?_⟩ <;> focus (first | rfl | (simp; done) | omega)) | refine Bx.a ?_ _ | refine Bx.d ?_ | refine Bx.e ?_ _ | refine Bx.p (by first | omega | simp <;> omega) ?_)
  have hkw : Stab.Keeps w ((w.alloc (.cells #[.slice a n cap, .int .u8 d] 121)).alloc (.cells #[.slice none 0 0, .int .u8 0] 121)) := by with_reducible (repeat first | exact Kx.r _ | assumption | refine Kx.a ?_ _ | refine Kx.d ?_ | refine Kx.e ?_ _ | refine Kx.s (by simp <;> omega) ?_ _ | refine Kx.t ?_ (by assumption))
  have hsz : ((w.alloc (.cells #[.slice a n cap, .int .u8 d] 121)).alloc (.cells #[.slice none 0 0, .int .u8 0] 121)).heap.size = w.heap.size + 1 + 1 := by simp
  have hFl := Fill.start w ((w.alloc (.cells #[.slice a n cap, .int .u8 d] 121)).alloc (.cells #[.slice none 0 0, .int .u8 0] 121)) (orNew (Go.Kf.old F w.heap.size) (w.heap.size + 1 + 1 + 1)) LsR n 2 (madeCells (#[.int .u8 0, .slice none 0 0]) (n * 2)) 99 (kids.map (forceP d')) hkw (size_madeCells _ _) (by simp [orNew, Go.Kf.old]; omega)
  rw [hsz] at hFl
  have hB0' := hB0.alloc (.cells (madeCells (#[.int .u8 0, .slice none 0 0]) (n * 2)) 99)
  have hB1' := hB1.alloc (.cells (madeCells (#[.int .u8 0, .slice none 0 0]) (n * 2)) 99)
  generalize ((w.alloc (.cells #[.slice a n cap, .int .u8 d] 121)).alloc (.cells #[.slice none 0 0, .int .u8 0] 121)).alloc (.cells (madeCells (#[.int .u8 0, .slice none 0 0]) (n * 2)) 99) = W at hFl hB0' hB1' ⊢
  clear hB0 hB1 hkw hsz hmk
  have m0 := hB0'.cell (i := 0) rfl
  have ml := hB0'.lt
  go_wp2_with fail
  go_loopw [14] (fun iv wr => ∃ (k : Nat) (cs' : List (List Value)), k ≤ n ∧ iv = .int .i64 k ∧ Blk wr w.heap.size 121 [.slice a n cap, .int .u8 d] ∧ Blk wr (w.heap.size + 1) 121 [.slice none 0 0, .int .u8 0] ∧ Fill w wr (orNew (Go.Kf.old F w.heap.size) (w.heap.size + 1 + 1 + 1)) LsR (w.heap.size + 1 + 1) n k 2 cs' (kids.map (forceP d'))) (fun iv _ => n - (intOf iv).toNat)
  case atStart => exact ⟨0, [], by omega, rfl, hB0', hB1', hFl⟩
  case round =>
    clear hFl hB0' hB1' m0 ml
    obtain ⟨k, cs', k2, rfl, hB0, hB1, hFl⟩ := hrel
    by_cases hlt : k < n
    · obtain ⟨b, off, c, ha, hb, _, _, hc2, hcc, hx⟩ := (hR0.kf (KF.keeps hFl.keeps) (fun c x hx => lsS.kf hx (KF.keeps hFl.keeps))).elem hlt
      obtain ⟨dq, aq, nq, cq, rfl⟩ := hx.two
      subst ha
      have e0 : wr.cell? ⟨b, off + k * 2, none⟩ = some (.int .u8 dq) := by have := hcc 0 _ rfl; simpa using this
      have e1 : wr.cell? ⟨b, off + k * 2 + 1, none⟩ = some (.slice aq nq cq) := hcc 1 _ rfl
      have hF1 := fun w' (hk : Stab.Keeps wr w') => forceLs_ d' hd' [.int .u8 dq, .slice aq nq cq] _ w' (lsS.kf hx (KF.keeps hk))
      have hkk : k < kids.length := by have := HLK.out; omega
      generalize hke : kids[k] = kid at *
      have HKE := Lib.hid hke
      clear hcc hx hke
      have m0 := hB0.cell (i := 0) rfl
      have ml := hB0.lt
      go_wp2_with fail
      refine (hF1 _ (Stab.Keeps.refl _)).mono ?_
      clear hF1
      rintro e w4 ⟨cs4, rfl, hk4, hx4⟩
      obtain ⟨dz, az, nz, cz, rfl⟩ := hx4.two
      have hlw : w.heap.size + 1 + 1 < wr.heap.size := hFl.lt
      have hFl4 := hFl.keep lsS hk4
      have hB04 := hB0.keep hk4
      have hB14 := hB1.keep hk4
      have hx5 := lsS.mono (G := orNew (Go.Kf.old F w.heap.size) (w.heap.size + 1 + 1 + 1)) hx4 (fun b _ hb => on_old (by omega) hb)
      have hkm : k < (kids.map (forceP d')).length := by simpa using hkk
      have hxe : (kids.map (forceP d'))[k] = forceP d' kid := by rw [List.getElem_map, HKE.out]
      rw [← hxe] at hx5
      have hFl5 := hFl4.put2 lsS hlt hkm hx5
      obtain ⟨x0, r0⟩ := hFl4.room.cell (k * 2) (by omega)
      obtain ⟨x1, r1⟩ := hFl4.room.cell (k * 2 + 1) (by omega)
      have rf := hFl4.room.free
      have hl4 := hFl4.lt
      clear hFl hFl4 hB0 hB1 hx4 hx5 hxe hkm e0 e1 m0 ml hk4 hlw
      go_wp2_with fail
      go_roundw
      case rel =>
        refine ⟨k + 1, _, by omega, by go_num, ?_, ?_, hFl5⟩
        · with_reducible (repeat first | assumption | (refine Bx.n ⟨?_, ?_⟩ <;> focus (first | rfl | (simp; done) | omega)) | refine Bx.a ?_ _ | refine Bx.d ?_ | refine Bx.e ?_ _ | refine Bx.p (by first | omega | simp <;> omega) ?_)
        · with_reducible (repeat first | assumption | (refine Bx.n ⟨?_, ?_⟩ <;> focus (first | rfl | (simp; done) | omega)) | refine Bx.a ?_ _ | refine Bx.d ?_ | refine Bx.e ?_ _ | refine Bx.p (by first | omega | simp <;> omega) ?_)
      case measure => simp [intOf]; omega
    · obtain rfl : n = k := by omega
      have r0 := hB1.cell (i := 0) rfl
      have r1 := hB1.cell (i := 1) rfl
      have rf := hB1.free
      have rl := hB1.lt
      go_wp2_with fail
      refine bodyPost_ret (v := .agg #[.slice (some ⟨w.heap.size + 1 + 1, 0, none⟩) n n, .int .u8 d']) (by simp [results, Tryz.results156, go_sem, *]) rfl ⟨[.slice (some ⟨w.heap.size + 1 + 1, 0, none⟩) n n, .int .u8 d'], rfl, ?_, d', _, n, n, cs', kids.map (forceP d'), rfl, by rw [forceP_eq]; rfl, hd', hn, ?_, fun c hc => ?_⟩
      · have := hFl.keeps
        with_reducible (repeat first | exact Kx.r _ | assumption | refine Kx.a ?_ _ | refine Kx.d ?_ | refine Kx.e ?_ _ | refine Kx.s (by simp <;> omega) ?_ _ | refine Kx.t ?_ (by assumption))
      · exact ((hFl.past lsS (by omega) (by simp [orNew, Go.Kf.old]; omega) (by omega) _).past lsS (by omega) (by simp [orNew, Go.Kf.old]; omega) (by omega) _).rows lsS (by rw [List.length_map]; exact HLK.out) (by unfold maxLen; omega) (fun b _ hb => on_mono (by omega) hb) (.inr (by omega))
      · obtain ⟨q, _, rfl⟩ := List.mem_map.1 hc
        exact forceP_dim d' q
set_option maxRecDepth 100000 in
set_option maxHeartbeats 2000000 in
theorem forceMl_ {F : Nat → Prop} (d' : Nat) (hd' : d' < 4) (cs : List Value) (p : Pg) (w : World) (h : MlR w F cs p) : Calls Tryz.prog 158 #[.agg cs.toArray, .int .u8 d'] w (RetR w F MlR (forceP d' p)) := by
  obtain ⟨d, a, n, cap, css, kids, rfl, rfl, hd, hn, hR, hdim⟩ := h
  have hmk := fun w => run_makeN (P := Tryz.prog) 119 99 _ 2 32 n Tryz.underlying119 infoLs (by omega) (by omega) w
  have hle := hR.sz.sz.le
  have hmx := hR.sz.sz.max
  unfold maxLen at hmx
  have hlk := hR.lx
  have hR0 := hR.mono (G := Go.Kf.old F w.heap.size) (fun b h1 h2 => ⟨h2, h1⟩) (fun c x hx => lsS.mono hx fun b h1 h2 => ⟨h2, h1⟩)
  have HLK := Lib.hid hlk
  have HDM := Lib.hid hdim
  clear hR hlk hdim hd
  go_enter Tryz.func158, Tryz.ntmps158
  go_wp2_with fail
  have hB0 : Blk ((w.alloc (.cells #[.slice a n cap, .int .u8 d] 129)).alloc (.cells #[.slice none 0 0, .int .u8 0] 129)) w.heap.size 129 [.slice a n cap, .int .u8 d] := by with_reducible (repeat first | assumption | (refine Bx.n ⟨?_, ?_⟩ <;> focus (first | rfl | (simp; done) | omega)) | refine Bx.a ?_ _ | refine Bx.d ?_ | refine Bx.e ?_ _ | refine Bx.p (by first | omega | simp <;> omega) ?_)
  have hB1 : Blk ((w.alloc (.cells #[.slice a n cap, .int .u8 d] 129)).alloc (.cells #[.slice none 0 0, .int .u8 0] 129)) (w.heap.size + 1) 129 [.slice none 0 0, .int .u8 0] := by with_reducible (repeat first | assumption | (refine Bx.n ⟨?_, ?_⟩ <;> focus (first | rfl | (simp; done) | omega)) | refine Bx.a ?_ _ | refine Bx.d ?_ | refine Bx.e ?_ _ | refine Bx.p (by first | omega | simp <;> omega) ?_)
  have hkw : Stab.Keeps w ((w.alloc (.cells #[.slice a n cap, .int .u8 d] 129)).alloc (.cells #[.slice none 0 0, .int .u8 0] 129)) := by with_reducible (repeat first | exact Kx.r _ | assumption | refine Kx.a ?_ _ | refine Kx.d ?_ | refine Kx.e ?_ _ | refine Kx.s (by simp <;> omega) ?_ _ | refine Kx.t ?_ (by assumption))
  have hsz : ((w.alloc (.cells #[.slice a n cap, .int .u8 d] 129)).alloc (.cells #[.slice none 0 0, .int .u8 0] 129)).heap.size = w.heap.size + 1 + 1 := by simp
  have hFl := Fill.start w ((w.alloc (.cells #[.slice a n cap, .int .u8 d] 129)).alloc (.cells #[.slice none 0 0, .int .u8 0] 129)) (orNew (Go.Kf.old F w.heap.size) (w.heap.size + 1 + 1 + 1)) LsR n 2 (madeCells (#[.int .u8 0, .slice none 0 0]) (n * 2)) 99 (kids.map (forceP d')) hkw (size_madeCells _ _) (by simp [orNew, Go.Kf.old]; omega)
  rw [hsz] at hFl
  have hB0' := hB0.alloc (.cells (madeCells (#[.int .u8 0, .slice none 0 0]) (n * 2)) 99)
  have hB1' := hB1.alloc (.cells (madeCells (#[.int .u8 0, .slice none 0 0]) (n * 2)) 99)
  generalize ((w.alloc (.cells #[.slice a n cap, .int .u8 d] 129)).alloc (.cells #[.slice none 0 0, .int .u8 0] 129)).alloc (.cells (madeCells (#[.int .u8 0, .slice none 0 0]) (n * 2)) 99) = W at hFl hB0' hB1' ⊢
  clear hB0 hB1 hkw hsz hmk
  have m0 := hB0'.cell (i := 0) rfl
  have ml := hB0'.lt
  go_wp2_with fail
  go_loopw [14] (fun iv wr => ∃ (k : Nat) (cs' : List (List Value)), k ≤ n ∧ iv = .int .i64 k ∧ Blk wr w.heap.size 129 [.slice a n cap, .int .u8 d] ∧ Blk wr (w.heap.size + 1) 129 [.slice none 0 0, .int .u8 0] ∧ Fill w wr (orNew (Go.Kf.old F w.heap.size) (w.heap.size + 1 + 1 + 1)) LsR (w.heap.size + 1 + 1) n k 2 cs' (kids.map (forceP d'))) (fun iv _ => n - (intOf iv).toNat)
  case atStart => exact ⟨0, [], by omega, rfl, hB0', hB1', hFl⟩
  case round =>
    clear hFl hB0' hB1' m0 ml
    obtain ⟨k, cs', k2, rfl, hB0, hB1, hFl⟩ := hrel
    by_cases hlt : k < n
    · obtain ⟨b, off, c, ha, hb, _, _, hc2, hcc, hx⟩ := (hR0.kf (KF.keeps hFl.keeps) (fun c x hx => lsS.kf hx (KF.keeps hFl.keeps))).elem hlt
      obtain ⟨dq, aq, nq, cq, rfl⟩ := hx.two
      subst ha
      have e0 : wr.cell? ⟨b, off + k * 2, none⟩ = some (.int .u8 dq) := by have := hcc 0 _ rfl; simpa using this
      have e1 : wr.cell? ⟨b, off + k * 2 + 1, none⟩ = some (.slice aq nq cq) := hcc 1 _ rfl
      have hF1 := fun w' (hk : Stab.Keeps wr w') => forceLs_ d' hd' [.int .u8 dq, .slice aq nq cq] _ w' (lsS.kf hx (KF.keeps hk))
      have hkk : k < kids.length := by have := HLK.out; omega
      generalize hke : kids[k] = kid at *
      have HKE := Lib.hid hke
      clear hcc hx hke
      have m0 := hB0.cell (i := 0) rfl
      have ml := hB0.lt
      go_wp2_with fail
      refine (hF1 _ (Stab.Keeps.refl _)).mono ?_
      clear hF1
      rintro e w4 ⟨cs4, rfl, hk4, hx4⟩
      obtain ⟨dz, az, nz, cz, rfl⟩ := hx4.two
      have hlw : w.heap.size + 1 + 1 < wr.heap.size := hFl.lt
      have hFl4 := hFl.keep lsS hk4
      have hB04 := hB0.keep hk4
      have hB14 := hB1.keep hk4
      have hx5 := lsS.mono (G := orNew (Go.Kf.old F w.heap.size) (w.heap.size + 1 + 1 + 1)) hx4 (fun b _ hb => on_old (by omega) hb)
      have hkm : k < (kids.map (forceP d')).length := by simpa using hkk
      have hxe : (kids.map (forceP d'))[k] = forceP d' kid := by rw [List.getElem_map, HKE.out]
      rw [← hxe] at hx5
      have hFl5 := hFl4.put2 lsS hlt hkm hx5
      obtain ⟨x0, r0⟩ := hFl4.room.cell (k * 2) (by omega)
      obtain ⟨x1, r1⟩ := hFl4.room.cell (k * 2 + 1) (by omega)
      have rf := hFl4.room.free
      have hl4 := hFl4.lt
      clear hFl hFl4 hB0 hB1 hx4 hx5 hxe hkm e0 e1 m0 ml hk4 hlw
      go_wp2_with fail
      go_roundw
      case rel =>
        refine ⟨k + 1, _, by omega, by go_num, ?_, ?_, hFl5⟩
        · with_reducible (repeat first | assumption | (refine Bx.n ⟨?_, ?_⟩ <;> focus (first | rfl | (simp; done) | omega)) | refine Bx.a ?_ _ | refine Bx.d ?_ | refine Bx.e ?_ _ | refine Bx.p (by first | omega | simp <;> omega) ?_)
        · with_reducible (repeat first | assumption | (refine Bx.n ⟨?_, ?_⟩ <;> focus (first | rfl | (simp; done) | omega)) | refine Bx.a ?_ _ | refine Bx.d ?_ | refine Bx.e ?_ _ | refine Bx.p (by first | omega | simp <;> omega) ?_)
      case measure => simp [intOf]; omega
    · obtain rfl : n = k := by omega
      have r0 := hB1.cell (i := 0) rfl
      have r1 := hB1.cell (i := 1) rfl
      have rf := hB1.free
      have rl := hB1.lt
      go_wp2_with fail
      refine bodyPost_ret (v := .agg #[.slice (some ⟨w.heap.size + 1 + 1, 0, none⟩) n n, .int .u8 d']) (by simp [results, Tryz.results158, go_sem, *]) rfl ⟨[.slice (some ⟨w.heap.size + 1 + 1, 0, none⟩) n n, .int .u8 d'], rfl, ?_, d', _, n, n, cs', kids.map (forceP d'), rfl, by rw [forceP_eq]; rfl, hd', hn, ?_, fun c hc => ?_⟩
      · have := hFl.keeps
        with_reducible (repeat first | exact Kx.r _ | assumption | refine Kx.a ?_ _ | refine Kx.d ?_ | refine Kx.e ?_ _ | refine Kx.s (by simp <;> omega) ?_ _ | refine Kx.t ?_ (by assumption))
      · exact ((hFl.past lsS (by omega) (by simp [orNew, Go.Kf.old]; omega) (by omega) _).past lsS (by omega) (by simp [orNew, Go.Kf.old]; omega) (by omega) _).rows lsS (by rw [List.length_map]; exact HLK.out) (by unfold maxLen; omega) (fun b _ hb => on_mono (by omega) hb) (.inr (by omega))
      · obtain ⟨q, _, rfl⟩ := List.mem_map.1 hc
        exact forceP_dim d' q
set_option maxRecDepth 100000 in
set_option maxHeartbeats 2000000 in
theorem forceMy_ {F : Nat → Prop} (d' : Nat) (hd' : d' < 4) (cs : List Value) (p : Pg) (w : World) (h : MyR w F cs p) : Calls Tryz.prog 159 #[.agg cs.toArray, .int .u8 d'] w (RetR w F MyR (forceP d' p)) := by
  obtain ⟨d, a, n, cap, css, kids, rfl, rfl, hd, hn, hR, hdim⟩ := h
  have hmk := fun w => run_makeN (P := Tryz.prog) 132 121 _ 2 32 n Tryz.underlying132 infoPy (by omega) (by omega) w
  have hle := hR.sz.sz.le
  have hmx := hR.sz.sz.max
  unfold maxLen at hmx
  have hlk := hR.lx
  have hR0 := hR.mono (G := Go.Kf.old F w.heap.size) (fun b h1 h2 => ⟨h2, h1⟩) (fun c x hx => pyS.mono hx fun b h1 h2 => ⟨h2, h1⟩)
  have HLK := Lib.hid hlk
  have HDM := Lib.hid hdim
  clear hR hlk hdim hd
  go_enter Tryz.func159, Tryz.ntmps159
  go_wp2_with fail
  have hB0 : Blk ((w.alloc (.cells #[.slice a n cap, .int .u8 d] 134)).alloc (.cells #[.slice none 0 0, .int .u8 0] 134)) w.heap.size 134 [.slice a n cap, .int .u8 d] := by with_reducible (repeat first | assumption | (refine Bx.n ⟨?_, ?_⟩ <;> focus (first | rfl | (simp; done) | omega)) | refine Bx.a ?_ _ | refine Bx.d ?_ | refine Bx.e ?_ _ | refine Bx.p (by first | omega | simp <;> omega) ?_)
  have hB1 : Blk ((w.alloc (.cells #[.slice a n cap, .int .u8 d] 134)).alloc (.cells #[.slice none 0 0, .int .u8 0] 134)) (w.heap.size + 1) 134 [.slice none 0 0, .int .u8 0] := by with_reducible (repeat first | assumption | (refine Bx.n ⟨?_, ?_⟩ <;> focus (first | rfl | (simp; done) | omega)) | refine Bx.a ?_ _ | refine Bx.d ?_ | refine Bx.e ?_ _ | refine Bx.p (by first | omega | simp <;> omega) ?_)
  have hkw : Stab.Keeps w ((w.alloc (.cells #[.slice a n cap, .int .u8 d] 134)).alloc (.cells #[.slice none 0 0, .int .u8 0] 134)) := by with_reducible (repeat first | exact Kx.r _ | assumption | refine Kx.a ?_ _ | refine Kx.d ?_ | refine Kx.e ?_ _ | refine Kx.s (by simp <;> omega) ?_ _ | refine Kx.t ?_ (by assumption))
  have hsz : ((w.alloc (.cells #[.slice a n cap, .int .u8 d] 134)).alloc (.cells #[.slice none 0 0, .int .u8 0] 134)).heap.size = w.heap.size + 1 + 1 := by simp
  have hFl := Fill.start w ((w.alloc (.cells #[.slice a n cap, .int .u8 d] 134)).alloc (.cells #[.slice none 0 0, .int .u8 0] 134)) (orNew (Go.Kf.old F w.heap.size) (w.heap.size + 1 + 1 + 1)) PyR n 2 (madeCells (#[.slice none 0 0, .int .u8 0]) (n * 2)) 121 (kids.map (forceP d')) hkw (size_madeCells _ _) (by simp [orNew, Go.Kf.old]; omega)
  rw [hsz] at hFl
  have hB0' := hB0.alloc (.cells (madeCells (#[.slice none 0 0, .int .u8 0]) (n * 2)) 121)
  have hB1' := hB1.alloc (.cells (madeCells (#[.slice none 0 0, .int .u8 0]) (n * 2)) 121)
  generalize ((w.alloc (.cells #[.slice a n cap, .int .u8 d] 134)).alloc (.cells #[.slice none 0 0, .int .u8 0] 134)).alloc (.cells (madeCells (#[.slice none 0 0, .int .u8 0]) (n * 2)) 121) = W at hFl hB0' hB1' ⊢
  clear hB0 hB1 hkw hsz hmk
  have m0 := hB0'.cell (i := 0) rfl
  have ml := hB0'.lt
  go_wp2_with fail
  go_loopw [14] (fun iv wr => ∃ (k : Nat) (cs' : List (List Value)), k ≤ n ∧ iv = .int .i64 k ∧ Blk wr w.heap.size 134 [.slice a n cap, .int .u8 d] ∧ Blk wr (w.heap.size + 1) 134 [.slice none 0 0, .int .u8 0] ∧ Fill w wr (orNew (Go.Kf.old F w.heap.size) (w.heap.size + 1 + 1 + 1)) PyR (w.heap.size + 1 + 1) n k 2 cs' (kids.map (forceP d'))) (fun iv _ => n - (intOf iv).toNat)
  case atStart => exact ⟨0, [], by omega, rfl, hB0', hB1', hFl⟩
  case round =>
    clear hFl hB0' hB1' m0 ml
    obtain ⟨k, cs', k2, rfl, hB0, hB1, hFl⟩ := hrel
    by_cases hlt : k < n
    · obtain ⟨b, off, c, ha, hb, _, _, hc2, hcc, hx⟩ := (hR0.kf (KF.keeps hFl.keeps) (fun c x hx => pyS.kf hx (KF.keeps hFl.keeps))).elem hlt
      obtain ⟨aq, nq, cq, dq, rfl⟩ := hx.two
      subst ha
      have e0 : wr.cell? ⟨b, off + k * 2, none⟩ = some (.slice aq nq cq) := by have := hcc 0 _ rfl; simpa using this
      have e1 : wr.cell? ⟨b, off + k * 2 + 1, none⟩ = some (.int .u8 dq) := hcc 1 _ rfl
      have hF1 := fun w' (hk : Stab.Keeps wr w') => forcePy_ d' hd' [.slice aq nq cq, .int .u8 dq] _ w' (pyS.kf hx (KF.keeps hk))
      have hkk : k < kids.length := by have := HLK.out; omega
      generalize hke : kids[k] = kid at *
      have HKE := Lib.hid hke
      clear hcc hx hke
      have m0 := hB0.cell (i := 0) rfl
      have ml := hB0.lt
      go_wp2_with fail
      refine (hF1 _ (Stab.Keeps.refl _)).mono ?_
      clear hF1
      rintro e w4 ⟨cs4, rfl, hk4, hx4⟩
      obtain ⟨az, nz, cz, dz, rfl⟩ := hx4.two
      have hlw : w.heap.size + 1 + 1 < wr.heap.size := hFl.lt
      have hFl4 := hFl.keep pyS hk4
      have hB04 := hB0.keep hk4
      have hB14 := hB1.keep hk4
      have hx5 := pyS.mono (G := orNew (Go.Kf.old F w.heap.size) (w.heap.size + 1 + 1 + 1)) hx4 (fun b _ hb => on_old (by omega) hb)
      have hkm : k < (kids.map (forceP d')).length := by simpa using hkk
      have hxe : (kids.map (forceP d'))[k] = forceP d' kid := by rw [List.getElem_map, HKE.out]
      rw [← hxe] at hx5
      have hFl5 := hFl4.put2 pyS hlt hkm hx5
      obtain ⟨x0, r0⟩ := hFl4.room.cell (k * 2) (by omega)
      obtain ⟨x1, r1⟩ := hFl4.room.cell (k * 2 + 1) (by omega)
      have rf := hFl4.room.free
      have hl4 := hFl4.lt
      clear hFl hFl4 hB0 hB1 hx4 hx5 hxe hkm e0 e1 m0 ml hk4 hlw
      go_wp2_with fail
      go_roundw
      case rel =>
        refine ⟨k + 1, _, by omega, by go_num, ?_, ?_, hFl5⟩
        · with_reducible (repeat first | assumption | (refine Bx.n ⟨?_, ?_⟩ <;> focus (first | rfl | (simp; done) | omega)) | refine Bx.a ?_ _ | refine Bx.d ?_ | refine Bx.e ?_ _ | refine Bx.p (by first | omega | simp <;> omega) ?_)
        · with_reducible (repeat first | assumption | (refine Bx.n ⟨?_, ?_⟩ <;> focus (first | rfl | (simp; done) | omega)) | refine Bx.a ?_ _ | refine Bx.d ?_ | refine Bx.e ?_ _ | refine Bx.p (by first | omega | simp <;> omega) ?_)
      case measure => simp [intOf]; omega
    · obtain rfl : n = k := by omega
      have r0 := hB1.cell (i := 0) rfl
      have r1 := hB1.cell (i := 1) rfl
      have rf := hB1.free
      have rl := hB1.lt
      go_wp2_with fail
      refine bodyPost_ret (v := .agg #[.slice (some ⟨w.heap.size + 1 + 1, 0, none⟩) n n, .int .u8 d']) (by simp [results, Tryz.results159, go_sem, *]) rfl ⟨[.slice (some ⟨w.heap.size + 1 + 1, 0, none⟩) n n, .int .u8 d'], rfl, ?_, d', _, n, n, cs', kids.map (forceP d'), rfl, by rw [forceP_eq]; rfl, hd', hn, ?_, fun c hc => ?_⟩
      · have := hFl.keeps
        with_reducible (repeat first | exact Kx.r _ | assumption | refine Kx.a ?_ _ | refine Kx.d ?_ | refine Kx.e ?_ _ | refine Kx.s (by simp <;> omega) ?_ _ | refine Kx.t ?_ (by assumption))
      · exact ((hFl.past pyS (by omega) (by simp [orNew, Go.Kf.old]; omega) (by omega) _).past pyS (by omega) (by simp [orNew, Go.Kf.old]; omega) (by omega) _).rows pyS (by rw [List.length_map]; exact HLK.out) (by unfold maxLen; omega) (fun b _ hb => on_mono (by omega) hb) (.inr (by omega))
      · obtain ⟨q, _, rfl⟩ := List.mem_map.1 hc
        exact forceP_dim d' q
end Go.Proofs.YtbakhldjfplbfaaGreat
