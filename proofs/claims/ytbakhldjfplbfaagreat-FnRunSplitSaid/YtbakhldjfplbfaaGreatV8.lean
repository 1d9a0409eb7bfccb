/-
  What a hull is made of: collections. No condition.
-/
import Derived.Test.YtbakhldjfplbfaaGreatV7
set_option linter.unusedVariables false
set_option linter.unusedSimpArgs false
namespace Go.Proofs.YtbakhldjfplbfaaGreat
open Go.RowKit Go.Fl Go.Sl Go.Pg Go.Ch Go.Kf
def HullOk (c : Pg) : Prop := ∀ (F : Nat → Prop) (cs : List Value) (w : World), GeoR w F cs c → (hullL c).length ≤ 1000000 → Calls Tryz.prog 94 #[.agg cs.toArray] w (XyPost w (hullL c))
set_option maxRecDepth 100000 in
set_option maxHeartbeats 4000000 in
theorem hullGc_ {F : Nat → Prop} (b : Nat) (cs : List Value) (p : Pg) (w : World) (hB : Blk w b 150 cs) (h : GcR w F cs p) (hN : (hullL p).length ≤ 1000000) (hall : ∀ c ∈ p.kids, HullOk c) : Calls Tryz.prog 94 #[.agg #[.int .i64 0, .iface 210 (.pointer (some ⟨b, 0, none⟩))]] w (XyPost w (hullL p)) := by
  have HALL := Lib.hid hall
  clear hall
  obtain ⟨i0, hi, hz0, hz1, hz2⟩ := info_parts infoXy
  have HI := Lib.hid hi
  have HZ0 := Lib.hid hz0
  have HZ1 := Lib.hid hz1
  have HZ2 := Lib.hid hz2
  clear hi hz0 hz1 hz2
  obtain ⟨d, a, n, cap, css, kids, rfl, rfl, hd, hn, hR, hdim⟩ := h
  replace HALL := Lib.hid (show ∀ c ∈ kids, HullOk c from HALL.out)
  rw [hull_wh _ _ _ _ (by decide) (by decide) (by decide)] at hN ⊢
  have hle := hR.sz.sz.le
  have hmx := hR.sz.sz.max
  unfold maxLen at hmx
  have HLK := Lib.hid hR.lx
  have HN := Lib.hid hN
  clear hN hdim hd
  have hM := fun w' (hk' : Stab.Keeps w w') => mustGc_ a n cap d b w' (Blk.keep hB hk')
  have hk0 : Stab.Keeps w (w.alloc (.cells #[.int .i64 0, .iface 210 (.pointer (some ⟨b, 0, none⟩))] 78)) := by with_reducible (repeat (first | exact Kx.r _ | assumption | refine Kx.a ?_ _ | refine Kx.d ?_ | refine Kx.e ?_ _ | (refine Kx.s ?_ ?_ _; focus (first | (simp; done) | (simp; omega))) | refine Kx.t ?_ (by assumption)))
  have hB0 : Blk (w.alloc (.cells #[.int .i64 0, .iface 210 (.pointer (some ⟨b, 0, none⟩))] 78)) w.heap.size 78 [.int .i64 0, .iface 210 (.pointer (some ⟨b, 0, none⟩))] := by with_reducible (repeat (first | assumption | ((refine Bx.n ⟨?_, ?_⟩) <;> focus (first | rfl | (simp; done) | omega)) | refine Bx.a ?_ _ | refine Bx.d ?_ | refine Bx.e ?_ _ | (refine Bx.p ?_ ?_; focus (first | (simp; done) | (simp; omega) | omega))))
  go_enter Tryz.func94, Tryz.ntmps94
  go_wp2_with fail
  generalize (w.alloc (.cells #[.int .i64 0, .iface 210 (.pointer (some ⟨b, 0, none⟩))] 78)) = W0 at *
  refine (isGc_ 0 _ b _).mono ?_
  rintro e wz0 ⟨rfl, hkz⟩
  replace hB0 := hB0.keep hkz
  replace hk0 := Stab.Keeps.trans hk0 hkz
  clear hkz
  have g0 := hB0.cell (i := 0) rfl
  have g1 := hB0.cell (i := 1) rfl
  have gf := hB0.free
  have gl := hB0.lt
  go_wp2_with fail
  refine (hM _ (by with_reducible (repeat (first | exact Kx.r _ | assumption | refine Kx.a ?_ _ | refine Kx.d ?_ | refine Kx.e ?_ _ | (refine Kx.s ?_ ?_ _; focus (first | (simp; done) | (simp; omega))) | refine Kx.t ?_ (by assumption))))).mono ?_
  clear hM hB
  rintro e w2 ⟨rfl, hk2⟩
  clear g0 g1 gf gl hB0
  replace hk0 := Stab.Keeps.trans hk0 hk2
  clear hk2
  have hBm : Blk (w2.alloc (.cells #[.slice a n cap, .int .u8 d] 150)) w2.heap.size 150 [.slice a n cap, .int .u8 d] := by with_reducible (repeat (first | assumption | ((refine Bx.n ⟨?_, ?_⟩) <;> focus (first | rfl | (simp; done) | omega)) | refine Bx.a ?_ _ | refine Bx.d ?_ | refine Bx.e ?_ _ | (refine Bx.p ?_ ?_; focus (first | (simp; done) | (simp; omega) | omega))))
  have hk3 : Stab.Keeps w (w2.alloc (.cells #[.slice a n cap, .int .u8 d] 150)) := by with_reducible (repeat (first | exact Kx.r _ | assumption | refine Kx.a ?_ _ | refine Kx.d ?_ | refine Kx.e ?_ _ | (refine Kx.s ?_ ?_ _; focus (first | (simp; done) | (simp; omega))) | refine Kx.t ?_ (by assumption)))
  go_upto_region 5 with (fail)
  generalize (w2.alloc (.cells #[.slice a n cap, .int .u8 d] 150)) = w3 at *
  generalize w2.heap.size = mb at *
  clear hk0
  have g0 := hBm.cell (i := 0) rfl
  have g1 := hBm.cell (i := 1) rfl
  have gf := hBm.free
  have gl := hBm.lt
  go_wp2_with fail
  refine (numGc_ a n cap d _).mono ?_
  rintro e w4 ⟨rfl, hk4⟩
  clear g0 g1 gf gl
  replace hBm := hBm.keep hk4
  replace hk3 := Stab.Keeps.trans hk3 hk4
  clear hk4
  go_wp2_with fail
  have hO0 := World.ownsRow_nil w4 w.heap.size 137 2
  go_loopw [3, 6] (fun v iv wr => ∃ (k : Nat) (al : Option Addr) (c : Nat), k ≤ n ∧ iv = .int .i64 k ∧ Stab.Keeps w wr ∧ Blk wr mb 150 [.slice a n cap, .int .u8 d] ∧ v = .slice al (hullLs (kids.take k)).length c ∧ wr.ownsRow w.heap.size 137 2 v (hullLs (kids.take k)).length ((hullLs (kids.take k)).flatMap xyC)) (fun _ iv _ => n - (intOf iv).toNat)
  case atStart => exact ⟨0, none, 0, by omega, rfl, hk3, hBm, rfl, by simpa [hullLs] using hO0⟩
  case round =>
    clear hk3 hBm hO0
    obtain ⟨k, al, c, hk, rfl, hK, hBm, rfl, hown⟩ := hrel
    by_cases hlt : k < n
    · obtain ⟨b', off, cc, ha, hb, _, _, hc6, hcc, hx⟩ := (hR.kf (KF.keeps hK) (fun _ _ h => geoS.kf h (KF.keeps hK))).elem hlt
      have hki : k < kids.length := by have := HLK.out; omega
      have hs := hullLs_succ kids k hki
      have hlen := hullLs_take kids k hki
      have hbd : (hullLs (kids.take k)).length + (hullL kids[k]).length ≤ 1000000 := by have := HN.out; omega
      have hP := HALL.out kids[k] (List.getElem_mem hki)
      clear hlen
      generalize kids[k]'hki = kid at *
      obtain ⟨kq, tq, bq, rfl⟩ := hx.two
      subst ha
      have hI := fun w' (hk' : Stab.Keeps wr w') => hP _ _ w' (geoS.kf hx (KF.keeps hk')) (by omega)
      generalize hullL kid = q at *
      generalize hYS : hullLs (kids.take k) = ys at *
      have HS := Lib.hid hs
      have HBD := Lib.hid hbd
      have e0 : wr.cell? ⟨b', off + k * 2, none⟩ = some (.int .i64 kq) := by have := hcc 0 _ rfl; simpa using this
      have e1 : wr.cell? ⟨b', off + k * 2 + 1, none⟩ = some (.iface tq (.pointer (some ⟨bq, 0, none⟩))) := hcc 1 _ rfl
      have hNth := geometryN_ b' off n cap d k kq tq bq wr hlt hle (by omega) hb e0 e1
      clear hs hbd hYS hcc e0 e1 hx hP
      have g0 := hBm.cell (i := 0) rfl
      have g1 := hBm.cell (i := 1) rfl
      have gf := hBm.free
      have gl := hBm.lt
      go_wp2_with fail
      refine hNth.mono ?_
      clear hNth
      rintro e w5 ⟨rfl, hk5⟩
      go_wp2_with fail
      refine (hI _ hk5).mono ?_
      clear hI
      rintro e w6 ⟨a6, c6, rfl, hk6, hz6⟩
      have hk7 : Stab.Keeps wr w6 := by with_reducible (repeat (first | exact Kx.r _ | assumption | refine Kx.a ?_ _ | refine Kx.d ?_ | refine Kx.e ?_ _ | (refine Kx.s ?_ ?_ _; focus (first | (simp; done) | (simp; omega))) | refine Kx.t ?_ (by assumption)))
      have hBm7 := hBm.keep hk7
      have hown7 := owns_keep hown hk7
      have hK7 := Stab.Keeps.trans hK hk7
      clear hBm hown hK hk7 g0 g1 gf gl hk5 hk6
      go_wp2_with (at_builtin; (refine append_sz (w0 := w) rfl _ _ 85 rfl w.heap.size 137 i0 _ 2 16 Tryz.underlying85 HI.out HZ0.out HZ1.out HZ2.out rfl (by decide) _ ys.length (ys.flatMap xyC) rfl hown7 a6 q.length c6 (q.flatMap xyC) rfl hz6 (xyC_one _) ?c3 ?c4 ?c5 hK7 ?_))
      case c3 => have := HBD.out; unfold maxLen; omega
      case c4 => have := HBD.out; omega
      case c5 => exact hK7.size
      intro al' c' w8 hown8 hk8 hsz8 hgr
      have hBm8 := Go.Kf.Blk.grown hBm7 hgr (owns_ne hown7 hBm7 (by decide))
      have hk9 : Stab.Keeps w w8 := hk8
      clear hgr hk8 hown7 hBm7 hK7
      go_wp2_with fail
      exact ⟨⟨k + 1, al', c', by omega, by go_num, hk9, hBm8, by rw [HS.out, List.length_append], by rw [HS.out, List.flatMap_append, List.length_append]; exact hown8⟩, by simp [intOf]; omega⟩
    · have hkk : n = k := by omega
      subst hkk
      rw [List.take_of_length_le (by rw [HLK.out]; exact Nat.le_refl _)] at hown ⊢
      go_wp2_with fail
      go_ret
      exact ⟨al, c, rfl, hK, (SzF.of_owns hown (fun b hb => hb)).sz⟩
end Go.Proofs.YtbakhldjfplbfaaGreat
