/-
  What a hull is made of: several line strings, several polygons; every geometry. No condition.
-/
import Derived.Test.YtbakhldjfplbfaaGreatV8
set_option linter.unusedVariables false
set_option linter.unusedSimpArgs false
namespace Go.Proofs.YtbakhldjfplbfaaGreat
open Go.RowKit Go.Fl Go.Sl Go.Pg Go.Ch Go.Kf
set_option maxRecDepth 100000 in
set_option maxHeartbeats 4000000 in
theorem hullMl_ {F : Nat → Prop} (b : Nat) (cs : List Value) (p : Pg) (w : World) (hB : Blk w b 129 cs) (h : MlR w F cs p) (hN : (hullL p).length ≤ 1000000) : Calls Tryz.prog 94 #[.agg #[.int .i64 5, .iface 197 (.pointer (some ⟨b, 0, none⟩))]] w (XyPost w (hullL p)) := by
  obtain ⟨i0, hi, hz0, hz1, hz2⟩ := info_parts infoXy
  have HI := Lib.hid hi
  have HZ0 := Lib.hid hz0
  have HZ1 := Lib.hid hz1
  have HZ2 := Lib.hid hz2
  clear hi hz0 hz1 hz2
  obtain ⟨d, a, n, cap, css, kids, rfl, rfl, hd, hn, hR, hdim⟩ := h
  rw [hull_wh _ _ _ _ (by decide) (by decide) (by decide)] at hN ⊢
  have hle := hR.sz.sz.le
  have hmx := hR.sz.sz.max
  unfold maxLen at hmx
  have HLK := Lib.hid hR.lx
  have HN := Lib.hid hN
  clear hN hdim hd
  have hM := fun w' (hk' : Stab.Keeps w w') => mustMl_ a n cap d b w' (Blk.keep hB hk')
  have hk0 : Stab.Keeps w (w.alloc (.cells #[.int .i64 5, .iface 197 (.pointer (some ⟨b, 0, none⟩))] 78)) := by with_reducible (repeat (first | exact Kx.r _ | assumption | refine Kx.a ?_ _ | refine Kx.d ?_ | refine Kx.e ?_ _ | (refine Kx.s ?_ ?_ _; focus (first | (simp; done) | (simp; omega))) | refine Kx.t ?_ (by assumption)))
  have hB0 : Blk (w.alloc (.cells #[.int .i64 5, .iface 197 (.pointer (some ⟨b, 0, none⟩))] 78)) w.heap.size 78 [.int .i64 5, .iface 197 (.pointer (some ⟨b, 0, none⟩))] := by with_reducible (repeat (first | assumption | ((refine Bx.n ⟨?_, ?_⟩) <;> focus (first | rfl | (simp; done) | omega)) | refine Bx.a ?_ _ | refine Bx.d ?_ | refine Bx.e ?_ _ | (refine Bx.p ?_ ?_; focus (first | (simp; done) | (simp; omega) | omega))))
  go_enter Tryz.func94, Tryz.ntmps94
  go_wp2_with fail
  generalize (w.alloc (.cells #[.int .i64 5, .iface 197 (.pointer (some ⟨b, 0, none⟩))] 78)) = W0 at *
  refine (isGc_ 5 _ b _).mono ?_
  rintro e wz0 ⟨rfl, hkz⟩
  replace hB0 := hB0.keep hkz
  replace hk0 := Stab.Keeps.trans hk0 hkz
  clear hkz
  have g0 := hB0.cell (i := 0) rfl
  have g1 := hB0.cell (i := 1) rfl
  have gf := hB0.free
  have gl := hB0.lt
  go_wp2_with fail
  refine (isPt_ 5 _ b _).mono ?_
  rintro e wz1 ⟨rfl, hkz⟩
  replace hB0 := hB0.keep hkz
  replace hk0 := Stab.Keeps.trans hk0 hkz
  clear g0 g1 gf gl
  clear hkz
  have g0 := hB0.cell (i := 0) rfl
  have g1 := hB0.cell (i := 1) rfl
  have gf := hB0.free
  have gl := hB0.lt
  go_wp2_with fail
  refine (isLs_ 5 _ b _).mono ?_
  rintro e wz2 ⟨rfl, hkz⟩
  replace hB0 := hB0.keep hkz
  replace hk0 := Stab.Keeps.trans hk0 hkz
  clear g0 g1 gf gl
  clear hkz
  have g0 := hB0.cell (i := 0) rfl
  have g1 := hB0.cell (i := 1) rfl
  have gf := hB0.free
  have gl := hB0.lt
  go_wp2_with fail
  refine (isPy_ 5 _ b _).mono ?_
  rintro e wz3 ⟨rfl, hkz⟩
  replace hB0 := hB0.keep hkz
  replace hk0 := Stab.Keeps.trans hk0 hkz
  clear g0 g1 gf gl
  clear hkz
  have g0 := hB0.cell (i := 0) rfl
  have g1 := hB0.cell (i := 1) rfl
  have gf := hB0.free
  have gl := hB0.lt
  go_wp2_with fail
  refine (isMp_ 5 _ b _).mono ?_
  rintro e wz4 ⟨rfl, hkz⟩
  replace hB0 := hB0.keep hkz
  replace hk0 := Stab.Keeps.trans hk0 hkz
  clear g0 g1 gf gl
  clear hkz
  have g0 := hB0.cell (i := 0) rfl
  have g1 := hB0.cell (i := 1) rfl
  have gf := hB0.free
  have gl := hB0.lt
  go_wp2_with fail
  refine (isMl_ 5 _ b _).mono ?_
  rintro e wz5 ⟨rfl, hkz⟩
  replace hB0 := hB0.keep hkz
  replace hk0 := Stab.Keeps.trans hk0 hkz
  clear g0 g1 gf gl
  clear hkz
  have g0 := hB0.cell (i := 0) rfl
  have g1 := hB0.cell (i := 1) rfl
  have gf := hB0.free
  have gl := hB0.lt
  go_wp2_with fail
  refine (hM _ (by with_reducible (repeat (first | exact Kx.r _ | assumption | refine Kx.a ?_ _ | refine Kx.d ?_ | refine Kx.e ?_ _ | (refine Kx.s ?_ ?_ _; focus (first | (simp; done) | (simp; omega))) | refine Kx.t ?_ (by assumption))))).mono ?_
  clear hM hB
  rintro e w2 ⟨rfl, hk2⟩
  clear g0 g1 gf gl hB0
  replace hk0 := Stab.Keeps.trans hk0 hk2
  clear hk2
  have hBm : Blk (w2.alloc (.cells #[.slice a n cap, .int .u8 d] 129)) w2.heap.size 129 [.slice a n cap, .int .u8 d] := by with_reducible (repeat (first | assumption | ((refine Bx.n ⟨?_, ?_⟩) <;> focus (first | rfl | (simp; done) | omega)) | refine Bx.a ?_ _ | refine Bx.d ?_ | refine Bx.e ?_ _ | (refine Bx.p ?_ ?_; focus (first | (simp; done) | (simp; omega) | omega))))
  have hk3 : Stab.Keeps w (w2.alloc (.cells #[.slice a n cap, .int .u8 d] 129)) := by with_reducible (repeat (first | exact Kx.r _ | assumption | refine Kx.a ?_ _ | refine Kx.d ?_ | refine Kx.e ?_ _ | (refine Kx.s ?_ ?_ _; focus (first | (simp; done) | (simp; omega))) | refine Kx.t ?_ (by assumption)))
  go_upto_region 42 with (fail)
  generalize (w2.alloc (.cells #[.slice a n cap, .int .u8 d] 129)) = w3 at *
  generalize w2.heap.size = mb at *
  clear hk0
  have g0 := hBm.cell (i := 0) rfl
  have g1 := hBm.cell (i := 1) rfl
  have gf := hBm.free
  have gl := hBm.lt
  go_wp2_with fail
  refine (numMl_ a n cap d _).mono ?_
  rintro e w4 ⟨rfl, hk4⟩
  clear g0 g1 gf gl
  replace hBm := hBm.keep hk4
  replace hk3 := Stab.Keeps.trans hk3 hk4
  clear hk4
  go_wp2_with fail
  have hO0 := World.ownsRow_nil w4 w.heap.size 137 2
  go_loopw [21, 23] (fun v iv wr => ∃ (k : Nat) (al : Option Addr) (c : Nat), k ≤ n ∧ iv = .int .i64 k ∧ Stab.Keeps w wr ∧ Blk wr mb 129 [.slice a n cap, .int .u8 d] ∧ v = .slice al (hullLs (kids.take k)).length c ∧ wr.ownsRow w.heap.size 137 2 v (hullLs (kids.take k)).length ((hullLs (kids.take k)).flatMap xyC)) (fun _ iv _ => n - (intOf iv).toNat)
  case atStart => exact ⟨0, none, 0, by omega, rfl, hk3, hBm, rfl, by simpa [hullLs] using hO0⟩
  case round =>
    clear hk3 hBm hO0
    obtain ⟨k, al, c, hk, rfl, hK, hBm, rfl, hown⟩ := hrel
    by_cases hlt : k < n
    · obtain ⟨b', off, cc, ha, hb, _, _, hc6, hcc, hx⟩ := hR.elem hlt
      have hki : k < kids.length := by have := HLK.out; omega
      have hs := hullLs_succ kids k hki
      have hlen := hullLs_take kids k hki
      have hbd : (hullLs (kids.take k)).length + (hullL kids[k]).length ≤ 1000000 := by have := HN.out; omega
      clear hlen
      generalize kids[k]'hki = kid at *
      obtain ⟨dz, l, az, nz, cz, rfl, rfl, hq⟩ := hx
      subst ha
      rw [hull_ls] at hs hbd
      have hLen := fun w' (hk : Stab.Keeps w w') => seqLen_ dz l az nz cz w' w hq
      have hG := Lib.hid (fun j (hj : j < l.length) w' (hk : Stab.Keeps w w') => getXY_ dz l az nz cz j w' (hq.keep hk) hj)
      generalize hYS : hullLs (kids.take k) = ys at *
      have HS := Lib.hid hs
      have HBD := Lib.hid hbd
      have e0 : wr.cell? ⟨b', off + k * 2, none⟩ = some (.int .u8 dz) := by rw [(Stab.own_cell hK b' hb).1]; have := hcc 0 _ rfl; simpa using this
      have e1 : wr.cell? ⟨b', off + k * 2 + 1, none⟩ = some (.slice az nz cz) := by rw [(Stab.own_cell hK b' hb).1]; exact hcc 1 _ rfl
      have hNth := lineN_ b' off n cap d k az nz cz dz wr hlt hle (by omega) (Nat.lt_of_lt_of_le hb hK.size) e0 e1
      clear hs hbd hYS hcc e0 e1 hq
      have g0 := hBm.cell (i := 0) rfl
      have g1 := hBm.cell (i := 1) rfl
      have gf := hBm.free
      have gl := hBm.lt
      go_wp2_with fail
      refine hNth.mono ?_
      clear hNth
      rintro e w5 ⟨rfl, hk5⟩
      go_wp2_with fail
      refine (lsSeq_ _ _ _ _ _).mono ?_
      rintro e w6 ⟨rfl, hk6⟩
      replace hLen := fun w' (hk : Stab.Keeps w6 w') => hLen w' (Stab.Keeps.trans hK (Stab.Keeps.trans hk5 (Stab.Keeps.trans hk6 hk)))
      have hk7 : Stab.Keeps wr (w6.alloc (.cells #[.int .u8 dz, .slice az nz cz] 97)) := by with_reducible (repeat (first | exact Kx.r _ | assumption | refine Kx.a ?_ _ | refine Kx.d ?_ | refine Kx.e ?_ _ | (refine Kx.s ?_ ?_ _; focus (first | (simp; done) | (simp; omega))) | refine Kx.t ?_ (by assumption)))
      have hk67 : Stab.Keeps w6 (w6.alloc (.cells #[.int .u8 dz, .slice az nz cz] 97)) := by with_reducible (repeat (first | exact Kx.r _ | assumption | refine Kx.a ?_ _ | refine Kx.d ?_ | refine Kx.e ?_ _ | (refine Kx.s ?_ ?_ _; focus (first | (simp; done) | (simp; omega))) | refine Kx.t ?_ (by assumption)))
      have hBs : Blk (w6.alloc (.cells #[.int .u8 dz, .slice az nz cz] 97)) w6.heap.size 97 [.int .u8 dz, .slice az nz cz] := by with_reducible (repeat (first | assumption | ((refine Bx.n ⟨?_, ?_⟩) <;> focus (first | rfl | (simp; done) | omega)) | refine Bx.a ?_ _ | refine Bx.d ?_ | refine Bx.e ?_ _ | (refine Bx.p ?_ ?_; focus (first | (simp; done) | (simp; omega) | omega))))
      replace hBm := hBm.keep hk7
      replace hown := owns_keep hown hk7
      replace hK := Stab.Keeps.trans hK hk7
      clear hk7 hk5 hk6 g0 g1 gf gl hb
      go_upto_region 47 with (fail)
      generalize (w6.alloc (.cells #[.int .u8 dz, .slice az nz cz] 97)) = w7 at *
      generalize w6.heap.size = sb at *
      have s0 := hBs.cell (i := 0) rfl
      have s1 := hBs.cell (i := 1) rfl
      have sf := hBs.free
      have sl := hBs.lt
      go_wp2_with fail
      refine (hLen _ hk67).mono ?_
      clear hLen hk67
      rintro e w8 ⟨rfl, hk8⟩
      replace hBm := hBm.keep hk8
      replace hBs := hBs.keep hk8
      replace hown := owns_keep hown hk8
      replace hK := Stab.Keeps.trans hK hk8
      clear hk8 s0 s1 sf sl
      clear wr
      go_wp2_with fail
      obtain ⟨ln, hln⟩ : ∃ ln, l.length = ln := ⟨_, rfl⟩
      rw [hln]
      have HLN := Lib.hid hln
      have hlnb : ln ≤ 1000000 := by have := HBD.out; omega
      clear hln
      go_loopw [21, 26] (fun v jv wr => ∃ (j : Nat) (al : Option Addr) (c : Nat), j ≤ ln ∧ jv = .int .i64 j ∧ Stab.Keeps w wr ∧ Blk wr mb 129 [.slice (some ⟨b', off, none⟩) n cap, .int .u8 d] ∧ Blk wr sb 97 [.int .u8 dz, .slice az nz cz] ∧ v = .slice al (ys ++ l.take j).length c ∧ wr.ownsRow w.heap.size 137 2 v (ys ++ l.take j).length ((ys ++ l.take j).flatMap xyC)) (fun _ jv _ => ln - (intOf jv).toNat)
      case atStart => exact ⟨0, al, c, by omega, rfl, hK, hBm, hBs, by simp, by simpa using hown⟩
      case round =>
        clear hK hBm hBs hown
        obtain ⟨j, al, c, hj, rfl, hK, hBm, hBs, rfl, hown⟩ := hrel
        have s0 := hBs.cell (i := 0) rfl
        have s1 := hBs.cell (i := 1) rfl
        have sf := hBs.free
        have sl := hBs.lt
        by_cases hlj : j < ln
        · have hji : j < l.length := by have := HLN.out; omega
          have hGj := hG.out j hji wr hK
          have htk : l.take (j + 1) = l.take j ++ [l[j]] := List.take_succ_eq_append_getElem hji
          generalize l[j] = q at *
          generalize hZS : ys ++ l.take j = zs at *
          have hzl : zs.length + 1 ≤ 1000000 := by
            have h1 := HBD.out
            have h2 := HLN.out
            rw [← hZS, List.length_append, List.length_take]
            omega
          have hnx : ys ++ l.take (j + 1) = zs ++ [q] := by rw [htk, ← List.append_assoc, hZS]
          have HNX := Lib.hid hnx
          clear hnx hZS htk
          obtain ⟨x, y, z, m⟩ := q
          go_wp2_with fail
          refine hGj.mono ?_
          clear hGj
          rintro e w9 ⟨rfl, hk9⟩
          have hkA : Stab.Keeps wr (w9.alloc (.cells #[.float .f64 x, .float .f64 y] 137)) := by with_reducible (repeat (first | exact Kx.r _ | assumption | refine Kx.a ?_ _ | refine Kx.d ?_ | refine Kx.e ?_ _ | (refine Kx.s ?_ ?_ _; focus (first | (simp; done) | (simp; omega))) | refine Kx.t ?_ (by assumption)))
          have hBn : Blk (w9.alloc (.cells #[.float .f64 x, .float .f64 y] 137)) w9.heap.size 137 [.float .f64 x, .float .f64 y] := by with_reducible (repeat (first | assumption | ((refine Bx.n ⟨?_, ?_⟩) <;> focus (first | rfl | (simp; done) | omega)) | refine Bx.a ?_ _ | refine Bx.d ?_ | refine Bx.e ?_ _ | (refine Bx.p ?_ ?_; focus (first | (simp; done) | (simp; omega) | omega))))
          have hBm9 := hBm.keep hkA
          have hBs9 := hBs.keep hkA
          have hown9 := owns_keep hown hkA
          have hK9 := Stab.Keeps.trans hK hkA
          clear hBm hBs hown hK hkA hk9 s0 s1 sf sl
          go_wp2_with (at_builtin; (refine append_own (w0 := w) rfl _ _ 85 rfl w.heap.size 137 i0 _ 2 16 Tryz.underlying85 HI.out HZ0.out HZ1.out HZ2.out rfl (by decide) _ zs.length (zs.flatMap xyC) rfl hown9 ⟨w9.heap.size, 0, none⟩ 1 1 [.float .f64 x, .float .f64 y] rfl rfl ?c1 ?c2 ?c3 ?c4 ?c5 hK9 ?_))
          case c1 => exact fun j u hj => by rw [add_none]; simpa using hBn.cell (i := j) hj
          case c2 => intro u hu; simp at hu; rcases hu with rfl | rfl <;> rfl
          case c3 => unfold maxLen; omega
          case c4 => omega
          case c5 => exact hK9.size
          intro al' c' w10 hown10 hk10 hsz10 hgr
          have hBm10 := Go.Kf.Blk.grown hBm9 hgr (owns_ne hown9 hBm9 (by decide))
          have hBs10 := Go.Kf.Blk.grown hBs9 hgr (owns_ne hown9 hBs9 (by decide))
          have hk11 : Stab.Keeps w w10 := hk10
          clear hgr hk10 hown9 hBm9 hBs9 hK9 hBn
          go_wp2_with fail
          exact ⟨⟨j + 1, al', c', by omega, by go_num, hk11, hBm10, hBs10, by rw [HNX.out, List.length_append]; rfl, by rw [HNX.out, flat_snoc, List.length_append]; exact hown10⟩, by simp [intOf]; omega⟩
        · have hjj : ln = j := by omega
          subst hjj
          rw [List.take_of_length_le (by rw [HLN.out]; exact Nat.le_refl _)] at hown ⊢
          go_wp2_with fail
          exact ⟨⟨k + 1, al, c, by omega, by go_num, hK, hBm, by rw [HS.out], by rw [HS.out]; exact hown⟩, by simp [intOf]; omega⟩
    · have hkk : n = k := by omega
      subst hkk
      rw [List.take_of_length_le (by rw [HLK.out]; exact Nat.le_refl _)] at hown ⊢
      go_wp2_with fail
      go_ret
      exact ⟨al, c, rfl, hK, (SzF.of_owns hown (fun b hb => hb)).sz⟩
set_option maxRecDepth 100000 in
set_option maxHeartbeats 4000000 in
theorem hullMy_ {F : Nat → Prop} (b : Nat) (cs : List Value) (p : Pg) (w : World) (hB : Blk w b 134 cs) (h : MyR w F cs p) (hN : (hullL p).length ≤ 1000000) : Calls Tryz.prog 94 #[.agg #[.int .i64 6, .iface 199 (.pointer (some ⟨b, 0, none⟩))]] w (XyPost w (hullL p)) := by
  obtain ⟨i0, hi, hz0, hz1, hz2⟩ := info_parts infoXy
  have HI := Lib.hid hi
  have HZ0 := Lib.hid hz0
  have HZ1 := Lib.hid hz1
  have HZ2 := Lib.hid hz2
  clear hi hz0 hz1 hz2
  obtain ⟨d, a, n, cap, css, kids, rfl, rfl, hd, hn, hR, hdim⟩ := h
  rw [hull_wh _ _ _ _ (by decide) (by decide) (by decide)] at hN ⊢
  have hle := hR.sz.sz.le
  have hmx := hR.sz.sz.max
  unfold maxLen at hmx
  have HLK := Lib.hid hR.lx
  have HN := Lib.hid hN
  clear hN hdim hd
  have hM := fun w' (hk' : Stab.Keeps w w') => mustMy_ a n cap d b w' (Blk.keep hB hk')
  have hk0 : Stab.Keeps w (w.alloc (.cells #[.int .i64 6, .iface 199 (.pointer (some ⟨b, 0, none⟩))] 78)) := by with_reducible (repeat (first | exact Kx.r _ | assumption | refine Kx.a ?_ _ | refine Kx.d ?_ | refine Kx.e ?_ _ | (refine Kx.s ?_ ?_ _; focus (first | (simp; done) | (simp; omega))) | refine Kx.t ?_ (by assumption)))
  have hB0 : Blk (w.alloc (.cells #[.int .i64 6, .iface 199 (.pointer (some ⟨b, 0, none⟩))] 78)) w.heap.size 78 [.int .i64 6, .iface 199 (.pointer (some ⟨b, 0, none⟩))] := by with_reducible (repeat (first | assumption | ((refine Bx.n ⟨?_, ?_⟩) <;> focus (first | rfl | (simp; done) | omega)) | refine Bx.a ?_ _ | refine Bx.d ?_ | refine Bx.e ?_ _ | (refine Bx.p ?_ ?_; focus (first | (simp; done) | (simp; omega) | omega))))
  go_enter Tryz.func94, Tryz.ntmps94
  go_wp2_with fail
  generalize (w.alloc (.cells #[.int .i64 6, .iface 199 (.pointer (some ⟨b, 0, none⟩))] 78)) = W0 at *
  refine (isGc_ 6 _ b _).mono ?_
  rintro e wz0 ⟨rfl, hkz⟩
  replace hB0 := hB0.keep hkz
  replace hk0 := Stab.Keeps.trans hk0 hkz
  clear hkz
  have g0 := hB0.cell (i := 0) rfl
  have g1 := hB0.cell (i := 1) rfl
  have gf := hB0.free
  have gl := hB0.lt
  go_wp2_with fail
  refine (isPt_ 6 _ b _).mono ?_
  rintro e wz1 ⟨rfl, hkz⟩
  replace hB0 := hB0.keep hkz
  replace hk0 := Stab.Keeps.trans hk0 hkz
  clear g0 g1 gf gl
  clear hkz
  have g0 := hB0.cell (i := 0) rfl
  have g1 := hB0.cell (i := 1) rfl
  have gf := hB0.free
  have gl := hB0.lt
  go_wp2_with fail
  refine (isLs_ 6 _ b _).mono ?_
  rintro e wz2 ⟨rfl, hkz⟩
  replace hB0 := hB0.keep hkz
  replace hk0 := Stab.Keeps.trans hk0 hkz
  clear g0 g1 gf gl
  clear hkz
  have g0 := hB0.cell (i := 0) rfl
  have g1 := hB0.cell (i := 1) rfl
  have gf := hB0.free
  have gl := hB0.lt
  go_wp2_with fail
  refine (isPy_ 6 _ b _).mono ?_
  rintro e wz3 ⟨rfl, hkz⟩
  replace hB0 := hB0.keep hkz
  replace hk0 := Stab.Keeps.trans hk0 hkz
  clear g0 g1 gf gl
  clear hkz
  have g0 := hB0.cell (i := 0) rfl
  have g1 := hB0.cell (i := 1) rfl
  have gf := hB0.free
  have gl := hB0.lt
  go_wp2_with fail
  refine (isMp_ 6 _ b _).mono ?_
  rintro e wz4 ⟨rfl, hkz⟩
  replace hB0 := hB0.keep hkz
  replace hk0 := Stab.Keeps.trans hk0 hkz
  clear g0 g1 gf gl
  clear hkz
  have g0 := hB0.cell (i := 0) rfl
  have g1 := hB0.cell (i := 1) rfl
  have gf := hB0.free
  have gl := hB0.lt
  go_wp2_with fail
  refine (isMl_ 6 _ b _).mono ?_
  rintro e wz5 ⟨rfl, hkz⟩
  replace hB0 := hB0.keep hkz
  replace hk0 := Stab.Keeps.trans hk0 hkz
  clear g0 g1 gf gl
  clear hkz
  have g0 := hB0.cell (i := 0) rfl
  have g1 := hB0.cell (i := 1) rfl
  have gf := hB0.free
  have gl := hB0.lt
  go_wp2_with fail
  refine (isMy_ 6 _ b _).mono ?_
  rintro e wz6 ⟨rfl, hkz⟩
  replace hB0 := hB0.keep hkz
  replace hk0 := Stab.Keeps.trans hk0 hkz
  clear g0 g1 gf gl
  clear hkz
  have g0 := hB0.cell (i := 0) rfl
  have g1 := hB0.cell (i := 1) rfl
  have gf := hB0.free
  have gl := hB0.lt
  go_wp2_with fail
  refine (hM _ (by with_reducible (repeat (first | exact Kx.r _ | assumption | refine Kx.a ?_ _ | refine Kx.d ?_ | refine Kx.e ?_ _ | (refine Kx.s ?_ ?_ _; focus (first | (simp; done) | (simp; omega))) | refine Kx.t ?_ (by assumption))))).mono ?_
  clear hM hB
  rintro e w2 ⟨rfl, hk2⟩
  clear g0 g1 gf gl hB0
  replace hk0 := Stab.Keeps.trans hk0 hk2
  clear hk2
  have hBm : Blk (w2.alloc (.cells #[.slice a n cap, .int .u8 d] 134)) w2.heap.size 134 [.slice a n cap, .int .u8 d] := by with_reducible (repeat (first | assumption | ((refine Bx.n ⟨?_, ?_⟩) <;> focus (first | rfl | (simp; done) | omega)) | refine Bx.a ?_ _ | refine Bx.d ?_ | refine Bx.e ?_ _ | (refine Bx.p ?_ ?_; focus (first | (simp; done) | (simp; omega) | omega))))
  have hk3 : Stab.Keeps w (w2.alloc (.cells #[.slice a n cap, .int .u8 d] 134)) := by with_reducible (repeat (first | exact Kx.r _ | assumption | refine Kx.a ?_ _ | refine Kx.d ?_ | refine Kx.e ?_ _ | (refine Kx.s ?_ ?_ _; focus (first | (simp; done) | (simp; omega))) | refine Kx.t ?_ (by assumption)))
  go_upto_region 56 with (fail)
  generalize (w2.alloc (.cells #[.slice a n cap, .int .u8 d] 134)) = w3 at *
  generalize w2.heap.size = mb at *
  clear hk0
  have g0 := hBm.cell (i := 0) rfl
  have g1 := hBm.cell (i := 1) rfl
  have gf := hBm.free
  have gl := hBm.lt
  go_wp2_with fail
  refine (numMy_ a n cap d _).mono ?_
  rintro e w4 ⟨rfl, hk4⟩
  clear g0 g1 gf gl
  replace hBm := hBm.keep hk4
  replace hk3 := Stab.Keeps.trans hk3 hk4
  clear hk4
  go_wp2_with fail
  have hO0 := World.ownsRow_nil w4 w.heap.size 137 2
  go_loopw [28, 30] (fun v iv wr => ∃ (k : Nat) (al : Option Addr) (c : Nat), k ≤ n ∧ iv = .int .i64 k ∧ Stab.Keeps w wr ∧ Blk wr mb 134 [.slice a n cap, .int .u8 d] ∧ v = .slice al (hullLs (kids.take k)).length c ∧ wr.ownsRow w.heap.size 137 2 v (hullLs (kids.take k)).length ((hullLs (kids.take k)).flatMap xyC)) (fun _ iv _ => n - (intOf iv).toNat)
  case atStart => exact ⟨0, none, 0, by omega, rfl, hk3, hBm, rfl, by simpa [hullLs] using hO0⟩
  case round =>
    clear hk3 hBm hO0
    obtain ⟨k, al, c, hk, rfl, hK, hBm, rfl, hown⟩ := hrel
    by_cases hlt : k < n
    · obtain ⟨b', off, cc, ha, hb, _, _, hc6, hcc, hx⟩ := hR.elem hlt
      have hki : k < kids.length := by have := HLK.out; omega
      have hs := hullLs_succ kids k hki
      have hlen := hullLs_take kids k hki
      have hbd : (hullLs (kids.take k)).length + (hullL kids[k]).length ≤ 1000000 := by have := HN.out; omega
      clear hlen
      generalize kids[k]'hki = kid at *
      rw [hullL_py hx] at hs hbd
      have hE := fun w' (hk : Stab.Keeps w w') => exterior_ cc kid w w' hk hx
      have hkk : kid.kids = [] → (extP kid).ps = [] := fun h => by unfold extP; rw [h]; rfl
      obtain ⟨aq, nq, cq, dq, rfl⟩ := hx.two
      subst ha
      unfold ExtPost at hE
      generalize hxx : extP kid = x at *
      clear hxx
      generalize hYS : hullLs (kids.take k) = ys at *
      have HS := Lib.hid hs
      have HBD := Lib.hid hbd
      have e0 : wr.cell? ⟨b', off + k * 2, none⟩ = some (.slice aq nq cq) := by rw [(Stab.own_cell hK b' hb).1]; have := hcc 0 _ rfl; simpa using this
      have e1 : wr.cell? ⟨b', off + k * 2 + 1, none⟩ = some (.int .u8 dq) := by rw [(Stab.own_cell hK b' hb).1]; exact hcc 1 _ rfl
      have hNth := polygonN_ b' off n cap d k aq nq cq dq wr hlt hle (by omega) (Nat.lt_of_lt_of_le hb hK.size) e0 e1
      clear hs hbd hYS hcc e0 e1 hx
      have g0 := hBm.cell (i := 0) rfl
      have g1 := hBm.cell (i := 1) rfl
      have gf := hBm.free
      have gl := hBm.lt
      go_wp2_with fail
      refine hNth.mono ?_
      clear hNth
      rintro e w4 ⟨rfl, hk4⟩
      go_wp2_with fail
      refine (hE _ (Stab.Keeps.trans hK hk4)).mono ?_
      clear hE
      rintro e w5 ⟨cs5, rfl, hk45, hx5, hin⟩
      obtain ⟨dz, l, az, nz, cz, rfl, rfl, hq⟩ := hx5
      have hk5 := Stab.Keeps.trans hk4 hk45
      clear hk4 hk45
      replace HS := Lib.hid (show hullLs (kids.take (k + 1)) = ys ++ l from HS.out)
      replace HBD := Lib.hid (show ys.length + l.length ≤ 1000000 from HBD.out)
      have hG := Lib.hid (fun j (hj : j < l.length) w' (hk : Stab.Keeps w w') => by
        have hne : kid.kids ≠ [] := fun h => by have := hkk h; simp only [Pg.ps] at this; rw [this] at hj; simp at hj
        obtain ⟨d2, l2, a2, n2, c2, e2, e3, hq2⟩ := hin hne
        simp only [List.cons.injEq, Value.int.injEq, Value.slice.injEq, and_true] at e2
        obtain ⟨f1, f2, f3, f4⟩ := e2
        cases e3
        subst f2 f3 f4
        exact getXY_ dz l az nz cz j w' (hq2.keep hk) hj)
      have hLen := fun w' (hk : Stab.Keeps w5 w') => seqLen_ dz l az nz cz w' w5 hq
      clear hin hkk hq
      go_wp2_with fail
      refine (lsSeq_ _ _ _ _ _).mono ?_
      rintro e w6 ⟨rfl, hk6⟩
      replace hLen := fun w' (hk : Stab.Keeps w6 w') => hLen w' (Stab.Keeps.trans hk6 hk)
      have hk7 : Stab.Keeps wr (w6.alloc (.cells #[.int .u8 dz, .slice az nz cz] 97)) := by with_reducible (repeat (first | exact Kx.r _ | assumption | refine Kx.a ?_ _ | refine Kx.d ?_ | refine Kx.e ?_ _ | (refine Kx.s ?_ ?_ _; focus (first | (simp; done) | (simp; omega))) | refine Kx.t ?_ (by assumption)))
      have hk67 : Stab.Keeps w6 (w6.alloc (.cells #[.int .u8 dz, .slice az nz cz] 97)) := by with_reducible (repeat (first | exact Kx.r _ | assumption | refine Kx.a ?_ _ | refine Kx.d ?_ | refine Kx.e ?_ _ | (refine Kx.s ?_ ?_ _; focus (first | (simp; done) | (simp; omega))) | refine Kx.t ?_ (by assumption)))
      have hBs : Blk (w6.alloc (.cells #[.int .u8 dz, .slice az nz cz] 97)) w6.heap.size 97 [.int .u8 dz, .slice az nz cz] := by with_reducible (repeat (first | assumption | ((refine Bx.n ⟨?_, ?_⟩) <;> focus (first | rfl | (simp; done) | omega)) | refine Bx.a ?_ _ | refine Bx.d ?_ | refine Bx.e ?_ _ | (refine Bx.p ?_ ?_; focus (first | (simp; done) | (simp; omega) | omega))))
      replace hBm := hBm.keep hk7
      replace hown := owns_keep hown hk7
      replace hK := Stab.Keeps.trans hK hk7
      clear hk7 hk5 hk6 g0 g1 gf gl hb
      go_upto_region 61 with (fail)
      generalize (w6.alloc (.cells #[.int .u8 dz, .slice az nz cz] 97)) = w7 at *
      generalize w6.heap.size = sb at *
      have s0 := hBs.cell (i := 0) rfl
      have s1 := hBs.cell (i := 1) rfl
      have sf := hBs.free
      have sl := hBs.lt
      go_wp2_with fail
      refine (hLen _ hk67).mono ?_
      clear hLen hk67
      rintro e w8 ⟨rfl, hk8⟩
      replace hBm := hBm.keep hk8
      replace hBs := hBs.keep hk8
      replace hown := owns_keep hown hk8
      replace hK := Stab.Keeps.trans hK hk8
      clear hk8 s0 s1 sf sl
      clear wr
      go_wp2_with fail
      obtain ⟨ln, hln⟩ : ∃ ln, l.length = ln := ⟨_, rfl⟩
      rw [hln]
      have HLN := Lib.hid hln
      have hlnb : ln ≤ 1000000 := by have := HBD.out; omega
      clear hln
      go_loopw [28, 33] (fun v jv wr => ∃ (j : Nat) (al : Option Addr) (c : Nat), j ≤ ln ∧ jv = .int .i64 j ∧ Stab.Keeps w wr ∧ Blk wr mb 134 [.slice (some ⟨b', off, none⟩) n cap, .int .u8 d] ∧ Blk wr sb 97 [.int .u8 dz, .slice az nz cz] ∧ v = .slice al (ys ++ l.take j).length c ∧ wr.ownsRow w.heap.size 137 2 v (ys ++ l.take j).length ((ys ++ l.take j).flatMap xyC)) (fun _ jv _ => ln - (intOf jv).toNat)
      case atStart => exact ⟨0, al, c, by omega, rfl, hK, hBm, hBs, by simp, by simpa using hown⟩
      case round =>
        clear hK hBm hBs hown
        obtain ⟨j, al, c, hj, rfl, hK, hBm, hBs, rfl, hown⟩ := hrel
        have s0 := hBs.cell (i := 0) rfl
        have s1 := hBs.cell (i := 1) rfl
        have sf := hBs.free
        have sl := hBs.lt
        by_cases hlj : j < ln
        · have hji : j < l.length := by have := HLN.out; omega
          have hGj := hG.out j hji wr hK
          have htk : l.take (j + 1) = l.take j ++ [l[j]] := List.take_succ_eq_append_getElem hji
          generalize l[j] = q at *
          generalize hZS : ys ++ l.take j = zs at *
          have hzl : zs.length + 1 ≤ 1000000 := by
            have h1 := HBD.out
            have h2 := HLN.out
            rw [← hZS, List.length_append, List.length_take]
            omega
          have hnx : ys ++ l.take (j + 1) = zs ++ [q] := by rw [htk, ← List.append_assoc, hZS]
          have HNX := Lib.hid hnx
          clear hnx hZS htk
          obtain ⟨x, y, z, m⟩ := q
          go_wp2_with fail
          refine hGj.mono ?_
          clear hGj
          rintro e w9 ⟨rfl, hk9⟩
          have hkA : Stab.Keeps wr (w9.alloc (.cells #[.float .f64 x, .float .f64 y] 137)) := by with_reducible (repeat (first | exact Kx.r _ | assumption | refine Kx.a ?_ _ | refine Kx.d ?_ | refine Kx.e ?_ _ | (refine Kx.s ?_ ?_ _; focus (first | (simp; done) | (simp; omega))) | refine Kx.t ?_ (by assumption)))
          have hBn : Blk (w9.alloc (.cells #[.float .f64 x, .float .f64 y] 137)) w9.heap.size 137 [.float .f64 x, .float .f64 y] := by with_reducible (repeat (first | assumption | ((refine Bx.n ⟨?_, ?_⟩) <;> focus (first | rfl | (simp; done) | omega)) | refine Bx.a ?_ _ | refine Bx.d ?_ | refine Bx.e ?_ _ | (refine Bx.p ?_ ?_; focus (first | (simp; done) | (simp; omega) | omega))))
          have hBm9 := hBm.keep hkA
          have hBs9 := hBs.keep hkA
          have hown9 := owns_keep hown hkA
          have hK9 := Stab.Keeps.trans hK hkA
          clear hBm hBs hown hK hkA hk9 s0 s1 sf sl
          go_wp2_with (at_builtin; (refine append_own (w0 := w) rfl _ _ 85 rfl w.heap.size 137 i0 _ 2 16 Tryz.underlying85 HI.out HZ0.out HZ1.out HZ2.out rfl (by decide) _ zs.length (zs.flatMap xyC) rfl hown9 ⟨w9.heap.size, 0, none⟩ 1 1 [.float .f64 x, .float .f64 y] rfl rfl ?c1 ?c2 ?c3 ?c4 ?c5 hK9 ?_))
          case c1 => exact fun j u hj => by rw [add_none]; simpa using hBn.cell (i := j) hj
          case c2 => intro u hu; simp at hu; rcases hu with rfl | rfl <;> rfl
          case c3 => unfold maxLen; omega
          case c4 => omega
          case c5 => exact hK9.size
          intro al' c' w10 hown10 hk10 hsz10 hgr
          have hBm10 := Go.Kf.Blk.grown hBm9 hgr (owns_ne hown9 hBm9 (by decide))
          have hBs10 := Go.Kf.Blk.grown hBs9 hgr (owns_ne hown9 hBs9 (by decide))
          have hk11 : Stab.Keeps w w10 := hk10
          clear hgr hk10 hown9 hBm9 hBs9 hK9 hBn
          go_wp2_with fail
          exact ⟨⟨j + 1, al', c', by omega, by go_num, hk11, hBm10, hBs10, by rw [HNX.out, List.length_append]; rfl, by rw [HNX.out, flat_snoc, List.length_append]; exact hown10⟩, by simp [intOf]; omega⟩
        · have hjj : ln = j := by omega
          subst hjj
          rw [List.take_of_length_le (by rw [HLN.out]; exact Nat.le_refl _)] at hown ⊢
          go_wp2_with fail
          exact ⟨⟨k + 1, al, c, by omega, by go_num, hK, hBm, by rw [HS.out], by rw [HS.out]; exact hown⟩, by simp [intOf]; omega⟩
    · have hkk : n = k := by omega
      subst hkk
      rw [List.take_of_length_le (by rw [HLK.out]; exact Nat.le_refl _)] at hown ⊢
      go_wp2_with fail
      go_ret
      exact ⟨al, c, rfl, hK, (SzF.of_owns hown (fun b hb => hb)).sz⟩
theorem hullOk_ : ∀ c, HullOk c := Pg.ind fun k d ps kids ih F cs w h hN => by
  cases h with
  | pt b cs p hF hB h => have hh := hullPt_ b _ _ w hB h; obtain ⟨d', l, rfl, he, h1, h2, h3⟩ := h; cases he; rw [hull_pt]; exact hh
  | ls b cs p hF hB h => have hh := hullLs_ b _ _ w hB h; obtain ⟨d', l, a, n, c, rfl, he, h1⟩ := h; cases he; rw [hull_ls]; exact hh
  | py b cs p hF hB h => exact hullPy_ b _ _ w hB h
  | mp b cs p hF hB h => exact hullMp_ b _ _ w hB h hN
  | ml b cs p hF hB h => exact hullMl_ b _ _ w hB h hN
  | my b cs p hF hB h => exact hullMy_ b _ _ w hB h hN
  | gc b d' a n cap css kids' hF hB hd hn lc lx each sz is hdim => exact hullGc_ b _ _ w hB ⟨d, a, n, cap, css, kids, rfl, rfl, hd, hn, ⟨lc, lx, each, sz, is⟩, hdim⟩ hN ih
end Go.Proofs.YtbakhldjfplbfaaGreat
