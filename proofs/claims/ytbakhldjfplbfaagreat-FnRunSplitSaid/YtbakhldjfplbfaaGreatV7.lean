/-
  What a hull is made of: wholes of several parts. No condition.
-/
import Derived.Test.YtbakhldjfplbfaaGreatV6
set_option linter.unusedVariables false
set_option linter.unusedSimpArgs false
namespace Go.Proofs.YtbakhldjfplbfaaGreat
open Go.RowKit Go.Fl Go.Sl Go.Pg Go.Ch Go.Kf
theorem owns_ne {w : World} {base k n b : Nat} {e e' : TypeId} {v : Value} {xs vs : List Value} (h : w.ownsRow base e k v n xs) (hb : Blk w b e' vs) (he : e' ≠ e) : v.ownBlock ≠ some b := by
  obtain ⟨_, h2⟩ := h
  rcases h2 with ⟨rfl, _⟩ | ⟨g, cap, cur, rfl, _, hg, _⟩
  · simp [Value.ownBlock]
  · intro heq
    simp only [Value.ownBlock, Option.some.injEq] at heq
    subst heq
    unfold Blk at hb
    rw [hb] at hg
    simp only [Option.some.injEq, Obj.cells.injEq] at hg
    exact he hg.2.1
theorem flat_snoc (l : List Pl) (q : Pl) : (l ++ [q]).flatMap xyC = l.flatMap xyC ++ xyC q := by rw [List.flatMap_append]; simp
theorem hull_pt (d : Nat) (l : List Pl) : hullL (.node 1 d l []) = l := by simp [hullL]
theorem hull_ls (d : Nat) (l : List Pl) : hullL (.node 2 d l []) = l := by simp [hullL]
theorem hull_wh (k d : Nat) (ps : List Pl) (kids : List Pg) (h1 : k ≠ 1) (h2 : k ≠ 2) (h3 : k ≠ 3) : hullL (.node k d ps kids) = hullLs kids := by simp [hullL, h1, h2, h3]
theorem hullLs_succ (l : List Pg) (k : Nat) (hk : k < l.length) : hullLs (l.take (k + 1)) = hullLs (l.take k) ++ hullL l[k] := by rw [List.take_succ_eq_append_getElem hk, hullLs_snoc]
set_option maxRecDepth 100000 in
set_option maxHeartbeats 4000000 in
theorem hullMp_ {F : Nat → Prop} (b : Nat) (cs : List Value) (p : Pg) (w : World) (hB : Blk w b 126 cs) (h : MpR w F cs p) (hN : (hullL p).length ≤ 1000000) : Calls Tryz.prog 94 #[.agg #[.int .i64 4, .iface 192 (.pointer (some ⟨b, 0, none⟩))]] w (XyPost w (hullL p)) := by
  obtain ⟨i0, hi, hz0, hz1, hz2⟩ := info_parts infoXy
  have HI := Lib.hid hi
  have HZ0 := Lib.hid hz0
  have HZ1 := Lib.hid hz1
  have HZ2 := Lib.hid hz2
  clear hi hz0 hz1 hz2
  obtain ⟨d, a, n, cap, css, kids, rfl, rfl, hd, hn, hR, hdim⟩ := h
  rw [hull_wh _ _ _ _ (by decide) (by decide) (by decide)] at hN ⊢
  have hle := hR.sz.sz.le
  have hmx := hR.sz.sz.max
  unfold maxLen at hmx
  have HLK := Lib.hid hR.lx
  have HN := Lib.hid hN
  clear hN hdim hd
  have hM := fun w' (hk' : Stab.Keeps w w') => mustMp_ a n cap d b w' (Blk.keep hB hk')
  have hmk : ∀ w, (Instr.makeSlice 85 (.int .i64 0) (.int .i64 n)).run Tryz.prog w = .ok (.slice (some ⟨w.heap.size, 0, none⟩) 0 n) (w.alloc (.cells (madeCells #[.float .f64 0, .float .f64 0] (n * 2)) 137)) := fun w => by
    have := run_make (P := Tryz.prog) w 85 137 i0 _ Tryz.underlying85 HI.out HZ0.out .i64 .i64 0 n (Int.le_refl _) (by omega) (by rw [HZ2.out]; omega) (by omega)
    rw [HZ1.out, show (Value.agg #[.float .f64 0, .float .f64 0]).cells = #[.float .f64 0, .float .f64 0] from rfl] at this
    simpa using this
  have hk0 : Stab.Keeps w (w.alloc (.cells #[.int .i64 4, .iface 192 (.pointer (some ⟨b, 0, none⟩))] 78)) := by with_reducible (repeat (first | exact Kx.r _ | assumption | refine Kx.a ?_ _ | refine Kx.d ?_ | refine Kx.e ?_ _ | (refine Kx.s ?_ ?_ _; focus (first | (simp; done) | (simp; omega))) | refine Kx.t ?_ (by assumption)))
  have hB0 : Blk (w.alloc (.cells #[.int .i64 4, .iface 192 (.pointer (some ⟨b, 0, none⟩))] 78)) w.heap.size 78 [.int .i64 4, .iface 192 (.pointer (some ⟨b, 0, none⟩))] := by with_reducible (repeat (first | assumption | ((refine Bx.n ⟨?_, ?_⟩) <;> focus (first | rfl | (simp; done) | omega)) | refine Bx.a ?_ _ | refine Bx.d ?_ | refine Bx.e ?_ _ | (refine Bx.p ?_ ?_; focus (first | (simp; done) | (simp; omega) | omega))))
  go_enter Tryz.func94, Tryz.ntmps94
  go_wp2_with fail
  generalize (w.alloc (.cells #[.int .i64 4, .iface 192 (.pointer (some ⟨b, 0, none⟩))] 78)) = W0 at *
  refine (isGc_ 4 _ b _).mono ?_
  rintro e wz0 ⟨rfl, hkz⟩
  replace hB0 := hB0.keep hkz
  replace hk0 := Stab.Keeps.trans hk0 hkz
  clear hkz
  have g0 := hB0.cell (i := 0) rfl
  have g1 := hB0.cell (i := 1) rfl
  have gf := hB0.free
  have gl := hB0.lt
  go_wp2_with fail
  refine (isPt_ 4 _ b _).mono ?_
  rintro e wz1 ⟨rfl, hkz⟩
  replace hB0 := hB0.keep hkz
  replace hk0 := Stab.Keeps.trans hk0 hkz
  clear g0 g1 gf gl
  clear hkz
  have g0 := hB0.cell (i := 0) rfl
  have g1 := hB0.cell (i := 1) rfl
  have gf := hB0.free
  have gl := hB0.lt
  go_wp2_with fail
  refine (isLs_ 4 _ b _).mono ?_
  rintro e wz2 ⟨rfl, hkz⟩
  replace hB0 := hB0.keep hkz
  replace hk0 := Stab.Keeps.trans hk0 hkz
  clear g0 g1 gf gl
  clear hkz
  have g0 := hB0.cell (i := 0) rfl
  have g1 := hB0.cell (i := 1) rfl
  have gf := hB0.free
  have gl := hB0.lt
  go_wp2_with fail
  refine (isPy_ 4 _ b _).mono ?_
  rintro e wz3 ⟨rfl, hkz⟩
  replace hB0 := hB0.keep hkz
  replace hk0 := Stab.Keeps.trans hk0 hkz
  clear g0 g1 gf gl
  clear hkz
  have g0 := hB0.cell (i := 0) rfl
  have g1 := hB0.cell (i := 1) rfl
  have gf := hB0.free
  have gl := hB0.lt
  go_wp2_with fail
  refine (isMp_ 4 _ b _).mono ?_
  rintro e wz4 ⟨rfl, hkz⟩
  replace hB0 := hB0.keep hkz
  replace hk0 := Stab.Keeps.trans hk0 hkz
  clear g0 g1 gf gl
  clear hkz
  have g0 := hB0.cell (i := 0) rfl
  have g1 := hB0.cell (i := 1) rfl
  have gf := hB0.free
  have gl := hB0.lt
  go_wp2_with fail
  refine (hM _ (by with_reducible (repeat (first | exact Kx.r _ | assumption | refine Kx.a ?_ _ | refine Kx.d ?_ | refine Kx.e ?_ _ | (refine Kx.s ?_ ?_ _; focus (first | (simp; done) | (simp; omega))) | refine Kx.t ?_ (by assumption))))).mono ?_
  clear hM hB
  rintro e w2 ⟨rfl, hk2⟩
  clear g0 g1 gf gl hB0
  replace hk0 := Stab.Keeps.trans hk0 hk2
  clear hk2
  have hBm : Blk (w2.alloc (.cells #[.slice a n cap, .int .u8 d] 126)) w2.heap.size 126 [.slice a n cap, .int .u8 d] := by with_reducible (repeat (first | assumption | ((refine Bx.n ⟨?_, ?_⟩) <;> focus (first | rfl | (simp; done) | omega)) | refine Bx.a ?_ _ | refine Bx.d ?_ | refine Bx.e ?_ _ | (refine Bx.p ?_ ?_; focus (first | (simp; done) | (simp; omega) | omega))))
  have hk3 : Stab.Keeps w (w2.alloc (.cells #[.slice a n cap, .int .u8 d] 126)) := by with_reducible (repeat (first | exact Kx.r _ | assumption | refine Kx.a ?_ _ | refine Kx.d ?_ | refine Kx.e ?_ _ | (refine Kx.s ?_ ?_ _; focus (first | (simp; done) | (simp; omega))) | refine Kx.t ?_ (by assumption)))
  go_upto_region 30 with (fail)
  generalize (w2.alloc (.cells #[.slice a n cap, .int .u8 d] 126)) = w3 at *
  generalize w2.heap.size = mb at *
  clear hk0
  have g0 := hBm.cell (i := 0) rfl
  have g1 := hBm.cell (i := 1) rfl
  have gf := hBm.free
  have gl := hBm.lt
  go_wp2_with fail
  refine (numPts_ a n cap d _).mono ?_
  rintro e w4 ⟨rfl, hk4⟩
  clear g0 g1 gf gl
  replace hBm := hBm.keep hk4
  replace hk3 := Stab.Keeps.trans hk3 hk4
  clear hk4
  have hkA : Stab.Keeps w (w4.alloc (.cells (madeCells #[.float .f64 0, .float .f64 0] (n * 2)) 137)) := by with_reducible (repeat (first | exact Kx.r _ | assumption | refine Kx.a ?_ _ | refine Kx.d ?_ | refine Kx.e ?_ _ | (refine Kx.s ?_ ?_ _; focus (first | (simp; done) | (simp; omega))) | refine Kx.t ?_ (by assumption)))
  have hBA := hBm.alloc (.cells (madeCells #[.float .f64 0, .float .f64 0] (n * 2)) 137)
  have hOA : (w4.alloc (.cells (madeCells #[.float .f64 0, .float .f64 0] (n * 2)) 137)).ownsRow w.heap.size 137 2 (.slice (some ⟨w4.heap.size, 0, none⟩) 0 n) 0 [] :=
    ⟨rfl, .inr ⟨w4.heap.size, n, _, rfl, hk3.size, heap_alloc_new w4 _, Nat.zero_le _, by unfold maxLen; omega, size_madeCells _ _, by simp⟩⟩
  go_upto_region 32 with (fail)
  generalize (w4.alloc (.cells (madeCells #[.float .f64 0, .float .f64 0] (n * 2)) 137)) = W at *
  generalize w4.heap.size = fb at *
  clear hk3 hBm hmk
  go_wp2_with fail
  go_loopw [16, 17] (fun v iv wr => ∃ (k : Nat) (al : Option Addr) (c : Nat), k ≤ n ∧ iv = .int .i64 k ∧ Stab.Keeps w wr ∧ Blk wr mb 126 [.slice a n cap, .int .u8 d] ∧ v = .slice al (hullLs (kids.take k)).length c ∧ wr.ownsRow w.heap.size 137 2 v (hullLs (kids.take k)).length ((hullLs (kids.take k)).flatMap xyC)) (fun _ iv _ => n - (intOf iv).toNat)
  case atStart => exact ⟨0, _, _, by omega, rfl, hkA, hBA, rfl, by simpa [hullLs] using hOA⟩
  case round =>
    clear hkA hBA hOA
    obtain ⟨k, al, c, hk, rfl, hK, hBm, rfl, hown⟩ := hrel
    by_cases hlt : k < n
    · obtain ⟨b', off, cc, ha, hb, _, _, hc6, hcc, hx⟩ := (hR.kf (KF.keeps hK) (fun _ _ h => ptS.kf h (KF.keeps hK))).elem hlt
      have hki : k < kids.length := by have := HLK.out; omega
      have hs := hullLs_succ kids k hki
      have hlen := hullLs_take kids k hki
      have hbd : (hullLs (kids.take k)).length + (hullL kids[k]).length ≤ 1000000 := by have := HN.out; omega
      clear hlen
      generalize kids[k]'hki = kid at *
      obtain ⟨d', l, rfl, rfl, _, hl, _⟩ := hx
      rw [hull_pt] at hs hbd
      subst ha
      generalize hYS : hullLs (kids.take k) = ys at *
      have HS := Lib.hid hs
      have HBD := Lib.hid hbd
      clear hs hbd hYS
      have g0 := hBm.cell (i := 0) rfl
      have g1 := hBm.cell (i := 1) rfl
      have gf := hBm.free
      have gl := hBm.lt
      cases l with
      | nil =>
        have e0 : wr.cell? ⟨b', off + k * 6, none⟩ = some (.float .f64 0) := by have := hcc 0 _ rfl; simpa using this
        have e1 : wr.cell? ⟨b', off + k * 6 + 1, none⟩ = some (.float .f64 0) := hcc 1 _ rfl
        have e2 : wr.cell? ⟨b', off + k * 6 + 2, none⟩ = some (.float .f64 0) := hcc 2 _ rfl
        have e3 : wr.cell? ⟨b', off + k * 6 + 3, none⟩ = some (.float .f64 0) := hcc 3 _ rfl
        have e4 : wr.cell? ⟨b', off + k * 6 + 4, none⟩ = some (.int .u8 d') := hcc 4 _ rfl
        have e5 : wr.cell? ⟨b', off + k * 6 + 5, none⟩ = some (.bool false) := hcc 5 _ rfl
        have hNth := pointN_ b' off n cap d k 0 0 0 0 d' false wr hlt hle (by omega) hb e0 e1 e2 e3 e4 e5
        clear hcc e0 e1 e2 e3 e4 e5
        go_wp2_with fail
        refine hNth.mono ?_
        clear hNth
        rintro e w5 ⟨rfl, hk5⟩
        go_wp2_with fail
        refine (ptXY_ _ _ _ _ _ _ _).mono ?_
        rintro e w6 ⟨rfl, hk6⟩
        have hk7 : Stab.Keeps wr (w6.alloc (.cells #[.float .f64 0, .float .f64 0] 137)) := by with_reducible (repeat (first | exact Kx.r _ | assumption | refine Kx.a ?_ _ | refine Kx.d ?_ | refine Kx.e ?_ _ | (refine Kx.s ?_ ?_ _; focus (first | (simp; done) | (simp; omega))) | refine Kx.t ?_ (by assumption)))
        have hBm7 := hBm.keep hk7
        have hown7 := owns_keep hown hk7
        have hK7 := Stab.Keeps.trans hK hk7
        clear hBm hown hK hk7 g0 g1 gf gl
        go_wp2_with fail
        have hys : hullLs (kids.take (k + 1)) = ys := by rw [HS.out]; simp
        exact ⟨⟨k + 1, al, c, by omega, by go_num, hK7, hBm7, by rw [hys], by rw [hys]; exact hown7⟩, by simp [intOf]; omega⟩
      | cons q r =>
        obtain rfl : r = [] := by cases r with | nil => rfl | cons _ _ => simp at hl
        obtain ⟨x, y, z, m⟩ := q
        have e0 : wr.cell? ⟨b', off + k * 6, none⟩ = some (.float .f64 x) := by have := hcc 0 _ rfl; simpa using this
        have e1 : wr.cell? ⟨b', off + k * 6 + 1, none⟩ = some (.float .f64 y) := hcc 1 _ rfl
        have e2 : wr.cell? ⟨b', off + k * 6 + 2, none⟩ = some (.float .f64 z) := hcc 2 _ rfl
        have e3 : wr.cell? ⟨b', off + k * 6 + 3, none⟩ = some (.float .f64 m) := hcc 3 _ rfl
        have e4 : wr.cell? ⟨b', off + k * 6 + 4, none⟩ = some (.int .u8 d') := hcc 4 _ rfl
        have e5 : wr.cell? ⟨b', off + k * 6 + 5, none⟩ = some (.bool true) := hcc 5 _ rfl
        have hNth := pointN_ b' off n cap d k x y z m d' true wr hlt hle (by omega) hb e0 e1 e2 e3 e4 e5
        clear hcc e0 e1 e2 e3 e4 e5
        go_wp2_with fail
        refine hNth.mono ?_
        clear hNth
        rintro e w5 ⟨rfl, hk5⟩
        go_wp2_with fail
        refine (ptXY_ _ _ _ _ _ _ _).mono ?_
        rintro e w6 ⟨rfl, hk6⟩
        have hk7 : Stab.Keeps wr ((w6.alloc (.cells #[.float .f64 x, .float .f64 y] 137)).alloc (.cells #[.float .f64 x, .float .f64 y] 137)) := by with_reducible (repeat (first | exact Kx.r _ | assumption | refine Kx.a ?_ _ | refine Kx.d ?_ | refine Kx.e ?_ _ | (refine Kx.s ?_ ?_ _; focus (first | (simp; done) | (simp; omega))) | refine Kx.t ?_ (by assumption)))
        have hBn : Blk ((w6.alloc (.cells #[.float .f64 x, .float .f64 y] 137)).alloc (.cells #[.float .f64 x, .float .f64 y] 137)) (w6.heap.size + 1) 137 [.float .f64 x, .float .f64 y] := by with_reducible (repeat (first | assumption | ((refine Bx.n ⟨?_, ?_⟩) <;> focus (first | rfl | (simp; done) | omega)) | refine Bx.a ?_ _ | refine Bx.d ?_ | refine Bx.e ?_ _ | (refine Bx.p ?_ ?_; focus (first | (simp; done) | (simp; omega) | omega))))
        have hBm7 := hBm.keep hk7
        have hown7 := owns_keep hown hk7
        have hK7 := Stab.Keeps.trans hK hk7
        clear hBm hown hK hk7 g0 g1 gf gl
        go_wp2_with (at_builtin; (refine append_own (w0 := w) rfl _ _ 85 rfl w.heap.size 137 i0 _ 2 16 Tryz.underlying85 HI.out HZ0.out HZ1.out HZ2.out rfl (by decide) _ ys.length (ys.flatMap xyC) rfl hown7 ⟨w6.heap.size + 1, 0, none⟩ 1 1 [.float .f64 x, .float .f64 y] rfl rfl ?c1 ?c2 ?c3 ?c4 ?c5 hK7 ?_))
        case c1 => exact fun j u hj => by rw [add_none]; simpa using hBn.cell (i := j) hj
        case c2 => intro u hu; simp at hu; rcases hu with rfl | rfl <;> rfl
        case c3 => have := HBD.out; simp at this; unfold maxLen; omega
        case c4 => have := HBD.out; simp at this; omega
        case c5 => exact hK7.size
        intro al' c' w8 hown8 hk8 hsz8 hgr
        have hBm8 := Go.Kf.Blk.grown hBm7 hgr (owns_ne hown7 hBm7 (by decide))
        have hk9 : Stab.Keeps w w8 := hk8
        clear hgr hk8 hown7 hBm7 hK7 hBn
        go_wp2_with fail
        have hys : hullLs (kids.take (k + 1)) = ys ++ [⟨x, y, z, m⟩] := HS.out
        exact ⟨⟨k + 1, al', c', by omega, by go_num, hk9, hBm8, by rw [hys, List.length_append]; rfl, by rw [hys, flat_snoc, List.length_append]; exact hown8⟩, by simp [intOf]; omega⟩
    · have hkk : n = k := by omega
      subst hkk
      rw [List.take_of_length_le (by rw [HLK.out]; exact Nat.le_refl _)] at hown ⊢
      go_wp2_with fail
      go_ret
      exact ⟨al, c, rfl, hK, (SzF.of_owns hown (fun b hb => hb)).sz⟩
end Go.Proofs.YtbakhldjfplbfaaGreat
