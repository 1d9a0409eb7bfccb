/-
  What a hull is made of: small contracts; points, line strings. No condition.
-/
import Derived.Test.YtbakhldjfplbfaaGreatV4
set_option linter.unusedVariables false
set_option linter.unusedSimpArgs false
namespace Go.Proofs.YtbakhldjfplbfaaGreat
open Go.RowKit Go.Fl Go.Sl Go.Pg Go.Ch Go.Kf
def xyC (q : Pl) : List Value := [.float .f64 q.x, .float .f64 q.y]
theorem xyC_len (q : Pl) : (xyC q).length = 2 := rfl
theorem xyC_one (l : List Pl) : ∀ u ∈ l.flatMap xyC, u.oneCell' = true := by
  intro u hu
  simp only [List.mem_flatMap, xyC, List.mem_cons, List.not_mem_nil, or_false] at hu
  obtain ⟨x, _, rfl | rfl⟩ := hu <;> rfl
def XyR (w : World) (F : Nat → Prop) (cs : List Value) (q : Pl) : Prop := cs = xyC q
theorem xyS : Stable XyR := ⟨fun h _ => h, fun h _ => h⟩
theorem infoXy : (Tryz.prog.info? 137).map (fun i => (i.zero, i.size, i.bytes)) = some (some (.agg #[.float .f64 0, .float .f64 0]), 2, 16) := by kernel_rfl
theorem rows_xy {w : World} {F : Nat → Prop} {a : Option Addr} {n cap : Nat} {css : List (List Value)} {l : List Pl} (h : Go.Kf.Rows w F XyR a n cap 2 css l) : Sz w a n cap 2 (l.flatMap xyC) := by
  have e : css = l.map xyC := by
    refine List.ext_getElem (by rw [List.length_map, h.lc, h.lx]) fun i h1 h2 => ?_
    rw [List.getElem_map]
    exact h.is i h1 (by simpa using h2)
  have := h.sz.sz
  rw [e] at this
  rw [List.flatMap_def]
  exact this
theorem sz_one {w : World} {b : Nat} {T : TypeId} {cs : List Value} {k : Nat} (h : Blk w b T cs) (hl : cs.length = k) : Sz w (some ⟨b, 0, none⟩) 1 1 k cs := by
  refine ⟨by omega, Nat.le_refl _, by unfold maxLen; omega, fun _ => ⟨by omega, Nat.le_refl _, by unfold maxLen; omega, fun h => (by cases h), fun x hx => ⟨b, 0, by cases hx; rfl, h.lt, fun j u hj => ?_⟩⟩⟩
  have := h.cell (i := j) hj
  simpa using this
/-- a slice of X and Y -/
def XyPost (w : World) (l : List Pl) (e : Ending) (w' : World) : Prop := ∃ a cap, e = .returned (.slice a l.length cap) ∧ Stab.Keeps w w' ∧ Sz w' a l.length cap 2 (l.flatMap xyC)
theorem isGc_ (k : Int) (T : TypeId) (b : Nat) (w : World) : Calls Tryz.prog 122 #[.agg #[.int .i64 k, .iface T (.pointer (some ⟨b, 0, none⟩))]] w (One w (.bool (k == 0))) := by
  go_enter Tryz.func122, Tryz.ntmps122
  go_wp2
  go_ret
  exact ⟨rfl, by with_reducible (repeat (first | exact Kx.r _ | assumption | refine Kx.a ?_ _ | refine Kx.d ?_ | refine Kx.e ?_ _ | (refine Kx.s ?_ ?_ _; focus (first | (simp; done) | (simp; omega))) | refine Kx.t ?_ (by assumption)))⟩
theorem isPt_ (k : Int) (T : TypeId) (b : Nat) (w : World) : Calls Tryz.prog 128 #[.agg #[.int .i64 k, .iface T (.pointer (some ⟨b, 0, none⟩))]] w (One w (.bool (k == 1))) := by
  go_enter Tryz.func128, Tryz.ntmps128
  go_wp2
  go_ret
  exact ⟨rfl, by with_reducible (repeat (first | exact Kx.r _ | assumption | refine Kx.a ?_ _ | refine Kx.d ?_ | refine Kx.e ?_ _ | (refine Kx.s ?_ ?_ _; focus (first | (simp; done) | (simp; omega))) | refine Kx.t ?_ (by assumption)))⟩
theorem isLs_ (k : Int) (T : TypeId) (b : Nat) (w : World) : Calls Tryz.prog 124 #[.agg #[.int .i64 k, .iface T (.pointer (some ⟨b, 0, none⟩))]] w (One w (.bool (k == 2))) := by
  go_enter Tryz.func124, Tryz.ntmps124
  go_wp2
  go_ret
  exact ⟨rfl, by with_reducible (repeat (first | exact Kx.r _ | assumption | refine Kx.a ?_ _ | refine Kx.d ?_ | refine Kx.e ?_ _ | (refine Kx.s ?_ ?_ _; focus (first | (simp; done) | (simp; omega))) | refine Kx.t ?_ (by assumption)))⟩
theorem isPy_ (k : Int) (T : TypeId) (b : Nat) (w : World) : Calls Tryz.prog 130 #[.agg #[.int .i64 k, .iface T (.pointer (some ⟨b, 0, none⟩))]] w (One w (.bool (k == 3))) := by
  go_enter Tryz.func130, Tryz.ntmps130
  go_wp2
  go_ret
  exact ⟨rfl, by with_reducible (repeat (first | exact Kx.r _ | assumption | refine Kx.a ?_ _ | refine Kx.d ?_ | refine Kx.e ?_ _ | (refine Kx.s ?_ ?_ _; focus (first | (simp; done) | (simp; omega))) | refine Kx.t ?_ (by assumption)))⟩
theorem isMp_ (k : Int) (T : TypeId) (b : Nat) (w : World) : Calls Tryz.prog 129 #[.agg #[.int .i64 k, .iface T (.pointer (some ⟨b, 0, none⟩))]] w (One w (.bool (k == 4))) := by
  go_enter Tryz.func129, Tryz.ntmps129
  go_wp2
  go_ret
  exact ⟨rfl, by with_reducible (repeat (first | exact Kx.r _ | assumption | refine Kx.a ?_ _ | refine Kx.d ?_ | refine Kx.e ?_ _ | (refine Kx.s ?_ ?_ _; focus (first | (simp; done) | (simp; omega))) | refine Kx.t ?_ (by assumption)))⟩
theorem isMl_ (k : Int) (T : TypeId) (b : Nat) (w : World) : Calls Tryz.prog 126 #[.agg #[.int .i64 k, .iface T (.pointer (some ⟨b, 0, none⟩))]] w (One w (.bool (k == 5))) := by
  go_enter Tryz.func126, Tryz.ntmps126
  go_wp2
  go_ret
  exact ⟨rfl, by with_reducible (repeat (first | exact Kx.r _ | assumption | refine Kx.a ?_ _ | refine Kx.d ?_ | refine Kx.e ?_ _ | (refine Kx.s ?_ ?_ _; focus (first | (simp; done) | (simp; omega))) | refine Kx.t ?_ (by assumption)))⟩
theorem isMy_ (k : Int) (T : TypeId) (b : Nat) (w : World) : Calls Tryz.prog 131 #[.agg #[.int .i64 k, .iface T (.pointer (some ⟨b, 0, none⟩))]] w (One w (.bool (k == 6))) := by
  go_enter Tryz.func131, Tryz.ntmps131
  go_wp2
  go_ret
  exact ⟨rfl, by with_reducible (repeat (first | exact Kx.r _ | assumption | refine Kx.a ?_ _ | refine Kx.d ?_ | refine Kx.e ?_ _ | (refine Kx.s ?_ ?_ _; focus (first | (simp; done) | (simp; omega))) | refine Kx.t ?_ (by assumption)))⟩
theorem lsSeq_ (a : Option Addr) (n c d : Nat) (w : World) : Calls Tryz.prog 59 #[.agg #[.int .u8 d, .slice a n c]] w (One w (.agg #[.int .u8 d, .slice a n c])) := by
  go_enter Tryz.func59, Tryz.ntmps59
  go_wp2_with fail
  refine bodyPost_ret (v := .agg #[.int .u8 d, .slice a n c]) (by simp [results, Tryz.results59, go_sem, *]) rfl ⟨rfl, ?_⟩
  with_reducible (repeat (first | exact Kx.r _ | assumption | refine Kx.a ?_ _ | refine Kx.d ?_ | refine Kx.e ?_ _ | (refine Kx.s ?_ ?_ _; focus (first | (simp; done) | (simp; omega))) | refine Kx.t ?_ (by assumption)))
set_option maxRecDepth 100000 in
theorem ptXY_ (x y z m d : Nat) (f : Bool) (w : World) : Calls Tryz.prog 163 #[.agg #[.float .f64 x, .float .f64 y, .float .f64 z, .float .f64 m, .int .u8 d, .bool f]] w (One w (.tuple #[.agg #[.float .f64 x, .float .f64 y], .bool f])) := by
  go_enter Tryz.func163, Tryz.ntmps163
  go_wp2
  go_region
  all_goals
    go_wp2
    refine bodyPost_ret (v := .tuple #[.agg #[.float .f64 x, .float .f64 y], .bool f]) (by simp [results, Tryz.results163, go_sem]) rfl ⟨rfl, ?_⟩
    with_reducible (repeat (first | exact Kx.r _ | assumption | refine Kx.a ?_ _ | refine Kx.d ?_ | refine Kx.e ?_ _ | (refine Kx.s ?_ ?_ _; focus (first | (simp; done) | (simp; omega))) | refine Kx.t ?_ (by assumption)))
set_option maxRecDepth 100000 in
set_option maxHeartbeats 2000000 in
theorem hullPt_ {F : Nat → Prop} (b : Nat) (cs : List Value) (p : Pg) (w : World) (hB : Blk w b 141 cs) (h : PtR w F cs p) : Calls Tryz.prog 94 #[.agg #[.int .i64 1, .iface 204 (.pointer (some ⟨b, 0, none⟩))]] w (XyPost w p.ps) := by
  obtain ⟨d, l, rfl, rfl, hd, hl, hn⟩ := h
  show Calls _ _ _ _ (XyPost w l)
  have hM : ∀ x y z m (f : Bool), ptC d l = [.float .f64 x, .float .f64 y, .float .f64 z, .float .f64 m, .int .u8 d, .bool f] → ∀ w', Stab.Keeps w w' → _ := fun x y z m f e w' hk' => mustPt_ x y z m d f b w' (Blk.keep (e ▸ hB) hk')
  have hk0 : Stab.Keeps w (w.alloc (.cells #[.int .i64 1, .iface 204 (.pointer (some ⟨b, 0, none⟩))] 78)) := by with_reducible (repeat (first | exact Kx.r _ | assumption | refine Kx.a ?_ _ | refine Kx.d ?_ | refine Kx.e ?_ _ | (refine Kx.s ?_ ?_ _; focus (first | (simp; done) | (simp; omega))) | refine Kx.t ?_ (by assumption)))
  have hB0 : Blk (w.alloc (.cells #[.int .i64 1, .iface 204 (.pointer (some ⟨b, 0, none⟩))] 78)) w.heap.size 78 [.int .i64 1, .iface 204 (.pointer (some ⟨b, 0, none⟩))] := by with_reducible (repeat (first | assumption | ((refine Bx.n ⟨?_, ?_⟩) <;> focus (first | rfl | (simp; done) | omega)) | refine Bx.a ?_ _ | refine Bx.d ?_ | refine Bx.e ?_ _ | (refine Bx.p ?_ ?_; focus (first | (simp; done) | (simp; omega) | omega))))
  go_enter Tryz.func94, Tryz.ntmps94
  go_wp2_with fail
  generalize (w.alloc (.cells #[.int .i64 1, .iface 204 (.pointer (some ⟨b, 0, none⟩))] 78)) = W0 at *
  refine (isGc_ 1 _ b _).mono ?_
  rintro e wz0 ⟨rfl, hkz⟩
  replace hB0 := hB0.keep hkz
  replace hk0 := Stab.Keeps.trans hk0 hkz
  clear hkz
  have g0 := hB0.cell (i := 0) rfl
  have g1 := hB0.cell (i := 1) rfl
  have gf := hB0.free
  have gl := hB0.lt
  go_wp2_with fail
  refine (isPt_ 1 _ b _).mono ?_
  rintro e wz1 ⟨rfl, hkz⟩
  replace hB0 := hB0.keep hkz
  replace hk0 := Stab.Keeps.trans hk0 hkz
  clear g0 g1 gf gl
  clear hkz
  have g0 := hB0.cell (i := 0) rfl
  have g1 := hB0.cell (i := 1) rfl
  have gf := hB0.free
  have gl := hB0.lt
  cases l with
  | nil =>
    replace hM := hM 0 0 0 0 false rfl
    go_wp2_with fail
    refine (hM _ (by with_reducible (repeat (first | exact Kx.r _ | assumption | refine Kx.a ?_ _ | refine Kx.d ?_ | refine Kx.e ?_ _ | (refine Kx.s ?_ ?_ _; focus (first | (simp; done) | (simp; omega))) | refine Kx.t ?_ (by assumption))))).mono ?_
    clear hM
    rintro e w2 ⟨rfl, hk2⟩
    go_wp2_with fail
    refine (ptXY_ _ _ _ _ _ _ _).mono ?_
    rintro e w3 ⟨rfl, hk3⟩
    clear g0 g1 gf gl
    go_wp2_with fail
    go_ret
    exact ⟨none, 0, rfl, by with_reducible (repeat (first | exact Kx.r _ | assumption | refine Kx.a ?_ _ | refine Kx.d ?_ | refine Kx.e ?_ _ | (refine Kx.s ?_ ?_ _; focus (first | (simp; done) | (simp; omega))) | refine Kx.t ?_ (by assumption))), Sz.nil _ _⟩
  | cons q r =>
    obtain rfl : r = [] := by cases r with | nil => rfl | cons _ _ => simp at hl
    obtain ⟨x, y, z, m⟩ := q
    replace hM := hM x y z m true rfl
    go_wp2_with fail
    refine (hM _ (by with_reducible (repeat (first | exact Kx.r _ | assumption | refine Kx.a ?_ _ | refine Kx.d ?_ | refine Kx.e ?_ _ | (refine Kx.s ?_ ?_ _; focus (first | (simp; done) | (simp; omega))) | refine Kx.t ?_ (by assumption))))).mono ?_
    clear hM
    rintro e w2 ⟨rfl, hk2⟩
    go_wp2_with fail
    refine (ptXY_ _ _ _ _ _ _ _).mono ?_
    rintro e w3 ⟨rfl, hk3⟩
    clear g0 g1 gf gl
    have hkf := Stab.Keeps.trans (Stab.Keeps.trans hk0 hk2) hk3
    clear hk0 hk2
    go_wp2_with fail
    go_ret
    refine ⟨_, 1, rfl, by with_reducible (repeat (first | exact Kx.r _ | assumption | refine Kx.a ?_ _ | refine Kx.d ?_ | refine Kx.e ?_ _ | (refine Kx.s ?_ ?_ _; focus (first | (simp; done) | (simp; omega))) | refine Kx.t ?_ (by assumption))), ?_⟩
    exact sz_one (T := 137) (cs := [.float .f64 x, .float .f64 y]) (by with_reducible (repeat (first | assumption | ((refine Bx.n ⟨?_, ?_⟩) <;> focus (first | rfl | (simp; done) | omega)) | refine Bx.a ?_ _ | refine Bx.d ?_ | refine Bx.e ?_ _ | (refine Bx.p ?_ ?_; focus (first | (simp; done) | (simp; omega) | omega))))) rfl
set_option maxRecDepth 100000 in
set_option maxHeartbeats 2000000 in
theorem hullLs_ {F : Nat → Prop} (b : Nat) (cs : List Value) (p : Pg) (w : World) (hB : Blk w b 99 cs) (h : LsR w F cs p) : Calls Tryz.prog 94 #[.agg #[.int .i64 2, .iface 190 (.pointer (some ⟨b, 0, none⟩))]] w (XyPost w p.ps) := by
  obtain ⟨d, ps, a, n, cap, rfl, rfl, hs⟩ := h
  show Calls _ _ _ _ (XyPost w ps)
  have hM := fun w' (hk' : Stab.Keeps w w') => mustLs_ a n cap d b w' (Blk.keep hB hk')
  have hsm : ps.length ≤ 1000000 := by have := hs.big; have := hs.len; have := wid_pos d; have : ps.length ≤ ps.length * wid d := Nat.le_mul_of_pos_right _ (by omega); omega
  have hmk := fun w => run_makeN (P := Tryz.prog) 85 137 _ 2 16 ps.length Tryz.underlying85 infoXy (by omega) (by omega) w
  have hk0 : Stab.Keeps w (w.alloc (.cells #[.int .i64 2, .iface 190 (.pointer (some ⟨b, 0, none⟩))] 78)) := by with_reducible (repeat (first | exact Kx.r _ | assumption | refine Kx.a ?_ _ | refine Kx.d ?_ | refine Kx.e ?_ _ | (refine Kx.s ?_ ?_ _; focus (first | (simp; done) | (simp; omega))) | refine Kx.t ?_ (by assumption)))
  have hB0 : Blk (w.alloc (.cells #[.int .i64 2, .iface 190 (.pointer (some ⟨b, 0, none⟩))] 78)) w.heap.size 78 [.int .i64 2, .iface 190 (.pointer (some ⟨b, 0, none⟩))] := by with_reducible (repeat (first | assumption | ((refine Bx.n ⟨?_, ?_⟩) <;> focus (first | rfl | (simp; done) | omega)) | refine Bx.a ?_ _ | refine Bx.d ?_ | refine Bx.e ?_ _ | (refine Bx.p ?_ ?_; focus (first | (simp; done) | (simp; omega) | omega))))
  go_enter Tryz.func94, Tryz.ntmps94
  go_wp2_with fail
  generalize (w.alloc (.cells #[.int .i64 2, .iface 190 (.pointer (some ⟨b, 0, none⟩))] 78)) = W0 at *
  refine (isGc_ 2 _ b _).mono ?_
  rintro e wz0 ⟨rfl, hkz⟩
  replace hB0 := hB0.keep hkz
  replace hk0 := Stab.Keeps.trans hk0 hkz
  clear hkz
  have g0 := hB0.cell (i := 0) rfl
  have g1 := hB0.cell (i := 1) rfl
  have gf := hB0.free
  have gl := hB0.lt
  go_wp2_with fail
  refine (isPt_ 2 _ b _).mono ?_
  rintro e wz1 ⟨rfl, hkz⟩
  replace hB0 := hB0.keep hkz
  replace hk0 := Stab.Keeps.trans hk0 hkz
  clear g0 g1 gf gl
  clear hkz
  have g0 := hB0.cell (i := 0) rfl
  have g1 := hB0.cell (i := 1) rfl
  have gf := hB0.free
  have gl := hB0.lt
  go_wp2_with fail
  refine (isLs_ 2 _ b _).mono ?_
  rintro e wz2 ⟨rfl, hkz⟩
  replace hB0 := hB0.keep hkz
  replace hk0 := Stab.Keeps.trans hk0 hkz
  clear g0 g1 gf gl
  clear hkz
  have g0 := hB0.cell (i := 0) rfl
  have g1 := hB0.cell (i := 1) rfl
  have gf := hB0.free
  have gl := hB0.lt
  go_wp2_with fail
  refine (hM _ (by with_reducible (repeat (first | exact Kx.r _ | assumption | refine Kx.a ?_ _ | refine Kx.d ?_ | refine Kx.e ?_ _ | (refine Kx.s ?_ ?_ _; focus (first | (simp; done) | (simp; omega))) | refine Kx.t ?_ (by assumption))))).mono ?_
  clear hM hB
  rintro e w2 ⟨rfl, hk2⟩
  clear g0 g1 gf gl hB0
  replace hk0 := Stab.Keeps.trans hk0 hk2
  clear hk2
  go_wp2_with fail
  refine (lsSeq_ _ _ _ _ _).mono ?_
  rintro e w3 ⟨rfl, hk3⟩
  replace hk0 := Stab.Keeps.trans hk0 hk3
  clear hk3
  have hBs : Blk (w3.alloc (.cells #[.int .u8 d, .slice a n cap] 97)) w3.heap.size 97 [.int .u8 d, .slice a n cap] := by with_reducible (repeat (first | assumption | ((refine Bx.n ⟨?_, ?_⟩) <;> focus (first | rfl | (simp; done) | omega)) | refine Bx.a ?_ _ | refine Bx.d ?_ | refine Bx.e ?_ _ | (refine Bx.p ?_ ?_; focus (first | (simp; done) | (simp; omega) | omega))))
  have hk5 : Stab.Keeps w (w3.alloc (.cells #[.int .u8 d, .slice a n cap] 97)) := by with_reducible (repeat (first | exact Kx.r _ | assumption | refine Kx.a ?_ _ | refine Kx.d ?_ | refine Kx.e ?_ _ | (refine Kx.s ?_ ?_ _; focus (first | (simp; done) | (simp; omega))) | refine Kx.t ?_ (by assumption)))
  go_upto_region 18 with (fail)
  generalize (w3.alloc (.cells #[.int .u8 d, .slice a n cap] 97)) = w5 at *
  clear hk0
  have g0 := hBs.cell (i := 0) rfl
  have g1 := hBs.cell (i := 1) rfl
  have gf := hBs.free
  have gl := hBs.lt
  go_wp2_with fail
  refine (seqLen_ d ps a n cap _ w hs).mono ?_
  rintro e w6 ⟨rfl, hk6⟩
  clear g0 g1 gf gl
  replace hBs := hBs.keep hk6
  replace hk5 := Stab.Keeps.trans hk5 hk6
  clear hk6
  obtain ⟨n0, hn0⟩ : ∃ n0, ps.length = n0 := ⟨_, rfl⟩
  rw [hn0] at hmk hsm ⊢
  have HN0 := Lib.hid hn0
  clear hn0
  have hFl := Fill.start w w6 (fun _ => False) XyR n0 2 (madeCells (#[.float .f64 0, .float .f64 0]) (n0 * 2)) 137 ps hk5 (size_madeCells _ _) (by simp)
  have hBs' := hBs.alloc (.cells (madeCells (#[.float .f64 0, .float .f64 0]) (n0 * 2)) 137)
  go_upto_region 20 with (fail)
  generalize (w6.alloc (.cells (madeCells (#[.float .f64 0, .float .f64 0]) (n0 * 2)) 137)) = W at *
  have hls := hBs.lt
  clear hBs hk5 hmk
  generalize w6.heap.size = fb at *
  generalize w3.heap.size = sb at *
  go_wp2_with fail
  go_loopw [12] (fun iv wr => ∃ (k : Nat) (cs' : List (List Value)), k ≤ n0 ∧ iv = .int .i64 k ∧ Blk wr sb 97 [.int .u8 d, .slice a n cap] ∧ Fill w wr (fun _ => False) XyR fb n0 k 2 cs' ps) (fun iv _ => n0 - (intOf iv).toNat)
  case atStart => exact ⟨0, [], by omega, rfl, hBs', hFl⟩
  case round =>
    clear hFl hBs'
    obtain ⟨k, cs', k2, rfl, hB0, hFl⟩ := hrel
    by_cases hlt : k < n0
    · have hki : k < ps.length := by have := HN0.out; omega
      have hG := fun w' (hk : Stab.Keeps wr w') => getXY_ d ps a n cap k w' (hs.keep (Stab.Keeps.trans hFl.keeps hk)) hki
      have g0 := hB0.cell (i := 0) rfl
      have g1 := hB0.cell (i := 1) rfl
      have gf := hB0.free
      have gl := hB0.lt
      go_wp2_with fail
      refine (hG _ (Stab.Keeps.refl _)).mono ?_
      clear hG
      rintro e w4 ⟨rfl, hk4⟩
      have hFl4 := hFl.keep xyS hk4
      have hB04 := hB0.keep hk4
      have hx5 : XyR w4 (fun _ => False) [.float .f64 ps[k].x, .float .f64 ps[k].y] ps[k] := rfl
      have hFl5 := hFl4.put2 xyS hlt hki hx5
      obtain ⟨x0, r0⟩ := hFl4.room.cell (k * 2) (by omega)
      obtain ⟨x1, r1⟩ := hFl4.room.cell (k * 2 + 1) (by omega)
      have rf := hFl4.room.free
      have hl4 := hFl4.lt
      clear hFl hFl4 hB0 hx5 hk4 g0 g1 gf gl
      go_wp2_with fail
      exact ⟨⟨k + 1, _, by omega, by go_num, by with_reducible (repeat (first | assumption | ((refine Bx.n ⟨?_, ?_⟩) <;> focus (first | rfl | (simp; done) | omega)) | refine Bx.a ?_ _ | refine Bx.d ?_ | refine Bx.e ?_ _ | (refine Bx.p ?_ ?_; focus (first | (simp; done) | (simp; omega) | omega)))), hFl5⟩, by simp [intOf]; omega⟩
    · have hkk : n0 = k := by omega
      subst hkk
      have hRw := hFl.rows xyS HN0.out (by unfold maxLen; omega) (G := fun _ => True) (fun _ _ _ => trivial) trivial
      have hkw := hFl.keeps
      go_wp2_with fail
      go_ret
      exact ⟨some ⟨fb, 0, none⟩, n0, by rw [HN0.out]; rfl, hkw, by rw [HN0.out]; exact rows_xy hRw⟩
end Go.Proofs.YtbakhldjfplbfaaGreat
