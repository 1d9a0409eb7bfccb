/-
  What a hull is made of: polygons, several points. No condition.
-/
import Derived.Test.YtbakhldjfplbfaaGreatV5
set_option linter.unusedVariables false
set_option linter.unusedSimpArgs false
namespace Go.Proofs.YtbakhldjfplbfaaGreat
open Go.RowKit Go.Fl Go.Sl Go.Pg Go.Ch Go.Kf
mutual
/-- the places that a hull is made of -/
def hullL : Pg → List Pl
  | .node k d ps kids => if k = 1 ∨ k = 2 then ps else if k = 3 then (match kids with | [] => [] | c :: _ => c.ps) else hullLs kids
def hullLs : List Pg → List Pl
  | [] => []
  | c :: r => hullL c ++ hullLs r
end
theorem hullLs_snoc (l : List Pg) (c : Pg) : hullLs (l ++ [c]) = hullLs l ++ hullL c := by
  induction l with
  | nil => simp [hullLs]
  | cons a l ih => simp only [List.cons_append, hullLs, ih, List.append_assoc]
theorem hullLs_take (l : List Pg) (k : Nat) (hk : k < l.length) : (hullLs (l.take k)).length + (hullL l[k]).length ≤ (hullLs l).length := by
  induction l generalizing k with
  | nil => simp at hk
  | cons a l ih =>
    cases k with
    | zero => simp [hullLs]
    | succ k =>
      have := ih k (by simpa using hk)
      simp only [List.take_succ_cons, hullLs, List.getElem_cons_succ, List.length_append]
      omega
theorem hullL_le {l : List Pg} {c : Pg} (h : c ∈ l) : (hullL c).length ≤ (hullLs l).length := by
  obtain ⟨k, hk, rfl⟩ := List.getElem_of_mem h
  have := hullLs_take l k hk
  omega
def extP (p : Pg) : Pg := match p.kids with | [] => .node 2 p.dim [] [] | c :: _ => c
/-- a ring: in the data, if there is one -/
def ExtPost (w0 : World) (F : Nat → Prop) (p : Pg) (w : World) (e : Ending) (w' : World) : Prop := ∃ cs, e = .returned (.agg cs.toArray) ∧ Stab.Keeps w w' ∧ LsR w' (orNew F w.heap.size) cs (extP p) ∧ (p.kids ≠ [] → LsR w0 F cs (extP p))
theorem pyEmpty_ (a : Option Addr) (n cap d : Nat) (w : World) : Calls Tryz.prog 190 #[.agg #[.slice a n cap, .int .u8 d]] w (One w (.bool ((n : Int) == 0))) := by
  go_enter Tryz.func190, Tryz.ntmps190
  go_wp2
  go_ret
  exact ⟨rfl, by with_reducible (repeat (first | exact Kx.r _ | assumption | refine Kx.a ?_ _ | refine Kx.d ?_ | refine Kx.e ?_ _ | (refine Kx.s ?_ ?_ _; focus (first | (simp; done) | (simp; omega))) | refine Kx.t ?_ (by assumption)))⟩
set_option maxRecDepth 100000 in
set_option maxHeartbeats 1000000 in
theorem exterior_ {F : Nat → Prop} (cs : List Value) (p : Pg) (w0 w : World) (hk00 : Stab.Keeps w0 w) (h : PyR w0 F cs p) : Calls Tryz.prog 165 #[.agg cs.toArray] w (ExtPost w0 F p w) := by
  obtain ⟨d, a, n, cap, css, kids, rfl, rfl, hd, hn, hR, hdim⟩ := h
  have hle := hR.sz.sz.le
  have hmx := hR.sz.sz.max
  unfold maxLen at hmx
  have hlk := hR.lx
  have hkw : Stab.Keeps w ((w.alloc (.cells #[.slice a n cap, .int .u8 d] 121)).alloc (.cells #[.int .u8 0, .slice none 0 0] 99)) := by with_reducible (repeat (first | exact Kx.r _ | assumption | refine Kx.a ?_ _ | refine Kx.d ?_ | refine Kx.e ?_ _ | (refine Kx.s ?_ ?_ _; focus (first | (simp; done) | (simp; omega))) | refine Kx.t ?_ (by assumption)))
  have hB1 : Blk ((w.alloc (.cells #[.slice a n cap, .int .u8 d] 121)).alloc (.cells #[.int .u8 0, .slice none 0 0] 99)) w.heap.size 121 [.slice a n cap, .int .u8 d] := by with_reducible (repeat (first | assumption | ((refine Bx.n ⟨?_, ?_⟩) <;> focus (first | rfl | (simp; done) | omega)) | refine Bx.a ?_ _ | refine Bx.d ?_ | refine Bx.e ?_ _ | (refine Bx.p ?_ ?_; focus (first | (simp; done) | (simp; omega) | omega))))
  have hB2 : Blk ((w.alloc (.cells #[.slice a n cap, .int .u8 d] 121)).alloc (.cells #[.int .u8 0, .slice none 0 0] 99)) (w.heap.size + 1) 99 [.int .u8 0, .slice none 0 0] := by with_reducible (repeat (first | assumption | ((refine Bx.n ⟨?_, ?_⟩) <;> focus (first | rfl | (simp; done) | omega)) | refine Bx.a ?_ _ | refine Bx.d ?_ | refine Bx.e ?_ _ | (refine Bx.p ?_ ?_; focus (first | (simp; done) | (simp; omega) | omega))))
  have hs0 : ((w.alloc (.cells #[.slice a n cap, .int .u8 d] 121)).alloc (.cells #[.int .u8 0, .slice none 0 0] 99)).heap.size = w.heap.size + 2 := by simp
  have hld : LsR w no [.int .u8 (0 : Nat), .slice none 0 0] (.node 2 0 [] []) := ⟨0, [], none, 0, 0, rfl, rfl, by decide, by simp, by simp, by simp, SzF.nil _ _ _⟩
  have hfo := fun w' (hk : Stab.Keeps w w') => forceLs_ d hd [.int .u8 (0 : Nat), .slice none 0 0] (.node 2 0 [] []) w' (lsS.kf hld (KF.keeps hk))
  rw [forceP_eq] at hfo
  clear hld
  go_enter Tryz.func165, Tryz.ntmps165
  go_wp2_with fail
  generalize ((w.alloc (.cells #[.slice a n cap, .int .u8 d] 121)).alloc (.cells #[.int .u8 0, .slice none 0 0] 99)) = W at *
  refine (pyEmpty_ a n cap d _).mono ?_
  rintro e w2 ⟨rfl, hk2⟩
  replace hB1 := hB1.keep hk2
  replace hB2 := hB2.keep hk2
  replace hkw := Stab.Keeps.trans hkw hk2
  have hs2 := hk2.size
  clear hk2
  have g0 := hB1.cell (i := 0) rfl
  have g1 := hB1.cell (i := 1) rfl
  have gf := hB1.free
  have gl := hB1.lt
  have r0 := hB2.cell (i := 0) rfl
  have r1 := hB2.cell (i := 1) rfl
  have rf := hB2.free
  have rl := hB2.lt
  by_cases hn0 : n = 0
  · subst hn0
    have hkn : kids = [] := List.eq_nil_of_length_eq_zero hlk
    subst hkn
    skip
    go_wp2_with fail
    refine (hfo _ (by with_reducible (repeat (first | exact Kx.r _ | assumption | refine Kx.a ?_ _ | refine Kx.d ?_ | refine Kx.e ?_ _ | (refine Kx.s ?_ ?_ _; focus (first | (simp; done) | (simp; omega))) | refine Kx.t ?_ (by assumption))))).mono ?_
    clear hfo
    rintro e w3 ⟨cs3, rfl, hk3, hx3⟩
    obtain ⟨dz, az, nz, cz, rfl⟩ := hx3.two
    clear g0 g1 gf gl r0 r1 rf rl
    replace hB2 := hB2.keep hk3
    have r0 := hB2.cell (i := 0) rfl
    have r1 := hB2.cell (i := 1) rfl
    have rf := hB2.free
    have rl := hB2.lt
    have hBn := (hB2.set 0 (.int .u8 dz)).set 1 (.slice az nz cz)
    simp only [List.set] at hBn
    have hkn : Stab.Keeps w ((w3.setCell ⟨w.heap.size + 1, 0, none⟩ (.int .u8 dz)).setCell ⟨w.heap.size + 1, 1, none⟩ (.slice az nz cz)) := by with_reducible (repeat (first | exact Kx.r _ | assumption | refine Kx.a ?_ _ | refine Kx.d ?_ | refine Kx.e ?_ _ | (refine Kx.s ?_ ?_ _; focus (first | (simp; done) | (simp; omega))) | refine Kx.t ?_ (by assumption)))
    have hxn := lsS.kf (w' := (w3.setCell ⟨w.heap.size + 1, 0, none⟩ (.int .u8 dz)).setCell ⟨w.heap.size + 1, 1, none⟩ (.slice az nz cz)) hx3 (((KF.refl _ _).set (fun h => by simp [orNew, no] at h; omega)).set (fun h => by simp [orNew, no] at h; omega))
    clear hx3 hB2
    go_wp2_with fail
    refine bodyPost_ret (v := .agg #[.int .u8 dz, .slice az nz cz]) (by simp [results, Tryz.results165, go_sem, *]) rfl ⟨[.int .u8 dz, .slice az nz cz], rfl, hkn, ?_, fun h => absurd rfl h⟩
    exact lsS.mono hxn (fun b _ hb => by simp [orNew, no] at hb ⊢; exact .inr (by omega))
  · have hnb : ((n : Int) == 0) = false := by simp; omega
    obtain ⟨b, off, cc, ha, hb, _, _, hc6, hcc, hx⟩ := hR.elem (i := 0) (by omega)
    obtain ⟨dz, az, nz, cz, rfl⟩ := hx.two
    have e0 : w0.cell? ⟨b, off, none⟩ = some (.int .u8 dz) := by have := hcc 0 _ rfl; simpa using this
    have e1 : w0.cell? ⟨b, off + 1, none⟩ = some (.slice az nz cz) := by have := hcc 1 _ rfl; simpa using this
    subst ha
    have hk02 := Stab.Keeps.trans hk00 hkw
    have hs00 := hk00.size
    have f0 : w2.cell? ⟨b, off, none⟩ = some (.int .u8 dz) := by rw [(Stab.own_cell hk02 b hb).1]; exact e0
    have f1 : w2.cell? ⟨b, off + 1, none⟩ = some (.slice az nz cz) := by rw [(Stab.own_cell hk02 b hb).1]; exact e1
    have hbl : b < w2.heap.size := Nat.lt_of_lt_of_le hb hk02.size
    have hext : extP (.node 3 d [] kids) = kids[0]'(by omega) := by
      cases kids with
      | nil => simp at hlk; omega
      | cons c r => rfl
    generalize kids[0]'(by omega) = kid at *
    have hne : ¬ w.heap.size + 1 = b := by omega
    have HX := Lib.hid hext
    clear hext hcc e0 e1 hfo
    have hBn := (hB2.set 0 (.int .u8 dz)).set 1 (.slice az nz cz)
    simp only [List.set] at hBn
    have hkn : Stab.Keeps w ((w2.setCell ⟨w.heap.size + 1, 0, none⟩ (.int .u8 dz)).setCell ⟨w.heap.size + 1, 1, none⟩ (.slice az nz cz)) := by with_reducible (repeat (first | exact Kx.r _ | assumption | refine Kx.a ?_ _ | refine Kx.d ?_ | refine Kx.e ?_ _ | (refine Kx.s ?_ ?_ _; focus (first | (simp; done) | (simp; omega))) | refine Kx.t ?_ (by assumption)))
    have hx2o := lsS.mono (G := Go.Kf.old F w0.heap.size) hx (fun b h1 h2 => ⟨h2, h1⟩)
    have hxn := lsS.kf (w' := (w2.setCell ⟨w.heap.size + 1, 0, none⟩ (.int .u8 dz)).setCell ⟨w.heap.size + 1, 1, none⟩ (.slice az nz cz)) (lsS.kf hx2o (KF.keeps hk02)) (((KF.refl _ _).set (fun h => by simp [old] at h; omega)).set (fun h => by simp [old] at h; omega))
    clear hx2o hB2 hR
    have HXW := Lib.hid hx
    clear hx
    go_wp2_with fail
    refine bodyPost_ret (v := .agg #[.int .u8 dz, .slice az nz cz]) (by simp [results, Tryz.results165, go_sem, *]) rfl ⟨[.int .u8 dz, .slice az nz cz], rfl, hkn, ?_, fun _ => HX.out ▸ HXW.out⟩
    rw [HX.out]
    exact lsS.mono hxn (fun b _ hb => .inl hb.1)
theorem hullL_py {p : Pg} {w : World} {F : Nat → Prop} {cs : List Value} (h : PyR w F cs p) : hullL p = (extP p).ps := by
  obtain ⟨d, a, n, cap, css, kids, rfl, rfl, _⟩ := h
  cases kids <;> simp [hullL, extP, Pg.kids, Pg.ps]
set_option maxRecDepth 100000 in
set_option maxHeartbeats 2000000 in
theorem hullPy_ {F : Nat → Prop} (b : Nat) (cs : List Value) (p : Pg) (w : World) (hB : Blk w b 121 cs) (h : PyR w F cs p) : Calls Tryz.prog 94 #[.agg #[.int .i64 3, .iface 191 (.pointer (some ⟨b, 0, none⟩))]] w (XyPost w (hullL p)) := by
  rw [hullL_py h]
  have hE := fun w' (hk : Stab.Keeps w w') => exterior_ cs p w w' hk h
  obtain ⟨a, n, cap, d, rfl⟩ := h.two
  have hM := fun w' (hk' : Stab.Keeps w w') => mustPy_ a n cap d b w' (Blk.keep hB hk')
  clear h
  unfold ExtPost at hE
  generalize extP p = x at *
  have hk0 : Stab.Keeps w (w.alloc (.cells #[.int .i64 3, .iface 191 (.pointer (some ⟨b, 0, none⟩))] 78)) := by with_reducible (repeat (first | exact Kx.r _ | assumption | refine Kx.a ?_ _ | refine Kx.d ?_ | refine Kx.e ?_ _ | (refine Kx.s ?_ ?_ _; focus (first | (simp; done) | (simp; omega))) | refine Kx.t ?_ (by assumption)))
  have hB0 : Blk (w.alloc (.cells #[.int .i64 3, .iface 191 (.pointer (some ⟨b, 0, none⟩))] 78)) w.heap.size 78 [.int .i64 3, .iface 191 (.pointer (some ⟨b, 0, none⟩))] := by with_reducible (repeat (first | assumption | ((refine Bx.n ⟨?_, ?_⟩) <;> focus (first | rfl | (simp; done) | omega)) | refine Bx.a ?_ _ | refine Bx.d ?_ | refine Bx.e ?_ _ | (refine Bx.p ?_ ?_; focus (first | (simp; done) | (simp; omega) | omega))))
  go_enter Tryz.func94, Tryz.ntmps94
  go_wp2_with fail
  generalize (w.alloc (.cells #[.int .i64 3, .iface 191 (.pointer (some ⟨b, 0, none⟩))] 78)) = W0 at *
  refine (isGc_ 3 _ b _).mono ?_
  rintro e wz0 ⟨rfl, hkz⟩
  replace hB0 := hB0.keep hkz
  replace hk0 := Stab.Keeps.trans hk0 hkz
  clear hkz
  have g0 := hB0.cell (i := 0) rfl
  have g1 := hB0.cell (i := 1) rfl
  have gf := hB0.free
  have gl := hB0.lt
  go_wp2_with fail
  refine (isPt_ 3 _ b _).mono ?_
  rintro e wz1 ⟨rfl, hkz⟩
  replace hB0 := hB0.keep hkz
  replace hk0 := Stab.Keeps.trans hk0 hkz
  clear g0 g1 gf gl
  clear hkz
  have g0 := hB0.cell (i := 0) rfl
  have g1 := hB0.cell (i := 1) rfl
  have gf := hB0.free
  have gl := hB0.lt
  go_wp2_with fail
  refine (isLs_ 3 _ b _).mono ?_
  rintro e wz2 ⟨rfl, hkz⟩
  replace hB0 := hB0.keep hkz
  replace hk0 := Stab.Keeps.trans hk0 hkz
  clear g0 g1 gf gl
  clear hkz
  have g0 := hB0.cell (i := 0) rfl
  have g1 := hB0.cell (i := 1) rfl
  have gf := hB0.free
  have gl := hB0.lt
  go_wp2_with fail
  refine (isPy_ 3 _ b _).mono ?_
  rintro e wz3 ⟨rfl, hkz⟩
  replace hB0 := hB0.keep hkz
  replace hk0 := Stab.Keeps.trans hk0 hkz
  clear g0 g1 gf gl
  clear hkz
  have g0 := hB0.cell (i := 0) rfl
  have g1 := hB0.cell (i := 1) rfl
  have gf := hB0.free
  have gl := hB0.lt
  go_wp2_with fail
  refine (hM _ (by with_reducible (repeat (first | exact Kx.r _ | assumption | refine Kx.a ?_ _ | refine Kx.d ?_ | refine Kx.e ?_ _ | (refine Kx.s ?_ ?_ _; focus (first | (simp; done) | (simp; omega))) | refine Kx.t ?_ (by assumption))))).mono ?_
  clear hM hB
  rintro e w2 ⟨rfl, hk2⟩
  clear g0 g1 gf gl hB0
  replace hk0 := Stab.Keeps.trans hk0 hk2
  clear hk2
  have hBm : Blk (w2.alloc (.cells #[.slice a n cap, .int .u8 d] 121)) w2.heap.size 121 [.slice a n cap, .int .u8 d] := by with_reducible (repeat (first | assumption | ((refine Bx.n ⟨?_, ?_⟩) <;> focus (first | rfl | (simp; done) | omega)) | refine Bx.a ?_ _ | refine Bx.d ?_ | refine Bx.e ?_ _ | (refine Bx.p ?_ ?_; focus (first | (simp; done) | (simp; omega) | omega))))
  have hk3 : Stab.Keeps w (w2.alloc (.cells #[.slice a n cap, .int .u8 d] 121)) := by with_reducible (repeat (first | exact Kx.r _ | assumption | refine Kx.a ?_ _ | refine Kx.d ?_ | refine Kx.e ?_ _ | (refine Kx.s ?_ ?_ _; focus (first | (simp; done) | (simp; omega))) | refine Kx.t ?_ (by assumption)))
  go_upto_region 27 with (fail)
  generalize (w2.alloc (.cells #[.slice a n cap, .int .u8 d] 121)) = w3 at *
  clear hk0
  have g0 := hBm.cell (i := 0) rfl
  have g1 := hBm.cell (i := 1) rfl
  have gf := hBm.free
  have gl := hBm.lt
  go_wp2_with fail
  refine (hE _ hk3).mono ?_
  clear hE
  rintro e w4 ⟨cs4, rfl, hk4, hx4, _⟩
  obtain ⟨dz, az, nz, cz, rfl⟩ := hx4.two
  clear g0 g1 gf gl hBm
  replace hk3 := Stab.Keeps.trans hk3 hk4
  clear hk4
  go_wp2_with fail
  refine (lineGeo_ dz az nz cz _).mono ?_
  rintro e w5 ⟨b5, rfl, hk5, hge, hB5⟩
  replace hk3 := Stab.Keeps.trans hk3 hk5
  have hx5 := lsS.kf hx4 (KF.keeps hk5)
  clear hk5 hx4
  go_wp2_with fail
  refine (hullLs_ b5 _ x w5 hB5 hx5).mono ?_
  rintro e w6 ⟨al, c6, rfl, hk6, hz6⟩
  go_wp2_with fail
  go_ret
  exact ⟨al, c6, rfl, Stab.Keeps.trans hk3 hk6, hz6⟩
end Go.Proofs.YtbakhldjfplbfaaGreat
