/-
  Plain data compared: like data are alike. No condition.
-/
import Derived.Test.YtbakhldjfplbfaaGreatK2
import Derived.Test.YtbakhldjfplbfaaGreatOpGeo
set_option linter.unusedVariables false
set_option linter.unusedSimpArgs false
namespace Go.Proofs.YtbakhldjfplbfaaGreat
open Go.RowKit Go.Fl Go.Sl Go.Pg Go.Ch Go.Kf
/-- plain data that say a geometry -/
inductive GT.Is : GT → Pg → Prop where
  | mk (h : Gm) (nums : List Nat) (kids : List GT) (k d : Nat) (ps : List Pl) (ks : List Pg) (h1 : h.kind = k) (h2 : h.dim = d) (h3 : nums = numsOf d ps) (h4 : kids.length = ks.length) (h5 : ∀ i (a : i < kids.length) (b : i < ks.length), GT.Is kids[i] ks[i]) : GT.Is (.node h nums kids) (.node k d ps ks)
theorem GmR.gt {w : World} {F : Nat → Prop} {cs : List Value} {p : Pg} (h : GmR w F cs p) : ∃ t : GT, cs = t.cells ∧ t.At w ∧ t.Is p := by
  induction h with
  | mk k d ps kids na ka nn nc kn kc css hn h1 lc lx each sz is ih =>
    obtain ⟨q, hq1, hq2⟩ := choose_list (p := fun (i : Nat) (t : GT) => ∀ (h1 : i < css.length) (h2 : i < kids.length), css[i] = t.cells ∧ t.At w ∧ t.Is kids[i]) (List.range kn) (fun i hi => by
      have hi' : i < kn := by simpa using hi
      obtain ⟨t, ht⟩ := ih i (by omega) (by omega)
      exact ⟨t, fun _ _ => ht⟩)
    simp at hq1
    have hcs : css = q.map GT.cells := by
      refine List.ext_getElem (by simp; omega) fun i a b => ?_
      rw [List.getElem_map]
      have h2 := hq2 i (by simp; omega) (by simp at b; omega)
      simp only [List.getElem_range] at h2
      exact (h2 a (by omega)).1
    refine ⟨.node ⟨k, d, na, nn, nc, ka, kn, kc⟩ (numsOf d ps) q, rfl, .mk _ _ _ hn.symm hq1 h1.sz (by rw [List.flatMap_def, ← hcs]; exact sz.sz) (fun t ht => ?_), .mk _ _ _ _ _ _ _ rfl rfl rfl (by omega) (fun i a b => ?_)⟩
    · obtain ⟨j, hj, rfl⟩ := List.getElem_of_mem ht
      have h2 := hq2 j (by simp; omega) hj
      simp only [List.getElem_range] at h2
      exact (h2 (by omega) (by omega)).2.1
    · have h2 := hq2 i (by simp; omega) a
      simp only [List.getElem_range] at h2
      exact (h2 (by omega) (by omega)).2.2
/-- no number of a place is NaN -/
structure PlReal (p : Pl) : Prop where
  x : isNaN p.x = false
  y : isNaN p.y = false
  z : isNaN p.z = false
  m : isNaN p.m = false
inductive PgReal : Pg → Prop where
  | mk (k d : Nat) (ps : List Pl) (kids : List Pg) (h1 : ∀ p ∈ ps, PlReal p) (h2 : ∀ c ∈ kids, PgReal c) : PgReal (.node k d ps kids)
theorem isNaN_0 : isNaN 0 = false := by decide +kernel
theorem PlReal.nums {p : Pl} (h : PlReal p) (d : Nat) : ∀ x ∈ p.nums d, isNaN x = false := by
  intro x hx
  unfold Pl.nums at hx
  rcases List.mem_cons.1 hx with rfl | hx
  · exact h.x
  rcases List.mem_cons.1 hx with rfl | hx
  · exact h.y
  rcases List.mem_append.1 hx with hx | hx
  · split at hx
    · simp at hx; rw [hx]; exact h.z
    · simp at hx
  · split at hx
    · simp at hx; rw [hx]; exact h.m
    · simp at hx
theorem real_nums {ps : List Pl} (h : ∀ p ∈ ps, PlReal p) (d : Nat) : ∀ x ∈ numsOf d ps, isNaN x = false := by
  intro x hx
  obtain ⟨p, hp, hx⟩ := List.mem_flatMap.1 hx
  exact (h p hp).nums d x hx
theorem PlReal.force {p : Pl} (h : PlReal p) (d : Nat) : PlReal (p.force d) := by
  unfold Pl.force
  exact ⟨h.x, h.y, by simp only; split; exact h.z; exact isNaN_0, by simp only; split; exact h.m; exact isNaN_0⟩
theorem PgReal.force (d : Nat) : ∀ {p : Pg}, PgReal p → PgReal (forceP d p) := by
  intro p h
  induction h with
  | mk k d0 ps kids h1 h2 ih =>
    rw [forceP_eq]
    refine .mk _ _ _ _ (fun q hq => ?_) (fun c hc => ?_)
    · obtain ⟨r, hr, rfl⟩ := List.mem_map.1 hq
      exact (h1 r hr).force d
    · obtain ⟨r, hr, rfl⟩ := List.mem_map.1 hc
      exact ih r hr
theorem getD_real {nums : List Nat} (h : ∀ x ∈ nums, isNaN x = false) (i : Nat) : isNaN (nums.getD i 0) = false := by
  rw [List.getD_eq_getElem?_getD]
  cases hq : nums[i]? with
  | none => exact isNaN_0
  | some x => exact h x (List.mem_of_getElem? hq)
theorem placesOf_real (d : Nat) {nums : List Nat} (h : ∀ x ∈ nums, isNaN x = false) : ∀ p ∈ placesOf d nums, PlReal p := by
  intro p hp
  obtain ⟨i, _, rfl⟩ := List.mem_map.1 hp
  unfold plAt
  exact ⟨getD_real h _, getD_real h _, by simp only; split; exact getD_real h _; exact isNaN_0, by simp only; split; exact getD_real h _; exact isNaN_0⟩
theorem wholeP_real (k d : Nat) {l : List Pg} (h : ∀ p ∈ l, PgReal p) : PgReal (wholeP k d l) := by
  unfold wholeP
  split
  · exact .mk _ _ _ _ (by simp) (by simp)
  · refine .mk _ _ _ _ (by simp) (fun c hc => ?_)
    obtain ⟨r, hr, rfl⟩ := List.mem_map.1 hc
    exact (h r hr).force _
theorem newP_real : ∀ t : GT, t.Real → PgReal (newP t) := GT.ind fun h nums kids ih hs => by
  have h1 : (∀ x ∈ nums, isNaN x = false) ∧ ∀ t ∈ kids, GT.Real t := by cases hs; exact ⟨by assumption, by assumption⟩
  rw [newP]
  split
  · exact .mk _ _ _ _ (fun q hq => placesOf_real _ h1.1 q (List.mem_of_mem_take hq)) (by simp)
  · split
    · exact .mk _ _ _ _ (placesOf_real _ h1.1) (by simp)
    · rw [newPs_eq]
      refine wholeP_real _ _ fun p hp => ?_
      obtain ⟨r, hr, rfl⟩ := List.mem_map.1 (List.mem_filter.1 hp).1
      exact ih r hr (h1.2 r hr)
set_option maxRecDepth 100000 in
set_option maxHeartbeats 2000000 in
theorem eqNums_ (xs : List Nat) (hr : ∀ x ∈ xs, isNaN x = false) (a b : Option Addr) (n ca cb : Nat) (w : World) (hn : xs.length = n) (hA : Sz w a n ca 1 (encN xs)) (hB : Sz w b n cb 1 (encN xs)) :
    Calls Tryz.prog 46 #[.slice a n ca, .slice b n cb] w (One w (.bool true)) := by
  have hle := hA.le
  have hmx := hA.max
  unfold maxLen at hmx
  go_enter Tryz.func46, Tryz.ntmps46
  go_wp2
  go_loopw [14] (fun i wr => ∃ k : Nat, k ≤ n ∧ i = .int .i64 k ∧ Stab.Keeps w wr) (fun i _ => n - (intOf i).toNat)
  case atStart => exact ⟨0, Nat.zero_le _, rfl, by with_reducible (repeat (first | exact Kx.r _ | assumption | refine Kx.a ?_ _ | refine Kx.d ?_ | refine Kx.e ?_ _ | (refine Kx.s ?_ ?_ _; focus (first | (simp; done) | (simp; omega))) | refine Kx.t ?_ (by assumption)))⟩
  case round =>
    obtain ⟨k, hk, rfl, hK⟩ := hrel
    by_cases hlt : k < n
    · obtain ⟨ba, oa, ha, hba, hca⟩ := (hA.keep hK).elem hlt
      obtain ⟨bb, ob, hb, hbb, hcb⟩ := (hB.keep hK).elem hlt
      subst ha
      subst hb
      have c0 : wr.cell? ⟨ba, oa + k, none⟩ = some (.float .f64 xs[k]) := by have := hca 0 _ (by omega) (encN_get xs k (by omega)); simpa using this
      have c1 : wr.cell? ⟨bb, ob + k, none⟩ = some (.float .f64 xs[k]) := by have := hcb 0 _ (by omega) (encN_get xs k (by omega)); simpa using this
      have hx := hr xs[k] (List.getElem_mem _)
      clear hca hcb
      generalize xs[k] = x at *
      have ho : (FloatKind.f64.format.order x x != some .eq) = false := by rw [isNaN_neq]; exact hx
      go_wp2_with fail
      exact ⟨⟨k + 1, by omega, by simp, hK⟩, by simp [intOf]; omega⟩
    · have : k = n := by omega
      subst this
      go_wp2
      go_ret
      exact ⟨rfl, hK⟩
def AlikeOk (p : Pg) : Prop := ∀ (t u : GT) (w : World), t.At w → u.At w → t.Is p → u.Is p → PgReal p → Calls Tryz.prog 14 #[t.hd.val, u.hd.val] w (One w (.bool true))
set_option maxRecDepth 100000 in
set_option maxHeartbeats 2000000 in
theorem alike_ : ∀ p, AlikeOk p := Pg.ind fun k d ps ks ih t u w hA hB hI hJ hr => by
  cases hI with
  | mk h nums kids _ _ _ _ i1 i2 i3 i4 i5 =>
  cases hJ with
  | mk h' nums' kids' _ _ _ _ j1 j2 j3 j4 j5 =>
  subst i3
  subst j3
  cases hA with
  | mk _ _ _ an akn a1 a2 a3 =>
  cases hB with
  | mk _ _ _ bn bkn b1 b2 b3 =>
  have hr1 : (∀ q ∈ ps, PlReal q) ∧ ∀ c ∈ ks, PgReal c := by cases hr; exact ⟨by assumption, by assumption⟩
  clear hr
  obtain ⟨hr1, hr2⟩ := hr1
  obtain ⟨kind, dim, na, nn, nc, ka, kn, kc⟩ := h
  obtain ⟨kind', dim', na', nn', nc', ka', kn', kc'⟩ := h'
  simp only at i1 i2 j1 j2 an akn a1 a2 bn bkn b1 b2
  subst i1 i2 j1 j2
  obtain rfl : nn' = nn := by omega
  obtain rfl : kn' = kn := by omega
  have hE := fun w' (hk : Stab.Keeps w w') => eqNums_ (numsOf d ps) (real_nums hr1 d) na na' nn' nc nc' w' an (a1.keep hk) (b1.keep hk)
  have hle2 := a2.le
  have hm2 := a2.max
  unfold maxLen at hm2
  have hI := fun i (a : i < kids.length) (b : i < kids'.length) (w' : World) (hk : Stab.Keeps w w') => ih (ks[i]'(by omega)) (List.getElem_mem _) kids[i] kids'[i] w' ((a3 _ (List.getElem_mem _)).keep hk) ((b3 _ (List.getElem_mem _)).keep hk) (i5 i a (by omega)) (j5 i b (by omega)) (hr2 _ (List.getElem_mem _))
  have HI := Lib.hid hI
  clear hI ih i5 j5 a3 b3 hr1 hr2 a1 b1 an bn
  simp only [GT.hd, Gm.val]
  have hkA : Stab.Keeps w ((w.alloc (.cells #[.int .i64 k, .int .i64 d, .slice na nn' nc, .slice ka kn' kc] 25)).alloc (.cells #[.int .i64 k, .int .i64 d, .slice na' nn' nc', .slice ka' kn' kc'] 25)) := by with_reducible (repeat (first | exact Kx.r _ | assumption | refine Kx.a ?_ _ | refine Kx.d ?_ | refine Kx.e ?_ _ | (refine Kx.s ?_ ?_ _; focus (first | (simp; done) | (simp; omega))) | refine Kx.t ?_ (by assumption)))
  have hB0 : Blk ((w.alloc (.cells #[.int .i64 k, .int .i64 d, .slice na nn' nc, .slice ka kn' kc] 25)).alloc (.cells #[.int .i64 k, .int .i64 d, .slice na' nn' nc', .slice ka' kn' kc'] 25)) w.heap.size 25 [.int .i64 k, .int .i64 d, .slice na nn' nc, .slice ka kn' kc] := by with_reducible (repeat (first | assumption | ((refine Bx.n ⟨?_, ?_⟩) <;> focus (first | rfl | (simp; done) | omega)) | refine Bx.a ?_ _ | refine Bx.d ?_ | refine Bx.e ?_ _ | (refine Bx.p ?_ ?_; focus (first | (simp; done) | (simp; omega) | omega))))
  have hB1 : Blk ((w.alloc (.cells #[.int .i64 k, .int .i64 d, .slice na nn' nc, .slice ka kn' kc] 25)).alloc (.cells #[.int .i64 k, .int .i64 d, .slice na' nn' nc', .slice ka' kn' kc'] 25)) (w.heap.size + 1) 25 [.int .i64 k, .int .i64 d, .slice na' nn' nc', .slice ka' kn' kc'] := by with_reducible (repeat (first | assumption | ((refine Bx.n ⟨?_, ?_⟩) <;> focus (first | rfl | (simp; done) | omega)) | refine Bx.a ?_ _ | refine Bx.d ?_ | refine Bx.e ?_ _ | (refine Bx.p ?_ ?_; focus (first | (simp; done) | (simp; omega) | omega))))
  go_enter Tryz.func14, Tryz.ntmps14
  go_upto_region 1 with (fail)
  generalize ((w.alloc (.cells #[.int .i64 k, .int .i64 d, .slice na nn' nc, .slice ka kn' kc] 25)).alloc (.cells #[.int .i64 k, .int .i64 d, .slice na' nn' nc', .slice ka' kn' kc'] 25)) = w1 at *
  have t0 := hB0.cell (i := 0) rfl
  have t1 := hB0.cell (i := 1) rfl
  have t2 := hB0.cell (i := 2) rfl
  have t3 := hB0.cell (i := 3) rfl
  have tf := hB0.free
  have tl := hB0.lt
  have y0 := hB1.cell (i := 0) rfl
  have y1 := hB1.cell (i := 1) rfl
  have y2 := hB1.cell (i := 2) rfl
  have y3 := hB1.cell (i := 3) rfl
  have yf := hB1.free
  have yl := hB1.lt
  go_wp2_with fail
  refine (hE _ hkA).mono ?_
  clear hE
  rintro e w2 ⟨rfl, hk2⟩
  have hB02 := hB0.keep hk2
  have hB12 := hB1.keep hk2
  have hkw := Stab.Keeps.trans hkA hk2
  clear hB0 hB1 t0 t1 t2 t3 tf tl y0 y1 y2 y3 yf yl hkA hk2
  have t0 := hB02.cell (i := 0) rfl
  have t1 := hB02.cell (i := 1) rfl
  have t2 := hB02.cell (i := 2) rfl
  have t3 := hB02.cell (i := 3) rfl
  have tf := hB02.free
  have tl := hB02.lt
  go_wp2_with fail
  clear t0 t1 t2 t3 tf tl hB02
  go_loopw [39] (fun i wr => ∃ j : Nat, j ≤ kn' ∧ i = .int .i64 j ∧ Stab.Keeps w wr ∧ Blk wr (w.heap.size + 1) 25 [.int .i64 k, .int .i64 d, .slice na' nn' nc', .slice ka' kn' kc']) (fun i _ => kn' - (intOf i).toNat)
  case atStart => exact ⟨0, Nat.zero_le _, rfl, hkw, hB12⟩
  case round =>
    clear hkw hB12
    obtain ⟨j, hj, rfl, hK, hB⟩ := hrel
    by_cases hlt : j < kn'
    · obtain ⟨bx, ox, ha, hbx, hcx⟩ := (a2.keep hK).elem hlt
      obtain ⟨bz, oz, hb, hbz, hcz⟩ := (b2.keep hK).elem hlt
      subst ha
      subst hb
      have hki : j < kids.length := by omega
      have hkj : j < kids'.length := by omega
      obtain ⟨c0, c1, c2, c3⟩ := kid_cells (T := []) hki akn hcx
      obtain ⟨d0, d1, d2, d3⟩ := kid_cells (T := []) hkj bkn hcz
      have hI := fun w' => HI.out j hki hkj w'
      clear hcx hcz
      generalize kids[j] = x at *
      generalize kids'[j] = z at *
      obtain ⟨⟨xk, xd, xna, xnn, xnc, xka, xkn, xkc⟩, xnums, xkids⟩ := x
      obtain ⟨⟨zk, zd, zna, znn, znc, zka, zkn, zkc⟩, znums, zkids⟩ := z
      simp only [GT.hd, Gm.val] at c0 c1 c2 c3 d0 d1 d2 d3 hI
      go_upto_region 6 with (fail)
      have hkX : Stab.Keeps wr (wr.alloc (.cells #[.int .i64 xk, .int .i64 xd, .slice xna xnn xnc, .slice xka xkn xkc] 25)) := by with_reducible (repeat (first | exact Kx.r _ | assumption | refine Kx.a ?_ _ | refine Kx.d ?_ | refine Kx.e ?_ _ | (refine Kx.s ?_ ?_ _; focus (first | (simp; done) | (simp; omega))) | refine Kx.t ?_ (by assumption)))
      have hBX : Blk (wr.alloc (.cells #[.int .i64 xk, .int .i64 xd, .slice xna xnn xnc, .slice xka xkn xkc] 25)) wr.heap.size 25 [.int .i64 xk, .int .i64 xd, .slice xna xnn xnc, .slice xka xkn xkc] := by with_reducible (repeat (first | assumption | ((refine Bx.n ⟨?_, ?_⟩) <;> focus (first | rfl | (simp; done) | omega)) | refine Bx.a ?_ _ | refine Bx.d ?_ | refine Bx.e ?_ _ | (refine Bx.p ?_ ?_; focus (first | (simp; done) | (simp; omega) | omega))))
      have hzc := Stab.own_cell hkX bz hbz
      generalize (wr.alloc (.cells #[.int .i64 xk, .int .i64 xd, .slice xna xnn xnc, .slice xka xkn xkc] 25)) = W1 at *
      have f0 : W1.cell? ⟨bz, oz + j * 4, none⟩ = some (.int .i64 zk) := by rw [hzc.1]; exact d0
      have f1 : W1.cell? ⟨bz, oz + j * 4 + 1, none⟩ = some (.int .i64 zd) := by rw [hzc.1]; exact d1
      have f2 : W1.cell? ⟨bz, oz + j * 4 + 2, none⟩ = some (.slice zna znn znc) := by rw [hzc.1]; exact d2
      have f3 : W1.cell? ⟨bz, oz + j * 4 + 3, none⟩ = some (.slice zka zkn zkc) := by rw [hzc.1]; exact d3
      have hK1 := Stab.Keeps.trans hK hkX
      have hbz1 : bz < W1.heap.size := by have := hkX.size; omega
      have hBk := hB.keep hkX
      clear hzc c0 c1 c2 c3 d0 d1 d2 d3 hkX hK hB
      have t0 := hBX.cell (i := 0) rfl
      have t1 := hBX.cell (i := 1) rfl
      have t2 := hBX.cell (i := 2) rfl
      have t3 := hBX.cell (i := 3) rfl
      have tf := hBX.free
      have tl := hBX.lt
      have y0 := hBk.cell (i := 0) rfl
      have y1 := hBk.cell (i := 1) rfl
      have y2 := hBk.cell (i := 2) rfl
      have y3 := hBk.cell (i := 3) rfl
      have yf := hBk.free
      have yl := hBk.lt
      refine Stab.keep_region (fun _ _ _ => True) (fun _ => false) (fun k => k == 6) Stab.pre_none (by kernel_rfl) (by kernel_rfl) fun hcx => ?_
      repeat (first
        | (refine Stab.quiet rfl rfl rfl (fun K hK => ?_); go_big_quiet_op; refine hK _ ?_; clear hK K)
        | (refine Stab.one rfl rfl rfl ?_
           apply Exists.intro
           refine ⟨fun w1 hw1 => ?_, fun K hK => ?_⟩
           · go_simp
             first | (go_at_call 14; exact hI _ (by with_reducible (repeat (first | exact Kx.r _ | assumption | refine Kx.a ?_ _ | refine Kx.d ?_ | refine Kx.e ?_ _ | (refine Kx.s ?_ ?_ _; focus (first | (simp; done) | (simp; omega))) | refine Kx.t ?_ (by assumption)))))
           go_simp
           refine hK _ ?_
           clear hK K)
        | (refine Stab.skip rfl (fun K hK => ?_); go_simp; refine hK _ ?_; clear hK K))
      refine Stab.nil fun w6 hk6 _ => ?_
      have hK6 := Stab.Keeps.trans hK1 hk6
      have hB6 := hBk.keep hk6
      clear hcx hk6 hBk hBX f0 f1 f2 f3 t0 t1 t2 t3 tf tl y0 y1 y2 y3 yf yl
      go_wp2_with fail
      exact ⟨⟨j + 1, by omega, by simp, hK6, hB6⟩, by simp [intOf]; omega⟩
    · obtain rfl : j = kn' := by omega
      go_wp2
      go_ret
      exact ⟨rfl, hK⟩
end Go.Proofs.YtbakhldjfplbfaaGreat
