/-
  Which plain data are small, and how long their binary forms are; numbers that are none. No condition.
  Which rows of geometries are few and small, no number none. No condition.
  The geometries that plain data make, in a row. No condition.
  Binary forms one behind another, as the package writes them. No condition.
  FnWriteMany: the walk of the law. No condition.
  FnWriteMany: the arguments opened, the walk in the row's form. No condition.
-/
import Derived.Test.YtbakhldjfplbfaaGreatXBb
import Derived.Test.YtbakhldjfplbfaaGreatXK
import Derived.Test.YtbakhldjfplbfaaGreatXS7
import Derived.Test.YtbakhldjfplbfaaGreatXH7
import Derived.Laws.BytesArg
import Derived.Test.YtbakhldjfplbfaaGreatXOpSz
import Derived.Test.YtbakhldjfplbfaaGreatRows
set_option linter.unusedVariables false
set_option linter.unusedSimpArgs false
namespace Go.Proofs.YtbakhldjfplbfaaGreat
open Go.RowKit Go.Fl Go.Sl Go.Pg Go.Ch Go.Kf Go.By
/-- a weight as told -/
def Weighs3 (w : World) (m : Int) (t : GT) (e : Ending) (w' : World) : Prop := (∃ v : Nat, e = .returned (.int .i64 v) ∧ 1 ≤ v ∧ (v : Int) ≤ 20000000000000 + 301 * (m + 1) ∧ (v ≤ 300 → v = t.total)) ∧ Stab.Keeps w w'
set_option maxRecDepth 100000 in
set_option maxHeartbeats 2000000 in
theorem weight3_ (w0 : World) (t : GT) (h : GT.At w0 t) : ∀ (m : Int) (w : World), m ≤ 100 → t.Deep m → t.Reach → Stab.Keeps w0 w → Calls Tryz.prog 39 #[t.hd.val, .int .i64 300] w (Weighs3 w m t) := by
  induction h with
  | mk hd nums kids hn hkn h1 h2 h3 ih =>
  intro m w hm1 hD hR hK0
  have s2 := h2.keep hK0
  have hle1 := h1.le
  have hmx1 := h1.max
  clear h1 h2 h3
  have hm0 : 0 ≤ m ∧ ∀ t ∈ kids, GT.Deep (m - 1) t := by cases hD; exact ⟨by assumption, by assumption⟩
  have hr : nums.length * 8 ≤ 140737488351232 ∧ ∀ t ∈ kids, GT.Reach t := by cases hR; exact ⟨by assumption, by assumption⟩
  clear hD hR
  obtain ⟨hm0, hDk⟩ := hm0
  obtain ⟨hr1, hRk⟩ := hr
  obtain ⟨kind, dim, na, nn, nc, ka, kn, kc⟩ := hd
  simp only at hn hkn s2 hle1 hmx1
  have hle2 := s2.le
  have hm2 := s2.max
  unfold maxLen at hm2 hmx1
  have HN := Lib.hid hn
  have hnb : nn ≤ 17592186043904 := by omega
  simp only [GT.hd, Gm.val]
  clear hr1 hn
  go_enter Tryz.func39, Tryz.ntmps39
  go_wp2
  have hkp : Stab.Keeps w (w.alloc (.cells #[.int .i64 kind, .int .i64 dim, .slice na nn nc, .slice ka kn kc] 25)) := by with_reducible (repeat first | exact Kx.r _ | assumption | refine Kx.a ?_ _ | refine Kx.d ?_ | refine Kx.e ?_ _ | refine Kx.s (by simp <;> omega) ?_ _ | refine Kx.t ?_ (by assumption))
  generalize (w.alloc (.cells #[.int .i64 kind, .int .i64 dim, .slice na nn nc, .slice ka kn kc] 25)) = w1 at *
  go_loopw [5, 15] (fun nv iv wr => ∃ k n : Nat, k ≤ kn ∧ iv = .int .i64 k ∧ nv = .int .i64 n ∧ Stab.Keeps w wr ∧ 1 ≤ n ∧ (n : Int) ≤ 20000000000000 + 301 * (m + 1) ∧ (n ≤ 300 → n = 1 + nums.length + GT.totals (kids.take k))) (fun _ i _ => kn - (intOf i).toNat)
  case atStart => exact ⟨0, 1 + nn, Nat.zero_le _, rfl, by simp, hkp, by omega, by omega, fun _ => by rw [HN.out]; simp [GT.totals]⟩
  case round =>
    obtain ⟨k, n, hk, rfl, rfl, hK, hn1, hn2, hn3⟩ := hrel
    have HN3 := Lib.hid hn3
    clear hn3
    by_cases hlt : k < kn
    · obtain ⟨b, off, ha, hb, hc⟩ := (s2.keep hK).elem hlt
      subst ha
      have hki : k < kids.length := by omega
      obtain ⟨c0, c1, c2, c3⟩ := kid_cells (T := []) hki hkn hc
      have hs : GT.totals (kids.take (k + 1)) = GT.totals (kids.take k) + kids[k].total := by rw [List.take_succ_eq_append_getElem hki, totals_snoc]
      have HS := Lib.hid hs
      have hI := fun w' => ih kids[k] (List.getElem_mem _) (m - 1) w' (by omega) (hDk _ (List.getElem_mem _)) (hRk _ (List.getElem_mem _))
      clear hc hs hDk hRk
      generalize kids[k] = x at *
      obtain ⟨⟨xk, xd, xna, xnn, xnc, xka, xkn, xkc⟩, xnums, xkids⟩ := x
      simp only [GT.hd, Gm.val] at c0 c1 c2 c3 hI
      by_cases hbig : 300 < n
      · have hd1 : decide ((300 : Int) < (n : Int)) = true := by simp; omega
        have hd2 : decide ((n : Int) > 300) = true := by simp; omega
        have hd3 : decide (300 < n) = true := by simp; omega
        have HB := Lib.hid hbig
        clear hbig hI
        go_wp2_with fail
        go_ret
        refine ⟨⟨n, rfl, hn1, hn2, fun h => by have := HB.out; omega⟩, ?_⟩
        with_reducible (repeat first | exact Kx.r _ | assumption | refine Kx.a ?_ _ | refine Kx.d ?_ | refine Kx.e ?_ _ | refine Kx.s (by simp <;> omega) ?_ _ | refine Kx.t ?_ (by assumption))
      · have hd1 : decide ((300 : Int) < (n : Int)) = false := by simp; omega
        have hd2 : decide ((n : Int) > 300) = false := by simp; omega
        have hd3 : decide (300 < n) = false := by simp; omega
        have hbig2 : n ≤ 300 := by omega
        clear hbig
        go_wp2_with fail
        refine (hI _ ?_).mono ?_
        · with_reducible (repeat first | exact Kx.r _ | assumption | refine Kx.a ?_ _ | refine Kx.d ?_ | refine Kx.e ?_ _ | refine Kx.s (by simp <;> omega) ?_ _ | refine Kx.t ?_ (by assumption))
        rintro e w3 ⟨⟨v, rfl, hv1, hv2, hv3⟩, hk3⟩
        clear hI
        have hv4 : (v : Int) ≤ 30000000000000 := by omega
        have HV3 := Lib.hid hv3
        clear hv3
        go_wp2_with fail
        refine ⟨⟨k + 1, n + v, by omega, by go_num, by go_num, ?_, by omega, by omega, fun h => ?_⟩, by simp [intOf]; omega⟩
        · with_reducible (repeat first | exact Kx.r _ | assumption | refine Kx.a ?_ _ | refine Kx.d ?_ | refine Kx.e ?_ _ | refine Kx.s (by simp <;> omega) ?_ _ | refine Kx.t ?_ (by assumption))
        · have a1 := HV3.out (by omega)
          have a2 := HN3.out (by omega)
          have a3 := HS.out
          omega
    · have hkn2 : k = kn := by omega
      subst hkn2
      go_wp2
      go_ret
      refine ⟨⟨n, rfl, hn1, hn2, fun h => ?_⟩, hK⟩
      have a2 := HN3.out h
      rw [List.take_of_length_le (by omega)] at a2
      rw [a2]
      rfl

/-- every number is 64 bits -/
inductive GT.Bits : GT → Prop where
  | mk (h : Gm) (nums : List Nat) (kids : List GT) (h1 : ∀ x ∈ nums, natB x) (h2 : ∀ t ∈ kids, GT.Bits t) : GT.Bits (.node h nums kids)
theorem plAt_B (d : Nat) (nums : List Nat) (h : ∀ x ∈ nums, natB x) (i : Nat) : PlB (plAt d nums i) := by
  have hg : ∀ j, natB (nums.getD j 0) := fun j => by
    rw [List.getD_eq_getElem?_getD]
    cases hj : nums[j]? with
    | none => unfold natB; simp
    | some x => exact h x (List.mem_of_getElem? hj)
  have h0 : natB 0 := by unfold natB; omega
  unfold plAt
  refine ⟨hg _, hg _, ?_, ?_⟩
  · show natB (if _ then _ else _); split
    · exact hg _
    · exact h0
  · show natB (if _ then _ else _); split
    · exact hg _
    · exact h0
theorem placesOf_B (d : Nat) (nums : List Nat) (h : ∀ x ∈ nums, natB x) : ∀ p ∈ placesOf d nums, PlB p := by
  intro p hp
  unfold placesOf at hp
  obtain ⟨i, _, rfl⟩ := List.mem_map.1 hp
  exact plAt_B d nums h i
theorem PgB.force (d : Nat) : ∀ {p : Pg}, PgB p → PgB (forceP d p) := by
  intro p h
  induction h with
  | mk k d0 ps kids h1 h2 ih =>
    rw [forceP_eq]
    refine .mk _ _ _ _ (fun q hq => ?_) (fun c hc => ?_)
    · obtain ⟨r, hr, rfl⟩ := List.mem_map.1 hq
      have := h1 r hr
      have h0 : natB 0 := by unfold natB; omega
      unfold Pl.force
      refine ⟨this.x, this.y, ?_, ?_⟩
      · show natB (if _ then _ else _); split
        · exact this.z
        · exact h0
      · show natB (if _ then _ else _); split
        · exact this.m
        · exact h0
    · obtain ⟨r, hr, rfl⟩ := List.mem_map.1 hc
      exact ih r hr
theorem newP_B : ∀ t : GT, t.Bits → PgB (newP t) := GT.ind fun h nums kids ih hs => by
  have hn : ∀ x ∈ nums, natB x := by cases hs; assumption
  have hk : ∀ t ∈ kids, GT.Bits t := by cases hs; assumption
  rw [newP]
  split
  · exact .mk _ _ _ _ (fun q hq => placesOf_B _ _ hn q (List.mem_of_mem_take hq)) (by simp)
  · split
    · exact .mk _ _ _ _ (fun q hq => placesOf_B _ _ hn q hq) (by simp)
    · rw [newPs_eq]
      unfold wholeP
      split
      · exact .mk _ _ _ _ (by simp) (by simp)
      · refine .mk _ _ _ _ (by simp) (fun c hc => ?_)
        obtain ⟨r, hr, rfl⟩ := List.mem_map.1 hc
        obtain ⟨t, ht, rfl⟩ := List.mem_map.1 (List.mem_filter.1 hr).1
        exact (ih t ht (hk t ht)).force _
mutual
/-- at least the length of a binary form -/
def cost : Pg → Nat
  | .node _ _ ps kids => 45 + 32 * ps.length + costs kids
def costs : List Pg → Nat
  | [] => 0
  | c :: r => cost c + costs r
end
theorem costs_map (f : Pg → Pg) (h : ∀ c, cost (f c) = cost c) (l : List Pg) : costs (l.map f) = costs l := by
  induction l with
  | nil => rfl
  | cons c l ih => simp only [List.map_cons, costs, h, ih]
theorem cost_force (d : Nat) : ∀ p, cost (forceP d p) = cost p := by
  intro p
  induction p using Pg.indB with
  | h k d0 ps kids ih =>
    rw [forceP_eq]
    simp only [cost, List.length_map]
    have : ∀ l : List Pg, (∀ c ∈ l, cost (forceP d c) = cost c) → costs (l.map (forceP d)) = costs l := by
      intro l
      induction l with
      | nil => intro _; rfl
      | cons c l ihl => intro hc; simp only [List.map_cons, costs, hc c (by simp), ihl (fun x hx => hc x (by simp [hx]))]
    rw [this kids ih]
theorem wkb_cost : ∀ p, (wkb p).length ≤ cost p := by
  intro p
  induction p using Pg.indB with
  | h k d ps kids ih =>
    have hw := wid_le d
    have hl : ∀ l : List Pg, (l.flatMap ringsB).length ≤ costs l := by
      intro l
      induction l with
      | nil => simp [costs]
      | cons c l ihl =>
        obtain ⟨k', d', ps', kids'⟩ := c
        have hw' := wid_le d'
        have h1 : ps'.length * wid d' ≤ ps'.length * 4 := Nat.mul_le_mul_left _ hw'
        simp only [List.flatMap_cons, List.length_append, costs, cost]
        have : (ringsB (.node k' d' ps' kids')).length = 4 + ps'.length * wid d' * 8 := seqB_len d' ps'
        omega
    have hm : ∀ l : List Pg, (∀ c ∈ l, (wkb c).length ≤ cost c) → (wkbs l).length ≤ costs l := by
      intro l
      induction l with
      | nil => intro _; simp [wkbs, costs]
      | cons c l ihl =>
        intro hc
        have h1 := hc c (by simp)
        have h2 := ihl (fun x hx => hc x (by simp [hx]))
        simp only [wkbs, costs, List.length_append]
        omega
    have h1 : ps.length * wid d ≤ ps.length * 4 := Nat.mul_le_mul_left _ hw
    rw [wkb, cost]
    split
    · rw [ptB_len]; omega
    · split
      · unfold lineB; rw [List.length_append, headB_len, seqB_len]; omega
      · split
        · unfold polyB; rw [List.length_append, List.length_append, headB_len, leB_len]; have := hl kids; omega
        · rw [List.length_append, List.length_append, headB_len, leB_len]; have := hm kids ih; omega
theorem newP_cost : ∀ t : GT, cost (newP t) ≤ 80 * t.total := GT.ind fun h nums kids ih => by
  have hp : (placesOf (dim4 h.dim) nums).length ≤ nums.length := by rw [placesOf_len]; exact Nat.div_le_self _ _
  have hf : ∀ l : List Pg, ∀ f : Pg → Bool, costs (l.filter f) ≤ costs l := by
    intro l f
    induction l with
    | nil => simp
    | cons c l ihl =>
      rw [List.filter_cons]
      split <;> simp only [costs] <;> omega
  have hs : ∀ l : List GT, (∀ t ∈ l, cost (newP t) ≤ 80 * t.total) → costs (l.map newP) ≤ 80 * GT.totals l := by
    intro l
    induction l with
    | nil => intro _; simp [costs]
    | cons c l ihl =>
      intro hc
      have h1 := hc c (by simp)
      have h2 := ihl (fun x hx => hc x (by simp [hx]))
      simp only [List.map_cons, costs, GT.totals]
      omega
  have hk := hs kids ih
  rw [newP]
  simp only [GT.total]
  split
  · simp only [cost, costs, List.length_take]; omega
  · split
    · simp only [cost, costs]; omega
    · rw [newPs_eq]
      have hfl := hf (kids.map newP) (takes (kindN h.kind))
      unfold wholeP
      split
      · simp only [cost, costs, List.length_nil]; omega
      · simp only [cost, List.length_nil]
        rw [costs_map _ (cost_force _)]
        omega
theorem wkb_len (t : GT) : (wkb (newP t)).length ≤ 80 * t.total := Nat.le_trans (wkb_cost _) (newP_cost t)
end Go.Proofs.YtbakhldjfplbfaaGreat
set_option linter.unusedVariables false
set_option linter.unusedSimpArgs false
namespace Go.Proofs.YtbakhldjfplbfaaGreat
open Go.RowKit Go.Fl Go.Sl Go.Pg Go.Ch Go.Kf Go.By
/-- small, no number none -/
def GT.Few (t : GT) : Prop := t.total ≤ 300 ∧ t.Real
set_option maxRecDepth 100000 in
set_option maxHeartbeats 2000000 in
theorem kGeoms_ (a : Option Addr) (n cap : Nat) (ts : List GT) (w : World) (hm : ts.length = n) (h : Sz w a n cap 4 (ts.flatMap GT.cells)) (hA : ∀ t ∈ ts, t.At w) (hR : ∀ t ∈ ts, t.Reach) :
    Calls Tryz.prog 26 #[.slice a n cap, .bool false] w (Tells w (n ≤ 10 ∧ ∀ t ∈ ts, t.Few)) := by
  have hle := h.le
  have hmx := h.max
  unfold maxLen at hmx
  by_cases h10 : (10 : Int) < (n : Int)
  · have hd : decide ((10 : Int) < (n : Int)) = true := by simpa using h10
    clear h hA hR
    go_enter Tryz.func26, Tryz.ntmps26
    go_wp2_with fail
    go_ret
    exact ⟨⟨false, rfl, fun h => by simp at h⟩, by with_reducible (repeat first | exact Kx.r _ | assumption | refine Kx.a ?_ _ | refine Kx.d ?_ | refine Kx.e ?_ _ | refine Kx.s (by simp <;> omega) ?_ _ | refine Kx.t ?_ (by assumption))⟩
  · have hd : decide ((10 : Int) < (n : Int)) = false := by simpa using h10
    have hn10 : n ≤ 10 := by omega
    have HM := Lib.hid hm
    clear h10 hm
    go_enter Tryz.func26, Tryz.ntmps26
    go_wp2_with fail
    go_loopw [12] (fun iv wr => ∃ k : Nat, k ≤ n ∧ iv = .int .i64 k ∧ Stab.Keeps w wr ∧ ∀ t ∈ ts.take k, t.Few) (fun iv _ => n - (intOf iv).toNat)
    case atStart => exact ⟨0, by omega, rfl, Stab.Keeps.refl _, by simp⟩
    case round =>
      obtain ⟨k, hk, rfl, hK, hX⟩ := hrel
      by_cases hlt : k < n
      · obtain ⟨b, off, ha, hb, hc⟩ := (h.keep hK).elem hlt
        subst ha
        have hki : k < ts.length := by have := HM.out; omega
        obtain ⟨c0, c1, c2, c3⟩ := kid_cells (T := []) hki HM.out hc
        have hAt := hA _ (List.getElem_mem hki)
        have hRe := hR _ (List.getElem_mem hki)
        have hts : ∀ y, ts[k].Few → y ∈ ts.take (k + 1) → y.Few := fun y h0 hy => by
          rw [List.take_succ_eq_append_getElem hki] at hy
          rcases List.mem_append.1 hy with hy | hy
          · exact hX y hy
          · rw [List.mem_singleton.1 hy]; exact h0
        have HTS := Lib.hid hts
        clear hc hX hts
        generalize ts[k] = x at *
        have hP := fun w' (hk : Stab.Keeps w w') => pDeep_ w x hAt 8 w' (by omega) (by omega) hk
        have hW := fun (hD : x.Deep 8) w' (hk : Stab.Keeps w w') => weight3_ w x hAt 8 w' (by omega) hD hRe hk
        have hNu := fun w' (hk : Stab.Keeps w w') => kNumbers_ w x hAt w' hk
        have HW := Lib.hid hW
        have HNU := Lib.hid hNu
        clear hW hNu hAt hRe
        unfold GT.Few at HTS
        generalize x.Real = RE at *
        generalize x.Deep 8 = DE at *
        unfold Weighs3 at HW
        generalize x.total = TO at *
        obtain ⟨⟨xk, xd, xna, xnn, xnc, xka, xkn, xkc⟩, xnums, xkids⟩ := x
        simp only [GT.hd, Gm.val] at c0 c1 c2 c3 hP HW HNU
        have hBx : Blk (wr.alloc (.cells #[.int .i64 xk, .int .i64 xd, .slice xna xnn xnc, .slice xka xkn xkc] 25)) wr.heap.size 25 [.int .i64 xk, .int .i64 xd, .slice xna xnn xnc, .slice xka xkn xkc] := by with_reducible (repeat first | assumption | (refine Bx.n ⟨?_, ?_⟩ <;> focus (first | rfl | (simp; done) | omega)) | refine Bx.a ?_ _ | refine Bx.d ?_ | refine Bx.e ?_ _ | refine Bx.p (by first | omega | simp <;> omega) ?_)
        have hKx : Stab.Keeps w (wr.alloc (.cells #[.int .i64 xk, .int .i64 xd, .slice xna xnn xnc, .slice xka xkn xkc] 25)) := by with_reducible (repeat first | exact Kx.r _ | assumption | refine Kx.a ?_ _ | refine Kx.d ?_ | refine Kx.e ?_ _ | refine Kx.s (by simp <;> omega) ?_ _ | refine Kx.t ?_ (by assumption))
        go_upto_region 6 with (fail)
        generalize (wr.alloc (.cells #[.int .i64 xk, .int .i64 xd, .slice xna xnn xnc, .slice xka xkn xkc] 25)) = wx at *
        clear c0 c1 c2 c3 hK
        have g0 := hBx.cell (i := 0) rfl
        have g1 := hBx.cell (i := 1) rfl
        have g2 := hBx.cell (i := 2) rfl
        have g3 := hBx.cell (i := 3) rfl
        have gf := hBx.free
        have gl := hBx.lt
        go_wp2_with fail
        refine (hP _ hKx).mono ?_
        clear hP
        rintro e w2 ⟨⟨v, rfl, hv⟩, hk2⟩
        have hB2 := hBx.keep hk2
        have hK2 := Stab.Keeps.trans hKx hk2
        clear g0 g1 g2 g3 gf gl hBx hKx hk2
        have g0 := hB2.cell (i := 0) rfl
        have g1 := hB2.cell (i := 1) rfl
        have g2 := hB2.cell (i := 2) rfl
        have g3 := hB2.cell (i := 3) rfl
        have gf := hB2.free
        have gl := hB2.lt
        cases v with
        | false =>
          clear HTS HW HNU
          go_wp2_with fail
          go_ret
          exact ⟨⟨false, rfl, fun h => by simp at h⟩, hK2⟩
        | true =>
          have hW2 := HW.out (hv rfl) w2 hK2
          clear HW hv
          go_wp2_with fail
          refine hW2.mono ?_
          clear hW2
          rintro e w3 ⟨⟨v, rfl, hv1, hv2, hv3⟩, hk3⟩
          have hB3 := hB2.keep hk3
          have hK3 := Stab.Keeps.trans hK2 hk3
          have HV3 := Lib.hid hv3
          clear g0 g1 g2 g3 gf gl hB2 hK2 hk3 hv3
          have g0 := hB3.cell (i := 0) rfl
          have g1 := hB3.cell (i := 1) rfl
          have g2 := hB3.cell (i := 2) rfl
          have g3 := hB3.cell (i := 3) rfl
          have gf := hB3.free
          have gl := hB3.lt
          by_cases hbig : 300 < v
          · have hd1 : decide ((300 : Int) < (v : Int)) = true := by simp; omega
            clear HTS HNU hbig
            go_wp2_with fail
            go_ret
            exact ⟨⟨false, rfl, fun h => by simp at h⟩, hK3⟩
          · have hd1 : decide ((300 : Int) < (v : Int)) = false := by simp; omega
            have hto : TO ≤ 300 := by have := HV3.out (by omega); omega
            have hN2 := HNU.out w3 hK3
            clear HNU hbig HV3
            go_wp2_with fail
            refine hN2.mono ?_
            clear hN2
            rintro e w4 ⟨⟨v, rfl, hv⟩, hk4⟩
            have hK4 := Stab.Keeps.trans hK3 hk4
            clear g0 g1 g2 g3 gf gl hB3 hK3 hk4
            cases v with
            | false =>
              clear HTS
              go_wp2_with fail
              go_ret
              exact ⟨⟨false, rfl, fun h => by simp at h⟩, hK4⟩
            | true =>
              have hX2 := fun y => HTS.out y ⟨hto, hv rfl⟩
              have HX2 := Lib.hid hX2
              clear HTS hX2 hv
              go_wp2_with fail
              exact ⟨⟨k + 1, by omega, by go_num, hK4, HX2.out⟩, by simp [intOf]; omega⟩
      · obtain rfl : n = k := by omega
        rw [List.take_of_length_le (by have := HM.out; omega)] at hX
        go_wp2_with fail
        go_ret
        exact ⟨⟨true, rfl, fun _ => ⟨hn10, hX⟩⟩, hK⟩
end Go.Proofs.YtbakhldjfplbfaaGreat
set_option linter.unusedVariables false
set_option linter.unusedSimpArgs false
namespace Go.Proofs.YtbakhldjfplbfaaGreat
open Go.RowKit Go.Fl Go.Sl Go.Pg Go.Ch Go.Kf Go.By
def MadePost (w : World) (ps : List Pg) (e : Ending) (w' : World) : Prop := ∃ al c css, e = .returned (.slice al ps.length c) ∧ Stab.Keeps w w' ∧ Go.Kf.Rows w' (fun b => w.heap.size ≤ b) GmR al ps.length c 4 css ps
set_option maxRecDepth 100000 in
set_option maxHeartbeats 2000000 in
theorem kMade_ (a : Option Addr) (n cap : Nat) (ts : List GT) (w : World) (hm : ts.length = n) (h : Sz w a n cap 4 (ts.flatMap GT.cells)) (hA : ∀ t ∈ ts, t.At w) (hS : ∀ t ∈ ts, t.Small) (hn : n ≤ 1000) :
    Calls Tryz.prog 27 #[.slice a n cap] w (MadePost w (ts.map newP)) := by
  obtain ⟨i0, hi, hz0, hz1, hz2⟩ := info_parts infoGm
  have HI := Lib.hid hi
  have HZ := Lib.hid hz0
  have HZ1 := Lib.hid hz1
  have HZ2 := Lib.hid hz2
  have hle := h.le
  have hmx := h.max
  unfold maxLen at hmx
  have HM := Lib.hid hm
  clear hi hz0 hz1 hz2 hm
  go_enter Tryz.func27, Tryz.ntmps27
  go_wp2_with fail
  go_loopw [3, 8] (fun v iv wr => ∃ k : Nat, k ≤ n ∧ iv = .int .i64 k ∧ Grow w wr GmR 25 4 k v ((ts.map newP).take k)) (fun _ iv _ => n - (intOf iv).toNat)
  case atStart => exact ⟨0, by omega, rfl, by simpa using Grow.nil w w GmR 25 4 (Stab.Keeps.refl _)⟩
  case round =>
    obtain ⟨k, hk, rfl, hG⟩ := hrel
    obtain ⟨al, c, rfl, hkc, hcm⟩ := hG.shape
    have hK := hG.keeps
    by_cases hlt : k < n
    · obtain ⟨b, off, ha, hb, hc⟩ := (h.keep hK).elem hlt
      subst ha
      have hki : k < ts.length := by have := HM.out; omega
      obtain ⟨c0, c1, c2, c3⟩ := kid_cells (T := []) hki HM.out hc
      have hN := fun w' (hk : Stab.Keeps w w') => newSpec_ ts[k] w' ((hA _ (List.getElem_mem hki)).keep hk) (hS _ (List.getElem_mem hki))
      have hts : (ts.map newP).take (k + 1) = (ts.map newP).take k ++ [newP ts[k]] := by rw [List.take_succ_eq_append_getElem (by simpa using hki), List.getElem_map]
      have HTS := Lib.hid hts
      have hown := fun g (hg : (Value.slice al k c).ownBlock = some g) => (hG.own hg).2
      clear hc hts
      generalize newP ts[k] = P at *
      generalize ts[k] = x at *
      obtain ⟨⟨xk, xd, xna, xnn, xnc, xka, xkn, xkc⟩, xnums, xkids⟩ := x
      simp only [GT.hd, Gm.val] at c0 c1 c2 c3 hN
      have HG := Lib.hid hG
      clear hG
      go_wp2_with fail
      refine (hN _ (by with_reducible (repeat first | exact Kx.r _ | assumption | refine Kx.a ?_ _ | refine Kx.d ?_ | refine Kx.e ?_ _ | refine Kx.s (by simp <;> omega) ?_ _ | refine Kx.t ?_ (by assumption)))).mono ?_
      clear hN
      rintro e w4 ⟨cs, rfl, hk4, hx⟩
      have hk5 : Stab.Keeps wr w4 := Stab.Keeps.trans (Stab.Keeps.alloc (Stab.Keeps.refl _) _) hk4
      have hs4 : wr.heap.size + 1 ≤ w4.heap.size := by have := hk4.size; simp at this; omega
      obtain ⟨zk, zd, zna, znn, znc, zka, zkn, zkc, rfl⟩ := hx.four
      have hxb : GmR (w4.alloc (.cells #[.int .i64 zk, .int .i64 zd, .slice zna znn znc, .slice zka zkn zkc] 25)) (fun b => wr.heap.size + 1 ≤ b ∧ b < w4.heap.size) [.int .i64 zk, .int .i64 zd, .slice zna znn znc, .slice zka zkn zkc] P := gmS.kf (gmS.mono hx (fun b hb hf => hf.elim (fun h => h.elim) (fun h => ⟨by simpa using h, hb⟩))) ((KF.refl _ _).alloc _)
      have hGb := HG.out.keep gmS (hk5.alloc (.cells #[.int .i64 zk, .int .i64 zd, .slice zna znn znc, .slice zka zkn zkc] 25))
      have HGB := Lib.hid hGb
      have hone := hx.ones
      have hszw := hK.size
      clear HG hGb hx hk4 c0 c1 c2 c3
      go_wp2_with (at_builtin; (refine append_grow (w0 := w) gmS rfl _ _ 23 rfl 25 i0 _ 4 64 Tryz.underlying23 HI.out HZ.out HZ1.out HZ2.out rfl (by decide) _ k _ rfl HGB.out ⟨w4.heap.size, 0, none⟩ 1 [.int .i64 zk, .int .i64 zd, .slice zna znn znc, .slice zka zkn zkc] rfl rfl (new_cells _ _ _ _ rfl) hone ?c2 ?c3 P _ hxb ?c4 ?c5 ?_))
      case c2 => unfold maxLen; omega
      case c3 => omega
      case c4 => exact fun b hb => ⟨by omega, by simp; omega⟩
      case c5 => exact fun g hg hb => by have := hown g hg; omega
      intro al' c' w6 hG6 hsz6
      rw [← HTS.out] at hG6
      clear HGB hxb hk5
      go_wp2_with fail
      exact ⟨⟨k + 1, by omega, by go_num, hG6⟩, by simp [intOf]; omega⟩
    · obtain rfl : n = k := by omega
      have hmn := HM.out
      rw [List.take_of_length_le (by rw [List.length_map]; omega)] at hG
      obtain ⟨css, hR⟩ := hG.toRows gmS
      have hl : (ts.map newP).length = n := by rw [List.length_map, hmn]
      go_wp2_with fail
      go_ret
      exact ⟨al, c, css, by rw [hl]; rfl, hK, by rw [hl]; exact hR⟩
end Go.Proofs.YtbakhldjfplbfaaGreat
set_option linter.unusedVariables false
set_option linter.unusedSimpArgs false
namespace Go.Proofs.YtbakhldjfplbfaaGreat
open Go.RowKit Go.Fl Go.Sl Go.Pg Go.Ch Go.Kf Go.By
def wkbT (t : GT) : List Nat := wkb (newP t)
end Go.Proofs.YtbakhldjfplbfaaGreat
set_option linter.unusedVariables false
set_option linter.unusedSimpArgs false
namespace Go.Proofs.YtbakhldjfplbfaaGreat
open Go.RowKit Go.Fl Go.Sl Go.Pg Go.Ch Go.Kf Go.By
theorem small_few {t : GT} (h : t.Few) : t.Small := small_of_total t (by have := h.1; omega)
theorem len_few {t : GT} (h : t.Few) : (wkbT t).length ≤ 24000 := by have := wkb_len t; have := h.1; unfold wkbT; omega
end Go.Proofs.YtbakhldjfplbfaaGreat
set_option linter.unusedVariables false
set_option linter.unusedSimpArgs false
namespace Go.Proofs.YtbakhldjfplbfaaGreat
open Go.ChangeShapes Go.WideShapes Go.ChangeAt Go.Op2 Go.RowKit Go.Sl Go.By
set_option maxRecDepth 100000 in
theorem open_floatsB {H : Type} {enc : TypeId × Value → H} {W : World} {b2 : Nat} {sp : Nat → Bool} {hd : Bool} {fuel : Nat} {cs : List Value} {x : DataW H × List MemPlace}
    (h : DataW.trod enc Tryz.prog W b2 sp hd fuel 22 cs = some x) : ∃ a n cap, cs = [.slice a n cap] ∧ (a = none → cap = 0) ∧ ∃ l : List Nat, l.length = n ∧ Sz W a n cap 1 (encN l) ∧ ∀ x ∈ l, natB x := by
  obtain ⟨a, n, cap, rfl, xs, hS, hn, m, _, hm⟩ := trod_rows (by decide) Tryz.underlying22 cFloat h
  obtain ⟨l, h1, h2⟩ := choose_list (p := fun (i : Nat) (q : Nat) => (xs.drop (i * 1)).take 1 = [.float .f64 q] ∧ natB q) (List.range n) (fun i hi => by
    obtain ⟨y, hy⟩ := hm i (by simpa using hi)
    obtain ⟨b, e, hw⟩ := trod_float Tryz.underlying45 hy
    simp only [Lit.wf, decide_eq_true_eq] at hw
    exact ⟨b, e, hw⟩)
  simp at h1
  have hx : xs = l.flatMap (fun p => [.float .f64 p]) := by
    refine chunks_eq (fun p => [.float .f64 p]) 1 n xs l h1 hS.len (fun i hi => ?_)
    have := (h2 i (by simp; omega) (by omega)).1
    simpa using this
  refine ⟨a, n, cap, rfl, hn, l, h1, ?_, fun q hq => ?_⟩
  · rw [hx] at hS
    have : l.flatMap (fun p => [Value.float .f64 p]) = encN l := by
      unfold encN; clear h1 h2 hS hx
      induction l with
      | nil => rfl
      | cons a l ih => simp [List.flatMap_cons, ih]
    rw [this] at hS
    exact hS
  · obtain ⟨j, hj, rfl⟩ := List.getElem_of_mem hq
    exact (h2 j (by simp; omega) hj).2
set_option maxRecDepth 100000 in
theorem open_geomB {H : Type} {enc : TypeId × Value → H} {W : World} {b2 : Nat} {sp : Nat → Bool} {hd : Bool} : ∀ (fuel : Nat) {cs : List Value} {x : DataW H × List MemPlace},
    DataW.trod enc Tryz.prog W b2 sp hd fuel 25 cs = some x → Light Tryz.prog 25 x.1 → ∃ t : GT, cs = t.cells ∧ t.At W ∧ t.Reach ∧ t.Bits := by
  intro fuel
  induction fuel using Nat.strongRecOn with
  | _ fuel ih =>
  intro cs x h hL
  obtain ⟨hl, m, hm, hf⟩ := trod_structS Tryz.underlying25 cGeom h hL
  obtain ⟨c0, c1, c2, c3, rfl⟩ := list4 hl
  obtain ⟨y0, g0, _⟩ := hf 0 _ rfl
  obtain ⟨y1, g1, _⟩ := hf 1 _ rfl
  obtain ⟨y2, g2, L2⟩ := hf 2 _ rfl
  obtain ⟨y3, g3, L3⟩ := hf 3 _ rfl
  simp [cInt] at g0 g1
  simp [cFloats] at g2
  simp [cGeoms] at g3
  obtain ⟨kind, e0, _⟩ := trod_int' Tryz.underlying3 g0
  obtain ⟨dim, e1, _⟩ := trod_int' Tryz.underlying3 g1
  obtain ⟨na, nn, nc, e2, _, nums, hn, hN, hBt⟩ := open_floatsB g2
  obtain ⟨na', nn', nc', e2', _, _, _, _, _, es2, hl2, hx2, _⟩ := trod_rowsS (by decide) Tryz.underlying22 cFloat g2
  rw [e2] at e2'
  cases e2'
  have hb2 := (light_rows Tryz.underlying22 hl2 hx2 L2).1
  rw [bFloat] at hb2
  obtain ⟨ka, kn, kc, e3, xs, hS, _, m', hm', es, hle, hxe, hk⟩ := trod_rowsS (by decide) Tryz.underlying23 cGeom g3
  obtain ⟨hb3, hL3⟩ := light_rows Tryz.underlying23 hle hxe L3
  rw [bGeom] at hb3
  obtain ⟨q, hq1, hq2⟩ := choose_list (p := fun (i : Nat) (t : GT) => (xs.drop (i * 4)).take 4 = t.cells ∧ t.At W ∧ t.Reach ∧ t.Bits) (List.range kn) (fun i hi => by
    obtain ⟨y, hy0, hy⟩ := hk i (by simpa using hi)
    exact ih m' (by omega) hy (hL3 i y hy0))
  simp at hq1
  have hx : xs = q.flatMap GT.cells := by
    refine chunks_eq GT.cells 4 kn xs q hq1 hS.len (fun i hi => ?_)
    have := (hq2 i (by simp; omega) (by omega)).1
    simpa using this
  injection e0 with e0; injection e1 with e1; injection e2 with e2; injection e3 with e3
  subst e0 e1 e2 e3
  have hr : reachBytes = 140737488351232 := rfl
  rw [hr] at hb2 hb3
  refine ⟨.node ⟨kind, dim, na, nn, nc, ka, kn, kc⟩ nums q, rfl, .mk _ _ _ hn hq1 hN (by rw [← hx]; exact hS) (fun t ht => ?_), .mk _ _ _ (by omega) (by omega) (fun t ht => ?_), .mk _ _ _ hBt (fun t ht => ?_)⟩
  · obtain ⟨j, hj, rfl⟩ := List.getElem_of_mem ht
    exact (hq2 j (by simpa [hq1] using hj) hj).2.1
  · obtain ⟨j, hj, rfl⟩ := List.getElem_of_mem ht
    exact (hq2 j (by simpa [hq1] using hj) hj).2.2.1
  · obtain ⟨j, hj, rfl⟩ := List.getElem_of_mem ht
    exact (hq2 j (by simpa [hq1] using hj) hj).2.2.2
set_option maxRecDepth 100000 in
theorem open_geomsB {H : Type} {enc : TypeId × Value → H} {W : World} {base b2 : Nat} {sp : Nat → Bool} {hd : Bool} {r : Reach} {v : Value} {d : DataW H} {p : List MemPlace}
    (o : Value.okWide Tryz.prog W r base 23 v) (h : DataW.Trod enc Tryz.prog W b2 sp hd 23 v d p) (hL : Light Tryz.prog 23 d) :
    ∃ a n cap, v = .slice a n cap ∧ ∃ ts : List GT, ts.length = n ∧ Sz W a n cap 4 (ts.flatMap GT.cells) ∧ (∀ t ∈ ts, t.At W) ∧ (∀ t ∈ ts, t.Reach) ∧ ∀ t ∈ ts, t.Bits := by
  obtain ⟨a, n, cap, rfl⟩ := okWide_slice Tryz.underlying23 o
  obtain ⟨fuel, hf⟩ := h
  obtain ⟨a', n', cap', h1, xs, hS, _, m, _, es, hle, hxe, hk⟩ := trod_rowsS (by decide) Tryz.underlying23 cGeom hf
  simp [Value.cells] at h1
  obtain ⟨rfl, rfl, rfl⟩ := h1
  obtain ⟨_, hL3⟩ := light_rows Tryz.underlying23 hle hxe hL
  obtain ⟨q, hq1, hq2⟩ := choose_list (p := fun (i : Nat) (t : GT) => (xs.drop (i * 4)).take 4 = t.cells ∧ t.At W ∧ t.Reach ∧ t.Bits) (List.range n) (fun i hi => by
    obtain ⟨y, hy0, hy⟩ := hk i (by simpa using hi)
    exact open_geomB m hy (hL3 i y hy0))
  simp at hq1
  have hx : xs = q.flatMap GT.cells := by
    refine chunks_eq GT.cells 4 n xs q hq1 hS.len (fun i hi => ?_)
    have := (hq2 i (by simp; omega) (by omega)).1
    simpa using this
  refine ⟨a, n, cap, rfl, q, hq1, by rw [← hx]; exact hS, fun t ht => ?_, fun t ht => ?_, fun t ht => ?_⟩
  · obtain ⟨j, hj, rfl⟩ := List.getElem_of_mem ht
    exact (hq2 j (by simpa [hq1] using hj) hj).2.1
  · obtain ⟨j, hj, rfl⟩ := List.getElem_of_mem ht
    exact (hq2 j (by simpa [hq1] using hj) hj).2.2.1
  · obtain ⟨j, hj, rfl⟩ := List.getElem_of_mem ht
    exact (hq2 j (by simpa [hq1] using hj) hj).2.2.2
end Go.Proofs.YtbakhldjfplbfaaGreat
