/-
  A line drawn the other way about. No condition.
-/
import Derived.Test.YtinbkonmlgediaaGreatXEc
import Derived.Test.YtinbkonmlgediaaGreatXB2
set_option linter.unusedVariables false
set_option linter.unusedSimpArgs false
namespace Go.Proofs.YtinbkonmlgediaaGreat
open Go.RowKit Go.Fl Go.Sl Go.Pg Go.Ch Go.Kf Go.Fr
/-- which place comes at i from the end -/
def turnAt (pts : List (Int × Int)) (m i : Nat) : Nat := if ptAt pts 0 = ptAt pts m then (i + 1) % m else i
def turnL (pts : List (Int × Int)) (m : Nat) : Nat → List (Int × Int)
  | 0 => pts
  | i + 1 => (turnL pts m i).set (m - i) (ptAt pts (turnAt pts m i))
theorem turnL_len (pts : List (Int × Int)) (m : Nat) : ∀ i, (turnL pts m i).length = pts.length
  | 0 => rfl
  | i + 1 => by rw [turnL, List.length_set, turnL_len pts m i]
theorem turnL_at (pts : List (Int × Int)) (m : Nat) (hm : pts.length = m + 1) : ∀ i, i ≤ m + 1 → ∀ t, t ≤ m → ptAt (turnL pts m i) t = if m - t < i then ptAt pts (turnAt pts m (m - t)) else ptAt pts t
  | 0, _, t, _ => by rw [if_neg (by omega)]; rfl
  | i + 1, hi, t, ht => by
    have ih := turnL_at pts m hm i (by omega) t ht
    rw [turnL]
    unfold ptAt
    rw [List.getD_eq_getElem?_getD, List.getElem?_set]
    by_cases h : m - i = t
    · rw [if_pos h, if_pos (by rw [turnL_len]; omega), if_pos (by omega), show m - t = i by omega]
      rfl
    · rw [if_neg h]
      unfold ptAt at ih
      rw [← List.getD_eq_getElem?_getD, ih]
      by_cases h2 : m - t < i
      · rw [if_pos h2, if_pos (by omega)]
      · rw [if_neg h2, if_neg (by omega)]
theorem set_cells (L : List (Int × Int)) (rest : List Value) (t : Nat) (a b : Int) : t < L.length →
    ((L.flatMap ptCells ++ rest).set (t * 2) (.int .i64 a)).set (t * 2 + 1) (.int .i64 b) = (L.set t (a, b)).flatMap ptCells ++ rest := by
  induction L generalizing t with
  | nil => intro h; simp at h
  | cons p L ih =>
    intro h
    cases t with
    | zero => simp [ptCells]
    | succ t =>
      have := ih t (by simpa using h)
      have e : (t + 1) * 2 = t * 2 + 2 := by omega
      rw [e]
      simp only [List.flatMap_cons, ptCells, List.cons_append, List.nil_append, List.set_cons_succ, List.append_assoc] at this ⊢
      rw [this]
theorem cells_len (L : List (Int × Int)) : (L.flatMap ptCells).length = L.length * 2 := by
  induction L with
  | nil => rfl
  | cons p L ih => simp [ptCells, ih]; omega
theorem turn_slot (i m : Nat) (h1 : 1 ≤ m) (h2 : m ≤ 1000) (hi : i ≤ m) : (wrap64 (wrap64 ((i : Int) + 1 % (m : Int)) + (m : Int))).tmod (m : Int) = (((i + 1) % m : Nat) : Int) := by
  have e1 : (1 : Int) % (m : Int) = ((1 % m : Nat) : Int) := by rw [Int.natCast_emod]; rfl
  have e2 : 1 % m ≤ 1 := Nat.mod_le _ _
  rw [e1]
  generalize hq : 1 % m = q at *
  have e3 : wrap64 ((i : Int) + (q : Int)) = ((i + q : Nat) : Int) := by unfold wrap64; omega
  rw [e3]
  have e4 : wrap64 (((i + q : Nat) : Int) + (m : Int)) = ((i + q + m : Nat) : Int) := by unfold wrap64; omega
  rw [e4, Int.tmod_eq_emod_of_nonneg (by omega), ← Int.natCast_emod, ← hq]
  congr 1
  rw [Nat.add_mod_right, Nat.add_mod_mod]
theorem sz_pre {w : World} {g n cp k : Nat} {e : TypeId} {xs rest : List Value} (h : Blk w g e (xs ++ rest)) (hx : xs.length = n * k) (h1 : n ≤ cp) (h2 : cp ≤ maxLen) : Sz w (some ⟨g, 0, none⟩) n cp k xs := by
  refine ⟨hx, h1, h2, fun _ => ⟨hx, h1, h2, fun h => (by cases h), fun x hx => ⟨g, 0, by cases hx; rfl, h.lt, fun j u hj => ?_⟩⟩⟩
  have hl : j < xs.length := by
    rcases Nat.lt_or_ge j xs.length with h1 | h1
    · exact h1
    · rw [List.getElem?_eq_none h1] at hj; cases hj
  have := h.cell (i := j) (by rw [List.getElem?_append_left hl]; exact hj)
  simpa using this
theorem owns_blk {w : World} {base n k : Nat} {e : TypeId} {al : Option Addr} {c : Nat} {xs : List Value} (h : w.ownsRow base e k (.slice al n c) n xs) (hn : 0 < n) : ∃ g rest, al = some ⟨g, 0, none⟩ ∧ base ≤ g ∧ Blk w g e (xs ++ rest) ∧ n ≤ c ∧ c ≤ maxLen := by
  obtain ⟨h1, h2⟩ := h
  rcases h2 with ⟨_, h0⟩ | ⟨g, cap, cur, he, hb, hg, h3, h4, h5, h6⟩
  · omega
  · cases he
    refine ⟨g, cur.toList.drop (n * k), rfl, hb, ?_, h3, h4⟩
    rw [← h6, List.take_append_drop]
    show _ = _
    rw [hg]
def TurnPost (w : World) (L : List (Int × Int)) (e : Ending) (w' : World) : Prop := ∃ a c, e = .returned (.agg #[.int .i64 2, .slice a L.length c, .slice none 0 0]) ∧ Stab.Keeps w w' ∧ Sz w' a L.length c 2 (L.flatMap ptCells)
set_option maxRecDepth 100000 in
set_option maxHeartbeats 8000000 in
theorem redrawn_ (a : Option Addr) (n cap m : Nat) (pts : List (Int × Int)) (w : World) (hn : pts.length = n) (h : Sz w a n cap 2 (pts.flatMap ptCells)) (hm : n = m + 1) (h1 : 1 ≤ m) (h2 : m ≤ 1000) :
    Calls Tryz.prog 7 #[.agg #[.int .i64 2, .slice a n cap, .slice none 0 0], .int .i64 1] w (TurnPost w (turnL pts m n)) := by
  obtain ⟨i0, hi, hz0, hz1, hz2⟩ := info_parts infoSpt
  have HI := Lib.hid hi
  have HZ := Lib.hid hz0
  have HZ1 := Lib.hid hz1
  have HZ2 := Lib.hid hz2
  have hle := h.le
  have hmx := h.max
  unfold maxLen at hmx
  have HN := Lib.hid hn
  have hk0 : Stab.Keeps w ((w.alloc (.cells #[.int .i64 2, .slice a n cap, .slice none 0 0] 25)).alloc (.cells #[.int .i64 0, .slice none 0 0, .slice none 0 0] 25)) := by with_reducible (repeat first | exact Kx.r _ | assumption | refine Kx.a ?_ _ | refine Kx.d ?_ | refine Kx.e ?_ _ | refine Kx.s (by simp <;> omega) ?_ _ | refine Kx.t ?_ (by assumption))
  have hB0 : Blk ((w.alloc (.cells #[.int .i64 2, .slice a n cap, .slice none 0 0] 25)).alloc (.cells #[.int .i64 0, .slice none 0 0, .slice none 0 0] 25)) w.heap.size 25 [.int .i64 2, .slice a n cap, .slice none 0 0] := by with_reducible (repeat first | assumption | (refine Bx.n ⟨?_, ?_⟩ <;> focus (first | rfl | (simp; done) | omega)) | refine Bx.a ?_ _ | refine Bx.d ?_ | refine Bx.e ?_ _ | refine Bx.p (by first | omega | simp <;> omega) ?_)
  have hR0 : Blk ((w.alloc (.cells #[.int .i64 2, .slice a n cap, .slice none 0 0] 25)).alloc (.cells #[.int .i64 0, .slice none 0 0, .slice none 0 0] 25)) (w.heap.size + 1) 25 [.int .i64 0, .slice none 0 0, .slice none 0 0] := by with_reducible (repeat first | assumption | (refine Bx.n ⟨?_, ?_⟩ <;> focus (first | rfl | (simp; done) | omega)) | refine Bx.a ?_ _ | refine Bx.d ?_ | refine Bx.e ?_ _ | refine Bx.p (by first | omega | simp <;> omega) ?_)
  have HM := Lib.hid hm
  have hnm : (n : Int) - 1 = (m : Int) := by omega
  have hnb : n ≤ 1001 := by omega
  clear hi hz0 hz1 hz2 hn hm
  go_enter Tryz.func7, Tryz.ntmps7
  go_upto_region 1 with (fail)
  generalize ((w.alloc (.cells #[.int .i64 2, .slice a n cap, .slice none 0 0] 25)).alloc (.cells #[.int .i64 0, .slice none 0 0, .slice none 0 0] 25)) = w1 at *
  have hs1 := h.keep hk0
  have hsz1 : w.heap.size + 2 ≤ w1.heap.size := by have := hR0.lt; omega
  have hlit2 : ((w1.alloc (.cells #[.int .i64 0, .slice none 0 0, .slice none 0 0] 25)).alloc (.cells #[] 55)).ownsRow w1.heap.size 55 2 (.slice (some ⟨w1.heap.size + 1, 0, none⟩) 0 0) 0 [] := by
    have := World.ownsRow_lit (w1.alloc (.cells #[.int .i64 0, .slice none 0 0, .slice none 0 0] 25)) #[] 0 (base := w1.heap.size) (e := 55) (size := 2) (by simp) (by unfold maxLen; omega) rfl
    simpa using this
  rename_i K hK
  have H : ∀ (tb LB g cp : Nat) (rest : List Value) (w7 : World), w1.heap.size ≤ tb → w1.heap.size ≤ g → n ≤ cp → cp ≤ maxLen → Stab.Keeps w1 w7 → Blk w7 tb 25 [.int .i64 2, .slice (some ⟨g, 0, none⟩) n cp, .slice none 0 0] → Blk w7 g 55 (pts.flatMap ptCells ++ rest) →
      Exit.then K (bodyPost Tryz.prog Tryz.f7 (TurnPost w (turnL pts m n))) Exit.normal { tmps := #[.agg #[.int .i64 2, .slice a n cap, .slice none 0 0], .int .i64 1, .pointer (some ⟨w.heap.size, 0, none⟩), undef, .pointer (some ⟨w.heap.size + 1, 0, none⟩), .pointer (some ⟨tb, 0, none⟩), undef, undef, undef, undef, undef, undef, undef, .pointer (some ⟨w.heap.size, 0, none⟩), .int .i64 2, .slice (some ⟨LB, 0, none⟩) 0 0, .pointer (some ⟨w.heap.size, 1, none⟩), .slice a n cap, .slice (some ⟨g, 0, none⟩) n cp, .agg #[.int .i64 2, .slice (some ⟨g, 0, none⟩) n cp, .slice none 0 0], undef, undef, undef, undef, undef, undef, undef, undef, undef, undef, undef, undef, undef, undef, undef, undef, undef, undef, undef, undef, undef, undef, undef, undef, undef, undef, undef, undef, undef, undef, undef, undef, undef, undef, undef, undef, undef, undef, undef, undef, undef, undef, undef, undef, undef, undef, undef, undef, undef, undef, undef, undef, undef, undef, undef, undef, undef, undef, undef, undef, undef, undef, undef, undef, undef, undef, undef, undef, undef, undef, undef, undef, undef, undef, undef, undef, undef, undef, undef, undef, undef, undef, undef, undef, undef, undef, undef, undef, undef, undef, undef, undef, undef, undef, undef, undef, undef, undef, undef, undef, undef, undef, undef, undef, undef, undef], defers := [] } w7 := by
    intro tb LB g cp rest w7 htb hg hnc hcm hk7 hT hG
    clear HI HZ HZ1 HZ2
    have hgt : g ≠ tb := hG.ne hT (by decide)
    have hB7 := hB0.keep hk7
    have hR7 := hR0.keep hk7
    have hK7 := Stab.Keeps.trans hk0 hk7
    unfold maxLen at hcm
    have hm0 : (0 : Int) < (m : Int) := by omega
    clear hB0 hR0 hk7 hk0 hs1
    have b0 := hB7.cell (i := 0) rfl
    have b1 := hB7.cell (i := 1) rfl
    have b2 := hB7.cell (i := 2) rfl
    have bf := hB7.free
    have bl := hB7.lt
    have t0 := hT.cell (i := 0) rfl
    have t1 := hT.cell (i := 1) rfl
    have t2 := hT.cell (i := 2) rfl
    have tf := hT.free
    have tl := hT.lt
    have HGT := Lib.hid hgt
    have HCM := Lib.hid hcm
    have HNC := Lib.hid hnc
    clear hgt hcm hnc
    go_wp2_with fail
    clear hnm
    have hrel0 : Blk w7 g 55 ((turnL pts m 0).flatMap ptCells ++ rest) := hG
    clear b0 b1 b2 bf bl t0 t1 t2 tf tl hG
    go_loopw [34] (fun iv wr => ∃ i : Nat, i ≤ n ∧ iv = .int .i64 i ∧ Stab.Keeps w wr ∧ Blk wr w.heap.size 25 [.int .i64 2, .slice a n cap, .slice none 0 0] ∧ Blk wr (w.heap.size + 1) 25 [.int .i64 0, .slice none 0 0, .slice none 0 0] ∧ Blk wr tb 25 [.int .i64 2, .slice (some ⟨g, 0, none⟩) n cp, .slice none 0 0] ∧ Blk wr g 55 ((turnL pts m i).flatMap ptCells ++ rest)) (fun iv _ => n - (intOf iv).toNat)
    case atStart => exact ⟨0, Nat.zero_le _, rfl, hK7, hB7, hR7, hT, hrel0⟩
    case round =>
      clear hK7 hB7 hR7 hT hrel0
      obtain ⟨i, hin, rfl, hK, hB, hR, hT, hG⟩ := hrel
      have b0 := hB.cell (i := 0) rfl
      have b1 := hB.cell (i := 1) rfl
      have b2 := hB.cell (i := 2) rfl
      have bf := hB.free
      have bl := hB.lt
      have t0 := hT.cell (i := 0) rfl
      have t1 := hT.cell (i := 1) rfl
      have t2 := hT.cell (i := 2) rfl
      have tf := hT.free
      have tl := hT.lt
      by_cases hlt : i < n
      · have hmn := HM.out
        obtain ⟨b, off, ha, hb, hc0⟩ := (h.keep hK).elem (i := 0) (by omega)
        obtain ⟨b', off', ha', _, hc1⟩ := (h.keep hK).elem (i := m) (by omega)
        have htl : turnAt pts m i < n := by
          unfold turnAt
          split
          · have := Nat.mod_lt (i + 1) (show 0 < m by omega); omega
          · exact hlt
        obtain ⟨b'', off'', ha'', _, hc2⟩ := (h.keep hK).elem (i := turnAt pts m i) htl
        subst ha
        cases ha'
        cases ha''
        have hl0 : 0 < pts.length := by have := HN.out; omega
        have hl1 : m < pts.length := by have := HN.out; omega
        have hl2 : turnAt pts m i < pts.length := by have := HN.out; omega
        obtain ⟨c0, c1⟩ := pt_cells hl0 hc0
        obtain ⟨d0, d1⟩ := pt_cells hl1 hc1
        obtain ⟨e0, e1⟩ := pt_cells hl2 hc2
        have p0 : ptAt pts 0 = pts[0] := by unfold ptAt; rw [List.getD_eq_getElem?_getD, List.getElem?_eq_getElem hl0]; rfl
        have p1 : ptAt pts m = pts[m] := by unfold ptAt; rw [List.getD_eq_getElem?_getD, List.getElem?_eq_getElem hl1]; rfl
        have p2 : ptAt pts (turnAt pts m i) = pts[turnAt pts m i] := by unfold ptAt; rw [List.getD_eq_getElem?_getD, List.getElem?_eq_getElem hl2]; rfl
        have hstep : turnL pts m (i + 1) = (turnL pts m i).set (m - i) (ptAt pts (turnAt pts m i)) := rfl
        rw [p2] at hstep
        have hTA : turnAt pts m i = if pts[0] = pts[m] then (i + 1) % m else i := by unfold turnAt; rw [p0, p1]
        have hGL : (turnL pts m i).length = n := by rw [turnL_len]; exact HN.out
        clear p0 p1 p2 hc0 hc1 hc2
        generalize pts[0] = p at *
        generalize pts[m] = q at *
        generalize pts[turnAt pts m i] = r at *
        generalize turnAt pts m i = v at *
        generalize turnL pts m i = G at *
        obtain ⟨px, py⟩ := p
        obtain ⟨qx, qy⟩ := q
        obtain ⟨rx, ry⟩ := r
        simp only [Nat.zero_mul, Nat.add_zero] at c0 c1 d0 d1 e0 e1
        have HS := Lib.hid hstep
        have HL := Lib.hid hGL
        have HV := Lib.hid hTA
        have hmI : (m : Int) < n := by omega
        have hnI : (0 : Int) < n := by omega
        have hvI : (v : Int) < n := by omega
        obtain ⟨t, ht⟩ : ∃ t, t + i = m := ⟨m - i, by omega⟩
        have hmi : m - i = t := by omega
        rw [hmi] at hstep
        have htG : t < G.length := by omega
        have hsc := set_cells G rest t rx ry htG
        rw [← hstep] at hsc
        obtain ⟨z0, hz0⟩ : ∃ z, (G.flatMap ptCells ++ rest)[t * 2]? = some z := ⟨_, List.getElem?_eq_getElem (by rw [List.length_append, cells_len]; omega)⟩
        obtain ⟨z1, hz1⟩ : ∃ z, (G.flatMap ptCells ++ rest)[t * 2 + 1]? = some z := ⟨_, List.getElem?_eq_getElem (by rw [List.length_append, cells_len]; omega)⟩
        have g0 := hG.cell hz0
        have g1 := hG.cell hz1
        have gf := hG.free
        have gl := hG.lt
        have hwt : (m : Int) - (i : Int) = (t : Int) := by omega
        have hwt2 : IntKind.i64.wrap (t : Int) = (t : Int) := IntWalk.i64_in _ (by omega)
        have htn : (t : Int) < n := by omega
        have ht0 : (0 : Int) ≤ (t : Int) := by omega
        have hgt := HGT.out
        have hg4 : ∀ N, Blk (((wr.drewN N).setCell ⟨g, t * 2, none⟩ (.int .i64 rx)).setCell ⟨g, t * 2 + 1, none⟩ (.int .i64 ry)) g 55 ((turnL pts m (i + 1)).flatMap ptCells ++ rest) := fun N => by
          have x0 : Blk (wr.drewN N) g 55 (G.flatMap ptCells ++ rest) := by with_reducible (repeat first | assumption | (refine Bx.n ⟨?_, ?_⟩ <;> focus (first | rfl | (simp; done) | omega)) | refine Bx.a ?_ _ | refine Bx.d ?_ | refine Bx.e ?_ _ | refine Bx.p (by first | omega | simp <;> omega) ?_)
          have x1 := (x0.set (t * 2) (.int .i64 rx)).set (t * 2 + 1) (.int .i64 ry)
          rwa [hsc] at x1
        have hk4 : ∀ N, Stab.Keeps w (((wr.drewN N).setCell ⟨g, t * 2, none⟩ (.int .i64 rx)).setCell ⟨g, t * 2 + 1, none⟩ (.int .i64 ry)) := fun N => by with_reducible (repeat first | exact Kx.r _ | assumption | refine Kx.a ?_ _ | refine Kx.d ?_ | refine Kx.e ?_ _ | refine Kx.s (by simp <;> omega) ?_ _ | refine Kx.t ?_ (by assumption))
        have hb4 : ∀ N, Blk (((wr.drewN N).setCell ⟨g, t * 2, none⟩ (.int .i64 rx)).setCell ⟨g, t * 2 + 1, none⟩ (.int .i64 ry)) w.heap.size 25 [.int .i64 2, .slice (some ⟨b, off, none⟩) n cap, .slice none 0 0] := fun N => by with_reducible (repeat first | assumption | (refine Bx.n ⟨?_, ?_⟩ <;> focus (first | rfl | (simp; done) | omega)) | refine Bx.a ?_ _ | refine Bx.d ?_ | refine Bx.e ?_ _ | refine Bx.p (by first | omega | simp <;> omega) ?_)
        have hr4 : ∀ N, Blk (((wr.drewN N).setCell ⟨g, t * 2, none⟩ (.int .i64 rx)).setCell ⟨g, t * 2 + 1, none⟩ (.int .i64 ry)) (w.heap.size + 1) 25 [.int .i64 0, .slice none 0 0, .slice none 0 0] := fun N => by with_reducible (repeat first | assumption | (refine Bx.n ⟨?_, ?_⟩ <;> focus (first | rfl | (simp; done) | omega)) | refine Bx.a ?_ _ | refine Bx.d ?_ | refine Bx.e ?_ _ | refine Bx.p (by first | omega | simp <;> omega) ?_)
        have ht4 : ∀ N, Blk (((wr.drewN N).setCell ⟨g, t * 2, none⟩ (.int .i64 rx)).setCell ⟨g, t * 2 + 1, none⟩ (.int .i64 ry)) tb 25 [.int .i64 2, .slice (some ⟨g, 0, none⟩) n cp, .slice none 0 0] := fun N => by with_reducible (repeat first | assumption | (refine Bx.n ⟨?_, ?_⟩ <;> focus (first | rfl | (simp; done) | omega)) | refine Bx.a ?_ _ | refine Bx.d ?_ | refine Bx.e ?_ _ | refine Bx.p (by first | omega | simp <;> omega) ?_)
        have HG4 := Lib.hid hg4
        have HK4 := Lib.hid hk4
        have HB4 := Lib.hid hb4
        have HR4 := Lib.hid hr4
        have HT4 := Lib.hid ht4
        clear hg4 hk4 hb4 hr4 ht4 hgt
        have HSC := Lib.hid hsc
        have HTI := Lib.hid ht
        have HZ0 := Lib.hid hz0
        clear hstep hGL hTA hmn ht hmi htG hsc hz0 hz1
        by_cases he : px = qx ∧ py = qy
        · obtain ⟨rfl, rfl⟩ := he
          have hVc : v = (i + 1) % m := HV.out.trans (if_pos rfl)
          have hS8 := turn_slot i m h1 h2 (by have := HTI.out; omega)
          rw [← hVc] at hS8
          clear hVc
          go_upto_region 8 with (fail)
          go_quiet (fail)
          go_upto_region 11 with (fail)
          clear c0 c1 d0 d1
          go_region
          go_wp2_with fail
          exact ⟨⟨i + 1, by omega, by go_num, HK4.out _, HB4.out _, HR4.out _, HT4.out _, HG4.out _⟩, by simp [intOf]; omega⟩
        · have hVc : v = i := by have := HV.out; rw [if_neg (fun e => he (by injection e with e1 e2; exact ⟨e1, e2⟩))] at this; exact this
          subst hVc
          by_cases hx : px = qx
          · subst hx
            have hy : ¬ py = qy := fun e => he ⟨rfl, e⟩
            have hyb : (py == qy) = false := by simpa using hy
            go_upto_region 8 with (fail)
            go_quiet (fail)
            go_upto_region 11 with (fail)
            clear c0 c1 d0 d1
            go_region
            go_wp2_with fail
            exact ⟨⟨v + 1, by omega, by go_num, HK4.out _, HB4.out _, HR4.out _, HT4.out _, HG4.out _⟩, by simp [intOf]; omega⟩
          · have hxb : (px == qx) = false := by simpa using hx
            go_upto_region 8 with (fail)
            go_quiet (fail)
            go_upto_region 11 with (fail)
            clear c0 c1 d0 d1
            go_region
            go_wp2_with fail
            exact ⟨⟨v + 1, by omega, by go_num, HK4.out _, HB4.out _, HR4.out _, HT4.out _, HG4.out _⟩, by simp [intOf]; omega⟩
      · obtain rfl : i = n := by omega
        go_wp2_with fail
        clear b0 b1 b2 bf bl t0 t1 t2 tf tl hlt
        go_loopw [84] (fun iv wq => iv = .int .i64 0 ∧ Stab.Keeps w wq ∧ Blk wq w.heap.size 25 [.int .i64 2, .slice a i cap, .slice none 0 0] ∧ Blk wq (w.heap.size + 1) 25 [.int .i64 0, .slice none 0 0, .slice none 0 0] ∧ Blk wq tb 25 [.int .i64 2, .slice (some ⟨g, 0, none⟩) i cp, .slice none 0 0] ∧ Blk wq g 55 ((turnL pts m i).flatMap ptCells ++ rest)) (fun _ _ => 0)
        case atStart => exact ⟨rfl, hK, hB, hR, hT, hG⟩
        case round =>
          clear hK hB hR hT hG
          obtain ⟨rfl, hK, hB, hR, hT, hG⟩ := hrel
          have b0 := hB.cell (i := 0) rfl
          have b1 := hB.cell (i := 1) rfl
          have b2 := hB.cell (i := 2) rfl
          have bf := hB.free
          have bl := hB.lt
          have t0 := hT.cell (i := 0) rfl
          have t1 := hT.cell (i := 1) rfl
          have t2 := hT.cell (i := 2) rfl
          have tf := hT.free
          have tl := hT.lt
          have r0 := hR.cell (i := 0) rfl
          have r1 := hR.cell (i := 1) rfl
          have r2 := hR.cell (i := 2) rfl
          have rf := hR.free
          have rl := hR.lt
          have hR5 := ((hR.set 0 (.int .i64 2)).set 1 (.slice (some ⟨g, 0, none⟩) i cp)).set 2 (.slice none 0 0)
          simp only [List.set] at hR5
          have hK5 : Stab.Keeps w (((wr.setCell ⟨w.heap.size + 1, 0, none⟩ (.int .i64 2)).setCell ⟨w.heap.size + 1, 1, none⟩ (.slice (some ⟨g, 0, none⟩) i cp)).setCell ⟨w.heap.size + 1, 2, none⟩ (.slice none 0 0)) := by with_reducible (repeat first | exact Kx.r _ | assumption | refine Kx.a ?_ _ | refine Kx.d ?_ | refine Kx.e ?_ _ | refine Kx.s (by simp <;> omega) ?_ _ | refine Kx.t ?_ (by assumption))
          have hG5 : Blk (((wr.setCell ⟨w.heap.size + 1, 0, none⟩ (.int .i64 2)).setCell ⟨w.heap.size + 1, 1, none⟩ (.slice (some ⟨g, 0, none⟩) i cp)).setCell ⟨w.heap.size + 1, 2, none⟩ (.slice none 0 0)) g 55 ((turnL pts m i).flatMap ptCells ++ rest) := by with_reducible (repeat first | assumption | (refine Bx.n ⟨?_, ?_⟩ <;> focus (first | rfl | (simp; done) | omega)) | refine Bx.a ?_ _ | refine Bx.d ?_ | refine Bx.e ?_ _ | refine Bx.p (by first | omega | simp <;> omega) ?_)
          have HR5 := Lib.hid hR5
          have HK5 := Lib.hid hK5
          have HG5 := Lib.hid hG5
          clear hR5 hK5 hG5 hK hB hR hG hT
          go_wp2_with fail
          generalize (((wr.setCell ⟨w.heap.size + 1, 0, none⟩ (.int .i64 2)).setCell ⟨w.heap.size + 1, 1, none⟩ (.slice (some ⟨g, 0, none⟩) i cp)).setCell ⟨w.heap.size + 1, 2, none⟩ (.slice none 0 0)) = w9 at *
          have hX := HR5.out
          clear r0 r1 r2 rf rl
          have x0 := hX.cell (i := 0) rfl
          have x1 := hX.cell (i := 1) rfl
          have x2 := hX.cell (i := 2) rfl
          have xf := hX.free
          have xl := hX.lt
          have hlT : (turnL pts m i).length = i := by rw [turnL_len]; exact HN.out
          refine bodyPost_ret (v := .agg #[.int .i64 2, .slice (some ⟨g, 0, none⟩) i cp, .slice none 0 0]) (by simp [results, Tryz.results7, go_sem, x0, x1, x2, xf]) rfl ⟨some ⟨g, 0, none⟩, cp, by rw [hlT], HK5.out, ?_⟩
          rw [hlT]
          exact sz_pre HG5.out (by rw [cells_len, hlT]) HNC.out (by unfold maxLen; exact HCM.out)
  have HH := Lib.hid H
  clear H
  have g0 := hB0.cell (i := 0) rfl
  have g1 := hB0.cell (i := 1) rfl
  have g2 := hB0.cell (i := 2) rfl
  have gf := hB0.free
  have gl := hB0.lt
  go_region_law (first
    | (refine step_append_sz (by rfl) _ _ 22 (by rfl) w1.heap.size 55 i0 _ 2 16 Tryz.underlying22 HI.out HZ.out HZ1.out HZ2.out (by rfl) (by decide) (.slice (some ⟨w1.heap.size, 0, none⟩) 0 0) 0 [] (by rfl) (by first | exact World.ownsRow_lit _ #[] 0 (by first | (simp; done) | (simp; omega)) (by unfold maxLen; omega) rfl | exact hlit2 | exact owns_keep hlit2 (by with_reducible (repeat first | exact Kx.r _ | assumption | refine Kx.a ?_ _ | refine Kx.d ?_ | refine Kx.e ?_ _ | refine Kx.s (by simp <;> omega) ?_ _ | refine Kx.t ?_ (by assumption))) | exact owns_keep (World.ownsRow_lit _ #[] 0 (by first | (simp; done) | (simp; omega)) (by unfold maxLen; omega) rfl) (by with_reducible (repeat first | exact Kx.r _ | assumption | refine Kx.a ?_ _ | refine Kx.d ?_ | refine Kx.e ?_ _ | refine Kx.s (by simp <;> omega) ?_ _ | refine Kx.t ?_ (by assumption)))) _ _ _ _ (by rfl) (hs1.keep (by with_reducible (repeat first | exact Kx.r _ | assumption | refine Kx.a ?_ _ | refine Kx.d ?_ | refine Kx.e ?_ _ | refine Kx.s (by simp <;> omega) ?_ _ | refine Kx.t ?_ (by assumption)))) (ptCells_one _) (by unfold maxLen; omega) (by omega) (by first | (simp; done) | (simp; omega)) ?_; intro al cp w6 hown6 hgr6 hat6; have hl6 := hgr6.size; have hk6 : Stab.Keeps w1 w6 := Below.grown (show Stab.Keeps w1 _ by with_reducible (repeat first | exact Kx.r _ | assumption | refine Kx.a ?_ _ | refine Kx.d ?_ | refine Kx.e ?_ _ | refine Kx.s (by simp <;> omega) ?_ _ | refine Kx.t ?_ (by assumption))) hgr6 (by first | (simp; done) | (simp; omega)) (fun g hg => by cases hg; first | exact Nat.le_refl _ | exact Nat.le_succ _); have hB6 := hB0.keep hk6; have b0 := hB6.cell (i := 0) rfl; have b1 := hB6.cell (i := 1) rfl; have b2 := hB6.cell (i := 2) rfl; have bl := hB6.lt; (try (have hT6 := Go.Ch.Blk.grown (b := w1.heap.size + 1) (e := 25) (vs := [.int .i64 0, .slice none 0 0, .slice none 0 0]) (by first | (with_reducible (repeat first | assumption | (refine Bx.n ⟨?_, ?_⟩ <;> focus (first | rfl | (simp; done) | omega)) | refine Bx.a ?_ _ | refine Bx.d ?_ | refine Bx.e ?_ _ | refine Bx.p (by first | omega | simp <;> omega) ?_); done) | fail) hgr6 (fun e => by have e' : some (w1.heap.size + 1) = some w1.heap.size := e; injection e' with e'; omega); have t0 := hT6.cell (i := 0) rfl; have t1 := hT6.cell (i := 1) rfl; have t2 := hT6.cell (i := 2) rfl; have tf := hT6.free; have tl := hT6.lt)))
    | (refine step_append_sz (by rfl) _ _ 22 (by rfl) w1.heap.size 55 i0 _ 2 16 Tryz.underlying22 HI.out HZ.out HZ1.out HZ2.out (by rfl) (by decide) (.slice (some ⟨w1.heap.size + 1, 0, none⟩) 0 0) 0 [] (by rfl) (by first | exact World.ownsRow_lit _ #[] 0 (by first | (simp; done) | (simp; omega)) (by unfold maxLen; omega) rfl | exact hlit2 | exact owns_keep hlit2 (by with_reducible (repeat first | exact Kx.r _ | assumption | refine Kx.a ?_ _ | refine Kx.d ?_ | refine Kx.e ?_ _ | refine Kx.s (by simp <;> omega) ?_ _ | refine Kx.t ?_ (by assumption))) | exact owns_keep (World.ownsRow_lit _ #[] 0 (by first | (simp; done) | (simp; omega)) (by unfold maxLen; omega) rfl) (by with_reducible (repeat first | exact Kx.r _ | assumption | refine Kx.a ?_ _ | refine Kx.d ?_ | refine Kx.e ?_ _ | refine Kx.s (by simp <;> omega) ?_ _ | refine Kx.t ?_ (by assumption)))) _ _ _ _ (by rfl) (hs1.keep (by with_reducible (repeat first | exact Kx.r _ | assumption | refine Kx.a ?_ _ | refine Kx.d ?_ | refine Kx.e ?_ _ | refine Kx.s (by simp <;> omega) ?_ _ | refine Kx.t ?_ (by assumption)))) (ptCells_one _) (by unfold maxLen; omega) (by omega) (by first | (simp; done) | (simp; omega)) ?_; intro al cp w6 hown6 hgr6 hat6; have hl6 := hgr6.size; have hk6 : Stab.Keeps w1 w6 := Below.grown (show Stab.Keeps w1 _ by with_reducible (repeat first | exact Kx.r _ | assumption | refine Kx.a ?_ _ | refine Kx.d ?_ | refine Kx.e ?_ _ | refine Kx.s (by simp <;> omega) ?_ _ | refine Kx.t ?_ (by assumption))) hgr6 (by first | (simp; done) | (simp; omega)) (fun g hg => by cases hg; first | exact Nat.le_refl _ | exact Nat.le_succ _); have hB6 := hB0.keep hk6; have b0 := hB6.cell (i := 0) rfl; have b1 := hB6.cell (i := 1) rfl; have b2 := hB6.cell (i := 2) rfl; have bl := hB6.lt; (try (have hT6 := Go.Ch.Blk.grown (b := w1.heap.size) (e := 25) (vs := [.int .i64 0, .slice none 0 0, .slice none 0 0]) (by first | (with_reducible (repeat first | assumption | (refine Bx.n ⟨?_, ?_⟩ <;> focus (first | rfl | (simp; done) | omega)) | refine Bx.a ?_ _ | refine Bx.d ?_ | refine Bx.e ?_ _ | refine Bx.p (by first | omega | simp <;> omega) ?_); done) | fail) hgr6 (fun e => by have e' : some w1.heap.size = some (w1.heap.size + 1) := e; injection e' with e'; omega); have t0 := hT6.cell (i := 0) rfl; have t1 := hT6.cell (i := 1) rfl; have t2 := hT6.cell (i := 2) rfl; have tf := hT6.free; have tl := hT6.lt))))
  all_goals (
    obtain ⟨g9, rest9, hal, hge, hbk, hc1, hc2⟩ := owns_blk (show w6.ownsRow w1.heap.size 55 2 (.slice al n cp) n (pts.flatMap ptCells) by simpa only [Nat.zero_add, List.nil_append] using hown6) (by have := HM.out; omega)
    subst hal
    have hlz : w1.heap.size ≤ w6.heap.size := hk6.size
    clear hown6 hgr6 hat6 hl6 b0 b1 b2 bl g0 g1 g2 gf gl
    first
      | (refine HH.out _ _ g9 cp rest9 _ ?_ hge hc1 hc2 ?_ ?_ ?_
         · exact hlz
         · with_reducible (repeat first | exact Kx.r _ | assumption | refine Kx.a ?_ _ | refine Kx.d ?_ | refine Kx.e ?_ _ | refine Kx.s (by simp <;> omega) ?_ _ | refine Kx.t ?_ (by assumption))
         · with_reducible (repeat first | assumption | (refine Bx.n ⟨?_, ?_⟩ <;> focus (first | rfl | (simp; done) | omega)) | refine Bx.a ?_ _ | refine Bx.d ?_ | refine Bx.e ?_ _ | refine Bx.p (by first | omega | simp <;> omega) ?_)
         · with_reducible (repeat first | assumption | (refine Bx.n ⟨?_, ?_⟩ <;> focus (first | rfl | (simp; done) | omega)) | refine Bx.a ?_ _ | refine Bx.d ?_ | refine Bx.e ?_ _ | refine Bx.p (by first | omega | simp <;> omega) ?_))
      | (have hne := hbk.ne hT6 (by decide)
         have hT9 := ((hT6.set 0 (.int .i64 2)).set 1 (.slice (some ⟨g9, 0, none⟩) n cp)).set 2 (.slice none 0 0)
         simp only [List.set] at hT9
         refine HH.out _ _ g9 cp rest9 _ ?_ hge hc1 hc2 ?_ ?_ ?_
         · omega
         · with_reducible (repeat first | exact Kx.r _ | assumption | refine Kx.a ?_ _ | refine Kx.d ?_ | refine Kx.e ?_ _ | refine Kx.s (by simp <;> omega) ?_ _ | refine Kx.t ?_ (by assumption))
         · exact hT9
         · with_reducible (repeat first | assumption | (refine Bx.n ⟨?_, ?_⟩ <;> focus (first | rfl | (simp; done) | omega)) | refine Bx.a ?_ _ | refine Bx.d ?_ | refine Bx.e ?_ _ | refine Bx.p (by first | omega | simp <;> omega) ?_)))
end Go.Proofs.YtinbkonmlgediaaGreat
