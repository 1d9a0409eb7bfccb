/-
  FnWriteMany: the walk of the law. No condition.
  FnWriteMany: the arguments opened, the walk in the row's form. No condition.
-/
import Derived.Test.YtbakhldjfplbfaaGreatGBb
import Derived.Laws.BytesArg
import Derived.Test.YtbakhldjfplbfaaGreatOpSz
import Derived.Test.YtbakhldjfplbfaaGreatRows
set_option linter.unusedVariables false
set_option linter.unusedSimpArgs false
namespace Go.Proofs.YtbakhldjfplbfaaGreat
open Go.RowKit Go.Fl Go.Sl Go.Pg Go.Ch Go.Kf Go.By
def gt0 : GT := .node ⟨0, 0, none, 0, 0, none, 0, 0⟩ [] []
theorem gt0_wkb : wkbT gt0 = [1, 7, 0, 0, 0, 0, 0, 0, 0] := by
  have : newP gt0 = .node 0 0 [] [] := by
    unfold gt0
    rw [newP_whole _ _ _ (by decide) (by decide)]
    rfl
  unfold wkbT
  rw [this, wkb_many 0 0 [] [] (by decide) (by decide) (by decide)]
  rfl
theorem gt0_at (w : World) : gt0.At w := .mk _ _ _ rfl rfl (Sz.nil _ _) (Sz.nil _ _) (by simp)
theorem small_few {t : GT} (h : t.Few) : t.Small := small_of_total t (by have := h.1; omega)
theorem len_few {t : GT} (h : t.Few) : (wkbT t).length ≤ 24000 := by have := wkb_len t; have := h.1; unfold wkbT; omega
/-- a row of bytes as a string -/
theorem conv_row {w : World} {base n cap : Nat} {al : Option Addr} {bs : List Nat} (h : w.ownsRow base 5 1 (.slice al n cap) n (bytesV bs)) (hn : bs.length = n) : (convert 54 9 (.slice al n cap)).run Tryz.prog w = .ok (.string (strOfNums (bs.map fun (x : Nat) => (x : Int)))) w := by
  obtain ⟨_, _, he, hs, hnil, _⟩ := of_owns h
  cases he
  cases al with
  | none =>
    have h0 := hnil rfl
    subst h0
    have hb : bs = [] := List.eq_nil_of_length_eq_zero hn
    subst hb
    exact run_convert_bytes_nil (P := Tryz.prog) w 54 5 Tryz.underlying54 Tryz.underlying5 0 cap 9 Tryz.underlying9
  | some x =>
    obtain ⟨b, off, rfl, hb, hc⟩ := hs.at_ x rfl
    refine run_convert_bytes_arg (P := Tryz.prog) w 54 5 Tryz.underlying54 Tryz.underlying5 b off n cap (bs.map fun (x : Nat) => (x : Int)) (by simpa using hn) (fun i hi => ?_) 9 Tryz.underlying9
    have hi2 : i < bs.length := by omega
    have := hc i (byteV bs[i]) (by unfold bytesV; simp [hi2])
    rw [this]
    simp [byteV, List.getD, hi2]
set_option maxRecDepth 100000 in
set_option maxHeartbeats 4000000 in
theorem writeLaw_ (ba : Option Addr) (bn bc : Nat) (l0 : List Nat) (a : Option Addr) (n cap : Nat) (ts : List GT) (w : World) (hb : l0.length = bn) (hs0 : Sz w ba bn bc 1 (bytesV l0)) (hm : ts.length = n) (h : Sz w a n cap 4 (ts.flatMap GT.cells)) (hA : ∀ t ∈ ts, t.At w) (hR : ∀ t ∈ ts, t.Reach) (hBi : ∀ t ∈ ts, t.Bits) :
    Calls Tryz.prog 6 #[.slice ba bn bc, .slice a n cap] w (LawPost w) := by
  have hKG := fun w' (hk : Stab.Keeps w w') => kGeoms_ a n cap ts w' hm (h.keep hk) (fun t ht => (hA t ht).keep hk) hR
  have hle := h.le
  have hmx := h.max
  have hle0 := hs0.le
  have hmx0 := hs0.max
  unfold maxLen at hmx hmx0
  by_cases c1 : (2147483647 : Int) < bn
  · clear hKG h hs0 hA hR
    go_enter Tryz.func6, Tryz.ntmps6
    go_wp2_with fail
    go_ret
    exact ⟨rfl, by with_reducible (repeat (first | exact Kx.r _ | assumption | refine Kx.a ?_ _ | refine Kx.d ?_ | refine Kx.e ?_ _ | (refine Kx.s ?_ ?_ _; focus (first | (simp; done) | (simp; omega))) | refine Kx.t ?_ (by assumption)))⟩
  have d1 : decide ((2147483647 : Int) < (bn : Int)) = false := by simpa using c1
  by_cases c2 : (2147483647 : Int) < n
  · have d2 : decide ((2147483647 : Int) < (n : Int)) = true := by simpa using c2
    clear hKG h hs0 hA hR c1 c2
    go_enter Tryz.func6, Tryz.ntmps6
    go_wp2_with fail
    go_ret
    exact ⟨rfl, by with_reducible (repeat (first | exact Kx.r _ | assumption | refine Kx.a ?_ _ | refine Kx.d ?_ | refine Kx.e ?_ _ | (refine Kx.s ?_ ?_ _; focus (first | (simp; done) | (simp; omega))) | refine Kx.t ?_ (by assumption)))⟩
  have d2 : decide ((2147483647 : Int) < (n : Int)) = false := by simpa using c2
  by_cases c3 : (2000 : Int) < bn
  · have d3 : decide ((2000 : Int) < (bn : Int)) = true := by simpa using c3
    clear hKG h hs0 hA hR c1 c2 c3
    go_enter Tryz.func6, Tryz.ntmps6
    go_wp2_with fail
    go_ret
    exact ⟨rfl, by with_reducible (repeat (first | exact Kx.r _ | assumption | refine Kx.a ?_ _ | refine Kx.d ?_ | refine Kx.e ?_ _ | (refine Kx.s ?_ ?_ _; focus (first | (simp; done) | (simp; omega))) | refine Kx.t ?_ (by assumption)))⟩
  have d3 : decide ((2000 : Int) < (bn : Int)) = false := by simpa using c3
  have hbn : bn ≤ 2000 := by omega
  clear c1 c2 c3
  go_enter Tryz.func6, Tryz.ntmps6
  go_wp2_with fail
  refine (hKG _ (by with_reducible (repeat (first | exact Kx.r _ | assumption | refine Kx.a ?_ _ | refine Kx.d ?_ | refine Kx.e ?_ _ | (refine Kx.s ?_ ?_ _; focus (first | (simp; done) | (simp; omega))) | refine Kx.t ?_ (by assumption))))).mono ?_
  clear hKG
  rintro e w2 ⟨⟨v, rfl, hv⟩, hk2⟩
  cases v with
  | false =>
    clear h hs0 hA hR
    go_wp2_with fail
    go_ret
    exact ⟨rfl, hk2⟩
  | true =>
    obtain ⟨hn10, hFew⟩ := hv rfl
    obtain ⟨i0, hi, hz0, hz1, hz2⟩ := info_parts infoU8
    have HI := Lib.hid hi
    have HZ := Lib.hid hz0
    have HZ1 := Lib.hid hz1
    have HZ2 := Lib.hid hz2
    have HM := Lib.hid hm
    have HBB := Lib.hid hb
    have hkA : Stab.Keeps w (w2.alloc (.cells #[] 5)) := by with_reducible (repeat (first | exact Kx.r _ | assumption | refine Kx.a ?_ _ | refine Kx.d ?_ | refine Kx.e ?_ _ | (refine Kx.s ?_ ?_ _; focus (first | (simp; done) | (simp; omega))) | refine Kx.t ?_ (by assumption)))
    have hOA : (w2.alloc (.cells #[] 5)).ownsRow w.heap.size 5 1 (.slice (some ⟨w2.heap.size, 0, none⟩) 0 0) 0 [] := World.ownsRow_lit _ #[] 0 hk2.size (by unfold maxLen; omega) rfl
    have HOA := Lib.hid hOA
    have hszA : w.heap.size ≤ (w2.alloc (.cells #[] 5)).heap.size := hkA.size
    have hszA0 := hs0.keep hkA
    clear hi hz0 hz1 hz2 hm hb hOA d1 d2 d3 hv hR
    go_wp2_with (at_builtin; (refine append_szat rfl _ _ 54 rfl w.heap.size 5 i0 _ 1 1 Tryz.underlying54 HI.out HZ.out HZ1.out HZ2.out rfl (by decide) _ 0 [] rfl HOA.out _ bn bc (bytesV l0) rfl hszA0 (bytesV_one _) ?c2 ?c3 hszA ?_))
    case c2 => unfold maxLen; omega
    case c3 => omega
    intro al0 cp0 w3 hown0 hgr0 hat0
    have hk3 : Stab.Keeps w w3 := Below.grown hkA hgr0 hkA.size (fun k hk => by cases hk; exact hk2.size)
    have hown3 : w3.ownsRow w.heap.size 5 1 (.slice al0 bn cp0) l0.length (bytesV l0) := by rw [HBB.out]; simpa using hown0
    have hMa := kMade_ a n cap ts w3 HM.out (h.keep hk3) (fun t ht => (hA t ht).keep hk3) (fun t ht => small_few (hFew t ht)) (by omega)
    clear hown0 hgr0 hat0 HOA hszA hszA0 hkA hk2
    go_wp2_with fail
    refine hMa.mono ?_
    clear hMa
    rintro e w4 ⟨alm, cm, css, rfl, hk4, hRm⟩
    have hkw4 := Stab.Keeps.trans hk3 hk4
    have hown4 := owns_keep hown3 hk4
    have hlt4 := fun g (hg : (Value.slice al0 bn cp0).ownBlock = some g) => (hown3.lt g hg).2
    have hRm2 := hRm.mono (G := fun b => w3.heap.size ≤ b ∧ b < w4.heap.size) (fun b hb hf => ⟨hf, hb⟩) (fun _ _ hr => gmS.mono hr (fun b hb hf => ⟨hf, hb⟩))
    have hlen : (ts.map newP).length = n := by rw [List.length_map]; exact HM.out
    rw [hlen] at hRm2 ⊢
    clear hlen
    have hlem := hRm2.sz.sz.le
    have hmxm := hRm2.sz.sz.max
    unfold maxLen at hmxm
    have hapm : ∀ g, (Value.slice al0 bn cp0).ownBlock = some g → ¬ (w3.heap.size ≤ g ∧ g < w4.heap.size) := fun g hg hb => by have := hlt4 g hg; omega
    clear hown3 hk3 hk4 hRm hlt4
    go_wp2_with fail
    go_loopw [5, 31] (fun v iv wr => ∃ k : Nat, k ≤ n ∧ iv = .int .i64 k ∧ Stab.Keeps w wr ∧ w4.heap.size ≤ wr.heap.size ∧ wr.ownsRow w.heap.size 5 1 v (l0 ++ (ts.take k).flatMap wkbT).length (bytesV (l0 ++ (ts.take k).flatMap wkbT)) ∧ Go.Kf.Rows wr (fun b => w3.heap.size ≤ b ∧ b < w4.heap.size) GmR alm n cm 4 css (ts.map newP) ∧ ∀ g, v.ownBlock = some g → ¬ (w3.heap.size ≤ g ∧ g < w4.heap.size)) (fun _ iv _ => n - (intOf iv).toNat)
    case atStart => exact ⟨0, by omega, rfl, hkw4, Nat.le_refl _, by simpa using hown4, hRm2, hapm⟩
    case round =>
      clear hkw4 hown4 hRm2 hapm
      obtain ⟨k, hk, rfl, hK, hszr, hown, hRr, hap⟩ := hrel
      by_cases hlt : k < n
      · obtain ⟨b, off, c, ha, hbw, _, _, hclen, hcc, hx⟩ := hRr.elem hlt
        have hki : k < ts.length := by have := HM.out; omega
        have hx2 : GmR wr (fun b => w3.heap.size ≤ b ∧ b < w4.heap.size) c (newP (ts[k]'hki)) := by rw [List.getElem_map] at hx; exact hx
        clear hx
        subst ha
        have hFk := hFew _ (List.getElem_mem hki)
        have hBk := newP_B _ (hBi _ (List.getElem_mem hki))
        have hMk := newP_made (ts[k]'hki)
        have hNk := newP_num _ (small_few hFk)
        have hts := flat_take_succ wkbT ts k hki
        have hwt : wkbT (ts[k]'hki) = wkb (newP (ts[k]'hki)) := rfl
        have hlk : (wkb (newP (ts[k]'hki))).length ≤ 24000 := len_few hFk
        have hlp : (l0 ++ (ts.take k).flatMap wkbT).length ≤ 2000 + 24000 * 10 := by
          have h1 := manyT_le (l := ts.take k) (fun t ht => len_few (hFew t (List.mem_of_mem_take ht)))
          have h5 : (ts.take k).length ≤ 10 := by rw [List.length_take]; omega
          have h4 := HBB.out
          rw [List.length_append]; omega
        rw [hwt] at hts
        have hnil := wkbO_nil hMk
        have HTS := Lib.hid hts
        generalize hpre : l0 ++ (ts.take k).flatMap wkbT = pre at *
        have HPRE := Lib.hid hpre
        clear hts hwt hpre hFk
        obtain ⟨al, cp, rfl, _, _, _⟩ := of_owns hown
        generalize newP (ts[k]'hki) = P at *
        have hWr := fun w' (hk : Stab.Keeps wr w') => writeWKB_ c P w' (gmS.kf hx2 (KF.keeps hk)) hMk hBk hNk (by rw [hnil]; exact Nat.le_trans hlk (by omega))
        rw [hnil] at hWr
        obtain ⟨xk, xd, xna, xnn, xnc, xka, xkn, xkc, rfl⟩ := hx2.four
        have c0 : wr.cell? ⟨b, off + k * 4, none⟩ = some (.int .i64 xk) := hcc 0 _ rfl
        have c1 : wr.cell? ⟨b, off + k * 4 + 1, none⟩ = some (.int .i64 xd) := hcc 1 _ rfl
        have c2 : wr.cell? ⟨b, off + k * 4 + 2, none⟩ = some (.slice xna xnn xnc) := hcc 2 _ rfl
        have c3 : wr.cell? ⟨b, off + k * 4 + 3, none⟩ = some (.slice xka xkn xkc) := hcc 3 _ rfl
        clear hcc hx2 hMk hBk hNk hnil
        have HOWN := Lib.hid hown
        have HRR := Lib.hid hRr
        clear hown hRr
        generalize hlen : pre.length = len at *
        have HLEN := Lib.hid hlen
        clear hlen
        go_wp2_with fail
        refine (hWr _ (by with_reducible (repeat (first | exact Kx.r _ | assumption | refine Kx.a ?_ _ | refine Kx.d ?_ | refine Kx.e ?_ _ | (refine Kx.s ?_ ?_ _; focus (first | (simp; done) | (simp; omega))) | refine Kx.t ?_ (by assumption))))).mono ?_
        clear hWr
        rintro e w5 ⟨al5, cp5, rfl, hk5, hown5⟩
        have hk5' : Stab.Keeps wr w5 := by with_reducible (repeat (first | exact Kx.r _ | assumption | refine Kx.a ?_ _ | refine Kx.d ?_ | refine Kx.e ?_ _ | (refine Kx.s ?_ ?_ _; focus (first | (simp; done) | (simp; omega))) | refine Kx.t ?_ (by assumption)))
        obtain ⟨_, _, he5, hsl5, _, _⟩ := of_owns hown5
        cases he5
        have hso5 := HOWN.out
        rw [← HLEN.out] at hso5
        have hown6 := owns_keep HOWN.out hk5'
        have HOWN6 := Lib.hid hown6
        have HSL := Lib.hid hsl5.toSz
        have hb5 : w.heap.size ≤ w5.heap.size := Nat.le_trans hK.size hk5'.size
        have hltr := fun g (hg : (Value.slice al len cp).ownBlock = some g) => (HOWN.out.lt g hg)
        clear hk5 hown5 hsl5 hso5 hown6 c0 c1 c2 c3
        generalize hlw : (wkb P).length = lw at *
        have HLW := Lib.hid hlw
        clear hlw
        go_wp2_with (at_builtin; (refine append_szat rfl _ _ 54 rfl w.heap.size 5 i0 _ 1 1 Tryz.underlying54 HI.out HZ.out HZ1.out HZ2.out rfl (by decide) _ len (bytesV pre) rfl HOWN6.out _ lw _ (bytesV (wkb P)) rfl HSL.out (bytesV_one _) ?c2 ?c3 hb5 ?_))
        case c2 => unfold maxLen; omega
        case c3 => omega
        intro al6 cp6 w6 hown6 hgr6 hat6
        have hK6 : Stab.Keeps w w6 := Below.grown (Stab.Keeps.trans hK hk5') hgr6 hb5 (fun g hg => (hltr g hg).1)
        have hR5 := HRR.out.kf (KF.keeps hk5') (fun _ _ hr => gmS.kf hr (KF.keeps hk5'))
        have hkf : KF (fun b => w3.heap.size ≤ b ∧ b < w4.heap.size) w5 w6 := (KF.refl _ _).grown hgr6 (fun g hg => hap g hg)
        have hR6 := hR5.kf hkf (fun _ _ hr => gmS.kf hr hkf)
        have hap6 : ∀ g, (Value.slice al6 (len + lw) cp6).ownBlock = some g → ¬ (w3.heap.size ≤ g ∧ g < w4.heap.size) := fun g hg hb => by
          rcases hat6 with h6 | h6
          · exact hap g (by rw [← h6]; exact hg) hb
          · rw [h6] at hg
            cases hg
            have := hk5'.size
            omega
        have hs6 : w4.heap.size ≤ w6.heap.size := Nat.le_trans hszr (Nat.le_trans hk5'.size hgr6.size)
        have e5 : pre ++ wkb P = l0 ++ (ts.take (k + 1)).flatMap wkbT := by rw [HTS.out, ← List.append_assoc, HPRE.out]
        rw [← bytesV_app, e5] at hown6
        have hl6 : len + lw = (l0 ++ (ts.take (k + 1)).flatMap wkbT).length := by rw [← e5, List.length_append, HLEN.out, HLW.out]
        have HL6 := Lib.hid hl6
        have HO6 := Lib.hid hown6
        clear HRR HOWN HOWN6 HSL hk5' hgr6 hat6 hR5 hkf e5 hl6 hown6 hap hltr HTS HPRE
        go_wp2_with fail
        exact ⟨⟨k + 1, by omega, by go_num, hK6, hs6, by rw [← HL6.out]; exact HO6.out, hR6, hap6⟩, by simp [intOf]; omega⟩
      · obtain rfl : n = k := by omega
        rw [List.take_of_length_le (by have := HM.out; omega)] at hown
        clear hRr hap
        have hlT : (l0 ++ ts.flatMap wkbT).length ≤ 2000 + 24000 * 10 := by
          have h1 := manyT_le (l := ts) (fun t ht => len_few (hFew t ht))
          have h4 := HBB.out
          have h5 := HM.out
          rw [List.length_append]; omega
        have hW := fun w' (hk : Stab.Keeps w w') => writeMany_ ba bn bc l0 a n cap ts w' HBB.out hbn (hs0.keep hk) HM.out hn10 (h.keep hk) (fun t ht => (hA t ht).keep hk) (fun t ht => small_few (hFew t ht)) hBi (fun t ht => len_few (hFew t ht))
        have HW := Lib.hid hW
        generalize l0 ++ ts.flatMap wkbT = out at *
        clear hW
        obtain ⟨al, cp, rfl, _, _, _⟩ := of_owns hown
        generalize hlo : out.length = lo at *
        have HLO := Lib.hid hlo
        clear hlo
        have hkL : Stab.Keeps wr ((wr.alloc (.cells #[.int .u8 7] 5)).alloc (.cells #[.int .i64 0, .int .i64 0, .slice none 0 0, .slice none 0 0] 25)) := by with_reducible (repeat (first | exact Kx.r _ | assumption | refine Kx.a ?_ _ | refine Kx.d ?_ | refine Kx.e ?_ _ | (refine Kx.s ?_ ?_ _; focus (first | (simp; done) | (simp; omega))) | refine Kx.t ?_ (by assumption)))
        have hB7 : Blk ((wr.alloc (.cells #[.int .u8 7] 5)).alloc (.cells #[.int .i64 0, .int .i64 0, .slice none 0 0, .slice none 0 0] 25)) wr.heap.size 5 [.int .u8 7] := by with_reducible (repeat (first | assumption | ((refine Bx.n ⟨?_, ?_⟩) <;> focus (first | rfl | (simp; done) | omega)) | refine Bx.a ?_ _ | refine Bx.d ?_ | refine Bx.e ?_ _ | (refine Bx.p ?_ ?_; focus (first | (simp; done) | (simp; omega) | omega))))
        have hBg : Blk ((wr.alloc (.cells #[.int .u8 7] 5)).alloc (.cells #[.int .i64 0, .int .i64 0, .slice none 0 0, .slice none 0 0] 25)) (wr.heap.size + 1) 25 [.int .i64 0, .int .i64 0, .slice none 0 0, .slice none 0 0] := by with_reducible (repeat (first | assumption | ((refine Bx.n ⟨?_, ?_⟩) <;> focus (first | rfl | (simp; done) | omega)) | refine Bx.a ?_ _ | refine Bx.d ?_ | refine Bx.e ?_ _ | (refine Bx.p ?_ ?_; focus (first | (simp; done) | (simp; omega) | omega))))
        have hzg : Sz ((wr.alloc (.cells #[.int .u8 7] 5)).alloc (.cells #[.int .i64 0, .int .i64 0, .slice none 0 0, .slice none 0 0] 25)) (some ⟨wr.heap.size + 1, 0, none⟩) 1 1 4 ([gt0].flatMap GT.cells) := by
          refine ⟨rfl, Nat.le_refl _, by decide, fun _ => ⟨rfl, Nat.le_refl _, by decide, (fun h => by cases h), fun x hx => ?_⟩⟩
          cases hx
          exact ⟨_, 0, rfl, hBg.lt, fun j u hu => by rw [Nat.zero_add]; exact hBg.cell hu⟩
        have hOne := writeMany_ (some ⟨wr.heap.size, 0, none⟩) 1 1 [7] (some ⟨wr.heap.size + 1, 0, none⟩) 1 1 [gt0] _ rfl (by omega) (sz_blk hB7 rfl (by decide)) rfl (by omega) hzg (fun t ht => by rw [List.mem_singleton.1 ht]; exact gt0_at _) (fun t ht => by rw [List.mem_singleton.1 ht]; exact .mk _ _ _ (by simp) (by simp) (by simp)) (fun t ht => by rw [List.mem_singleton.1 ht]; exact .mk _ _ _ (by simp) (by simp)) (fun t ht => by rw [List.mem_singleton.1 ht, gt0_wkb]; decide)
        rw [show [7] ++ [gt0].flatMap wkbT = [7, 1, 7, 0, 0, 0, 0, 0, 0, 0] by rw [List.flatMap_cons, gt0_wkb]; rfl] at hOne
        clear hzg hBg hB7
        go_wp2_with fail
        refine hOne.mono ?_
        clear hOne
        rintro e w7 ⟨al7, cp7, rfl, hk7, hown7⟩
        obtain ⟨_, _, he7, hs7, hn7, _⟩ := of_owns hown7
        cases he7
        obtain ⟨b7, o7, ha7, hb7, hc7⟩ := hs7.toSz.elem (i := 0) (by decide)
        have c7 : w7.cell? ⟨b7, o7, none⟩ = some (.int .u8 7) := by have := hc7 0 (.int .u8 7) (by decide) rfl; simpa using this
        subst ha7
        have hK7 : Stab.Keeps w w7 := Stab.Keeps.trans hK (Stab.Keeps.trans hkL hk7)
        have hkd : Stab.Keeps w7 w7.drew := Stab.Keeps.drew (Stab.Keeps.refl _)
        have hownW := owns_keep (owns_keep hown (Stab.Keeps.trans hkL hk7)) hkd
        have hcW := conv_row hownW HLO.out
        have HOWN := Lib.hid hownW
        have HK := Lib.hid (Stab.Keeps.trans hK7 hkd)
        simp only [List.length_cons, List.length_nil, Nat.zero_add, Nat.reduceAdd]
        clear hkL hk7 hown7 hs7 hn7 hc7 hown hK hownW hkd
        go_wp2_with fail
        go_region_law (first
          | (go_simp; go_at_call 29; (refine (HW.out _ HK.out).mono ?_); rintro e w8 ⟨al8, cp8, rfl, hk8, hown8⟩; have hc8 := conv_row hown8 rfl; have hcW8 := conv_row (owns_keep HOWN.out hk8) HLO.out; have hK8 := Stab.Keeps.trans HK.out hk8))
        all_goals (
          clear hcW hc8 hcW8
          go_wp2_with fail
          go_ret
          exact ⟨rfl, by with_reducible (repeat (first | exact Kx.r _ | assumption | refine Kx.a ?_ _ | refine Kx.d ?_ | refine Kx.e ?_ _ | (refine Kx.s ?_ ?_ _; focus (first | (simp; done) | (simp; omega))) | refine Kx.t ?_ (by assumption)))⟩)
end Go.Proofs.YtbakhldjfplbfaaGreat
set_option linter.unusedVariables false
set_option linter.unusedSimpArgs false
namespace Go.Proofs.YtbakhldjfplbfaaGreat
open Go.ChangeShapes Go.WideShapes Go.ChangeAt Go.Op2 Go.RowKit Go.Sl Go.By
theorem cU8 : Tryz.prog.cellsOf 5 = 1 := by kernel_rfl
set_option maxRecDepth 100000 in
theorem open_bytesV {H : Type} {enc : TypeId × Value → H} {W : World} {base b2 : Nat} {sp : Nat → Bool} {hd : Bool} {r : Reach} {v : Value} {d : DataW H} {p : List MemPlace}
    (o : Value.okWide Tryz.prog W r base 54 v) (h : DataW.Trod enc Tryz.prog W b2 sp hd 54 v d p) : ∃ a n cap, v = .slice a n cap ∧ ∃ l : List Nat, l.length = n ∧ Sz W a n cap 1 (bytesV l) := by
  obtain ⟨a, n, cap, rfl⟩ := okWide_slice Tryz.underlying54 o
  obtain ⟨fuel, hf⟩ := h
  obtain ⟨a', n', cap', h1, xs, hS, _, m, _, es, hle, hxe, hm⟩ := trod_rowsS (by decide) Tryz.underlying54 cU8 hf
  simp [Value.cells] at h1
  obtain ⟨rfl, rfl, rfl⟩ := h1
  refine ⟨a, n, cap, rfl, ?_⟩
  obtain ⟨l, h1, h2⟩ := chunks (α := Nat) (fun b => [byteV b]) 1 (fun _ => rfl) n xs hS.len (fun i hi => by
    obtain ⟨y, _, hy⟩ := hm i hi
    obtain ⟨q, e0, hw⟩ := trod_int' Tryz.underlying5 hy
    have h0 : IntKind.u8.min = 0 := by decide
    simp only [Lit.wf, Bool.and_eq_true, decide_eq_true_eq, h0] at hw
    refine ⟨q.toNat, ?_⟩
    rw [e0]
    unfold byteV
    rw [Int.toNat_of_nonneg hw.1])
  have e : l.flatMap (fun b => [byteV b]) = bytesV l := by
    unfold bytesV
    clear h1 h2 hS
    induction l with
    | nil => rfl
    | cons x l ih => simp [List.flatMap_cons, ih]
  rw [h2, e] at hS
  exact ⟨l, h1, hS⟩
set_option maxRecDepth 100000 in
theorem open_floatsB {H : Type} {enc : TypeId × Value → H} {W : World} {b2 : Nat} {sp : Nat → Bool} {hd : Bool} {fuel : Nat} {cs : List Value} {x : DataW H × List MemPlace}
    (h : DataW.trod enc Tryz.prog W b2 sp hd fuel 22 cs = some x) : ∃ a n cap, cs = [.slice a n cap] ∧ (a = none → cap = 0) ∧ ∃ l : List Nat, l.length = n ∧ Sz W a n cap 1 (encN l) ∧ ∀ x ∈ l, natB x := by
  obtain ⟨a, n, cap, rfl, xs, hS, hn, m, _, hm⟩ := trod_rows (by decide) Tryz.underlying22 cFloat h
  obtain ⟨l, h1, h2⟩ := choose_list (p := fun (i : Nat) (q : Nat) => (xs.drop (i * 1)).take 1 = [.float .f64 q] ∧ natB q) (List.range n) (fun i hi => by
    obtain ⟨y, hy⟩ := hm i (by simpa using hi)
    obtain ⟨b, e, hw⟩ := trod_float Tryz.underlying45 hy
    simp only [Lit.wf, decide_eq_true_eq] at hw
    exact ⟨b, e, hw⟩)
  simp at h1
  have hx : xs = l.flatMap (fun p => [.float .f64 p]) := by
    refine chunks_eq (fun p => [.float .f64 p]) 1 n xs l h1 hS.len (fun i hi => ?_)
    have := (h2 i (by simp; omega) (by omega)).1
    simpa using this
  refine ⟨a, n, cap, rfl, hn, l, h1, ?_, fun q hq => ?_⟩
  · rw [hx] at hS
    have : l.flatMap (fun p => [Value.float .f64 p]) = encN l := by
      unfold encN; clear h1 h2 hS hx
      induction l with
      | nil => rfl
      | cons a l ih => simp [List.flatMap_cons, ih]
    rw [this] at hS
    exact hS
  · obtain ⟨j, hj, rfl⟩ := List.getElem_of_mem hq
    exact (h2 j (by simp; omega) hj).2
set_option maxRecDepth 100000 in
theorem open_geomB {H : Type} {enc : TypeId × Value → H} {W : World} {b2 : Nat} {sp : Nat → Bool} {hd : Bool} : ∀ (fuel : Nat) {cs : List Value} {x : DataW H × List MemPlace},
    DataW.trod enc Tryz.prog W b2 sp hd fuel 25 cs = some x → Light Tryz.prog 25 x.1 → ∃ t : GT, cs = t.cells ∧ t.At W ∧ t.Reach ∧ t.Bits := by
  intro fuel
  induction fuel using Nat.strongRecOn with
  | _ fuel ih =>
  intro cs x h hL
  obtain ⟨hl, m, hm, hf⟩ := trod_structS Tryz.underlying25 cGeom h hL
  obtain ⟨c0, c1, c2, c3, rfl⟩ := list4 hl
  obtain ⟨y0, g0, _⟩ := hf 0 _ rfl
  obtain ⟨y1, g1, _⟩ := hf 1 _ rfl
  obtain ⟨y2, g2, L2⟩ := hf 2 _ rfl
  obtain ⟨y3, g3, L3⟩ := hf 3 _ rfl
  simp [cInt] at g0 g1
  simp [cFloats] at g2
  simp [cGeoms] at g3
  obtain ⟨kind, e0, _⟩ := trod_int' Tryz.underlying3 g0
  obtain ⟨dim, e1, _⟩ := trod_int' Tryz.underlying3 g1
  obtain ⟨na, nn, nc, e2, _, nums, hn, hN, hBt⟩ := open_floatsB g2
  obtain ⟨na', nn', nc', e2', _, _, _, _, _, es2, hl2, hx2, _⟩ := trod_rowsS (by decide) Tryz.underlying22 cFloat g2
  rw [e2] at e2'
  cases e2'
  have hb2 := (light_rows Tryz.underlying22 hl2 hx2 L2).1
  rw [bFloat] at hb2
  obtain ⟨ka, kn, kc, e3, xs, hS, _, m', hm', es, hle, hxe, hk⟩ := trod_rowsS (by decide) Tryz.underlying23 cGeom g3
  obtain ⟨hb3, hL3⟩ := light_rows Tryz.underlying23 hle hxe L3
  rw [bGeom] at hb3
  obtain ⟨q, hq1, hq2⟩ := choose_list (p := fun (i : Nat) (t : GT) => (xs.drop (i * 4)).take 4 = t.cells ∧ t.At W ∧ t.Reach ∧ t.Bits) (List.range kn) (fun i hi => by
    obtain ⟨y, hy0, hy⟩ := hk i (by simpa using hi)
    exact ih m' (by omega) hy (hL3 i y hy0))
  simp at hq1
  have hx : xs = q.flatMap GT.cells := by
    refine chunks_eq GT.cells 4 kn xs q hq1 hS.len (fun i hi => ?_)
    have := (hq2 i (by simp; omega) (by omega)).1
    simpa using this
  injection e0 with e0; injection e1 with e1; injection e2 with e2; injection e3 with e3
  subst e0 e1 e2 e3
  have hr : reachBytes = 140737488351232 := rfl
  rw [hr] at hb2 hb3
  refine ⟨.node ⟨kind, dim, na, nn, nc, ka, kn, kc⟩ nums q, rfl, .mk _ _ _ hn hq1 hN (by rw [← hx]; exact hS) (fun t ht => ?_), .mk _ _ _ (by omega) (by omega) (fun t ht => ?_), .mk _ _ _ hBt (fun t ht => ?_)⟩
  · obtain ⟨j, hj, rfl⟩ := List.getElem_of_mem ht
    exact (hq2 j (by simpa [hq1] using hj) hj).2.1
  · obtain ⟨j, hj, rfl⟩ := List.getElem_of_mem ht
    exact (hq2 j (by simpa [hq1] using hj) hj).2.2.1
  · obtain ⟨j, hj, rfl⟩ := List.getElem_of_mem ht
    exact (hq2 j (by simpa [hq1] using hj) hj).2.2.2
set_option maxRecDepth 100000 in
theorem open_geomsB {H : Type} {enc : TypeId × Value → H} {W : World} {base b2 : Nat} {sp : Nat → Bool} {hd : Bool} {r : Reach} {v : Value} {d : DataW H} {p : List MemPlace}
    (o : Value.okWide Tryz.prog W r base 23 v) (h : DataW.Trod enc Tryz.prog W b2 sp hd 23 v d p) (hL : Light Tryz.prog 23 d) :
    ∃ a n cap, v = .slice a n cap ∧ ∃ ts : List GT, ts.length = n ∧ Sz W a n cap 4 (ts.flatMap GT.cells) ∧ (∀ t ∈ ts, t.At W) ∧ (∀ t ∈ ts, t.Reach) ∧ ∀ t ∈ ts, t.Bits := by
  obtain ⟨a, n, cap, rfl⟩ := okWide_slice Tryz.underlying23 o
  obtain ⟨fuel, hf⟩ := h
  obtain ⟨a', n', cap', h1, xs, hS, _, m, _, es, hle, hxe, hk⟩ := trod_rowsS (by decide) Tryz.underlying23 cGeom hf
  simp [Value.cells] at h1
  obtain ⟨rfl, rfl, rfl⟩ := h1
  obtain ⟨_, hL3⟩ := light_rows Tryz.underlying23 hle hxe hL
  obtain ⟨q, hq1, hq2⟩ := choose_list (p := fun (i : Nat) (t : GT) => (xs.drop (i * 4)).take 4 = t.cells ∧ t.At W ∧ t.Reach ∧ t.Bits) (List.range n) (fun i hi => by
    obtain ⟨y, hy0, hy⟩ := hk i (by simpa using hi)
    exact open_geomB m hy (hL3 i y hy0))
  simp at hq1
  have hx : xs = q.flatMap GT.cells := by
    refine chunks_eq GT.cells 4 n xs q hq1 hS.len (fun i hi => ?_)
    have := (hq2 i (by simp; omega) (by omega)).1
    simpa using this
  refine ⟨a, n, cap, rfl, q, hq1, by rw [← hx]; exact hS, fun t ht => ?_, fun t ht => ?_, fun t ht => ?_⟩
  · obtain ⟨j, hj, rfl⟩ := List.getElem_of_mem ht
    exact (hq2 j (by simpa [hq1] using hj) hj).2.1
  · obtain ⟨j, hj, rfl⟩ := List.getElem_of_mem ht
    exact (hq2 j (by simpa [hq1] using hj) hj).2.2.1
  · obtain ⟨j, hj, rfl⟩ := List.getElem_of_mem ht
    exact (hq2 j (by simpa [hq1] using hj) hj).2.2.2
namespace fnWriteMany
set_option maxRecDepth 100000 in
theorem walkT {H : Type} (enc : TypeId × Value → H) (W : World) (base : Nat) {v0 v1 : Value} {d0 d1 : DataW H} {p0 p1 : List MemPlace}
    (o0 : Value.okWide Tryz.prog W .any base 54 v0) (o1 : Value.okWide Tryz.prog W .any base 23 v1)
    (h0 : DataW.Trod enc Tryz.prog W 0 (fun _ => true) true 54 v0 d0 p0) (l0 : Light Tryz.prog 54 d0) (h1 : DataW.Trod enc Tryz.prog W 0 (fun _ => true) true 23 v1 d1 p1) (l1 : Light Tryz.prog 23 d1) :
    Calls Tryz.prog 6 #[v0, v1] W (LawPost W) := by
  obtain ⟨ba, bn, bc, rfl, l, hl, hs⟩ := open_bytesV o0 h0
  obtain ⟨a, n, cap, rfl, ts, hn, hS, hA, hR, hB⟩ := open_geomsB o1 h1 l1
  exact writeLaw_ ba bn bc l a n cap ts W hl hs hn hS hA hR hB
end fnWriteMany
end Go.Proofs.YtbakhldjfplbfaaGreat
