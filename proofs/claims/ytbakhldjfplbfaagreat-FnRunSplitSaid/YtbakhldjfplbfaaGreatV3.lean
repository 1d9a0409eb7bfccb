/-
  The places of a shape's hull as the law tells them. No condition.
-/
import Derived.Test.YtbakhldjfplbfaaGreatV2
set_option linter.unusedVariables false
set_option linter.unusedSimpArgs false
namespace Go.Proofs.YtbakhldjfplbfaaGreat
open Go.RowKit Go.Fl Go.Sl Go.Pg Go.Ch Go.Kf
mutual
def ST.hp : ST → List (Int × Int)
  | .node h pts kids => if h.kind = 3 then (match kids with | [] => [] | k :: _ => k.pts) else pts ++ ST.hps kids
def ST.hps : List ST → List (Int × Int)
  | [] => []
  | t :: r => t.hp ++ ST.hps r
end
theorem hps_snoc (l : List ST) (t : ST) : ST.hps (l ++ [t]) = ST.hps l ++ t.hp := by
  induction l with
  | nil => simp [ST.hps]
  | cons a l ih => simp only [List.cons_append, ST.hps, ih, List.append_assoc]
theorem hp_len (t : ST) : t.hp.length ≤ t.total := by
  induction t using ST.ind with
  | h hd pts kids ih =>
    have hA : ∀ l : List ST, (∀ c ∈ l, c.hp.length ≤ c.total) → (ST.hps l).length ≤ ST.totals l := by
      intro l
      induction l with
      | nil => intro _; simp [ST.hps, ST.totals]
      | cons a l ih2 =>
        intro h
        have h1 := h a (List.mem_cons_self ..)
        have h2 := ih2 fun c hc => h c (List.mem_cons_of_mem _ hc)
        simp only [ST.hps, ST.totals, List.length_append]
        omega
    simp only [ST.hp, ST.total]
    split
    · cases kids with
      | nil => simp
      | cons k r =>
        obtain ⟨a, b, c⟩ := k
        simp only [ST.pts, ST.totals, ST.total]
        omega
    · have := hA kids ih
      simp only [List.length_append]
      omega
theorem hps_len (l : List ST) : (ST.hps l).length ≤ ST.totals l := by
  induction l with
  | nil => simp [ST.hps, ST.totals]
  | cons a l ih => have := hp_len a; simp only [ST.hps, ST.totals, List.length_append]; omega
theorem infoSpt : (Tryz.prog.info? 44).map (fun i => (i.zero, i.size, i.bytes)) = some (some (.agg #[.int .i64 0, .int .i64 0]), 2, 16) := by kernel_rfl
theorem ptCells_one (l : List (Int × Int)) : ∀ u ∈ l.flatMap ptCells, u.oneCell' = true := by
  intro u hu
  simp only [List.mem_flatMap, ptCells, List.mem_cons, List.not_mem_nil, or_false] at hu
  obtain ⟨x, _, rfl | rfl⟩ := hu <;> rfl
/-- a slice of places -/
def PtsPost (w : World) (l : List (Int × Int)) (e : Ending) (w' : World) : Prop := ∃ a cap, e = .returned (.slice a l.length cap) ∧ Stab.Keeps w w' ∧ Sz w' a l.length cap 2 (l.flatMap ptCells)
set_option maxRecDepth 100000 in
set_option maxHeartbeats 2000000 in
theorem hullPlaces_ (w0 : World) (t : ST) (h : ST.At w0 t) : ∀ (w : World), t.total ≤ 1048576 → Stab.Keeps w0 w → Calls Tryz.prog 18 #[t.hd.val] w (PtsPost w t.hp) := by
  obtain ⟨i0, hi, hz0, hz1, hz2⟩ := info_parts infoSpt
  have HI := Lib.hid hi
  have HZ0 := Lib.hid hz0
  have HZ1 := Lib.hid hz1
  have HZ2 := Lib.hid hz2
  clear hi hz0 hz1 hz2
  induction h with
  | mk hd pts kids hn hkn h1 h2 h3 ih =>
  intro w hb hK0
  have s1 := h1.keep hK0
  have s2 := h2.keep hK0
  have hA2 : ∀ k ∈ kids, ST.At w0 k := h3
  clear h1 h2 h3
  obtain ⟨kind, pa, pn, pc, ka, kn, kc⟩ := hd
  simp only at hn hkn s1 s2
  have hle1 := s1.le
  have hm1 := s1.max
  have hle2 := s2.le
  have hm2 := s2.max
  unfold maxLen at hm2 hm1
  simp only [ST.total] at hb
  have hnb : pn ≤ 1048576 := by omega
  simp only [ST.hd, Sm.val, ST.hp]
  have HB := Lib.hid hb
  have HN := Lib.hid hn
  clear hb hn
  by_cases hk3 : kind = 3
  · subst hk3
    clear ih
    rw [if_pos rfl]
    by_cases hkn0 : kn = 0
    · subst hkn0
      obtain rfl : kids = [] := List.eq_nil_of_length_eq_zero hkn
      go_enter Tryz.func18, Tryz.ntmps18
      go_wp2_with fail
      go_ret
      exact ⟨none, 0, rfl, by with_reducible (repeat (first | exact Kx.r _ | assumption | refine Kx.a ?_ _ | refine Kx.d ?_ | refine Kx.e ?_ _ | (refine Kx.s ?_ ?_ _; focus (first | (simp; done) | (simp; omega))) | refine Kx.t ?_ (by assumption))), Sz.nil _ _⟩
    · cases kids with
      | nil => simp at hkn; omega
      | cons q r =>
        have hkw : Stab.Keeps w (w.alloc (.cells #[.int .i64 3, .slice pa pn pc, .slice ka kn kc] 34)) := by with_reducible (repeat (first | exact Kx.r _ | assumption | refine Kx.a ?_ _ | refine Kx.d ?_ | refine Kx.e ?_ _ | (refine Kx.s ?_ ?_ _; focus (first | (simp; done) | (simp; omega))) | refine Kx.t ?_ (by assumption)))
        have s3 := (hA2 q (List.mem_cons_self ..)).keep (Stab.Keeps.trans hK0 hkw)
        obtain ⟨b, off, ha, hb, hc⟩ := (s2.keep hkw).elem (i := 0) (by omega)
        subst ha
        obtain ⟨c0, c1, c2⟩ := skid_cells (kids := q :: r) (k := 0) (kn := kn) (by simp) hc
        clear hc hA2
        cases s3 with
        | mk qh qpts qkids qn qkn q1 q2 q3 =>
        obtain ⟨xk, xpa, xpn, xpc, xka, xkn, xkc⟩ := qh
        simp only [List.getElem_cons_zero, ST.hd] at c0 c1 c2 q1 qn
        simp only [ST.pts]
        subst qn
        have Q1 := Lib.hid q1
        clear q1 q2 q3 qkn
        have hk0 : ¬ ((kn : Int) = 0) := by omega
        have hkb : ((kn : Int) == 0) = false := by simp; omega
        go_enter Tryz.func18, Tryz.ntmps18
        go_wp2_with fail
        go_ret
        exact ⟨xpa, xpc, rfl, hkw, Q1.out⟩
  rw [if_neg hk3]
  clear hA2
  have hkb : (kind == 3) = false := by simpa using hk3
  go_enter Tryz.func18, Tryz.ntmps18
  have hkA : Stab.Keeps w ((w.alloc (.cells #[.int .i64 kind, .slice pa pn pc, .slice ka kn kc] 34)).alloc (.cells #[] 44)) := by with_reducible (repeat (first | exact Kx.r _ | assumption | refine Kx.a ?_ _ | refine Kx.d ?_ | refine Kx.e ?_ _ | (refine Kx.s ?_ ?_ _; focus (first | (simp; done) | (simp; omega))) | refine Kx.t ?_ (by assumption)))
  have hBA : Blk ((w.alloc (.cells #[.int .i64 kind, .slice pa pn pc, .slice ka kn kc] 34)).alloc (.cells #[] 44)) w.heap.size 34 [.int .i64 kind, .slice pa pn pc, .slice ka kn kc] := by with_reducible (repeat (first | assumption | ((refine Bx.n ⟨?_, ?_⟩) <;> focus (first | rfl | (simp; done) | omega)) | refine Bx.a ?_ _ | refine Bx.d ?_ | refine Bx.e ?_ _ | (refine Bx.p ?_ ?_; focus (first | (simp; done) | (simp; omega) | omega))))
  have hOA : ((w.alloc (.cells #[.int .i64 kind, .slice pa pn pc, .slice ka kn kc] 34)).alloc (.cells #[] 44)).ownsRow w.heap.size 44 2 (.slice (some ⟨(w.alloc (.cells #[.int .i64 kind, .slice pa pn pc, .slice ka kn kc] 34)).heap.size, 0, none⟩) 0 0) 0 [] := World.ownsRow_lit _ #[] 0 (by simp) (by unfold maxLen; omega) rfl
  have hsA : (w.alloc (.cells #[.int .i64 kind, .slice pa pn pc, .slice ka kn kc] 34)).heap.size = w.heap.size + 1 := by simp
  rw [hsA] at hOA
  have s1A := s1.keep hkA
  go_wp2_with (at_builtin; (refine append_sz (w0 := w) rfl _ _ 31 rfl w.heap.size 44 i0 _ 2 16 Tryz.underlying31 HI.out HZ0.out HZ1.out HZ2.out rfl (by decide) _ 0 [] rfl hOA _ pn _ (pts.flatMap ptCells) rfl s1A (ptCells_one _) ?a2 ?a3 ?a4 hkA ?_))
  case a2 => unfold maxLen; omega
  case a3 => omega
  case a4 => simp; omega
  intro al cap w2 hown hbel hsz hgr
  try simp only [Nat.zero_add, List.nil_append] at hown
  have hB2 := Go.Kf.Blk.grown hBA hgr (fun e => by simp only [Value.ownBlock, Option.some.injEq] at e; omega)
  have hk2 : Stab.Keeps w w2 := hbel
  have s22 := s2.keep hk2
  clear hBA hOA s1A hkA hgr hbel s1 hsA
  have t0 := hB2.cell (i := 0) rfl
  have t1 := hB2.cell (i := 1) rfl
  have t2 := hB2.cell (i := 2) rfl
  have tf := hB2.free
  have tl := hB2.lt
  go_wp2_with fail
  clear t0 t1 t2 tf tl hB2
  go_loopw [3, 25] (fun v iv wr => ∃ (k : Nat) (al : Option Addr) (c : Nat), k ≤ kn ∧ iv = .int .i64 k ∧ Stab.Keeps w wr ∧ v = .slice al (pts ++ ST.hps (kids.take k)).length c ∧ wr.ownsRow w.heap.size 44 2 v (pts ++ ST.hps (kids.take k)).length ((pts ++ ST.hps (kids.take k)).flatMap ptCells)) (fun _ i _ => kn - (intOf i).toNat)
  case atStart => exact ⟨0, al, cap, Nat.zero_le _, rfl, hk2, by simp [ST.hps, HN.out], by simpa [ST.hps, HN.out] using hown⟩
  case round =>
    clear hown hk2 s22 hsz
    obtain ⟨k, al, c, hk, rfl, hK, rfl, hown⟩ := hrel
    by_cases hlt : k < kn
    · obtain ⟨b, off, ha, hb, hc⟩ := (s2.keep hK).elem hlt
      subst ha
      have hki : k < kids.length := by omega
      obtain ⟨c0, c1, c2⟩ := skid_cells (kn := kn) hki hc
      have hs : ST.hps (kids.take (k + 1)) = ST.hps (kids.take k) ++ kids[k].hp := by rw [List.take_succ_eq_append_getElem hki, hps_snoc]
      have hlen := stotals_take kids k hki
      have hlen2 := hps_len (kids.take k)
      have hlen3 := hp_len kids[k]
      have hb2 := HB.out
      have hI := fun w' => ih kids[k] (List.getElem_mem _) w' (by omega)
      have hbd : (pts ++ ST.hps (kids.take k)).length + kids[k].hp.length ≤ 1048576 := by rw [List.length_append]; have := HN.out; omega
      have HS := Lib.hid hs
      clear hc hs hlen hlen2 hlen3 hb2
      generalize kids[k] = x at *
      obtain ⟨⟨xk, xpa, xpn, xpc, xka, xkn, xkc⟩, xpts, xkids⟩ := x
      simp only [ST.hd, Sm.val] at c0 c1 c2 hI
      generalize hxe : (ST.node ⟨xk, xpa, xpn, xpc, xka, xkn, xkc⟩ xpts xkids).hp = X at *
      clear hxe
      generalize hYS : (pts ++ ST.hps (kids.take k)) = ys at *
      have HYS := Lib.hid hYS
      clear hYS
      go_wp2_with fail
      refine (hI _ ?_).mono ?_
      · with_reducible (repeat (first | exact Kx.r _ | assumption | refine Kx.a ?_ _ | refine Kx.d ?_ | refine Kx.e ?_ _ | (refine Kx.s ?_ ?_ _; focus (first | (simp; done) | (simp; omega))) | refine Kx.t ?_ (by assumption)))
      rintro e w3 ⟨a3, cap3, rfl, hk3, hz3⟩
      clear hI
      have hkr3 : Stab.Keeps wr w3 := by with_reducible (repeat (first | exact Kx.r _ | assumption | refine Kx.a ?_ _ | refine Kx.d ?_ | refine Kx.e ?_ _ | (refine Kx.s ?_ ?_ _; focus (first | (simp; done) | (simp; omega))) | refine Kx.t ?_ (by assumption)))
      have hkw3 := Stab.Keeps.trans hK hkr3
      have hown3 := owns_keep hown hkr3
      have HBD := Lib.hid hbd
      clear hown hk3 hbd c0 c1 c2
      go_wp2_with (at_builtin; (refine append_sz (w0 := w) rfl _ _ 31 rfl w.heap.size 44 i0 _ 2 16 Tryz.underlying31 HI.out HZ0.out HZ1.out HZ2.out rfl (by decide) _ ys.length (ys.flatMap ptCells) rfl hown3 _ X.length _ (X.flatMap ptCells) rfl hz3 (ptCells_one _) ?b2 ?b3 ?b4 hkw3 ?_))
      case b2 => have := HBD.out; unfold maxLen; omega
      case b3 => have := HBD.out; omega
      case b4 => exact hkw3.size
      intro al' cap' w4 hown4 hk4 _ _
      have hsum : (ys ++ X).length = ys.length + X.length := List.length_append
      go_wp2_with fail
      have hys : pts ++ ST.hps (kids.take (k + 1)) = ys ++ X := by rw [HS.out, ← List.append_assoc, HYS.out]
      refine ⟨⟨k + 1, al', cap', by omega, by simp, hk4, by rw [hys, hsum], by rw [hys, hsum, List.flatMap_append]; exact hown4⟩, by simp [intOf]; omega⟩
    · have hkn2 : kn = k := by omega
      subst hkn2
      go_wp2
      go_ret
      rw [List.take_of_length_le (by omega)] at hown ⊢
      exact ⟨al, c, rfl, hK, (SzF.of_owns hown (fun b hb => hb)).sz⟩
end Go.Proofs.YtbakhldjfplbfaaGreat
