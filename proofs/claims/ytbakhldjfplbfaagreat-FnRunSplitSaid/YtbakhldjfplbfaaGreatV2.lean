/-
  Shapes that are formed. No condition.
-/
import Derived.Test.YtbakhldjfplbfaaGreatV1
set_option linter.unusedVariables false
set_option linter.unusedSimpArgs false
namespace Go.Proofs.YtbakhldjfplbfaaGreat
open Go.RowKit Go.Fl Go.Sl Go.Pg Go.Ch Go.Kf
def PtOk (p : Int × Int) : Prop := -1048576 ≤ p.1 ∧ p.1 ≤ 1048576 ∧ -1048576 ≤ p.2 ∧ p.2 ≤ 1048576
def goodKid (k c : Int) : Prop := k = 0 ∨ k = 3 ∧ c = 2 ∨ 3 < k ∧ c = k - 3
inductive ST.Formed : ST → Prop where
  | leaf (hd : Sm) (pts : List (Int × Int)) (hk : hd.kind = 1 ∧ pts.length ≤ 1 ∨ hd.kind = 2) (hp : ∀ p ∈ pts, PtOk p) : ST.Formed (.node hd pts [])
  | many (hd : Sm) (kids : List ST) (hk : hd.kind = 0 ∨ 3 ≤ hd.kind ∧ hd.kind ≤ 6) (hg : ∀ k ∈ kids, goodKid hd.kind k.hd.kind) (hf : ∀ k ∈ kids, ST.Formed k) : ST.Formed (.node hd [] kids)
set_option maxRecDepth 100000 in
set_option maxHeartbeats 2000000 in
theorem formedBelow_ (w0 : World) (t : ST) (h : ST.At w0 t) : ∀ (m : Int) (w : World), -1 ≤ m → m ≤ 100 → Stab.Keeps w0 w → Calls Tryz.prog 47 #[t.hd.val, .int .i64 1048576, .int .i64 m] w (Tells w t.Formed) := by
  induction h with
  | mk hd pts kids hn hkn h1 h2 h3 ih =>
  intro m w hm0 hm1 hK0
  have s1 := h1.keep hK0
  have s2 := h2.keep hK0
  clear h1 h2 h3
  obtain ⟨kind, pa, pn, pc, ka, kn, kc⟩ := hd
  simp only at hn hkn s1 s2
  have hle1 := s1.le
  have hmx1 := s1.max
  have hle2 := s2.le
  have hm2 := s2.max
  unfold maxLen at hm2 hmx1
  simp only [ST.hd, Sm.val]
  by_cases hneg : m < 0
  · have hd : decide (m < 0) = true := by simpa using hneg
    go_enter Tryz.func47, Tryz.ntmps47
    go_wp2
    go_ret
    refine ⟨⟨false, rfl, fun h => by simp at h⟩, ?_⟩
    with_reducible (repeat (first | exact Kx.r _ | assumption | refine Kx.a ?_ _ | refine Kx.d ?_ | refine Kx.e ?_ _ | (refine Kx.s ?_ ?_ _; focus (first | (simp; done) | (simp; omega))) | refine Kx.t ?_ (by assumption)))
  · have hd : decide (m < 0) = false := by simpa using hneg
    have hw : wrap64 (m - 1) = m - 1 := IntWalk.wrap64_in _ (by omega)
    go_enter Tryz.func47, Tryz.ntmps47
    go_wp2
    have hkp : Stab.Keeps w (w.alloc (.cells #[.int .i64 kind, .slice pa pn pc, .slice ka kn kc] 34)) := by with_reducible (repeat (first | exact Kx.r _ | assumption | refine Kx.a ?_ _ | refine Kx.d ?_ | refine Kx.e ?_ _ | (refine Kx.s ?_ ?_ _; focus (first | (simp; done) | (simp; omega))) | refine Kx.t ?_ (by assumption)))
    have hB : Blk (w.alloc (.cells #[.int .i64 kind, .slice pa pn pc, .slice ka kn kc] 34)) w.heap.size 34 [.int .i64 kind, .slice pa pn pc, .slice ka kn kc] := by with_reducible (repeat (first | assumption | ((refine Bx.n ⟨?_, ?_⟩) <;> focus (first | rfl | (simp; done) | omega)) | refine Bx.a ?_ _ | refine Bx.d ?_ | refine Bx.e ?_ _ | (refine Bx.p ?_ ?_; focus (first | (simp; done) | (simp; omega) | omega))))
    generalize (w.alloc (.cells #[.int .i64 kind, .slice pa pn pc, .slice ka kn kc] 34)) = w1 at *
    go_loopw [17] (fun iv wr => ∃ k : Nat, k ≤ pn ∧ iv = .int .i64 k ∧ Stab.Keeps w wr ∧ Blk wr w.heap.size 34 [.int .i64 kind, .slice pa pn pc, .slice ka kn kc] ∧ ∀ p ∈ pts.take k, PtOk p) (fun i _ => pn - (intOf i).toNat)
    case atStart => exact ⟨0, Nat.zero_le _, rfl, hkp, hB, by simp⟩
    case round =>
      clear hkp hB
      obtain ⟨k, hk, rfl, hK, hB, hP⟩ := hrel
      have HP := Lib.hid hP
      clear hP
      by_cases hlt : k < pn
      · obtain ⟨b, off, ha, hb, hc⟩ := (s1.keep hK).elem hlt
        subst ha
        have hki : k < pts.length := by omega
        obtain ⟨c0, c1⟩ := pt_cells hki hc
        clear hc
        have hT : pts.take (k + 1) = pts.take k ++ [pts[k]] := by rw [List.take_succ_eq_append_getElem hki]
        have HT := Lib.hid hT
        clear hT
        generalize pts[k] = x at *
        obtain ⟨px, py⟩ := x
        simp only at c0 c1
        have g0 := hB.cell (i := 0) rfl
        have g1 := hB.cell (i := 1) rfl
        have g2 := hB.cell (i := 2) rfl
        have gf := hB.free
        have gl := hB.lt
        by_cases hin : PtOk (px, py)
        · have HI := Lib.hid hin
          have hk9 : Stab.Keeps w (wr.alloc (.cells #[.int .i64 px, .int .i64 py] 44)) := by with_reducible (repeat (first | exact Kx.r _ | assumption | refine Kx.a ?_ _ | refine Kx.d ?_ | refine Kx.e ?_ _ | (refine Kx.s ?_ ?_ _; focus (first | (simp; done) | (simp; omega))) | refine Kx.t ?_ (by assumption)))
          have hB9 : Blk (wr.alloc (.cells #[.int .i64 px, .int .i64 py] 44)) w.heap.size 34 [.int .i64 kind, .slice (some ⟨b, off, none⟩) pn pc, .slice ka kn kc] := by with_reducible (repeat (first | assumption | ((refine Bx.n ⟨?_, ?_⟩) <;> focus (first | rfl | (simp; done) | omega)) | refine Bx.a ?_ _ | refine Bx.d ?_ | refine Bx.e ?_ _ | (refine Bx.p ?_ ?_; focus (first | (simp; done) | (simp; omega) | omega))))
          have HX : Hid ((∃ k_1 : Nat, k_1 ≤ pn ∧ Value.int .i64 (↑k + 1) = Value.int .i64 ↑k_1 ∧ Stab.Keeps w (wr.alloc (.cells #[.int .i64 px, .int .i64 py] 44)) ∧ Blk (wr.alloc (.cells #[.int .i64 px, .int .i64 py] 44)) w.heap.size 34 [.int .i64 kind, .slice (some ⟨b, off, none⟩) pn pc, .slice ka kn kc] ∧ ∀ p ∈ pts.take k_1, PtOk p) ∧ pn - (intOf (.int .i64 (↑k + 1))).toNat < pn - (intOf (.int .i64 ↑k)).toNat) := by
            refine Lib.hid ⟨⟨k + 1, by omega, by go_num, hk9, hB9, fun p hp => ?_⟩, by simp [intOf]; omega⟩
            rw [HT.out] at hp
            rcases List.mem_append.1 hp with h | h
            · exact HP.out p h
            · obtain rfl : p = (px, py) := by simpa using h
              exact HI.out
          clear hk9 hB9 HP HT HI
          obtain ⟨h1, h2, h3, h4⟩ := hin
          simp only at h1 h2 h3 h4
          rcases Int.lt_trichotomy px py with hxy | hxy | hxy
          · have hyx : ¬ py < px := by omega
            go_wp2_with fail
            exact HX.out
          · subst hxy
            go_wp2_with fail
            exact HX.out
          · have hyx : ¬ px < py := by omega
            go_wp2_with fail
            exact HX.out
        · have hno : px < -1048576 ∨ 1048576 < px ∨ py < -1048576 ∨ 1048576 < py := by unfold PtOk at hin; simp only at hin; omega
          clear hin HP HT
          rcases Int.lt_trichotomy px py with hxy | hxy | hxy
          · have hyx : ¬ py < px := by omega
            by_cases hlo : px < -1048576
            · go_wp2_with fail
              go_ret
              refine ⟨⟨false, rfl, fun h => by simp at h⟩, ?_⟩
              with_reducible (repeat (first | exact Kx.r _ | assumption | refine Kx.a ?_ _ | refine Kx.d ?_ | refine Kx.e ?_ _ | (refine Kx.s ?_ ?_ _; focus (first | (simp; done) | (simp; omega))) | refine Kx.t ?_ (by assumption)))
            · have hhi : 1048576 < py := by omega
              go_wp2_with fail
              go_ret
              refine ⟨⟨false, rfl, fun h => by simp at h⟩, ?_⟩
              with_reducible (repeat (first | exact Kx.r _ | assumption | refine Kx.a ?_ _ | refine Kx.d ?_ | refine Kx.e ?_ _ | (refine Kx.s ?_ ?_ _; focus (first | (simp; done) | (simp; omega))) | refine Kx.t ?_ (by assumption)))
          · subst hxy
            by_cases hlo : px < -1048576
            · go_wp2_with fail
              go_ret
              refine ⟨⟨false, rfl, fun h => by simp at h⟩, ?_⟩
              with_reducible (repeat (first | exact Kx.r _ | assumption | refine Kx.a ?_ _ | refine Kx.d ?_ | refine Kx.e ?_ _ | (refine Kx.s ?_ ?_ _; focus (first | (simp; done) | (simp; omega))) | refine Kx.t ?_ (by assumption)))
            · have hhi : 1048576 < px := by omega
              go_wp2_with fail
              go_ret
              refine ⟨⟨false, rfl, fun h => by simp at h⟩, ?_⟩
              with_reducible (repeat (first | exact Kx.r _ | assumption | refine Kx.a ?_ _ | refine Kx.d ?_ | refine Kx.e ?_ _ | (refine Kx.s ?_ ?_ _; focus (first | (simp; done) | (simp; omega))) | refine Kx.t ?_ (by assumption)))
          · have hyx : ¬ px < py := by omega
            by_cases hlo : py < -1048576
            · go_wp2_with fail
              go_ret
              refine ⟨⟨false, rfl, fun h => by simp at h⟩, ?_⟩
              with_reducible (repeat (first | exact Kx.r _ | assumption | refine Kx.a ?_ _ | refine Kx.d ?_ | refine Kx.e ?_ _ | (refine Kx.s ?_ ?_ _; focus (first | (simp; done) | (simp; omega))) | refine Kx.t ?_ (by assumption)))
            · have hhi : 1048576 < px := by omega
              go_wp2_with fail
              go_ret
              refine ⟨⟨false, rfl, fun h => by simp at h⟩, ?_⟩
              with_reducible (repeat (first | exact Kx.r _ | assumption | refine Kx.a ?_ _ | refine Kx.d ?_ | refine Kx.e ?_ _ | (refine Kx.s ?_ ?_ _; focus (first | (simp; done) | (simp; omega))) | refine Kx.t ?_ (by assumption)))
      · have hkn2 : pn = k := by omega
        subst hkn2
        rw [List.take_of_length_le (by omega)] at HP
        rcases (show kind = 1 ∨ kind = 2 ∨ kind = 0 ∨ kind = 3 ∨ kind = 4 ∨ kind = 5 ∨ kind = 6 ∨ kind < 0 ∨ 6 < kind by omega) with hkind | hkind | hkind | hkind | hkind | hkind | hkind | hkind | hkind
        · subst hkind
          by_cases hk0 : kn = 0
          · subst hk0
            obtain rfl : kids = [] := List.eq_nil_of_length_eq_zero hkn
            have g0 := hB.cell (i := 0) rfl
            have g1 := hB.cell (i := 1) rfl
            have g2 := hB.cell (i := 2) rfl
            have gf := hB.free
            have gl := hB.lt
            by_cases hp9 : (pn : Int) ≤ 1
            · have hp1 : decide ((pn : Int) ≤ 1) = true := by simpa using hp9
              go_wp2_with fail
              go_ret
              refine ⟨⟨true, rfl, fun _ => .leaf _ _ (.inl ⟨rfl, by omega⟩) (fun p hp => HP.out p (by simpa using hp))⟩, ?_⟩
              with_reducible (repeat (first | exact Kx.r _ | assumption | refine Kx.a ?_ _ | refine Kx.d ?_ | refine Kx.e ?_ _ | (refine Kx.s ?_ ?_ _; focus (first | (simp; done) | (simp; omega))) | refine Kx.t ?_ (by assumption)))
            · have hp1 : decide ((pn : Int) ≤ 1) = false := by simpa using hp9
              go_wp2_with fail
              go_ret
              refine ⟨⟨false, rfl, fun h => by simp at h⟩, ?_⟩
              with_reducible (repeat (first | exact Kx.r _ | assumption | refine Kx.a ?_ _ | refine Kx.d ?_ | refine Kx.e ?_ _ | (refine Kx.s ?_ ?_ _; focus (first | (simp; done) | (simp; omega))) | refine Kx.t ?_ (by assumption)))
          · have hk1 : ¬ ((kn : Int) = 0) := by omega
            have g0 := hB.cell (i := 0) rfl
            have g1 := hB.cell (i := 1) rfl
            have g2 := hB.cell (i := 2) rfl
            have gf := hB.free
            have gl := hB.lt
            go_wp2_with fail
            go_ret
            refine ⟨⟨false, rfl, fun h => by simp at h⟩, ?_⟩
            with_reducible (repeat (first | exact Kx.r _ | assumption | refine Kx.a ?_ _ | refine Kx.d ?_ | refine Kx.e ?_ _ | (refine Kx.s ?_ ?_ _; focus (first | (simp; done) | (simp; omega))) | refine Kx.t ?_ (by assumption)))
        · subst hkind
          by_cases hk0 : kn = 0
          · subst hk0
            obtain rfl : kids = [] := List.eq_nil_of_length_eq_zero hkn
            have g0 := hB.cell (i := 0) rfl
            have g1 := hB.cell (i := 1) rfl
            have g2 := hB.cell (i := 2) rfl
            have gf := hB.free
            have gl := hB.lt
            go_wp2_with fail
            go_ret
            refine ⟨⟨true, rfl, fun _ => .leaf _ _ (.inr rfl) (fun p hp => HP.out p (by simpa using hp))⟩, ?_⟩
            with_reducible (repeat (first | exact Kx.r _ | assumption | refine Kx.a ?_ _ | refine Kx.d ?_ | refine Kx.e ?_ _ | (refine Kx.s ?_ ?_ _; focus (first | (simp; done) | (simp; omega))) | refine Kx.t ?_ (by assumption)))
          · have hk1 : ¬ ((kn : Int) = 0) := by omega
            have g0 := hB.cell (i := 0) rfl
            have g1 := hB.cell (i := 1) rfl
            have g2 := hB.cell (i := 2) rfl
            have gf := hB.free
            have gl := hB.lt
            go_wp2_with fail
            go_ret
            refine ⟨⟨false, rfl, fun h => by simp at h⟩, ?_⟩
            with_reducible (repeat (first | exact Kx.r _ | assumption | refine Kx.a ?_ _ | refine Kx.d ?_ | refine Kx.e ?_ _ | (refine Kx.s ?_ ?_ _; focus (first | (simp; done) | (simp; omega))) | refine Kx.t ?_ (by assumption)))
        · subst hkind
          have HN := Lib.hid hn
          clear hn
          have g0 := hB.cell (i := 0) rfl
          have g1 := hB.cell (i := 1) rfl
          have g2 := hB.cell (i := 2) rfl
          have gf := hB.free
          have gl := hB.lt
          go_wp2_with fail
          clear g0 g1 g2 gf gl
          obtain ⟨wo, rfl⟩ : ∃ wo, wo = wr := ⟨_, rfl⟩
          go_loopw [65] (fun iv wr => ∃ k : Nat, k ≤ kn ∧ iv = .int .i64 k ∧ Stab.Keeps w wr ∧ Blk wr w.heap.size 34 [.int .i64 (0), .slice pa pn pc, .slice ka kn kc] ∧ ∀ x ∈ kids.take k, goodKid 0 x.hd.kind ∧ x.Formed) (fun i _ => kn - (intOf i).toNat)
          case atStart => exact ⟨0, Nat.zero_le _, rfl, hK, hB, by simp⟩
          case round =>
            clear hK hB
            obtain ⟨k, hk, rfl, hK, hB, hP⟩ := hrel
            have HQ := Lib.hid hP
            clear hP
            have g0 := hB.cell (i := 0) rfl
            have g1 := hB.cell (i := 1) rfl
            have g2 := hB.cell (i := 2) rfl
            have gf := hB.free
            have gl := hB.lt
            by_cases hlt : k < kn
            · obtain ⟨b, off, ha, hb, hc⟩ := (s2.keep hK).elem hlt
              subst ha
              have hki : k < kids.length := by omega
              obtain ⟨c0, c1, c2⟩ := skid_cells (kn := kn) hki hc
              have HT := Lib.hid (List.take_succ_eq_append_getElem hki)
              clear hc
              have hI := fun w' => ih kids[k] (List.getElem_mem _) (m - 1) w' (by omega) (by omega)
              generalize kids[k] = x at *
              obtain ⟨⟨xk, xpa, xpn, xpc, xka, xkn, xkc⟩, xpts, xkids⟩ := x
              simp only [ST.hd, Sm.val] at c0 c1 c2 hI
              go_wp2_with fail
              refine (hI _ ?_).mono ?_
              · with_reducible (repeat (first | exact Kx.r _ | assumption | refine Kx.a ?_ _ | refine Kx.d ?_ | refine Kx.e ?_ _ | (refine Kx.s ?_ ?_ _; focus (first | (simp; done) | (simp; omega))) | refine Kx.t ?_ (by assumption)))
              rintro e w3 ⟨⟨v, rfl, hv⟩, hk3⟩
              clear hI
              have HV := Lib.hid hv
              clear hv
              cases v with
              | false =>
                go_wp2_with fail
                go_ret
                refine ⟨⟨false, rfl, fun h => by simp at h⟩, ?_⟩
                with_reducible (repeat (first | exact Kx.r _ | assumption | refine Kx.a ?_ _ | refine Kx.d ?_ | refine Kx.e ?_ _ | (refine Kx.s ?_ ?_ _; focus (first | (simp; done) | (simp; omega))) | refine Kx.t ?_ (by assumption)))
              | true =>
                have hB3 := (show Blk _ w.heap.size 34 [.int .i64 (0), .slice pa pn pc, .slice (some ⟨b, off, none⟩) kn kc] from by with_reducible (repeat (first | assumption | ((refine Bx.n ⟨?_, ?_⟩) <;> focus (first | rfl | (simp; done) | omega)) | refine Bx.a ?_ _ | refine Bx.d ?_ | refine Bx.e ?_ _ | (refine Bx.p ?_ ?_; focus (first | (simp; done) | (simp; omega) | omega))))).keep hk3
                have hk9 : Stab.Keeps w w3 := by with_reducible (repeat (first | exact Kx.r _ | assumption | refine Kx.a ?_ _ | refine Kx.d ?_ | refine Kx.e ?_ _ | (refine Kx.s ?_ ?_ _; focus (first | (simp; done) | (simp; omega))) | refine Kx.t ?_ (by assumption)))
                go_wp2_with fail
                refine ⟨⟨k + 1, by omega, by go_num, hk9, hB3, fun y hy => ?_⟩, by simp [intOf]; omega⟩
                rw [HT.out] at hy
                rcases List.mem_append.1 hy with h | h
                · exact HQ.out y h
                · obtain rfl := List.mem_singleton.1 h
                  exact ⟨.inl rfl, HV.out trivial⟩
            · have hkn2 : kn = k := by omega
              subst hkn2
              rw [List.take_of_length_le (by omega)] at HQ
              by_cases hp0 : pn = 0
              · subst hp0
                obtain rfl : pts = [] := List.eq_nil_of_length_eq_zero HN.out
                go_wp2_with fail
                go_ret
                refine ⟨⟨true, rfl, fun _ => .many _ _ (by simp) (fun y hy => (HQ.out y hy).1) (fun y hy => (HQ.out y hy).2)⟩, ?_⟩
                with_reducible (repeat (first | exact Kx.r _ | assumption | refine Kx.a ?_ _ | refine Kx.d ?_ | refine Kx.e ?_ _ | (refine Kx.s ?_ ?_ _; focus (first | (simp; done) | (simp; omega))) | refine Kx.t ?_ (by assumption)))
              · have hp1 : ((pn : Int) == 0) = false := by simp; omega
                go_wp2_with fail
                go_ret
                refine ⟨⟨false, rfl, fun h => by simp at h⟩, ?_⟩
                with_reducible (repeat (first | exact Kx.r _ | assumption | refine Kx.a ?_ _ | refine Kx.d ?_ | refine Kx.e ?_ _ | (refine Kx.s ?_ ?_ _; focus (first | (simp; done) | (simp; omega))) | refine Kx.t ?_ (by assumption)))
        · subst hkind
          have HN := Lib.hid hn
          clear hn
          have g0 := hB.cell (i := 0) rfl
          have g1 := hB.cell (i := 1) rfl
          have g2 := hB.cell (i := 2) rfl
          have gf := hB.free
          have gl := hB.lt
          go_wp2_with fail
          clear g0 g1 g2 gf gl
          obtain ⟨wo, rfl⟩ : ∃ wo, wo = wr := ⟨_, rfl⟩
          go_loopw [65] (fun iv wr => ∃ k : Nat, k ≤ kn ∧ iv = .int .i64 k ∧ Stab.Keeps w wr ∧ Blk wr w.heap.size 34 [.int .i64 (3), .slice pa pn pc, .slice ka kn kc] ∧ ∀ x ∈ kids.take k, goodKid 3 x.hd.kind ∧ x.Formed) (fun i _ => kn - (intOf i).toNat)
          case atStart => exact ⟨0, Nat.zero_le _, rfl, hK, hB, by simp⟩
          case round =>
            clear hK hB
            obtain ⟨k, hk, rfl, hK, hB, hP⟩ := hrel
            have HQ := Lib.hid hP
            clear hP
            have g0 := hB.cell (i := 0) rfl
            have g1 := hB.cell (i := 1) rfl
            have g2 := hB.cell (i := 2) rfl
            have gf := hB.free
            have gl := hB.lt
            by_cases hlt : k < kn
            · obtain ⟨b, off, ha, hb, hc⟩ := (s2.keep hK).elem hlt
              subst ha
              have hki : k < kids.length := by omega
              obtain ⟨c0, c1, c2⟩ := skid_cells (kn := kn) hki hc
              have HT := Lib.hid (List.take_succ_eq_append_getElem hki)
              clear hc
              have hI := fun w' => ih kids[k] (List.getElem_mem _) (m - 1) w' (by omega) (by omega)
              generalize kids[k] = x at *
              obtain ⟨⟨xk, xpa, xpn, xpc, xka, xkn, xkc⟩, xpts, xkids⟩ := x
              simp only [ST.hd, Sm.val] at c0 c1 c2 hI
              by_cases hx : xk = 2
              · subst hx
                go_wp2_with fail
                refine (hI _ ?_).mono ?_
                · with_reducible (repeat (first | exact Kx.r _ | assumption | refine Kx.a ?_ _ | refine Kx.d ?_ | refine Kx.e ?_ _ | (refine Kx.s ?_ ?_ _; focus (first | (simp; done) | (simp; omega))) | refine Kx.t ?_ (by assumption)))
                rintro e w3 ⟨⟨v, rfl, hv⟩, hk3⟩
                clear hI
                have HV := Lib.hid hv
                clear hv
                cases v with
                | false =>
                  go_wp2_with fail
                  go_ret
                  refine ⟨⟨false, rfl, fun h => by simp at h⟩, ?_⟩
                  with_reducible (repeat (first | exact Kx.r _ | assumption | refine Kx.a ?_ _ | refine Kx.d ?_ | refine Kx.e ?_ _ | (refine Kx.s ?_ ?_ _; focus (first | (simp; done) | (simp; omega))) | refine Kx.t ?_ (by assumption)))
                | true =>
                  have hB3 := (show Blk _ w.heap.size 34 [.int .i64 (3), .slice pa pn pc, .slice (some ⟨b, off, none⟩) kn kc] from by with_reducible (repeat (first | assumption | ((refine Bx.n ⟨?_, ?_⟩) <;> focus (first | rfl | (simp; done) | omega)) | refine Bx.a ?_ _ | refine Bx.d ?_ | refine Bx.e ?_ _ | (refine Bx.p ?_ ?_; focus (first | (simp; done) | (simp; omega) | omega))))).keep hk3
                  have hk9 : Stab.Keeps w w3 := by with_reducible (repeat (first | exact Kx.r _ | assumption | refine Kx.a ?_ _ | refine Kx.d ?_ | refine Kx.e ?_ _ | (refine Kx.s ?_ ?_ _; focus (first | (simp; done) | (simp; omega))) | refine Kx.t ?_ (by assumption)))
                  go_wp2_with fail
                  refine ⟨⟨k + 1, by omega, by go_num, hk9, hB3, fun y hy => ?_⟩, by simp [intOf]; omega⟩
                  rw [HT.out] at hy
                  rcases List.mem_append.1 hy with h | h
                  · exact HQ.out y h
                  · obtain rfl := List.mem_singleton.1 h
                    exact ⟨.inr (.inl ⟨rfl, rfl⟩), HV.out trivial⟩
              · clear hI HT
                go_wp2_with fail
                go_ret
                refine ⟨⟨false, rfl, fun h => by simp at h⟩, ?_⟩
                with_reducible (repeat (first | exact Kx.r _ | assumption | refine Kx.a ?_ _ | refine Kx.d ?_ | refine Kx.e ?_ _ | (refine Kx.s ?_ ?_ _; focus (first | (simp; done) | (simp; omega))) | refine Kx.t ?_ (by assumption)))
            · have hkn2 : kn = k := by omega
              subst hkn2
              rw [List.take_of_length_le (by omega)] at HQ
              by_cases hp0 : pn = 0
              · subst hp0
                obtain rfl : pts = [] := List.eq_nil_of_length_eq_zero HN.out
                go_wp2_with fail
                go_ret
                refine ⟨⟨true, rfl, fun _ => .many _ _ (by simp) (fun y hy => (HQ.out y hy).1) (fun y hy => (HQ.out y hy).2)⟩, ?_⟩
                with_reducible (repeat (first | exact Kx.r _ | assumption | refine Kx.a ?_ _ | refine Kx.d ?_ | refine Kx.e ?_ _ | (refine Kx.s ?_ ?_ _; focus (first | (simp; done) | (simp; omega))) | refine Kx.t ?_ (by assumption)))
              · have hp1 : ((pn : Int) == 0) = false := by simp; omega
                go_wp2_with fail
                go_ret
                refine ⟨⟨false, rfl, fun h => by simp at h⟩, ?_⟩
                with_reducible (repeat (first | exact Kx.r _ | assumption | refine Kx.a ?_ _ | refine Kx.d ?_ | refine Kx.e ?_ _ | (refine Kx.s ?_ ?_ _; focus (first | (simp; done) | (simp; omega))) | refine Kx.t ?_ (by assumption)))
        · subst hkind
          have HN := Lib.hid hn
          clear hn
          have g0 := hB.cell (i := 0) rfl
          have g1 := hB.cell (i := 1) rfl
          have g2 := hB.cell (i := 2) rfl
          have gf := hB.free
          have gl := hB.lt
          go_wp2_with fail
          clear g0 g1 g2 gf gl
          obtain ⟨wo, rfl⟩ : ∃ wo, wo = wr := ⟨_, rfl⟩
          go_loopw [65] (fun iv wr => ∃ k : Nat, k ≤ kn ∧ iv = .int .i64 k ∧ Stab.Keeps w wr ∧ Blk wr w.heap.size 34 [.int .i64 (4), .slice pa pn pc, .slice ka kn kc] ∧ ∀ x ∈ kids.take k, goodKid 4 x.hd.kind ∧ x.Formed) (fun i _ => kn - (intOf i).toNat)
          case atStart => exact ⟨0, Nat.zero_le _, rfl, hK, hB, by simp⟩
          case round =>
            clear hK hB
            obtain ⟨k, hk, rfl, hK, hB, hP⟩ := hrel
            have HQ := Lib.hid hP
            clear hP
            have g0 := hB.cell (i := 0) rfl
            have g1 := hB.cell (i := 1) rfl
            have g2 := hB.cell (i := 2) rfl
            have gf := hB.free
            have gl := hB.lt
            by_cases hlt : k < kn
            · obtain ⟨b, off, ha, hb, hc⟩ := (s2.keep hK).elem hlt
              subst ha
              have hki : k < kids.length := by omega
              obtain ⟨c0, c1, c2⟩ := skid_cells (kn := kn) hki hc
              have HT := Lib.hid (List.take_succ_eq_append_getElem hki)
              clear hc
              have hI := fun w' => ih kids[k] (List.getElem_mem _) (m - 1) w' (by omega) (by omega)
              generalize kids[k] = x at *
              obtain ⟨⟨xk, xpa, xpn, xpc, xka, xkn, xkc⟩, xpts, xkids⟩ := x
              simp only [ST.hd, Sm.val] at c0 c1 c2 hI
              by_cases hx : xk = 1
              · subst hx
                go_wp2_with fail
                refine (hI _ ?_).mono ?_
                · with_reducible (repeat (first | exact Kx.r _ | assumption | refine Kx.a ?_ _ | refine Kx.d ?_ | refine Kx.e ?_ _ | (refine Kx.s ?_ ?_ _; focus (first | (simp; done) | (simp; omega))) | refine Kx.t ?_ (by assumption)))
                rintro e w3 ⟨⟨v, rfl, hv⟩, hk3⟩
                clear hI
                have HV := Lib.hid hv
                clear hv
                cases v with
                | false =>
                  go_wp2_with fail
                  go_ret
                  refine ⟨⟨false, rfl, fun h => by simp at h⟩, ?_⟩
                  with_reducible (repeat (first | exact Kx.r _ | assumption | refine Kx.a ?_ _ | refine Kx.d ?_ | refine Kx.e ?_ _ | (refine Kx.s ?_ ?_ _; focus (first | (simp; done) | (simp; omega))) | refine Kx.t ?_ (by assumption)))
                | true =>
                  have hB3 := (show Blk _ w.heap.size 34 [.int .i64 (4), .slice pa pn pc, .slice (some ⟨b, off, none⟩) kn kc] from by with_reducible (repeat (first | assumption | ((refine Bx.n ⟨?_, ?_⟩) <;> focus (first | rfl | (simp; done) | omega)) | refine Bx.a ?_ _ | refine Bx.d ?_ | refine Bx.e ?_ _ | (refine Bx.p ?_ ?_; focus (first | (simp; done) | (simp; omega) | omega))))).keep hk3
                  have hk9 : Stab.Keeps w w3 := by with_reducible (repeat (first | exact Kx.r _ | assumption | refine Kx.a ?_ _ | refine Kx.d ?_ | refine Kx.e ?_ _ | (refine Kx.s ?_ ?_ _; focus (first | (simp; done) | (simp; omega))) | refine Kx.t ?_ (by assumption)))
                  go_wp2_with fail
                  refine ⟨⟨k + 1, by omega, by go_num, hk9, hB3, fun y hy => ?_⟩, by simp [intOf]; omega⟩
                  rw [HT.out] at hy
                  rcases List.mem_append.1 hy with h | h
                  · exact HQ.out y h
                  · obtain rfl := List.mem_singleton.1 h
                    exact ⟨.inr (.inr ⟨by decide, rfl⟩), HV.out trivial⟩
              · clear hI HT
                go_wp2_with fail
                go_ret
                refine ⟨⟨false, rfl, fun h => by simp at h⟩, ?_⟩
                with_reducible (repeat (first | exact Kx.r _ | assumption | refine Kx.a ?_ _ | refine Kx.d ?_ | refine Kx.e ?_ _ | (refine Kx.s ?_ ?_ _; focus (first | (simp; done) | (simp; omega))) | refine Kx.t ?_ (by assumption)))
            · have hkn2 : kn = k := by omega
              subst hkn2
              rw [List.take_of_length_le (by omega)] at HQ
              by_cases hp0 : pn = 0
              · subst hp0
                obtain rfl : pts = [] := List.eq_nil_of_length_eq_zero HN.out
                go_wp2_with fail
                go_ret
                refine ⟨⟨true, rfl, fun _ => .many _ _ (by simp) (fun y hy => (HQ.out y hy).1) (fun y hy => (HQ.out y hy).2)⟩, ?_⟩
                with_reducible (repeat (first | exact Kx.r _ | assumption | refine Kx.a ?_ _ | refine Kx.d ?_ | refine Kx.e ?_ _ | (refine Kx.s ?_ ?_ _; focus (first | (simp; done) | (simp; omega))) | refine Kx.t ?_ (by assumption)))
              · have hp1 : ((pn : Int) == 0) = false := by simp; omega
                go_wp2_with fail
                go_ret
                refine ⟨⟨false, rfl, fun h => by simp at h⟩, ?_⟩
                with_reducible (repeat (first | exact Kx.r _ | assumption | refine Kx.a ?_ _ | refine Kx.d ?_ | refine Kx.e ?_ _ | (refine Kx.s ?_ ?_ _; focus (first | (simp; done) | (simp; omega))) | refine Kx.t ?_ (by assumption)))
        · subst hkind
          have HN := Lib.hid hn
          clear hn
          have g0 := hB.cell (i := 0) rfl
          have g1 := hB.cell (i := 1) rfl
          have g2 := hB.cell (i := 2) rfl
          have gf := hB.free
          have gl := hB.lt
          go_wp2_with fail
          clear g0 g1 g2 gf gl
          obtain ⟨wo, rfl⟩ : ∃ wo, wo = wr := ⟨_, rfl⟩
          go_loopw [65] (fun iv wr => ∃ k : Nat, k ≤ kn ∧ iv = .int .i64 k ∧ Stab.Keeps w wr ∧ Blk wr w.heap.size 34 [.int .i64 (5), .slice pa pn pc, .slice ka kn kc] ∧ ∀ x ∈ kids.take k, goodKid 5 x.hd.kind ∧ x.Formed) (fun i _ => kn - (intOf i).toNat)
          case atStart => exact ⟨0, Nat.zero_le _, rfl, hK, hB, by simp⟩
          case round =>
            clear hK hB
            obtain ⟨k, hk, rfl, hK, hB, hP⟩ := hrel
            have HQ := Lib.hid hP
            clear hP
            have g0 := hB.cell (i := 0) rfl
            have g1 := hB.cell (i := 1) rfl
            have g2 := hB.cell (i := 2) rfl
            have gf := hB.free
            have gl := hB.lt
            by_cases hlt : k < kn
            · obtain ⟨b, off, ha, hb, hc⟩ := (s2.keep hK).elem hlt
              subst ha
              have hki : k < kids.length := by omega
              obtain ⟨c0, c1, c2⟩ := skid_cells (kn := kn) hki hc
              have HT := Lib.hid (List.take_succ_eq_append_getElem hki)
              clear hc
              have hI := fun w' => ih kids[k] (List.getElem_mem _) (m - 1) w' (by omega) (by omega)
              generalize kids[k] = x at *
              obtain ⟨⟨xk, xpa, xpn, xpc, xka, xkn, xkc⟩, xpts, xkids⟩ := x
              simp only [ST.hd, Sm.val] at c0 c1 c2 hI
              by_cases hx : xk = 2
              · subst hx
                go_wp2_with fail
                refine (hI _ ?_).mono ?_
                · with_reducible (repeat (first | exact Kx.r _ | assumption | refine Kx.a ?_ _ | refine Kx.d ?_ | refine Kx.e ?_ _ | (refine Kx.s ?_ ?_ _; focus (first | (simp; done) | (simp; omega))) | refine Kx.t ?_ (by assumption)))
                rintro e w3 ⟨⟨v, rfl, hv⟩, hk3⟩
                clear hI
                have HV := Lib.hid hv
                clear hv
                cases v with
                | false =>
                  go_wp2_with fail
                  go_ret
                  refine ⟨⟨false, rfl, fun h => by simp at h⟩, ?_⟩
                  with_reducible (repeat (first | exact Kx.r _ | assumption | refine Kx.a ?_ _ | refine Kx.d ?_ | refine Kx.e ?_ _ | (refine Kx.s ?_ ?_ _; focus (first | (simp; done) | (simp; omega))) | refine Kx.t ?_ (by assumption)))
                | true =>
                  have hB3 := (show Blk _ w.heap.size 34 [.int .i64 (5), .slice pa pn pc, .slice (some ⟨b, off, none⟩) kn kc] from by with_reducible (repeat (first | assumption | ((refine Bx.n ⟨?_, ?_⟩) <;> focus (first | rfl | (simp; done) | omega)) | refine Bx.a ?_ _ | refine Bx.d ?_ | refine Bx.e ?_ _ | (refine Bx.p ?_ ?_; focus (first | (simp; done) | (simp; omega) | omega))))).keep hk3
                  have hk9 : Stab.Keeps w w3 := by with_reducible (repeat (first | exact Kx.r _ | assumption | refine Kx.a ?_ _ | refine Kx.d ?_ | refine Kx.e ?_ _ | (refine Kx.s ?_ ?_ _; focus (first | (simp; done) | (simp; omega))) | refine Kx.t ?_ (by assumption)))
                  go_wp2_with fail
                  refine ⟨⟨k + 1, by omega, by go_num, hk9, hB3, fun y hy => ?_⟩, by simp [intOf]; omega⟩
                  rw [HT.out] at hy
                  rcases List.mem_append.1 hy with h | h
                  · exact HQ.out y h
                  · obtain rfl := List.mem_singleton.1 h
                    exact ⟨.inr (.inr ⟨by decide, rfl⟩), HV.out trivial⟩
              · clear hI HT
                go_wp2_with fail
                go_ret
                refine ⟨⟨false, rfl, fun h => by simp at h⟩, ?_⟩
                with_reducible (repeat (first | exact Kx.r _ | assumption | refine Kx.a ?_ _ | refine Kx.d ?_ | refine Kx.e ?_ _ | (refine Kx.s ?_ ?_ _; focus (first | (simp; done) | (simp; omega))) | refine Kx.t ?_ (by assumption)))
            · have hkn2 : kn = k := by omega
              subst hkn2
              rw [List.take_of_length_le (by omega)] at HQ
              by_cases hp0 : pn = 0
              · subst hp0
                obtain rfl : pts = [] := List.eq_nil_of_length_eq_zero HN.out
                go_wp2_with fail
                go_ret
                refine ⟨⟨true, rfl, fun _ => .many _ _ (by simp) (fun y hy => (HQ.out y hy).1) (fun y hy => (HQ.out y hy).2)⟩, ?_⟩
                with_reducible (repeat (first | exact Kx.r _ | assumption | refine Kx.a ?_ _ | refine Kx.d ?_ | refine Kx.e ?_ _ | (refine Kx.s ?_ ?_ _; focus (first | (simp; done) | (simp; omega))) | refine Kx.t ?_ (by assumption)))
              · have hp1 : ((pn : Int) == 0) = false := by simp; omega
                go_wp2_with fail
                go_ret
                refine ⟨⟨false, rfl, fun h => by simp at h⟩, ?_⟩
                with_reducible (repeat (first | exact Kx.r _ | assumption | refine Kx.a ?_ _ | refine Kx.d ?_ | refine Kx.e ?_ _ | (refine Kx.s ?_ ?_ _; focus (first | (simp; done) | (simp; omega))) | refine Kx.t ?_ (by assumption)))
        · subst hkind
          have HN := Lib.hid hn
          clear hn
          have g0 := hB.cell (i := 0) rfl
          have g1 := hB.cell (i := 1) rfl
          have g2 := hB.cell (i := 2) rfl
          have gf := hB.free
          have gl := hB.lt
          go_wp2_with fail
          clear g0 g1 g2 gf gl
          obtain ⟨wo, rfl⟩ : ∃ wo, wo = wr := ⟨_, rfl⟩
          go_loopw [65] (fun iv wr => ∃ k : Nat, k ≤ kn ∧ iv = .int .i64 k ∧ Stab.Keeps w wr ∧ Blk wr w.heap.size 34 [.int .i64 (6), .slice pa pn pc, .slice ka kn kc] ∧ ∀ x ∈ kids.take k, goodKid 6 x.hd.kind ∧ x.Formed) (fun i _ => kn - (intOf i).toNat)
          case atStart => exact ⟨0, Nat.zero_le _, rfl, hK, hB, by simp⟩
          case round =>
            clear hK hB
            obtain ⟨k, hk, rfl, hK, hB, hP⟩ := hrel
            have HQ := Lib.hid hP
            clear hP
            have g0 := hB.cell (i := 0) rfl
            have g1 := hB.cell (i := 1) rfl
            have g2 := hB.cell (i := 2) rfl
            have gf := hB.free
            have gl := hB.lt
            by_cases hlt : k < kn
            · obtain ⟨b, off, ha, hb, hc⟩ := (s2.keep hK).elem hlt
              subst ha
              have hki : k < kids.length := by omega
              obtain ⟨c0, c1, c2⟩ := skid_cells (kn := kn) hki hc
              have HT := Lib.hid (List.take_succ_eq_append_getElem hki)
              clear hc
              have hI := fun w' => ih kids[k] (List.getElem_mem _) (m - 1) w' (by omega) (by omega)
              generalize kids[k] = x at *
              obtain ⟨⟨xk, xpa, xpn, xpc, xka, xkn, xkc⟩, xpts, xkids⟩ := x
              simp only [ST.hd, Sm.val] at c0 c1 c2 hI
              by_cases hx : xk = 3
              · subst hx
                go_wp2_with fail
                refine (hI _ ?_).mono ?_
                · with_reducible (repeat (first | exact Kx.r _ | assumption | refine Kx.a ?_ _ | refine Kx.d ?_ | refine Kx.e ?_ _ | (refine Kx.s ?_ ?_ _; focus (first | (simp; done) | (simp; omega))) | refine Kx.t ?_ (by assumption)))
                rintro e w3 ⟨⟨v, rfl, hv⟩, hk3⟩
                clear hI
                have HV := Lib.hid hv
                clear hv
                cases v with
                | false =>
                  go_wp2_with fail
                  go_ret
                  refine ⟨⟨false, rfl, fun h => by simp at h⟩, ?_⟩
                  with_reducible (repeat (first | exact Kx.r _ | assumption | refine Kx.a ?_ _ | refine Kx.d ?_ | refine Kx.e ?_ _ | (refine Kx.s ?_ ?_ _; focus (first | (simp; done) | (simp; omega))) | refine Kx.t ?_ (by assumption)))
                | true =>
                  have hB3 := (show Blk _ w.heap.size 34 [.int .i64 (6), .slice pa pn pc, .slice (some ⟨b, off, none⟩) kn kc] from by with_reducible (repeat (first | assumption | ((refine Bx.n ⟨?_, ?_⟩) <;> focus (first | rfl | (simp; done) | omega)) | refine Bx.a ?_ _ | refine Bx.d ?_ | refine Bx.e ?_ _ | (refine Bx.p ?_ ?_; focus (first | (simp; done) | (simp; omega) | omega))))).keep hk3
                  have hk9 : Stab.Keeps w w3 := by with_reducible (repeat (first | exact Kx.r _ | assumption | refine Kx.a ?_ _ | refine Kx.d ?_ | refine Kx.e ?_ _ | (refine Kx.s ?_ ?_ _; focus (first | (simp; done) | (simp; omega))) | refine Kx.t ?_ (by assumption)))
                  go_wp2_with fail
                  refine ⟨⟨k + 1, by omega, by go_num, hk9, hB3, fun y hy => ?_⟩, by simp [intOf]; omega⟩
                  rw [HT.out] at hy
                  rcases List.mem_append.1 hy with h | h
                  · exact HQ.out y h
                  · obtain rfl := List.mem_singleton.1 h
                    exact ⟨.inr (.inr ⟨by decide, rfl⟩), HV.out trivial⟩
              · clear hI HT
                go_wp2_with fail
                go_ret
                refine ⟨⟨false, rfl, fun h => by simp at h⟩, ?_⟩
                with_reducible (repeat (first | exact Kx.r _ | assumption | refine Kx.a ?_ _ | refine Kx.d ?_ | refine Kx.e ?_ _ | (refine Kx.s ?_ ?_ _; focus (first | (simp; done) | (simp; omega))) | refine Kx.t ?_ (by assumption)))
            · have hkn2 : kn = k := by omega
              subst hkn2
              rw [List.take_of_length_le (by omega)] at HQ
              by_cases hp0 : pn = 0
              · subst hp0
                obtain rfl : pts = [] := List.eq_nil_of_length_eq_zero HN.out
                go_wp2_with fail
                go_ret
                refine ⟨⟨true, rfl, fun _ => .many _ _ (by simp) (fun y hy => (HQ.out y hy).1) (fun y hy => (HQ.out y hy).2)⟩, ?_⟩
                with_reducible (repeat (first | exact Kx.r _ | assumption | refine Kx.a ?_ _ | refine Kx.d ?_ | refine Kx.e ?_ _ | (refine Kx.s ?_ ?_ _; focus (first | (simp; done) | (simp; omega))) | refine Kx.t ?_ (by assumption)))
              · have hp1 : ((pn : Int) == 0) = false := by simp; omega
                go_wp2_with fail
                go_ret
                refine ⟨⟨false, rfl, fun h => by simp at h⟩, ?_⟩
                with_reducible (repeat (first | exact Kx.r _ | assumption | refine Kx.a ?_ _ | refine Kx.d ?_ | refine Kx.e ?_ _ | (refine Kx.s ?_ ?_ _; focus (first | (simp; done) | (simp; omega))) | refine Kx.t ?_ (by assumption)))
        · have e1 : ¬ kind = 1 := by omega
          have b1 : (kind == 1) = false := by simp; omega
          have e2 : ¬ kind = 2 := by omega
          have b2 : (kind == 2) = false := by simp; omega
          have e0 : ¬ kind = 0 := by omega
          have b0 : (kind == 0) = false := by simp; omega
          have e3 : ¬ kind = 3 := by omega
          have b3 : (kind == 3) = false := by simp; omega
          have e4 : ¬ 3 < kind := by omega
          have b4 : decide (3 < kind) = false := by simp; omega
          have e5 : ¬ 0 ≤ kind := by omega
          have b5 : decide (0 ≤ kind) = false := by simp; omega
          have e6 : kind < 0 := by omega
          have HN := Lib.hid hn
          clear hn
          have g0 := hB.cell (i := 0) rfl
          have g1 := hB.cell (i := 1) rfl
          have g2 := hB.cell (i := 2) rfl
          have gf := hB.free
          have gl := hB.lt
          go_wp2_with fail
          clear g0 g1 g2 gf gl
          obtain ⟨wo, rfl⟩ : ∃ wo, wo = wr := ⟨_, rfl⟩
          go_loopw [65] (fun iv wr => ∃ k : Nat, k ≤ kn ∧ iv = .int .i64 k ∧ Stab.Keeps w wr ∧ Blk wr w.heap.size 34 [.int .i64 kind, .slice pa pn pc, .slice ka kn kc] ∧ ∀ x ∈ kids.take k, goodKid kind x.hd.kind ∧ x.Formed) (fun i _ => kn - (intOf i).toNat)
          case atStart => exact ⟨0, Nat.zero_le _, rfl, hK, hB, by simp⟩
          case round =>
            clear hK hB
            obtain ⟨k, hk, rfl, hK, hB, hP⟩ := hrel
            have HQ := Lib.hid hP
            clear hP
            have g0 := hB.cell (i := 0) rfl
            have g1 := hB.cell (i := 1) rfl
            have g2 := hB.cell (i := 2) rfl
            have gf := hB.free
            have gl := hB.lt
            by_cases hlt : k < kn
            · obtain ⟨b, off, ha, hb, hc⟩ := (s2.keep hK).elem hlt
              subst ha
              have hki : k < kids.length := by omega
              obtain ⟨c0, c1, c2⟩ := skid_cells (kn := kn) hki hc
              have HT := Lib.hid (List.take_succ_eq_append_getElem hki)
              clear hc
              clear HT ih
              generalize kids[k] = x at *
              obtain ⟨⟨xk, xpa, xpn, xpc, xka, xkn, xkc⟩, xpts, xkids⟩ := x
              simp only [ST.hd] at c0 c1 c2
              go_wp2_with fail
              go_ret
              refine ⟨⟨false, rfl, fun h => by simp at h⟩, ?_⟩
              with_reducible (repeat (first | exact Kx.r _ | assumption | refine Kx.a ?_ _ | refine Kx.d ?_ | refine Kx.e ?_ _ | (refine Kx.s ?_ ?_ _; focus (first | (simp; done) | (simp; omega))) | refine Kx.t ?_ (by assumption)))
            · have hkn2 : kn = k := by omega
              subst hkn2
              rw [List.take_of_length_le (by omega)] at HQ
              go_wp2_with fail
              go_ret
              refine ⟨⟨false, rfl, fun h => by simp at h⟩, ?_⟩
              with_reducible (repeat (first | exact Kx.r _ | assumption | refine Kx.a ?_ _ | refine Kx.d ?_ | refine Kx.e ?_ _ | (refine Kx.s ?_ ?_ _; focus (first | (simp; done) | (simp; omega))) | refine Kx.t ?_ (by assumption)))
        · have e1 : ¬ kind = 1 := by omega
          have b1 : (kind == 1) = false := by simp; omega
          have e2 : ¬ kind = 2 := by omega
          have b2 : (kind == 2) = false := by simp; omega
          have e0 : ¬ kind = 0 := by omega
          have b0 : (kind == 0) = false := by simp; omega
          have e3 : ¬ kind = 3 := by omega
          have b3 : (kind == 3) = false := by simp; omega
          have e4 : 3 < kind := by omega
          have b4 : decide (3 < kind) = true := by simp; omega
          have e5 : 0 ≤ kind := by omega
          have b5 : decide (0 ≤ kind) = true := by simp; omega
          have e6 : ¬ kind ≤ 6 := by omega
          have b6 : decide (kind ≤ 6) = false := by simp; omega
          have HN := Lib.hid hn
          clear hn
          have g0 := hB.cell (i := 0) rfl
          have g1 := hB.cell (i := 1) rfl
          have g2 := hB.cell (i := 2) rfl
          have gf := hB.free
          have gl := hB.lt
          go_wp2_with fail
          clear g0 g1 g2 gf gl
          obtain ⟨wo, rfl⟩ : ∃ wo, wo = wr := ⟨_, rfl⟩
          go_loopw [65] (fun iv wr => ∃ k : Nat, k ≤ kn ∧ iv = .int .i64 k ∧ Stab.Keeps w wr ∧ Blk wr w.heap.size 34 [.int .i64 kind, .slice pa pn pc, .slice ka kn kc] ∧ ∀ x ∈ kids.take k, True) (fun i _ => kn - (intOf i).toNat)
          case atStart => exact ⟨0, Nat.zero_le _, rfl, hK, hB, by simp⟩
          case round =>
            clear hK hB
            obtain ⟨k, hk, rfl, hK, hB, hP⟩ := hrel
            have HQ := Lib.hid hP
            clear hP
            have g0 := hB.cell (i := 0) rfl
            have g1 := hB.cell (i := 1) rfl
            have g2 := hB.cell (i := 2) rfl
            have gf := hB.free
            have gl := hB.lt
            by_cases hlt : k < kn
            · obtain ⟨b, off, ha, hb, hc⟩ := (s2.keep hK).elem hlt
              subst ha
              have hki : k < kids.length := by omega
              obtain ⟨c0, c1, c2⟩ := skid_cells (kn := kn) hki hc
              have HT := Lib.hid (List.take_succ_eq_append_getElem hki)
              clear hc
              have hI := fun w' => ih kids[k] (List.getElem_mem _) (m - 1) w' (by omega) (by omega)
              generalize kids[k] = x at *
              obtain ⟨⟨xk, xpa, xpn, xpc, xka, xkn, xkc⟩, xpts, xkids⟩ := x
              simp only [ST.hd, Sm.val] at c0 c1 c2 hI
              obtain ⟨q, hq⟩ : ∃ q, wrap64 (kind - 3) = q := ⟨_, rfl⟩
              by_cases hx : xk = q
              · subst hx
                go_wp2_with fail
                refine (hI _ ?_).mono ?_
                · with_reducible (repeat (first | exact Kx.r _ | assumption | refine Kx.a ?_ _ | refine Kx.d ?_ | refine Kx.e ?_ _ | (refine Kx.s ?_ ?_ _; focus (first | (simp; done) | (simp; omega))) | refine Kx.t ?_ (by assumption)))
                rintro e w3 ⟨⟨v, rfl, hv⟩, hk3⟩
                clear hI
                have HV := Lib.hid hv
                clear hv
                cases v with
                | false =>
                  go_wp2_with fail
                  go_ret
                  refine ⟨⟨false, rfl, fun h => by simp at h⟩, ?_⟩
                  with_reducible (repeat (first | exact Kx.r _ | assumption | refine Kx.a ?_ _ | refine Kx.d ?_ | refine Kx.e ?_ _ | (refine Kx.s ?_ ?_ _; focus (first | (simp; done) | (simp; omega))) | refine Kx.t ?_ (by assumption)))
                | true =>
                  have hB3 := (show Blk _ w.heap.size 34 [.int .i64 kind, .slice pa pn pc, .slice (some ⟨b, off, none⟩) kn kc] from by with_reducible (repeat (first | assumption | ((refine Bx.n ⟨?_, ?_⟩) <;> focus (first | rfl | (simp; done) | omega)) | refine Bx.a ?_ _ | refine Bx.d ?_ | refine Bx.e ?_ _ | (refine Bx.p ?_ ?_; focus (first | (simp; done) | (simp; omega) | omega))))).keep hk3
                  have hk9 : Stab.Keeps w w3 := by with_reducible (repeat (first | exact Kx.r _ | assumption | refine Kx.a ?_ _ | refine Kx.d ?_ | refine Kx.e ?_ _ | (refine Kx.s ?_ ?_ _; focus (first | (simp; done) | (simp; omega))) | refine Kx.t ?_ (by assumption)))
                  go_wp2_with fail
                  refine ⟨⟨k + 1, by omega, by go_num, hk9, hB3, fun y hy => ?_⟩, by simp [intOf]; omega⟩
                  rw [HT.out] at hy
                  rcases List.mem_append.1 hy with h | h
                  · exact HQ.out y h
                  · obtain rfl := List.mem_singleton.1 h
                    exact trivial
              · clear hI HT
                go_wp2_with fail
                go_ret
                refine ⟨⟨false, rfl, fun h => by simp at h⟩, ?_⟩
                with_reducible (repeat (first | exact Kx.r _ | assumption | refine Kx.a ?_ _ | refine Kx.d ?_ | refine Kx.e ?_ _ | (refine Kx.s ?_ ?_ _; focus (first | (simp; done) | (simp; omega))) | refine Kx.t ?_ (by assumption)))
            · have hkn2 : kn = k := by omega
              subst hkn2
              rw [List.take_of_length_le (by omega)] at HQ
              go_wp2_with fail
              go_ret
              refine ⟨⟨false, rfl, fun h => by simp at h⟩, ?_⟩
              with_reducible (repeat (first | exact Kx.r _ | assumption | refine Kx.a ?_ _ | refine Kx.d ?_ | refine Kx.e ?_ _ | (refine Kx.s ?_ ?_ _; focus (first | (simp; done) | (simp; omega))) | refine Kx.t ?_ (by assumption)))
end Go.Proofs.YtbakhldjfplbfaaGreat
