/-
  Shapes that are formed within 64. No condition.
  A line as the law looks at it: within 64, few places, two of them different. No condition.
-/
import Derived.Test.YtinbkonmlgediaaGreatXVa
import Derived.Test.YtinbkonmlgediaaGreatXV11
import Derived.Test.YtinbkonmlgediaaGreatXEa
import Derived.Test.YtinbkonmlgediaaGreatXWa
import Derived.Test.YtinbkonmlgediaaGreatXVb
import Derived.Test.YtinbkonmlgediaaGreatXGrow2
import Derived.BigQuiet
import Derived.RegionTactic
import Derived.Deep.RegionLaw
set_option linter.unusedVariables false
set_option linter.unusedSimpArgs false
namespace Go.Proofs.YtinbkonmlgediaaGreat
open Go.RowKit Go.Fl Go.Sl Go.Pg Go.Ch Go.Kf
inductive ST.Formed64 : ST → Prop where
  | leaf (hd : Sm) (pts : List (Int × Int)) (hk : hd.kind = 1 ∧ pts.length ≤ 1 ∨ hd.kind = 2) (hp : ∀ p ∈ pts, In64 p) : ST.Formed64 (.node hd pts [])
  | many (hd : Sm) (kids : List ST) (hk : hd.kind = 0 ∨ 3 ≤ hd.kind ∧ hd.kind ≤ 6) (hg : ∀ k ∈ kids, goodKid hd.kind k.hd.kind) (hf : ∀ k ∈ kids, ST.Formed64 k) : ST.Formed64 (.node hd [] kids)
set_option maxRecDepth 100000 in
set_option maxHeartbeats 2000000 in
theorem formedBelow64_ (w0 : World) (t : ST) (h : ST.At w0 t) : ∀ (m : Int) (w : World), -1 ≤ m → m ≤ 100 → Stab.Keeps w0 w → Calls Tryz.prog 61 #[t.hd.val, .int .i64 64, .int .i64 m] w (Tells w t.Formed64) := by
  induction h with
  | mk hd pts kids hn hkn h1 h2 h3 ih =>
  intro m w hm0 hm1 hK0
  have s1 := h1.keep hK0
  have s2 := h2.keep hK0
  clear h1 h2 h3
  obtain ⟨kind, pa, pn, pc, ka, kn, kc⟩ := hd
  simp only at hn hkn s1 s2
  have hle1 := s1.le
  have hmx1 := s1.max
  have hle2 := s2.le
  have hm2 := s2.max
  unfold maxLen at hm2 hmx1
  simp only [ST.hd, Sm.val]
  by_cases hneg : m < 0
  · have hd : decide (m < 0) = true := by simpa using hneg
    go_enter Tryz.func61, Tryz.ntmps61
    go_wp2
    go_ret
    refine ⟨⟨false, rfl, fun h => by simp at h⟩, ?_⟩
    with_reducible (repeat first | exact Kx.r _ | assumption | refine Kx.a ?_ _ | refine Kx.d ?_ | refine Kx.e ?_ _ | refine Kx.s (by simp <;> omega) ?_ _ | refine Kx.t ?_ (by assumption))
  · have hd : decide (m < 0) = false := by simpa using hneg
    have hw : wrap64 (m - 1) = m - 1 := IntWalk.wrap64_in _ (by omega)
    go_enter Tryz.func61, Tryz.ntmps61
    go_wp2
    have hkp : Stab.Keeps w (w.alloc (.cells #[.int .i64 kind, .slice pa pn pc, .slice ka kn kc] 25)) := by with_reducible (repeat first | exact Kx.r _ | assumption | refine Kx.a ?_ _ | refine Kx.d ?_ | refine Kx.e ?_ _ | refine Kx.s (by simp <;> omega) ?_ _ | refine Kx.t ?_ (by assumption))
    have hB : Blk (w.alloc (.cells #[.int .i64 kind, .slice pa pn pc, .slice ka kn kc] 25)) w.heap.size 25 [.int .i64 kind, .slice pa pn pc, .slice ka kn kc] := by with_reducible (repeat first | assumption | (refine Bx.n ⟨?_, ?_⟩ <;> focus (first | rfl | (simp; done) | omega)) | refine Bx.a ?_ _ | refine Bx.d ?_ | refine Bx.e ?_ _ | refine Bx.p (by first | omega | simp <;> omega) ?_)
    generalize (w.alloc (.cells #[.int .i64 kind, .slice pa pn pc, .slice ka kn kc] 25)) = w1 at *
    go_loopw [17] (fun iv wr => ∃ k : Nat, k ≤ pn ∧ iv = .int .i64 k ∧ Stab.Keeps w wr ∧ Blk wr w.heap.size 25 [.int .i64 kind, .slice pa pn pc, .slice ka kn kc] ∧ ∀ p ∈ pts.take k, In64 p) (fun i _ => pn - (intOf i).toNat)
    case atStart => exact ⟨0, Nat.zero_le _, rfl, hkp, hB, by simp⟩
    case round =>
      clear hkp hB
      obtain ⟨k, hk, rfl, hK, hB, hP⟩ := hrel
      have HP := Lib.hid hP
      clear hP
      by_cases hlt : k < pn
      · obtain ⟨b, off, ha, hb, hc⟩ := (s1.keep hK).elem hlt
        subst ha
        have hki : k < pts.length := by omega
        obtain ⟨c0, c1⟩ := pt_cells hki hc
        clear hc
        have hT : pts.take (k + 1) = pts.take k ++ [pts[k]] := by rw [List.take_succ_eq_append_getElem hki]
        have HT := Lib.hid hT
        clear hT
        generalize pts[k] = x at *
        obtain ⟨px, py⟩ := x
        simp only at c0 c1
        have g0 := hB.cell (i := 0) rfl
        have g1 := hB.cell (i := 1) rfl
        have g2 := hB.cell (i := 2) rfl
        have gf := hB.free
        have gl := hB.lt
        by_cases hin : In64 (px, py)
        · have HI := Lib.hid hin
          have hk9 : Stab.Keeps w (wr.alloc (.cells #[.int .i64 px, .int .i64 py] 55)) := by with_reducible (repeat first | exact Kx.r _ | assumption | refine Kx.a ?_ _ | refine Kx.d ?_ | refine Kx.e ?_ _ | refine Kx.s (by simp <;> omega) ?_ _ | refine Kx.t ?_ (by assumption))
          have hB9 : Blk (wr.alloc (.cells #[.int .i64 px, .int .i64 py] 55)) w.heap.size 25 [.int .i64 kind, .slice (some ⟨b, off, none⟩) pn pc, .slice ka kn kc] := by with_reducible (repeat first | assumption | (refine Bx.n ⟨?_, ?_⟩ <;> focus (first | rfl | (simp; done) | omega)) | refine Bx.a ?_ _ | refine Bx.d ?_ | refine Bx.e ?_ _ | refine Bx.p (by first | omega | simp <;> omega) ?_)
          have HX : Hid ((∃ k_1 : Nat, k_1 ≤ pn ∧ Value.int .i64 (↑k + 1) = Value.int .i64 ↑k_1 ∧ Stab.Keeps w (wr.alloc (.cells #[.int .i64 px, .int .i64 py] 55)) ∧ Blk (wr.alloc (.cells #[.int .i64 px, .int .i64 py] 55)) w.heap.size 25 [.int .i64 kind, .slice (some ⟨b, off, none⟩) pn pc, .slice ka kn kc] ∧ ∀ p ∈ pts.take k_1, In64 p) ∧ pn - (intOf (.int .i64 (↑k + 1))).toNat < pn - (intOf (.int .i64 ↑k)).toNat) := by
            refine Lib.hid ⟨⟨k + 1, by omega, by go_num, hk9, hB9, fun p hp => ?_⟩, by simp [intOf]; omega⟩
            rw [HT.out] at hp
            rcases List.mem_append.1 hp with h | h
            · exact HP.out p h
            · obtain rfl : p = (px, py) := by simpa using h
              exact HI.out
          clear hk9 hB9 HP HT HI
          obtain ⟨h1, h2, h3, h4⟩ := hin
          simp only at h1 h2 h3 h4
          rcases Int.lt_trichotomy px py with hxy | hxy | hxy
          · have hyx : ¬ py < px := by omega
            go_wp2_with fail
            exact HX.out
          · subst hxy
            go_wp2_with fail
            exact HX.out
          · have hyx : ¬ px < py := by omega
            go_wp2_with fail
            exact HX.out
        · have hno : px < -64 ∨ 64 < px ∨ py < -64 ∨ 64 < py := by unfold In64 at hin; simp only at hin; omega
          clear hin HP HT
          rcases Int.lt_trichotomy px py with hxy | hxy | hxy
          · have hyx : ¬ py < px := by omega
            by_cases hlo : px < -64
            · go_wp2_with fail
              go_ret
              refine ⟨⟨false, rfl, fun h => by simp at h⟩, ?_⟩
              with_reducible (repeat first | exact Kx.r _ | assumption | refine Kx.a ?_ _ | refine Kx.d ?_ | refine Kx.e ?_ _ | refine Kx.s (by simp <;> omega) ?_ _ | refine Kx.t ?_ (by assumption))
            · have hhi : 64 < py := by omega
              go_wp2_with fail
              go_ret
              refine ⟨⟨false, rfl, fun h => by simp at h⟩, ?_⟩
              with_reducible (repeat first | exact Kx.r _ | assumption | refine Kx.a ?_ _ | refine Kx.d ?_ | refine Kx.e ?_ _ | refine Kx.s (by simp <;> omega) ?_ _ | refine Kx.t ?_ (by assumption))
          · subst hxy
            by_cases hlo : px < -64
            · go_wp2_with fail
              go_ret
              refine ⟨⟨false, rfl, fun h => by simp at h⟩, ?_⟩
              with_reducible (repeat first | exact Kx.r _ | assumption | refine Kx.a ?_ _ | refine Kx.d ?_ | refine Kx.e ?_ _ | refine Kx.s (by simp <;> omega) ?_ _ | refine Kx.t ?_ (by assumption))
            · have hhi : 64 < px := by omega
              go_wp2_with fail
              go_ret
              refine ⟨⟨false, rfl, fun h => by simp at h⟩, ?_⟩
              with_reducible (repeat first | exact Kx.r _ | assumption | refine Kx.a ?_ _ | refine Kx.d ?_ | refine Kx.e ?_ _ | refine Kx.s (by simp <;> omega) ?_ _ | refine Kx.t ?_ (by assumption))
          · have hyx : ¬ px < py := by omega
            by_cases hlo : py < -64
            · go_wp2_with fail
              go_ret
              refine ⟨⟨false, rfl, fun h => by simp at h⟩, ?_⟩
              with_reducible (repeat first | exact Kx.r _ | assumption | refine Kx.a ?_ _ | refine Kx.d ?_ | refine Kx.e ?_ _ | refine Kx.s (by simp <;> omega) ?_ _ | refine Kx.t ?_ (by assumption))
            · have hhi : 64 < px := by omega
              go_wp2_with fail
              go_ret
              refine ⟨⟨false, rfl, fun h => by simp at h⟩, ?_⟩
              with_reducible (repeat first | exact Kx.r _ | assumption | refine Kx.a ?_ _ | refine Kx.d ?_ | refine Kx.e ?_ _ | refine Kx.s (by simp <;> omega) ?_ _ | refine Kx.t ?_ (by assumption))
      · have hkn2 : pn = k := by omega
        subst hkn2
        rw [List.take_of_length_le (by omega)] at HP
        rcases (show kind = 1 ∨ kind = 2 ∨ kind = 0 ∨ kind = 3 ∨ kind = 4 ∨ kind = 5 ∨ kind = 6 ∨ kind < 0 ∨ 6 < kind by omega) with hkind | hkind | hkind | hkind | hkind | hkind | hkind | hkind | hkind
        · subst hkind
          by_cases hk0 : kn = 0
          · subst hk0
            obtain rfl : kids = [] := List.eq_nil_of_length_eq_zero hkn
            have g0 := hB.cell (i := 0) rfl
            have g1 := hB.cell (i := 1) rfl
            have g2 := hB.cell (i := 2) rfl
            have gf := hB.free
            have gl := hB.lt
            by_cases hp9 : (pn : Int) ≤ 1
            · have hp1 : decide ((pn : Int) ≤ 1) = true := by simpa using hp9
              go_wp2_with fail
              go_ret
              refine ⟨⟨true, rfl, fun _ => .leaf _ _ (.inl ⟨rfl, by omega⟩) (fun p hp => HP.out p (by simpa using hp))⟩, ?_⟩
              with_reducible (repeat first | exact Kx.r _ | assumption | refine Kx.a ?_ _ | refine Kx.d ?_ | refine Kx.e ?_ _ | refine Kx.s (by simp <;> omega) ?_ _ | refine Kx.t ?_ (by assumption))
            · have hp1 : decide ((pn : Int) ≤ 1) = false := by simpa using hp9
              go_wp2_with fail
              go_ret
              refine ⟨⟨false, rfl, fun h => by simp at h⟩, ?_⟩
              with_reducible (repeat first | exact Kx.r _ | assumption | refine Kx.a ?_ _ | refine Kx.d ?_ | refine Kx.e ?_ _ | refine Kx.s (by simp <;> omega) ?_ _ | refine Kx.t ?_ (by assumption))
          · have hk1 : ¬ ((kn : Int) = 0) := by omega
            have g0 := hB.cell (i := 0) rfl
            have g1 := hB.cell (i := 1) rfl
            have g2 := hB.cell (i := 2) rfl
            have gf := hB.free
            have gl := hB.lt
            go_wp2_with fail
            go_ret
            refine ⟨⟨false, rfl, fun h => by simp at h⟩, ?_⟩
            with_reducible (repeat first | exact Kx.r _ | assumption | refine Kx.a ?_ _ | refine Kx.d ?_ | refine Kx.e ?_ _ | refine Kx.s (by simp <;> omega) ?_ _ | refine Kx.t ?_ (by assumption))
        · subst hkind
          by_cases hk0 : kn = 0
          · subst hk0
            obtain rfl : kids = [] := List.eq_nil_of_length_eq_zero hkn
            have g0 := hB.cell (i := 0) rfl
            have g1 := hB.cell (i := 1) rfl
            have g2 := hB.cell (i := 2) rfl
            have gf := hB.free
            have gl := hB.lt
            go_wp2_with fail
            go_ret
            refine ⟨⟨true, rfl, fun _ => .leaf _ _ (.inr rfl) (fun p hp => HP.out p (by simpa using hp))⟩, ?_⟩
            with_reducible (repeat first | exact Kx.r _ | assumption | refine Kx.a ?_ _ | refine Kx.d ?_ | refine Kx.e ?_ _ | refine Kx.s (by simp <;> omega) ?_ _ | refine Kx.t ?_ (by assumption))
          · have hk1 : ¬ ((kn : Int) = 0) := by omega
            have g0 := hB.cell (i := 0) rfl
            have g1 := hB.cell (i := 1) rfl
            have g2 := hB.cell (i := 2) rfl
            have gf := hB.free
            have gl := hB.lt
            go_wp2_with fail
            go_ret
            refine ⟨⟨false, rfl, fun h => by simp at h⟩, ?_⟩
            with_reducible (repeat first | exact Kx.r _ | assumption | refine Kx.a ?_ _ | refine Kx.d ?_ | refine Kx.e ?_ _ | refine Kx.s (by simp <;> omega) ?_ _ | refine Kx.t ?_ (by assumption))
        · subst hkind
          have HN := Lib.hid hn
          clear hn
          have g0 := hB.cell (i := 0) rfl
          have g1 := hB.cell (i := 1) rfl
          have g2 := hB.cell (i := 2) rfl
          have gf := hB.free
          have gl := hB.lt
          go_wp2_with fail
          clear g0 g1 g2 gf gl
          obtain ⟨wo, rfl⟩ : ∃ wo, wo = wr := ⟨_, rfl⟩
          go_loopw [65] (fun iv wr => ∃ k : Nat, k ≤ kn ∧ iv = .int .i64 k ∧ Stab.Keeps w wr ∧ Blk wr w.heap.size 25 [.int .i64 (0), .slice pa pn pc, .slice ka kn kc] ∧ ∀ x ∈ kids.take k, goodKid 0 x.hd.kind ∧ x.Formed64) (fun i _ => kn - (intOf i).toNat)
          case atStart => exact ⟨0, Nat.zero_le _, rfl, hK, hB, by simp⟩
          case round =>
            clear hK hB
            obtain ⟨k, hk, rfl, hK, hB, hP⟩ := hrel
            have HQ := Lib.hid hP
            clear hP
            have g0 := hB.cell (i := 0) rfl
            have g1 := hB.cell (i := 1) rfl
            have g2 := hB.cell (i := 2) rfl
            have gf := hB.free
            have gl := hB.lt
            by_cases hlt : k < kn
            · obtain ⟨b, off, ha, hb, hc⟩ := (s2.keep hK).elem hlt
              subst ha
              have hki : k < kids.length := by omega
              obtain ⟨c0, c1, c2⟩ := skid_cells (kn := kn) hki hc
              have HT := Lib.hid (List.take_succ_eq_append_getElem hki)
              clear hc
              have hI := fun w' => ih kids[k] (List.getElem_mem _) (m - 1) w' (by omega) (by omega)
              generalize kids[k] = x at *
              obtain ⟨⟨xk, xpa, xpn, xpc, xka, xkn, xkc⟩, xpts, xkids⟩ := x
              simp only [ST.hd, Sm.val] at c0 c1 c2 hI
              go_wp2_with fail
              refine (hI _ ?_).mono ?_
              · with_reducible (repeat first | exact Kx.r _ | assumption | refine Kx.a ?_ _ | refine Kx.d ?_ | refine Kx.e ?_ _ | refine Kx.s (by simp <;> omega) ?_ _ | refine Kx.t ?_ (by assumption))
              rintro e w3 ⟨⟨v, rfl, hv⟩, hk3⟩
              clear hI
              have HV := Lib.hid hv
              clear hv
              cases v with
              | false =>
                go_wp2_with fail
                go_ret
                refine ⟨⟨false, rfl, fun h => by simp at h⟩, ?_⟩
                with_reducible (repeat first | exact Kx.r _ | assumption | refine Kx.a ?_ _ | refine Kx.d ?_ | refine Kx.e ?_ _ | refine Kx.s (by simp <;> omega) ?_ _ | refine Kx.t ?_ (by assumption))
              | true =>
                have hB3 := (show Blk _ w.heap.size 25 [.int .i64 (0), .slice pa pn pc, .slice (some ⟨b, off, none⟩) kn kc] from by with_reducible (repeat first | assumption | (refine Bx.n ⟨?_, ?_⟩ <;> focus (first | rfl | (simp; done) | omega)) | refine Bx.a ?_ _ | refine Bx.d ?_ | refine Bx.e ?_ _ | refine Bx.p (by first | omega | simp <;> omega) ?_)).keep hk3
                have hk9 : Stab.Keeps w w3 := by with_reducible (repeat first | exact Kx.r _ | assumption | refine Kx.a ?_ _ | refine Kx.d ?_ | refine Kx.e ?_ _ | refine Kx.s (by simp <;> omega) ?_ _ | refine Kx.t ?_ (by assumption))
                go_wp2_with fail
                refine ⟨⟨k + 1, by omega, by go_num, hk9, hB3, fun y hy => ?_⟩, by simp [intOf]; omega⟩
                rw [HT.out] at hy
                rcases List.mem_append.1 hy with h | h
                · exact HQ.out y h
                · obtain rfl := List.mem_singleton.1 h
                  exact ⟨.inl rfl, HV.out trivial⟩
            · have hkn2 : kn = k := by omega
              subst hkn2
              rw [List.take_of_length_le (by omega)] at HQ
              by_cases hp0 : pn = 0
              · subst hp0
                obtain rfl : pts = [] := List.eq_nil_of_length_eq_zero HN.out
                go_wp2_with fail
                go_ret
                refine ⟨⟨true, rfl, fun _ => .many _ _ (by simp) (fun y hy => (HQ.out y hy).1) (fun y hy => (HQ.out y hy).2)⟩, ?_⟩
                with_reducible (repeat first | exact Kx.r _ | assumption | refine Kx.a ?_ _ | refine Kx.d ?_ | refine Kx.e ?_ _ | refine Kx.s (by simp <;> omega) ?_ _ | refine Kx.t ?_ (by assumption))
              · have hp1 : ((pn : Int) == 0) = false := by simp; omega
                go_wp2_with fail
                go_ret
                refine ⟨⟨false, rfl, fun h => by simp at h⟩, ?_⟩
                with_reducible (repeat first | exact Kx.r _ | assumption | refine Kx.a ?_ _ | refine Kx.d ?_ | refine Kx.e ?_ _ | refine Kx.s (by simp <;> omega) ?_ _ | refine Kx.t ?_ (by assumption))
        · subst hkind
          have HN := Lib.hid hn
          clear hn
          have g0 := hB.cell (i := 0) rfl
          have g1 := hB.cell (i := 1) rfl
          have g2 := hB.cell (i := 2) rfl
          have gf := hB.free
          have gl := hB.lt
          go_wp2_with fail
          clear g0 g1 g2 gf gl
          obtain ⟨wo, rfl⟩ : ∃ wo, wo = wr := ⟨_, rfl⟩
          go_loopw [65] (fun iv wr => ∃ k : Nat, k ≤ kn ∧ iv = .int .i64 k ∧ Stab.Keeps w wr ∧ Blk wr w.heap.size 25 [.int .i64 (3), .slice pa pn pc, .slice ka kn kc] ∧ ∀ x ∈ kids.take k, goodKid 3 x.hd.kind ∧ x.Formed64) (fun i _ => kn - (intOf i).toNat)
          case atStart => exact ⟨0, Nat.zero_le _, rfl, hK, hB, by simp⟩
          case round =>
            clear hK hB
            obtain ⟨k, hk, rfl, hK, hB, hP⟩ := hrel
            have HQ := Lib.hid hP
            clear hP
            have g0 := hB.cell (i := 0) rfl
            have g1 := hB.cell (i := 1) rfl
            have g2 := hB.cell (i := 2) rfl
            have gf := hB.free
            have gl := hB.lt
            by_cases hlt : k < kn
            · obtain ⟨b, off, ha, hb, hc⟩ := (s2.keep hK).elem hlt
              subst ha
              have hki : k < kids.length := by omega
              obtain ⟨c0, c1, c2⟩ := skid_cells (kn := kn) hki hc
              have HT := Lib.hid (List.take_succ_eq_append_getElem hki)
              clear hc
              have hI := fun w' => ih kids[k] (List.getElem_mem _) (m - 1) w' (by omega) (by omega)
              generalize kids[k] = x at *
              obtain ⟨⟨xk, xpa, xpn, xpc, xka, xkn, xkc⟩, xpts, xkids⟩ := x
              simp only [ST.hd, Sm.val] at c0 c1 c2 hI
              by_cases hx : xk = 2
              · subst hx
                go_wp2_with fail
                refine (hI _ ?_).mono ?_
                · with_reducible (repeat first | exact Kx.r _ | assumption | refine Kx.a ?_ _ | refine Kx.d ?_ | refine Kx.e ?_ _ | refine Kx.s (by simp <;> omega) ?_ _ | refine Kx.t ?_ (by assumption))
                rintro e w3 ⟨⟨v, rfl, hv⟩, hk3⟩
                clear hI
                have HV := Lib.hid hv
                clear hv
                cases v with
                | false =>
                  go_wp2_with fail
                  go_ret
                  refine ⟨⟨false, rfl, fun h => by simp at h⟩, ?_⟩
                  with_reducible (repeat first | exact Kx.r _ | assumption | refine Kx.a ?_ _ | refine Kx.d ?_ | refine Kx.e ?_ _ | refine Kx.s (by simp <;> omega) ?_ _ | refine Kx.t ?_ (by assumption))
                | true =>
                  have hB3 := (show Blk _ w.heap.size 25 [.int .i64 (3), .slice pa pn pc, .slice (some ⟨b, off, none⟩) kn kc] from by with_reducible (repeat first | assumption | (refine Bx.n ⟨?_, ?_⟩ <;> focus (first | rfl | (simp; done) | omega)) | refine Bx.a ?_ _ | refine Bx.d ?_ | refine Bx.e ?_ _ | refine Bx.p (by first | omega | simp <;> omega) ?_)).keep hk3
                  have hk9 : Stab.Keeps w w3 := by with_reducible (repeat first | exact Kx.r _ | assumption | refine Kx.a ?_ _ | refine Kx.d ?_ | refine Kx.e ?_ _ | refine Kx.s (by simp <;> omega) ?_ _ | refine Kx.t ?_ (by assumption))
                  go_wp2_with fail
                  refine ⟨⟨k + 1, by omega, by go_num, hk9, hB3, fun y hy => ?_⟩, by simp [intOf]; omega⟩
                  rw [HT.out] at hy
                  rcases List.mem_append.1 hy with h | h
                  · exact HQ.out y h
                  · obtain rfl := List.mem_singleton.1 h
                    exact ⟨.inr (.inl ⟨rfl, rfl⟩), HV.out trivial⟩
              · clear hI HT
                go_wp2_with fail
                go_ret
                refine ⟨⟨false, rfl, fun h => by simp at h⟩, ?_⟩
                with_reducible (repeat first | exact Kx.r _ | assumption | refine Kx.a ?_ _ | refine Kx.d ?_ | refine Kx.e ?_ _ | refine Kx.s (by simp <;> omega) ?_ _ | refine Kx.t ?_ (by assumption))
            · have hkn2 : kn = k := by omega
              subst hkn2
              rw [List.take_of_length_le (by omega)] at HQ
              by_cases hp0 : pn = 0
              · subst hp0
                obtain rfl : pts = [] := List.eq_nil_of_length_eq_zero HN.out
                go_wp2_with fail
                go_ret
                refine ⟨⟨true, rfl, fun _ => .many _ _ (by simp) (fun y hy => (HQ.out y hy).1) (fun y hy => (HQ.out y hy).2)⟩, ?_⟩
                with_reducible (repeat first | exact Kx.r _ | assumption | refine Kx.a ?_ _ | refine Kx.d ?_ | refine Kx.e ?_ _ | refine Kx.s (by simp <;> omega) ?_ _ | refine Kx.t ?_ (by assumption))
              · have hp1 : ((pn : Int) == 0) = false := by simp; omega
                go_wp2_with fail
                go_ret
                refine ⟨⟨false, rfl, fun h => by simp at h⟩, ?_⟩
                with_reducible (repeat first | exact Kx.r _ | assumption | refine Kx.a ?_ _ | refine Kx.d ?_ | refine Kx.e ?_ _ | refine Kx.s (by simp <;> omega) ?_ _ | refine Kx.t ?_ (by assumption))
        · subst hkind
          have HN := Lib.hid hn
          clear hn
          have g0 := hB.cell (i := 0) rfl
          have g1 := hB.cell (i := 1) rfl
          have g2 := hB.cell (i := 2) rfl
          have gf := hB.free
          have gl := hB.lt
          go_wp2_with fail
          clear g0 g1 g2 gf gl
          obtain ⟨wo, rfl⟩ : ∃ wo, wo = wr := ⟨_, rfl⟩
          go_loopw [65] (fun iv wr => ∃ k : Nat, k ≤ kn ∧ iv = .int .i64 k ∧ Stab.Keeps w wr ∧ Blk wr w.heap.size 25 [.int .i64 (4), .slice pa pn pc, .slice ka kn kc] ∧ ∀ x ∈ kids.take k, goodKid 4 x.hd.kind ∧ x.Formed64) (fun i _ => kn - (intOf i).toNat)
          case atStart => exact ⟨0, Nat.zero_le _, rfl, hK, hB, by simp⟩
          case round =>
            clear hK hB
            obtain ⟨k, hk, rfl, hK, hB, hP⟩ := hrel
            have HQ := Lib.hid hP
            clear hP
            have g0 := hB.cell (i := 0) rfl
            have g1 := hB.cell (i := 1) rfl
            have g2 := hB.cell (i := 2) rfl
            have gf := hB.free
            have gl := hB.lt
            by_cases hlt : k < kn
            · obtain ⟨b, off, ha, hb, hc⟩ := (s2.keep hK).elem hlt
              subst ha
              have hki : k < kids.length := by omega
              obtain ⟨c0, c1, c2⟩ := skid_cells (kn := kn) hki hc
              have HT := Lib.hid (List.take_succ_eq_append_getElem hki)
              clear hc
              have hI := fun w' => ih kids[k] (List.getElem_mem _) (m - 1) w' (by omega) (by omega)
              generalize kids[k] = x at *
              obtain ⟨⟨xk, xpa, xpn, xpc, xka, xkn, xkc⟩, xpts, xkids⟩ := x
              simp only [ST.hd, Sm.val] at c0 c1 c2 hI
              by_cases hx : xk = 1
              · subst hx
                go_wp2_with fail
                refine (hI _ ?_).mono ?_
                · with_reducible (repeat first | exact Kx.r _ | assumption | refine Kx.a ?_ _ | refine Kx.d ?_ | refine Kx.e ?_ _ | refine Kx.s (by simp <;> omega) ?_ _ | refine Kx.t ?_ (by assumption))
                rintro e w3 ⟨⟨v, rfl, hv⟩, hk3⟩
                clear hI
                have HV := Lib.hid hv
                clear hv
                cases v with
                | false =>
                  go_wp2_with fail
                  go_ret
                  refine ⟨⟨false, rfl, fun h => by simp at h⟩, ?_⟩
                  with_reducible (repeat first | exact Kx.r _ | assumption | refine Kx.a ?_ _ | refine Kx.d ?_ | refine Kx.e ?_ _ | refine Kx.s (by simp <;> omega) ?_ _ | refine Kx.t ?_ (by assumption))
                | true =>
                  have hB3 := (show Blk _ w.heap.size 25 [.int .i64 (4), .slice pa pn pc, .slice (some ⟨b, off, none⟩) kn kc] from by with_reducible (repeat first | assumption | (refine Bx.n ⟨?_, ?_⟩ <;> focus (first | rfl | (simp; done) | omega)) | refine Bx.a ?_ _ | refine Bx.d ?_ | refine Bx.e ?_ _ | refine Bx.p (by first | omega | simp <;> omega) ?_)).keep hk3
                  have hk9 : Stab.Keeps w w3 := by with_reducible (repeat first | exact Kx.r _ | assumption | refine Kx.a ?_ _ | refine Kx.d ?_ | refine Kx.e ?_ _ | refine Kx.s (by simp <;> omega) ?_ _ | refine Kx.t ?_ (by assumption))
                  go_wp2_with fail
                  refine ⟨⟨k + 1, by omega, by go_num, hk9, hB3, fun y hy => ?_⟩, by simp [intOf]; omega⟩
                  rw [HT.out] at hy
                  rcases List.mem_append.1 hy with h | h
                  · exact HQ.out y h
                  · obtain rfl := List.mem_singleton.1 h
                    exact ⟨.inr (.inr ⟨by decide, rfl⟩), HV.out trivial⟩
              · clear hI HT
                go_wp2_with fail
                go_ret
                refine ⟨⟨false, rfl, fun h => by simp at h⟩, ?_⟩
                with_reducible (repeat first | exact Kx.r _ | assumption | refine Kx.a ?_ _ | refine Kx.d ?_ | refine Kx.e ?_ _ | refine Kx.s (by simp <;> omega) ?_ _ | refine Kx.t ?_ (by assumption))
            · have hkn2 : kn = k := by omega
              subst hkn2
              rw [List.take_of_length_le (by omega)] at HQ
              by_cases hp0 : pn = 0
              · subst hp0
                obtain rfl : pts = [] := List.eq_nil_of_length_eq_zero HN.out
                go_wp2_with fail
                go_ret
                refine ⟨⟨true, rfl, fun _ => .many _ _ (by simp) (fun y hy => (HQ.out y hy).1) (fun y hy => (HQ.out y hy).2)⟩, ?_⟩
                with_reducible (repeat first | exact Kx.r _ | assumption | refine Kx.a ?_ _ | refine Kx.d ?_ | refine Kx.e ?_ _ | refine Kx.s (by simp <;> omega) ?_ _ | refine Kx.t ?_ (by assumption))
              · have hp1 : ((pn : Int) == 0) = false := by simp; omega
                go_wp2_with fail
                go_ret
                refine ⟨⟨false, rfl, fun h => by simp at h⟩, ?_⟩
                with_reducible (repeat first | exact Kx.r _ | assumption | refine Kx.a ?_ _ | refine Kx.d ?_ | refine Kx.e ?_ _ | refine Kx.s (by simp <;> omega) ?_ _ | refine Kx.t ?_ (by assumption))
        · subst hkind
          have HN := Lib.hid hn
          clear hn
          have g0 := hB.cell (i := 0) rfl
          have g1 := hB.cell (i := 1) rfl
          have g2 := hB.cell (i := 2) rfl
          have gf := hB.free
          have gl := hB.lt
          go_wp2_with fail
          clear g0 g1 g2 gf gl
          obtain ⟨wo, rfl⟩ : ∃ wo, wo = wr := ⟨_, rfl⟩
          go_loopw [65] (fun iv wr => ∃ k : Nat, k ≤ kn ∧ iv = .int .i64 k ∧ Stab.Keeps w wr ∧ Blk wr w.heap.size 25 [.int .i64 (5), .slice pa pn pc, .slice ka kn kc] ∧ ∀ x ∈ kids.take k, goodKid 5 x.hd.kind ∧ x.Formed64) (fun i _ => kn - (intOf i).toNat)
          case atStart => exact ⟨0, Nat.zero_le _, rfl, hK, hB, by simp⟩
          case round =>
            clear hK hB
            obtain ⟨k, hk, rfl, hK, hB, hP⟩ := hrel
            have HQ := Lib.hid hP
            clear hP
            have g0 := hB.cell (i := 0) rfl
            have g1 := hB.cell (i := 1) rfl
            have g2 := hB.cell (i := 2) rfl
            have gf := hB.free
            have gl := hB.lt
            by_cases hlt : k < kn
            · obtain ⟨b, off, ha, hb, hc⟩ := (s2.keep hK).elem hlt
              subst ha
              have hki : k < kids.length := by omega
              obtain ⟨c0, c1, c2⟩ := skid_cells (kn := kn) hki hc
              have HT := Lib.hid (List.take_succ_eq_append_getElem hki)
              clear hc
              have hI := fun w' => ih kids[k] (List.getElem_mem _) (m - 1) w' (by omega) (by omega)
              generalize kids[k] = x at *
              obtain ⟨⟨xk, xpa, xpn, xpc, xka, xkn, xkc⟩, xpts, xkids⟩ := x
              simp only [ST.hd, Sm.val] at c0 c1 c2 hI
              by_cases hx : xk = 2
              · subst hx
                go_wp2_with fail
                refine (hI _ ?_).mono ?_
                · with_reducible (repeat first | exact Kx.r _ | assumption | refine Kx.a ?_ _ | refine Kx.d ?_ | refine Kx.e ?_ _ | refine Kx.s (by simp <;> omega) ?_ _ | refine Kx.t ?_ (by assumption))
                rintro e w3 ⟨⟨v, rfl, hv⟩, hk3⟩
                clear hI
                have HV := Lib.hid hv
                clear hv
                cases v with
                | false =>
                  go_wp2_with fail
                  go_ret
                  refine ⟨⟨false, rfl, fun h => by simp at h⟩, ?_⟩
                  with_reducible (repeat first | exact Kx.r _ | assumption | refine Kx.a ?_ _ | refine Kx.d ?_ | refine Kx.e ?_ _ | refine Kx.s (by simp <;> omega) ?_ _ | refine Kx.t ?_ (by assumption))
                | true =>
                  have hB3 := (show Blk _ w.heap.size 25 [.int .i64 (5), .slice pa pn pc, .slice (some ⟨b, off, none⟩) kn kc] from by with_reducible (repeat first | assumption | (refine Bx.n ⟨?_, ?_⟩ <;> focus (first | rfl | (simp; done) | omega)) | refine Bx.a ?_ _ | refine Bx.d ?_ | refine Bx.e ?_ _ | refine Bx.p (by first | omega | simp <;> omega) ?_)).keep hk3
                  have hk9 : Stab.Keeps w w3 := by with_reducible (repeat first | exact Kx.r _ | assumption | refine Kx.a ?_ _ | refine Kx.d ?_ | refine Kx.e ?_ _ | refine Kx.s (by simp <;> omega) ?_ _ | refine Kx.t ?_ (by assumption))
                  go_wp2_with fail
                  refine ⟨⟨k + 1, by omega, by go_num, hk9, hB3, fun y hy => ?_⟩, by simp [intOf]; omega⟩
                  rw [HT.out] at hy
                  rcases List.mem_append.1 hy with h | h
                  · exact HQ.out y h
                  · obtain rfl := List.mem_singleton.1 h
                    exact ⟨.inr (.inr ⟨by decide, rfl⟩), HV.out trivial⟩
              · clear hI HT
                go_wp2_with fail
                go_ret
                refine ⟨⟨false, rfl, fun h => by simp at h⟩, ?_⟩
                with_reducible (repeat first | exact Kx.r _ | assumption | refine Kx.a ?_ _ | refine Kx.d ?_ | refine Kx.e ?_ _ | refine Kx.s (by simp <;> omega) ?_ _ | refine Kx.t ?_ (by assumption))
            · have hkn2 : kn = k := by omega
              subst hkn2
              rw [List.take_of_length_le (by omega)] at HQ
              by_cases hp0 : pn = 0
              · subst hp0
                obtain rfl : pts = [] := List.eq_nil_of_length_eq_zero HN.out
                go_wp2_with fail
                go_ret
                refine ⟨⟨true, rfl, fun _ => .many _ _ (by simp) (fun y hy => (HQ.out y hy).1) (fun y hy => (HQ.out y hy).2)⟩, ?_⟩
                with_reducible (repeat first | exact Kx.r _ | assumption | refine Kx.a ?_ _ | refine Kx.d ?_ | refine Kx.e ?_ _ | refine Kx.s (by simp <;> omega) ?_ _ | refine Kx.t ?_ (by assumption))
              · have hp1 : ((pn : Int) == 0) = false := by simp; omega
                go_wp2_with fail
                go_ret
                refine ⟨⟨false, rfl, fun h => by simp at h⟩, ?_⟩
                with_reducible (repeat first | exact Kx.r _ | assumption | refine Kx.a ?_ _ | refine Kx.d ?_ | refine Kx.e ?_ _ | refine Kx.s (by simp <;> omega) ?_ _ | refine Kx.t ?_ (by assumption))
        · subst hkind
          have HN := Lib.hid hn
          clear hn
          have g0 := hB.cell (i := 0) rfl
          have g1 := hB.cell (i := 1) rfl
          have g2 := hB.cell (i := 2) rfl
          have gf := hB.free
          have gl := hB.lt
          go_wp2_with fail
          clear g0 g1 g2 gf gl
          obtain ⟨wo, rfl⟩ : ∃ wo, wo = wr := ⟨_, rfl⟩
          go_loopw [65] (fun iv wr => ∃ k : Nat, k ≤ kn ∧ iv = .int .i64 k ∧ Stab.Keeps w wr ∧ Blk wr w.heap.size 25 [.int .i64 (6), .slice pa pn pc, .slice ka kn kc] ∧ ∀ x ∈ kids.take k, goodKid 6 x.hd.kind ∧ x.Formed64) (fun i _ => kn - (intOf i).toNat)
          case atStart => exact ⟨0, Nat.zero_le _, rfl, hK, hB, by simp⟩
          case round =>
            clear hK hB
            obtain ⟨k, hk, rfl, hK, hB, hP⟩ := hrel
            have HQ := Lib.hid hP
            clear hP
            have g0 := hB.cell (i := 0) rfl
            have g1 := hB.cell (i := 1) rfl
            have g2 := hB.cell (i := 2) rfl
            have gf := hB.free
            have gl := hB.lt
            by_cases hlt : k < kn
            · obtain ⟨b, off, ha, hb, hc⟩ := (s2.keep hK).elem hlt
              subst ha
              have hki : k < kids.length := by omega
              obtain ⟨c0, c1, c2⟩ := skid_cells (kn := kn) hki hc
              have HT := Lib.hid (List.take_succ_eq_append_getElem hki)
              clear hc
              have hI := fun w' => ih kids[k] (List.getElem_mem _) (m - 1) w' (by omega) (by omega)
              generalize kids[k] = x at *
              obtain ⟨⟨xk, xpa, xpn, xpc, xka, xkn, xkc⟩, xpts, xkids⟩ := x
              simp only [ST.hd, Sm.val] at c0 c1 c2 hI
              by_cases hx : xk = 3
              · subst hx
                go_wp2_with fail
                refine (hI _ ?_).mono ?_
                · with_reducible (repeat first | exact Kx.r _ | assumption | refine Kx.a ?_ _ | refine Kx.d ?_ | refine Kx.e ?_ _ | refine Kx.s (by simp <;> omega) ?_ _ | refine Kx.t ?_ (by assumption))
                rintro e w3 ⟨⟨v, rfl, hv⟩, hk3⟩
                clear hI
                have HV := Lib.hid hv
                clear hv
                cases v with
                | false =>
                  go_wp2_with fail
                  go_ret
                  refine ⟨⟨false, rfl, fun h => by simp at h⟩, ?_⟩
                  with_reducible (repeat first | exact Kx.r _ | assumption | refine Kx.a ?_ _ | refine Kx.d ?_ | refine Kx.e ?_ _ | refine Kx.s (by simp <;> omega) ?_ _ | refine Kx.t ?_ (by assumption))
                | true =>
                  have hB3 := (show Blk _ w.heap.size 25 [.int .i64 (6), .slice pa pn pc, .slice (some ⟨b, off, none⟩) kn kc] from by with_reducible (repeat first | assumption | (refine Bx.n ⟨?_, ?_⟩ <;> focus (first | rfl | (simp; done) | omega)) | refine Bx.a ?_ _ | refine Bx.d ?_ | refine Bx.e ?_ _ | refine Bx.p (by first | omega | simp <;> omega) ?_)).keep hk3
                  have hk9 : Stab.Keeps w w3 := by with_reducible (repeat first | exact Kx.r _ | assumption | refine Kx.a ?_ _ | refine Kx.d ?_ | refine Kx.e ?_ _ | refine Kx.s (by simp <;> omega) ?_ _ | refine Kx.t ?_ (by assumption))
                  go_wp2_with fail
                  refine ⟨⟨k + 1, by omega, by go_num, hk9, hB3, fun y hy => ?_⟩, by simp [intOf]; omega⟩
                  rw [HT.out] at hy
                  rcases List.mem_append.1 hy with h | h
                  · exact HQ.out y h
                  · obtain rfl := List.mem_singleton.1 h
                    exact ⟨.inr (.inr ⟨by decide, rfl⟩), HV.out trivial⟩
              · clear hI HT
                go_wp2_with fail
                go_ret
                refine ⟨⟨false, rfl, fun h => by simp at h⟩, ?_⟩
                with_reducible (repeat first | exact Kx.r _ | assumption | refine Kx.a ?_ _ | refine Kx.d ?_ | refine Kx.e ?_ _ | refine Kx.s (by simp <;> omega) ?_ _ | refine Kx.t ?_ (by assumption))
            · have hkn2 : kn = k := by omega
              subst hkn2
              rw [List.take_of_length_le (by omega)] at HQ
              by_cases hp0 : pn = 0
              · subst hp0
                obtain rfl : pts = [] := List.eq_nil_of_length_eq_zero HN.out
                go_wp2_with fail
                go_ret
                refine ⟨⟨true, rfl, fun _ => .many _ _ (by simp) (fun y hy => (HQ.out y hy).1) (fun y hy => (HQ.out y hy).2)⟩, ?_⟩
                with_reducible (repeat first | exact Kx.r _ | assumption | refine Kx.a ?_ _ | refine Kx.d ?_ | refine Kx.e ?_ _ | refine Kx.s (by simp <;> omega) ?_ _ | refine Kx.t ?_ (by assumption))
              · have hp1 : ((pn : Int) == 0) = false := by simp; omega
                go_wp2_with fail
                go_ret
                refine ⟨⟨false, rfl, fun h => by simp at h⟩, ?_⟩
                with_reducible (repeat first | exact Kx.r _ | assumption | refine Kx.a ?_ _ | refine Kx.d ?_ | refine Kx.e ?_ _ | refine Kx.s (by simp <;> omega) ?_ _ | refine Kx.t ?_ (by assumption))
        · have e1 : ¬ kind = 1 := by omega
          have b1 : (kind == 1) = false := by simp; omega
          have e2 : ¬ kind = 2 := by omega
          have b2 : (kind == 2) = false := by simp; omega
          have e0 : ¬ kind = 0 := by omega
          have b0 : (kind == 0) = false := by simp; omega
          have e3 : ¬ kind = 3 := by omega
          have b3 : (kind == 3) = false := by simp; omega
          have e4 : ¬ 3 < kind := by omega
          have b4 : decide (3 < kind) = false := by simp; omega
          have e5 : ¬ 0 ≤ kind := by omega
          have b5 : decide (0 ≤ kind) = false := by simp; omega
          have e6 : kind < 0 := by omega
          have HN := Lib.hid hn
          clear hn
          have g0 := hB.cell (i := 0) rfl
          have g1 := hB.cell (i := 1) rfl
          have g2 := hB.cell (i := 2) rfl
          have gf := hB.free
          have gl := hB.lt
          go_wp2_with fail
          clear g0 g1 g2 gf gl
          obtain ⟨wo, rfl⟩ : ∃ wo, wo = wr := ⟨_, rfl⟩
          go_loopw [65] (fun iv wr => ∃ k : Nat, k ≤ kn ∧ iv = .int .i64 k ∧ Stab.Keeps w wr ∧ Blk wr w.heap.size 25 [.int .i64 kind, .slice pa pn pc, .slice ka kn kc] ∧ ∀ x ∈ kids.take k, goodKid kind x.hd.kind ∧ x.Formed64) (fun i _ => kn - (intOf i).toNat)
          case atStart => exact ⟨0, Nat.zero_le _, rfl, hK, hB, by simp⟩
          case round =>
            clear hK hB
            obtain ⟨k, hk, rfl, hK, hB, hP⟩ := hrel
            have HQ := Lib.hid hP
            clear hP
            have g0 := hB.cell (i := 0) rfl
            have g1 := hB.cell (i := 1) rfl
            have g2 := hB.cell (i := 2) rfl
            have gf := hB.free
            have gl := hB.lt
            by_cases hlt : k < kn
            · obtain ⟨b, off, ha, hb, hc⟩ := (s2.keep hK).elem hlt
              subst ha
              have hki : k < kids.length := by omega
              obtain ⟨c0, c1, c2⟩ := skid_cells (kn := kn) hki hc
              have HT := Lib.hid (List.take_succ_eq_append_getElem hki)
              clear hc
              clear HT ih
              generalize kids[k] = x at *
              obtain ⟨⟨xk, xpa, xpn, xpc, xka, xkn, xkc⟩, xpts, xkids⟩ := x
              simp only [ST.hd] at c0 c1 c2
              go_wp2_with fail
              go_ret
              refine ⟨⟨false, rfl, fun h => by simp at h⟩, ?_⟩
              with_reducible (repeat first | exact Kx.r _ | assumption | refine Kx.a ?_ _ | refine Kx.d ?_ | refine Kx.e ?_ _ | refine Kx.s (by simp <;> omega) ?_ _ | refine Kx.t ?_ (by assumption))
            · have hkn2 : kn = k := by omega
              subst hkn2
              rw [List.take_of_length_le (by omega)] at HQ
              go_wp2_with fail
              go_ret
              refine ⟨⟨false, rfl, fun h => by simp at h⟩, ?_⟩
              with_reducible (repeat first | exact Kx.r _ | assumption | refine Kx.a ?_ _ | refine Kx.d ?_ | refine Kx.e ?_ _ | refine Kx.s (by simp <;> omega) ?_ _ | refine Kx.t ?_ (by assumption))
        · have e1 : ¬ kind = 1 := by omega
          have b1 : (kind == 1) = false := by simp; omega
          have e2 : ¬ kind = 2 := by omega
          have b2 : (kind == 2) = false := by simp; omega
          have e0 : ¬ kind = 0 := by omega
          have b0 : (kind == 0) = false := by simp; omega
          have e3 : ¬ kind = 3 := by omega
          have b3 : (kind == 3) = false := by simp; omega
          have e4 : 3 < kind := by omega
          have b4 : decide (3 < kind) = true := by simp; omega
          have e5 : 0 ≤ kind := by omega
          have b5 : decide (0 ≤ kind) = true := by simp; omega
          have e6 : ¬ kind ≤ 6 := by omega
          have b6 : decide (kind ≤ 6) = false := by simp; omega
          have HN := Lib.hid hn
          clear hn
          have g0 := hB.cell (i := 0) rfl
          have g1 := hB.cell (i := 1) rfl
          have g2 := hB.cell (i := 2) rfl
          have gf := hB.free
          have gl := hB.lt
          go_wp2_with fail
          clear g0 g1 g2 gf gl
          obtain ⟨wo, rfl⟩ : ∃ wo, wo = wr := ⟨_, rfl⟩
          go_loopw [65] (fun iv wr => ∃ k : Nat, k ≤ kn ∧ iv = .int .i64 k ∧ Stab.Keeps w wr ∧ Blk wr w.heap.size 25 [.int .i64 kind, .slice pa pn pc, .slice ka kn kc] ∧ ∀ x ∈ kids.take k, True) (fun i _ => kn - (intOf i).toNat)
          case atStart => exact ⟨0, Nat.zero_le _, rfl, hK, hB, by simp⟩
          case round =>
            clear hK hB
            obtain ⟨k, hk, rfl, hK, hB, hP⟩ := hrel
            have HQ := Lib.hid hP
            clear hP
            have g0 := hB.cell (i := 0) rfl
            have g1 := hB.cell (i := 1) rfl
            have g2 := hB.cell (i := 2) rfl
            have gf := hB.free
            have gl := hB.lt
            by_cases hlt : k < kn
            · obtain ⟨b, off, ha, hb, hc⟩ := (s2.keep hK).elem hlt
              subst ha
              have hki : k < kids.length := by omega
              obtain ⟨c0, c1, c2⟩ := skid_cells (kn := kn) hki hc
              have HT := Lib.hid (List.take_succ_eq_append_getElem hki)
              clear hc
              have hI := fun w' => ih kids[k] (List.getElem_mem _) (m - 1) w' (by omega) (by omega)
              generalize kids[k] = x at *
              obtain ⟨⟨xk, xpa, xpn, xpc, xka, xkn, xkc⟩, xpts, xkids⟩ := x
              simp only [ST.hd, Sm.val] at c0 c1 c2 hI
              obtain ⟨q, hq⟩ : ∃ q, wrap64 (kind - 3) = q := ⟨_, rfl⟩
              by_cases hx : xk = q
              · subst hx
                go_wp2_with fail
                refine (hI _ ?_).mono ?_
                · with_reducible (repeat first | exact Kx.r _ | assumption | refine Kx.a ?_ _ | refine Kx.d ?_ | refine Kx.e ?_ _ | refine Kx.s (by simp <;> omega) ?_ _ | refine Kx.t ?_ (by assumption))
                rintro e w3 ⟨⟨v, rfl, hv⟩, hk3⟩
                clear hI
                have HV := Lib.hid hv
                clear hv
                cases v with
                | false =>
                  go_wp2_with fail
                  go_ret
                  refine ⟨⟨false, rfl, fun h => by simp at h⟩, ?_⟩
                  with_reducible (repeat first | exact Kx.r _ | assumption | refine Kx.a ?_ _ | refine Kx.d ?_ | refine Kx.e ?_ _ | refine Kx.s (by simp <;> omega) ?_ _ | refine Kx.t ?_ (by assumption))
                | true =>
                  have hB3 := (show Blk _ w.heap.size 25 [.int .i64 kind, .slice pa pn pc, .slice (some ⟨b, off, none⟩) kn kc] from by with_reducible (repeat first | assumption | (refine Bx.n ⟨?_, ?_⟩ <;> focus (first | rfl | (simp; done) | omega)) | refine Bx.a ?_ _ | refine Bx.d ?_ | refine Bx.e ?_ _ | refine Bx.p (by first | omega | simp <;> omega) ?_)).keep hk3
                  have hk9 : Stab.Keeps w w3 := by with_reducible (repeat first | exact Kx.r _ | assumption | refine Kx.a ?_ _ | refine Kx.d ?_ | refine Kx.e ?_ _ | refine Kx.s (by simp <;> omega) ?_ _ | refine Kx.t ?_ (by assumption))
                  go_wp2_with fail
                  refine ⟨⟨k + 1, by omega, by go_num, hk9, hB3, fun y hy => ?_⟩, by simp [intOf]; omega⟩
                  rw [HT.out] at hy
                  rcases List.mem_append.1 hy with h | h
                  · exact HQ.out y h
                  · obtain rfl := List.mem_singleton.1 h
                    exact trivial
              · clear hI HT
                go_wp2_with fail
                go_ret
                refine ⟨⟨false, rfl, fun h => by simp at h⟩, ?_⟩
                with_reducible (repeat first | exact Kx.r _ | assumption | refine Kx.a ?_ _ | refine Kx.d ?_ | refine Kx.e ?_ _ | refine Kx.s (by simp <;> omega) ?_ _ | refine Kx.t ?_ (by assumption))
            · have hkn2 : kn = k := by omega
              subst hkn2
              rw [List.take_of_length_le (by omega)] at HQ
              go_wp2_with fail
              go_ret
              refine ⟨⟨false, rfl, fun h => by simp at h⟩, ?_⟩
              with_reducible (repeat first | exact Kx.r _ | assumption | refine Kx.a ?_ _ | refine Kx.d ?_ | refine Kx.e ?_ _ | refine Kx.s (by simp <;> omega) ?_ _ | refine Kx.t ?_ (by assumption))
set_option maxRecDepth 100000 in
theorem formed64_ (t : ST) (w : World) (hA : t.At w) : Calls Tryz.prog 20 #[t.hd.val, .int .i64 64] w (Tells w t.Formed64) := by
  have hS := fun w' hk => formedBelow64_ w t hA 100 w' (by omega) (by omega) hk
  generalize t.Formed64 = P at *
  obtain ⟨⟨kind, pa, pn, pc, ka, kn, kc⟩, pts, kids⟩ := t
  simp only [ST.hd, Sm.val] at hS ⊢
  clear hA
  go_enter Tryz.func20, Tryz.ntmps20
  go_wp2_with fail
  refine (hS _ (by with_reducible (repeat first | exact Kx.r _ | assumption | refine Kx.a ?_ _ | refine Kx.d ?_ | refine Kx.e ?_ _ | refine Kx.s (by simp <;> omega) ?_ _ | refine Kx.t ?_ (by assumption)))).mono ?_
  rintro e w3 ⟨⟨v, rfl, hv⟩, hk3⟩
  have HV := Lib.hid hv
  clear hS hv
  go_wp2_with fail
  go_ret
  refine ⟨⟨v, rfl, HV.out⟩, ?_⟩
  with_reducible (repeat first | exact Kx.r _ | assumption | refine Kx.a ?_ _ | refine Kx.d ?_ | refine Kx.e ?_ _ | refine Kx.s (by simp <;> omega) ?_ _ | refine Kx.t ?_ (by assumption))
end Go.Proofs.YtinbkonmlgediaaGreat
set_option linter.unusedVariables false
set_option linter.unusedSimpArgs false
namespace Go.Proofs.YtinbkonmlgediaaGreat
open Go.RowKit Go.Fl Go.Sl Go.Pg Go.Ch Go.Kf Go.Fr
theorem row64 {a : Option Addr} {n cap : Nat} {pts : List (Int × Int)} (h : (rowST a n cap pts).Formed64) : ∀ p ∈ pts, In64 p := by
  cases h with
  | leaf _ _ _ hp => exact hp
  | many _ _ hk => rcases hk with hk | hk <;> simp [rowST] at hk
def Differ (pts : List (Int × Int)) : Prop := ∃ i, i + 1 < pts.length ∧ ptAt pts i ≠ ptAt pts (i + 1)
set_option maxRecDepth 100000 in
set_option maxHeartbeats 1000000 in
theorem manyRow_ (a : Option Addr) (n cap : Nat) (w : World) : Calls Tryz.prog 22 #[.agg #[.int .i64 2, .slice a n cap, .slice none 0 0]] w (One w (.bool false)) := by
  have hk0 : Stab.Keeps w (w.alloc (.cells #[.int .i64 2, .slice a n cap, .slice none 0 0] 25)) := by with_reducible (repeat first | exact Kx.r _ | assumption | refine Kx.a ?_ _ | refine Kx.d ?_ | refine Kx.e ?_ _ | refine Kx.s (by simp <;> omega) ?_ _ | refine Kx.t ?_ (by assumption))
  have hB0 : Blk (w.alloc (.cells #[.int .i64 2, .slice a n cap, .slice none 0 0] 25)) w.heap.size 25 [.int .i64 2, .slice a n cap, .slice none 0 0] := by with_reducible (repeat first | assumption | (refine Bx.n ⟨?_, ?_⟩ <;> focus (first | rfl | (simp; done) | omega)) | refine Bx.a ?_ _ | refine Bx.d ?_ | refine Bx.e ?_ _ | refine Bx.p (by first | omega | simp <;> omega) ?_)
  go_enter Tryz.func22, Tryz.ntmps22
  go_wp2_with fail
  generalize (w.alloc (.cells #[.int .i64 2, .slice a n cap, .slice none 0 0] 25)) = w1 at *
  go_loopw [8] (fun iv wr => iv = .int .i64 0 ∧ Stab.Keeps w wr ∧ Blk wr w.heap.size 25 [.int .i64 2, .slice a n cap, .slice none 0 0]) (fun _ _ => 0)
  case atStart => exact ⟨rfl, hk0, hB0⟩
  case round =>
    clear hk0 hB0
    obtain ⟨rfl, hK, hB⟩ := hrel
    have g0 := hB.cell (i := 0) rfl
    have g1 := hB.cell (i := 1) rfl
    have g2 := hB.cell (i := 2) rfl
    have gf := hB.free
    have gl := hB.lt
    go_wp2_with fail
    go_ret
    exact ⟨rfl, hK⟩
/-- segments: as many as places differ from the next one, or some -/
def SegsPost (w : World) (pts : List (Int × Int)) (e : Ending) (w' : World) : Prop := ∃ al m c, e = .returned (.slice al m c) ∧ Stab.Keeps w w' ∧ m ≤ c ∧ c ≤ maxLen ∧ (0 < m → Differ pts)
def SegR (w : World) (F : Nat → Prop) (cs : List Value) (x : Unit) : Prop := True
theorem segS : Stable SegR := ⟨fun _ _ => trivial, fun _ _ => trivial⟩
theorem infoSeg : (Tryz.prog.info? 177).map (fun i => (i.zero, i.size, i.bytes)) = some (some (.agg #[.int .i64 0, .int .i64 0, .int .i64 0, .int .i64 0]), 4, 32) := by kernel_rfl
set_option maxRecDepth 100000 in
set_option maxHeartbeats 2000000 in
theorem segs_ (a : Option Addr) (n cap : Nat) (pts : List (Int × Int)) (w : World) (hn : pts.length = n) (h : Sz w a n cap 2 (pts.flatMap ptCells)) (h2 : n ≤ 1000) :
    Calls Tryz.prog 113 #[.slice a n cap] w (SegsPost w pts) := by
  obtain ⟨i0, hi, hz0, hz1, hz2⟩ := info_parts infoSeg
  have HI := Lib.hid hi
  have HZ := Lib.hid hz0
  have HZ1 := Lib.hid hz1
  have HZ2 := Lib.hid hz2
  have hle := h.le
  have hmx := h.max
  unfold maxLen at hmx
  have HN := Lib.hid hn
  clear hi hz0 hz1 hz2 hn
  go_enter Tryz.func113, Tryz.ntmps113
  go_wp2_with fail
  go_loopw [3, 4] (fun v iv wr => ∃ k m : Nat, 1 ≤ k ∧ m ≤ k ∧ k ≤ n + 1 ∧ iv = .int .i64 k ∧ Stab.Keeps w wr ∧ (∃ ys, GrowB w.heap.size wr SegR 177 4 m v ys) ∧ (0 < m → Differ pts)) (fun _ iv _ => n + 1 - (intOf iv).toNat)
  case atStart => exact ⟨1, 0, by omega, by omega, by omega, rfl, Stab.Keeps.refl _, ⟨_, GrowB.nil _ _ _ _ _ (Nat.le_refl _)⟩, fun h => by omega⟩
  case round =>
    obtain ⟨k, m, hk1, hmk, hkn, rfl, hK, ⟨ys, hG⟩, hd⟩ := hrel
    obtain ⟨al, c, rfl, hmc, hcm⟩ := hG.shape
    by_cases hlt : k < n
    · obtain ⟨j, rfl⟩ : ∃ j, k = j + 1 := ⟨k - 1, by omega⟩
      obtain ⟨b, off, ha, hb, hc⟩ := (h.keep hK).elem (i := j) (by omega)
      obtain ⟨b', off', ha', _, hc'⟩ := (h.keep hK).elem (i := j + 1) hlt
      subst ha
      cases ha'
      have hj0 : j < pts.length := by have := HN.out; omega
      have hj1 : j + 1 < pts.length := by have := HN.out; omega
      obtain ⟨c0, c1⟩ := pt_cells hj0 hc
      obtain ⟨d0, d1⟩ := pt_cells hj1 hc'
      have hdf : pts[j] ≠ pts[j + 1] → Differ pts := fun hne => ⟨j, hj1, by
        unfold ptAt
        rw [List.getD_eq_getElem?_getD, List.getD_eq_getElem?_getD, List.getElem?_eq_getElem hj0, List.getElem?_eq_getElem hj1]
        exact hne⟩
      clear hc hc'
      generalize pts[j] = p at *
      generalize pts[j + 1] = q at *
      obtain ⟨px, py⟩ := p
      obtain ⟨qx, qy⟩ := q
      simp only at c0 c1 d0 d1
      have hsub : ((j + 1 : Nat) : Int) - 1 = (j : Int) := by omega
      have hwj : IntKind.i64.wrap (((j + 1 : Nat) : Int) - 1) = (j : Int) := by rw [hsub]; exact IntWalk.i64_in _ (by omega)
      have hwj2 : IntKind.i64.wrap (j : Int) = (j : Int) := IntWalk.i64_in _ (by omega)
      have hj00 : (0 : Int) ≤ (j : Int) + 1 := by omega
      have hjn : (j : Int) < n := by omega
      have hjn1 : (j : Int) + 1 < n := by omega
      have HG := Lib.hid hG
      have HD := Lib.hid hd
      have hx2 : off + (j + 1) * 2 = off + j * 2 + 2 := by omega
      rw [hx2] at d0 d1
      clear hG hd
      by_cases he : px = qx ∧ py = qy
      · obtain ⟨rfl, rfl⟩ := he
        go_upto_region 5 with (fail)
        go_quiet (fail)
        go_wp2_with fail
        refine ⟨⟨j + 1 + 1, m, by omega, by omega, by omega, by go_num, by with_reducible (repeat first | exact Kx.r _ | assumption | refine Kx.a ?_ _ | refine Kx.d ?_ | refine Kx.e ?_ _ | refine Kx.s (by simp <;> omega) ?_ _ | refine Kx.t ?_ (by assumption)), ⟨ys, HG.out.keep segS (by with_reducible (repeat first | exact Kx.r _ | assumption | refine Kx.a ?_ _ | refine Kx.d ?_ | refine Kx.e ?_ _ | refine Kx.s (by simp <;> omega) ?_ _ | refine Kx.t ?_ (by assumption)))⟩, HD.out⟩, by simp [intOf]; omega⟩
      · have hDf := hdf (fun e => he (by injection e with e1 e2; exact ⟨e1, e2⟩))
        have HDF := Lib.hid hDf
        clear hdf hDf
        by_cases hx : px = qx
        · subst hx
          have hy : ¬ py = qy := fun e => he ⟨rfl, e⟩
          have hyb : (py == qy) = false := by simpa using hy
          go_upto_region 5 with (fail)
          go_quiet (fail)
          go_upto_region 6 with (fail)
          go_region_law (refine step_append_growB (B := w.heap.size) segS (by rfl) _ _ 152 (by rfl) 177 i0 _ 4 32 Tryz.underlying152 HI.out HZ.out HZ1.out HZ2.out (by rfl) (by decide) _ m ys (by rfl) (HG.out.keep segS (by with_reducible (repeat first | exact Kx.r _ | assumption | refine Kx.a ?_ _ | refine Kx.d ?_ | refine Kx.e ?_ _ | refine Kx.s (by simp <;> omega) ?_ _ | refine Kx.t ?_ (by assumption)))) ⟨wr.heap.size, 0, none⟩ 1 [.int .i64 px, .int .i64 py, .int .i64 px, .int .i64 qy] (by rfl) (by rfl) (new_cells _ _ _ _ (by simp)) (by intro u hu; simp at hu; rcases hu with rfl | rfl | rfl | rfl <;> rfl) (by unfold maxLen; omega) (by omega) () (fun _ => False) trivial (fun b hb => hb.elim) (fun g hg hb => hb) ?_; intro al' c' w6 hG6 hB6)
          all_goals (
            have hk6 : Stab.Keeps w w6 := Below.trans (show Stab.Keeps w _ by with_reducible (repeat first | exact Kx.r _ | assumption | refine Kx.a ?_ _ | refine Kx.d ?_ | refine Kx.e ?_ _ | refine Kx.s (by simp <;> omega) ?_ _ | refine Kx.t ?_ (by assumption))) hB6
            clear hB6 HG c0 c1 d0 d1
            go_wp2_with fail
            exact ⟨⟨j + 1 + 1, m + 1, by omega, by omega, by omega, by go_num, hk6, ⟨_, hG6⟩, fun _ => HDF.out⟩, by simp [intOf]; omega⟩)
        · have hxb : (px == qx) = false := by simpa using hx
          go_upto_region 5 with (fail)
          go_quiet (fail)
          go_upto_region 6 with (fail)
          go_region_law (refine step_append_growB (B := w.heap.size) segS (by rfl) _ _ 152 (by rfl) 177 i0 _ 4 32 Tryz.underlying152 HI.out HZ.out HZ1.out HZ2.out (by rfl) (by decide) _ m ys (by rfl) (HG.out.keep segS (by with_reducible (repeat first | exact Kx.r _ | assumption | refine Kx.a ?_ _ | refine Kx.d ?_ | refine Kx.e ?_ _ | refine Kx.s (by simp <;> omega) ?_ _ | refine Kx.t ?_ (by assumption)))) ⟨wr.heap.size, 0, none⟩ 1 [.int .i64 px, .int .i64 py, .int .i64 qx, .int .i64 qy] (by rfl) (by rfl) (new_cells _ _ _ _ (by simp)) (by intro u hu; simp at hu; rcases hu with rfl | rfl | rfl | rfl <;> rfl) (by unfold maxLen; omega) (by omega) () (fun _ => False) trivial (fun b hb => hb.elim) (fun g hg hb => hb) ?_; intro al' c' w6 hG6 hB6)
          all_goals (
            have hk6 : Stab.Keeps w w6 := Below.trans (show Stab.Keeps w _ by with_reducible (repeat first | exact Kx.r _ | assumption | refine Kx.a ?_ _ | refine Kx.d ?_ | refine Kx.e ?_ _ | refine Kx.s (by simp <;> omega) ?_ _ | refine Kx.t ?_ (by assumption))) hB6
            clear hB6 HG c0 c1 d0 d1
            go_wp2_with fail
            exact ⟨⟨j + 1 + 1, m + 1, by omega, by omega, by omega, by go_num, hk6, ⟨_, hG6⟩, fun _ => HDF.out⟩, by simp [intOf]; omega⟩)
    · clear h
      go_wp2_with fail
      go_ret
      exact ⟨al, m, c, rfl, hK, hmc, hcm, hd⟩
def ValidPost (w : World) (pts : List (Int × Int)) (e : Ending) (w' : World) : Prop := ∃ v : Int, e = .returned (.int .i64 v) ∧ Stab.Keeps w w' ∧ (v = 1 → pts = [] ∨ Differ pts)
set_option maxRecDepth 100000 in
set_option maxHeartbeats 1000000 in
theorem validLine_ (a : Option Addr) (n cap : Nat) (pts : List (Int × Int)) (w : World) (hn : pts.length = n) (h : Sz w a n cap 2 (pts.flatMap ptCells)) (h2 : n ≤ 1000) : Calls Tryz.prog 63 #[.slice a n cap] w (ValidPost w pts) := by
  have hS := segs_ a n cap pts w hn h h2
  have hle := h.le
  have hmx := h.max
  unfold maxLen at hmx
  rcases Nat.eq_zero_or_pos n with hz | hz
  · subst hz
    have h0 : pts = [] := List.eq_nil_of_length_eq_zero hn
    clear hS h
    go_enter Tryz.func63, Tryz.ntmps63
    go_wp2_with fail
    go_ret
    exact ⟨1, rfl, by with_reducible (repeat first | exact Kx.r _ | assumption | refine Kx.a ?_ _ | refine Kx.d ?_ | refine Kx.e ?_ _ | refine Kx.s (by simp <;> omega) ?_ _ | refine Kx.t ?_ (by assumption)), fun _ => .inl h0⟩
  · go_enter Tryz.func63, Tryz.ntmps63
    clear h
    go_wp2_with fail
    refine hS.mono ?_
    rintro e w2 ⟨al, m, c, rfl, hk, h3, h4, h5⟩
    unfold maxLen at h4
    rcases Nat.eq_zero_or_pos m with hm | hm
    · subst hm
      clear h5
      go_wp2_with fail
      go_ret
      exact ⟨0, rfl, hk, fun h => by omega⟩
    · have h6 := h5 hm
      have hmb : ((m : Int) == 0) = false := by simp; omega
      have H6 := Lib.hid h6
      clear h5 h6
      go_wp2_with fail
      go_ret
      exact ⟨1, rfl, hk, fun _ => .inr H6.out⟩
set_option maxRecDepth 100000 in
set_option maxHeartbeats 1000000 in
theorem validRow_ (a : Option Addr) (n cap : Nat) (pts : List (Int × Int)) (w : World) (hn : pts.length = n) (h : Sz w a n cap 2 (pts.flatMap ptCells)) (h2 : n ≤ 1000) : Calls Tryz.prog 23 #[.agg #[.int .i64 2, .slice a n cap, .slice none 0 0]] w (ValidPost w pts) := by
  have hS := fun w' (hk : Stab.Keeps w w') => validLine_ a n cap pts w' hn (h.keep hk) h2
  clear h
  go_enter Tryz.func23, Tryz.ntmps23
  go_wp2_with fail
  refine (hS _ (by with_reducible (repeat first | exact Kx.r _ | assumption | refine Kx.a ?_ _ | refine Kx.d ?_ | refine Kx.e ?_ _ | refine Kx.s (by simp <;> omega) ?_ _ | refine Kx.t ?_ (by assumption)))).mono ?_
  clear hS
  rintro e w2 ⟨v, rfl, hk, hv⟩
  have HV := Lib.hid hv
  clear hv
  go_wp2_with fail
  go_ret
  exact ⟨v, rfl, by with_reducible (repeat first | exact Kx.r _ | assumption | refine Kx.a ?_ _ | refine Kx.d ?_ | refine Kx.e ?_ _ | refine Kx.s (by simp <;> omega) ?_ _ | refine Kx.t ?_ (by assumption)), HV.out⟩
def RowGood (pts : List (Int × Int)) : Prop := pts.length ≤ 199 ∧ (∀ p ∈ pts, In64 p) ∧ (pts = [] ∨ Differ pts)
end Go.Proofs.YtinbkonmlgediaaGreat
set_option linter.unusedVariables false
set_option linter.unusedSimpArgs false
namespace Go.Proofs.YtinbkonmlgediaaGreat
open Go.RowKit Go.Fl Go.Sl Go.Pg Go.Ch Go.Kf Go.Fr
set_option maxRecDepth 100000 in
set_option maxHeartbeats 1000000 in
theorem sizeBelowRow_ (a : Option Addr) (n cap N : Nat) (w : World) (hb : n ≤ 4000000000) (hN : 1 + n = N) : Calls Tryz.prog 62 #[.agg #[.int .i64 2, .slice a n cap, .slice none 0 0], .int .i64 100] w (One w (.int .i64 N)) := by
  have hk0 : Stab.Keeps w (w.alloc (.cells #[.int .i64 2, .slice a n cap, .slice none 0 0] 25)) := by with_reducible (repeat first | exact Kx.r _ | assumption | refine Kx.a ?_ _ | refine Kx.d ?_ | refine Kx.e ?_ _ | refine Kx.s (by simp <;> omega) ?_ _ | refine Kx.t ?_ (by assumption))
  have hB0 : Blk (w.alloc (.cells #[.int .i64 2, .slice a n cap, .slice none 0 0] 25)) w.heap.size 25 [.int .i64 2, .slice a n cap, .slice none 0 0] := by with_reducible (repeat first | assumption | (refine Bx.n ⟨?_, ?_⟩ <;> focus (first | rfl | (simp; done) | omega)) | refine Bx.a ?_ _ | refine Bx.d ?_ | refine Bx.e ?_ _ | refine Bx.p (by first | omega | simp <;> omega) ?_)
  have hw : (1 : Int) + (n : Int) = (N : Int) := by omega
  have hNb : N ≤ 4000000001 := by omega
  clear hN
  go_enter Tryz.func62, Tryz.ntmps62
  go_upto_region 3 with (fail)
  generalize (w.alloc (.cells #[.int .i64 2, .slice a n cap, .slice none 0 0] 25)) = w1 at *
  have g0 := hB0.cell (i := 0) rfl
  have g1 := hB0.cell (i := 1) rfl
  have g2 := hB0.cell (i := 2) rfl
  have gf := hB0.free
  have gl := hB0.lt
  go_wp2_with fail
  go_loopw [5, 17] (fun nv iv wr => nv = .int .i64 N ∧ iv = .int .i64 0 ∧ Stab.Keeps w wr) (fun _ _ _ => 0)
  case atStart => exact ⟨rfl, rfl, hk0⟩
  case round =>
    obtain ⟨rfl, rfl, hK⟩ := hrel
    go_wp2_with fail
    go_ret
    exact ⟨rfl, hK⟩
set_option maxRecDepth 100000 in
theorem sizeRow_ (a : Option Addr) (n cap N : Nat) (w : World) (hb : n ≤ 4000000000) (hN : 1 + n = N) : Calls Tryz.prog 21 #[.agg #[.int .i64 2, .slice a n cap, .slice none 0 0]] w (One w (.int .i64 N)) := by
  have hS := fun w' => sizeBelowRow_ a n cap N w' hb hN
  clear hN
  go_enter Tryz.func21, Tryz.ntmps21
  go_wp2_with fail
  refine (hS _).mono ?_
  rintro e w2 ⟨rfl, hk⟩
  go_wp2_with fail
  go_ret
  exact ⟨rfl, by with_reducible (repeat first | exact Kx.r _ | assumption | refine Kx.a ?_ _ | refine Kx.d ?_ | refine Kx.e ?_ _ | refine Kx.s (by simp <;> omega) ?_ _ | refine Kx.t ?_ (by assumption))⟩
set_option maxRecDepth 100000 in
set_option maxHeartbeats 2000000 in
theorem sound_ (a : Option Addr) (n cap : Nat) (pts : List (Int × Int)) (w : World) (hn : pts.length = n) (h : Sz w a n cap 2 (pts.flatMap ptCells)) (hb : n ≤ 4000000000) : Calls Tryz.prog 11 #[.agg #[.int .i64 2, .slice a n cap, .slice none 0 0], .int .i64 64] w (Tells w (RowGood pts)) := by
  have hF := fun w' (hk : Stab.Keeps w w') => formed64_ (rowST a n cap pts) w' ((row_at hn h).keep hk)
  have hV := fun w' (hk : Stab.Keeps w w') (h2 : n ≤ 1000) => validRow_ a n cap pts w' hn (h.keep hk) h2
  obtain ⟨N, hN⟩ : ∃ N, 1 + n = N := ⟨_, rfl⟩
  have hSz := fun w' => sizeRow_ a n cap N w' hb hN
  have hMa := fun w' => manyRow_ a n cap w'
  have HN := Lib.hid hN
  have HL := Lib.hid hn
  have HV := Lib.hid hV
  have HF := Lib.hid hF
  have hk0 : Stab.Keeps w (w.alloc (.cells #[.int .i64 2, .slice a n cap, .slice none 0 0] 25)) := by with_reducible (repeat first | exact Kx.r _ | assumption | refine Kx.a ?_ _ | refine Kx.d ?_ | refine Kx.e ?_ _ | refine Kx.s (by simp <;> omega) ?_ _ | refine Kx.t ?_ (by assumption))
  have hB0 : Blk (w.alloc (.cells #[.int .i64 2, .slice a n cap, .slice none 0 0] 25)) w.heap.size 25 [.int .i64 2, .slice a n cap, .slice none 0 0] := by with_reducible (repeat first | assumption | (refine Bx.n ⟨?_, ?_⟩ <;> focus (first | rfl | (simp; done) | omega)) | refine Bx.a ?_ _ | refine Bx.d ?_ | refine Bx.e ?_ _ | refine Bx.p (by first | omega | simp <;> omega) ?_)
  have hNb : N ≤ 4000000001 := by omega
  clear hN hn hV hF h
  go_enter Tryz.func11, Tryz.ntmps11
  go_upto_region 1 with (fail)
  generalize (w.alloc (.cells #[.int .i64 2, .slice a n cap, .slice none 0 0] 25)) = w1 at *
  have g0 := hB0.cell (i := 0) rfl
  have g1 := hB0.cell (i := 1) rfl
  have g2 := hB0.cell (i := 2) rfl
  have gf := hB0.free
  have gl := hB0.lt
  go_wp2_with fail
  refine (HF.out _ hk0).mono ?_
  rintro e w2 ⟨⟨v, rfl, hv⟩, hk2⟩
  have hk12 := Stab.Keeps.trans hk0 hk2
  cases v with
  | false =>
    clear hv
    go_wp2_with fail
    go_ret
    exact ⟨⟨false, rfl, fun h => by cases h⟩, hk12⟩
  | true =>
    have hF64 := row64 (hv rfl)
    have HF64 := Lib.hid hF64
    have hB2 := hB0.keep hk2
    clear hv hF64 hk2 hk0 hB0 g0 g1 g2 gf gl HF
    have g0 := hB2.cell (i := 0) rfl
    have g1 := hB2.cell (i := 1) rfl
    have g2 := hB2.cell (i := 2) rfl
    have gf := hB2.free
    have gl := hB2.lt
    go_wp2_with fail
    refine (hSz _).mono ?_
    rintro e w3 ⟨rfl, hk3⟩
    have hk13 := Stab.Keeps.trans hk12 hk3
    have hB3 := hB2.keep hk3
    clear hk3 hk12 hB2 g0 g1 g2 gf gl hSz
    have g0 := hB3.cell (i := 0) rfl
    have g1 := hB3.cell (i := 1) rfl
    have g2 := hB3.cell (i := 2) rfl
    have gf := hB3.free
    have gl := hB3.lt
    by_cases hs : N ≤ 200
    · have hsi : (N : Int) ≤ 200 := by omega
      go_wp2_with fail
      refine (hMa _).mono ?_
      rintro e w4 ⟨rfl, hk4⟩
      have hk14 := Stab.Keeps.trans hk13 hk4
      have hB4 := hB3.keep hk4
      clear hk4 hk13 hB3 g0 g1 g2 gf gl hMa
      have g0 := hB4.cell (i := 0) rfl
      have g1 := hB4.cell (i := 1) rfl
      have g2 := hB4.cell (i := 2) rfl
      have gf := hB4.free
      have gl := hB4.lt
      have hVV := HV.out _ hk14 (by have := HN.out; omega)
      clear HV
      go_wp2_with fail
      refine hVV.mono ?_
      rintro e w5 ⟨v, rfl, hk5, hv⟩
      have hk15 := Stab.Keeps.trans hk14 hk5
      by_cases h1 : v = 1
      · subst h1
        have hd := hv rfl
        have HD := Lib.hid hd
        clear hv hd hVV hk5 hk14 g0 g1 g2 gf gl hB4
        go_wp2_with fail
        go_ret
        exact ⟨⟨true, rfl, fun _ => ⟨by have := HN.out; have := HL.out; omega, HF64.out, HD.out⟩⟩, hk15⟩
      · have hvb : (v == 1) = false := by simpa using h1
        clear hv hVV hk5 hk14 g0 g1 g2 gf gl hB4
        go_wp2_with fail
        go_ret
        exact ⟨⟨false, rfl, fun h => by cases h⟩, hk15⟩
    · have hsi : ¬ (N : Int) ≤ 200 := by omega
      clear HV
      go_wp2_with fail
      go_ret
      exact ⟨⟨false, rfl, fun h => by cases h⟩, hk13⟩
set_option maxRecDepth 100000 in
theorem fit_ (a : Option Addr) (n cap : Nat) (pts : List (Int × Int)) (w : World) (hn : pts.length = n) (h : Sz w a n cap 2 (pts.flatMap ptCells)) (hb : n ≤ 4000000000) : Calls Tryz.prog 4 #[.agg #[.int .i64 2, .slice a n cap, .slice none 0 0]] w (Tells w (RowGood pts)) := by
  have hS := fun w' (hk : Stab.Keeps w w') => sound_ a n cap pts w' hn (h.keep hk) hb
  clear h hn
  go_enter Tryz.func4, Tryz.ntmps4
  go_wp2_with fail
  refine (hS _ (by with_reducible (repeat first | exact Kx.r _ | assumption | refine Kx.a ?_ _ | refine Kx.d ?_ | refine Kx.e ?_ _ | refine Kx.s (by simp <;> omega) ?_ _ | refine Kx.t ?_ (by assumption)))).mono ?_
  clear hS
  rintro e w2 ⟨⟨v, rfl, hv⟩, hk⟩
  have HV := Lib.hid hv
  clear hv
  go_wp2_with fail
  go_ret
  exact ⟨⟨v, rfl, HV.out⟩, by with_reducible (repeat first | exact Kx.r _ | assumption | refine Kx.a ?_ _ | refine Kx.d ?_ | refine Kx.e ?_ _ | refine Kx.s (by simp <;> omega) ?_ _ | refine Kx.t ?_ (by assumption))⟩
end Go.Proofs.YtinbkonmlgediaaGreat
