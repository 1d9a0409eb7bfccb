/-
  The tree of boxes: it is made of the items that it is loaded with. No condition.
-/
import Derived.Test.YtokofimfinhnbaaDoorTr11
set_option linter.unusedVariables false
set_option linter.unusedSimpArgs false
namespace Go.Proofs.YtokofimfinhnbaaDoor
open Go.RowKit Go.Fl Go.Sl Go.Ch
theorem list2' {α : Type} {l : List α} (h : l.length = 2) : ∃ a b, l = [a, b] := by match l, h with | [a, b], _ => exact ⟨a, b, rfl⟩
theorem list4' {α : Type} {l : List α} (h : l.length = 4) : ∃ a b c d, l = [a, b, c, d] := by match l, h with | [a, b, c, d], _ => exact ⟨a, b, c, d, rfl⟩
set_option maxRecDepth 100000 in
set_option maxHeartbeats 2000000 in
theorem insert_two (B o5 n cap : Nat) (hc : n ≤ cap) (hm : cap ≤ maxLen) (h5 : 5 ≤ n) (h8 : n ≤ 8) (h1 : BIC B o5 (n / 2) cap) (h2 : BIC B (o5 + n / 2 * 5) (n - n / 2) (cap - n / 2)) : BIC B o5 n cap := by
  intro L w h
  have hB := h.blk.lt
  have hm' := hm
  unfold maxLen at hm'
  have hS := split_ B o5 n cap L w h hc hm (by omega) (by omega)
  have hN := fun w2 Q L2 => node_ B o5 n Q 2 [(o5, n / 2, cap), (o5 + n / 2 * 5, n - n / 2, cap - n / 2)] rfl (by omega) (by omega) (by
      intro p hp
      simp at hp
      rcases hp with rfl | rfl
      · exact h1
      · exact h2) (by
      intro i hi
      have : i = 0 ∨ i = 1 := by simp at hi; omega
      rcases this with rfl | rfl <;> simp [cnt]) (by simp [cnt]; omega) L2 w2
  have g1 : decide ((n : Int) ≤ 4) = false := by simp; omega
  have g2 : ((n : Int) == 0) = false := by simp; omega
  have g3 : decide ((n : Int) ≤ 8) = true := by simp; omega
  go_enter Tryd.func26, Tryd.ntmps26
  go_wp2_with fail
  refine hS.mono ?_
  clear hS
  rintro e w2 ⟨rfl, L2, hr2, hp2, hk2⟩
  go_wp2_with fail
  refine (hN _ w2.heap.size L2 ⟨hr2.blk.alloc _, hr2.off⟩ (Blk.new w2 [_, _] _ _ rfl)).mono ?_
  clear hN
  rintro e w3 ⟨r, ts, rfl, htl, ⟨L3, hr3, hp3⟩, hk3, hroot, hnodes, hr, hitems⟩
  have HR := Lib.hid hr
  clear hr
  obtain ⟨⟨pa, ta⟩, ⟨pb, tb⟩, rfl⟩ := list2' htl
  go_wp2_with fail
  go_ret
  have hsz := hk2.size
  refine ⟨r, .two ta tb, L3, rfl, hr3, hp2.trans hp3, hk2.trans ((Ch.of_keeps (Below.alloc (Below.refl _ _) (Nat.le_refl _) _)).trans hk3), ⟨by rw [HR.out]; simp; omega, pa, pb, hroot, (hnodes (pa, ta) (by simp)).low (by simp; omega), (hnodes (pb, tb) (by simp)).low (by simp; omega)⟩, ?_⟩
  simp only [List.flatMap_cons, List.flatMap_nil, List.append_nil] at hitems
  exact hitems.trans hp2.perm
set_option maxRecDepth 100000 in
set_option maxHeartbeats 2000000 in
theorem insert_four (B o5 n cap : Nat) (hc : n ≤ cap) (hm : cap ≤ maxLen) (h9 : 9 ≤ n) (hn2 : n ≤ 2147483647)
    (h1 : BIC B o5 (n / 2 / 2) cap) (h2 : BIC B (o5 + n / 2 / 2 * 5) (n / 2 - n / 2 / 2) (cap - n / 2 / 2))
    (h3 : BIC B (o5 + n / 2 * 5) ((n - n / 2) / 2) (cap - n / 2)) (h4 : BIC B (o5 + n / 2 * 5 + (n - n / 2) / 2 * 5) (n - n / 2 - (n - n / 2) / 2) (cap - n / 2 - (n - n / 2) / 2)) : BIC B o5 n cap := by
  intro L w h
  have hB := h.blk.lt
  have hm' := hm
  unfold maxLen at hm'
  have hS := split_ B o5 n cap L w h hc hm (by omega) (by omega)
  have hS2 := fun L2 w2 hr => split_ B o5 (n / 2) cap L2 w2 hr (by omega) hm (by omega) (by omega)
  have hS3 := fun L2 w2 hr => split_ B (o5 + n / 2 * 5) (n - n / 2) (cap - n / 2) L2 w2 hr (by omega) (by omega) (by omega) (by omega)
  have hN := fun w2 Q L2 => node_ B o5 n Q 4 [(o5, n / 2 / 2, cap), (o5 + n / 2 / 2 * 5, n / 2 - n / 2 / 2, cap - n / 2 / 2), (o5 + n / 2 * 5, (n - n / 2) / 2, cap - n / 2), (o5 + n / 2 * 5 + (n - n / 2) / 2 * 5, n - n / 2 - (n - n / 2) / 2, cap - n / 2 - (n - n / 2) / 2)] rfl (by omega) (by omega) (by
      intro p hp
      simp at hp
      rcases hp with rfl | rfl | rfl | rfl
      · exact h1
      · exact h2
      · exact h3
      · exact h4) (by
      intro i hi
      have : i = 0 ∨ i = 1 ∨ i = 2 ∨ i = 3 := by simp at hi; omega
      rcases this with rfl | rfl | rfl | rfl <;> simp [cnt] <;> omega) (by simp [cnt]; omega) L2 w2
  have g1 : decide ((n : Int) ≤ 4) = false := by simp; omega
  have g2 : ((n : Int) == 0) = false := by simp; omega
  have g3 : decide ((n : Int) ≤ 8) = false := by simp; omega
  go_enter Tryd.func26, Tryd.ntmps26
  go_wp2_with fail
  refine hS.mono ?_
  clear hS
  rintro e w2 ⟨rfl, L2, hr2, hp2, hk2⟩
  have hq3 := hr2.part 0 (n / 2) (by omega)
  rw [show o5 + 0 * 5 = o5 by omega] at hq3
  go_wp2_with fail
  refine (hS2 L2 w2 hq3).mono ?_
  clear hS2
  rintro e w3 ⟨rfl, L3, hr3, hp3, hk3⟩
  have hr3' : Row w3 B o5 n L3 := ⟨hr3.blk, by obtain ⟨off, e, hl⟩ := hr2.off; exact ⟨off, e, by rw [hp3.len]; exact hl⟩⟩
  have hq4 := hr3'.part (n / 2) (n - n / 2) (by omega)
  go_wp2_with fail
  refine (hS3 L3 w3 hq4).mono ?_
  clear hS3
  rintro e w4 ⟨rfl, L4, hr4, hp4, hk4⟩
  have hr4' : Row w4 B o5 n L4 := ⟨hr4.blk, by obtain ⟨off, e, hl⟩ := hr3'.off; exact ⟨off, e, by rw [hp4.len]; exact hl⟩⟩
  have hp3' : SubPerm (o5 / 5) n L2 L3 := SubPerm.widen (a := 0) (b := n / 2) hp3 (by omega)
  rw [hr4'.div] at hp4
  have hp4' : SubPerm (o5 / 5) n L3 L4 := SubPerm.widen hp4 (by omega)
  go_wp2_with fail
  refine (hN _ w4.heap.size L4 ⟨hr4'.blk.alloc _, hr4'.off⟩ (Blk.new w4 [_, _, _, _] _ _ rfl)).mono ?_
  clear hN
  rintro e w5 ⟨r, ts, rfl, htl, ⟨L5, hr5, hp5⟩, hk5, hroot, hnodes, hr, hitems⟩
  have HR := Lib.hid hr
  clear hr
  obtain ⟨⟨pa, ta⟩, ⟨pb, tb⟩, ⟨pc, tc⟩, ⟨pd, td⟩, rfl⟩ := list4' htl
  go_wp2_with fail
  go_ret
  have hsz := ((hk2.trans hk3).trans hk4).size
  refine ⟨r, .four ta tb tc td, L5, rfl, hr5, ((hp2.trans hp3').trans hp4').trans hp5, ((hk2.trans hk3).trans hk4).trans ((Ch.of_keeps (Below.alloc (Below.refl _ _) (Nat.le_refl _) _)).trans hk5),
    ⟨by rw [HR.out]; simp; omega, pa, pb, pc, pd, hroot, (hnodes (pa, ta) (by simp)).low (by simp; omega), (hnodes (pb, tb) (by simp)).low (by simp; omega), (hnodes (pc, tc) (by simp)).low (by simp; omega), (hnodes (pd, td) (by simp)).low (by simp; omega)⟩, ?_⟩
  simp only [List.flatMap_cons, List.flatMap_nil, List.append_nil] at hitems
  exact hitems.trans (((hp2.trans hp3').trans hp4').perm)
theorem insert_ (k : Nat) : ∀ (B o5 n cap : Nat), n ≤ k → n ≤ cap → cap ≤ maxLen → 1 ≤ n → n ≤ 2147483647 → BIC B o5 n cap := by
  induction k with
  | zero => intro B o5 n cap h; omega
  | succ k ih =>
    intro B o5 n cap hk hc hm h1 h2
    by_cases h4 : n ≤ 4
    · exact insert_leaf B o5 n cap hc hm h1 h4
    · by_cases h8 : n ≤ 8
      · exact insert_two B o5 n cap hc hm (by omega) h8 (ih _ _ _ _ (by omega) (by omega) hm (by omega) (by omega)) (ih _ _ _ _ (by omega) (by omega) (by omega) (by omega) (by omega))
      · exact insert_four B o5 n cap hc hm (by omega) h2 (ih _ _ _ _ (by omega) (by omega) hm (by omega) (by omega)) (ih _ _ _ _ (by omega) (by omega) (by omega) (by omega) (by omega)) (ih _ _ _ _ (by omega) (by omega) (by omega) (by omega) (by omega)) (ih _ _ _ _ (by omega) (by omega) (by omega) (by omega) (by omega))
end Go.Proofs.YtokofimfinhnbaaDoor
