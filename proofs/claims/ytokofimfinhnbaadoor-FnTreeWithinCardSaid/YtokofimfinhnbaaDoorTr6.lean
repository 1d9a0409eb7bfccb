/-
  The tree of boxes: the partition, walked. No condition.
-/
import Derived.Test.YtokofimfinhnbaaDoorTr5
import Derived.Outline
set_option linter.unusedVariables false
set_option linter.unusedSimpArgs false
namespace Go.Proofs.YtokofimfinhnbaaDoor
open Go.RowKit Go.Fl Go.Sl Go.Ch
set_option maxRecDepth 100000 in
set_option maxHeartbeats 2000000 in
theorem quick_ (B o5 n cap k0 : Nat) (hz : Bool) (L : List It) (w : World) (h : Row w B o5 n L) (hc : n ≤ cap) (hm : cap ≤ maxLen) (hk0 : k0 < n) (hn : n ≤ 2147483647) :
    Calls Tryd.prog 43 #[.slice (some ⟨B, o5, none⟩) n cap, .int .i64 k0, .bool hz] w (QPost w B o5 n L) := by
  have hmf : ∀ (fn : Fn) (first cap : Array Value) (w : World), (Instr.makeFunc fn first cap).run Tryd.prog w = .ok (.func fn first cap) w := fun _ _ _ _ => rfl
  have hB := h.blk.lt
  have w1 : IntKind.i64.wrap ((n : Int) - 1) = (n : Int) - 1 := IntWalk.i64_in _ (by omega)
  go_enter Tryd.func43, Tryd.ntmps43
  go_wp2_with fail
  go_quiet (fail)
  clear w1
  go_wp2_with fail
  have hQ : QI w B o5 n cap hz L ((((w.alloc (.cells #[.slice (some ⟨B, o5, none⟩) n cap] 55)).alloc (.cells #[.bool hz] 4)).alloc (.cells #[.int .u32 0] 128)).drewN nq) L := by
    refine ⟨⟨((h.blk.alloc _).alloc _).alloc _, h.off⟩, ?_, ?_, ⟨0, ?_, by omega, by omega⟩, ?_, SubPerm.refl _ _ _⟩
    · exact ((Blk.new w [_] _ _ rfl).alloc _).alloc _
    · exact (Blk.new _ [_] _ _ (by simp)).alloc _
    · exact Blk.new _ [_] _ _ (by simp)
    · exact ((((Ch.refl no (· = B) w).alloc _).alloc _).alloc _).drewN _
  generalize ((((w.alloc (.cells #[.slice (some ⟨B, o5, none⟩) n cap] 55)).alloc (.cells #[.bool hz] 4)).alloc (.cells #[.int .u32 0] 128)).drewN nq) = W at hQ ⊢
  clear h hmf
  go_loopw [1, 10, 11] (fun kv lv rv wr => ∃ k l r : Int, 0 ≤ l ∧ l ≤ r ∧ r < n ∧ 0 ≤ k ∧ k ≤ r - l ∧ kv = .int .i64 k ∧ lv = .int .i64 l ∧ rv = .int .i64 r ∧ ∃ L', QI w B o5 n cap hz L wr L') (fun _ lv rv _ => (intOf rv - intOf lv).toNat)
  case atStart => exact ⟨_, _, _, by omega, by omega, by omega, by omega, by omega, rfl, rfl, rfl, L, hQ⟩
  case round =>
    clear hQ
    obtain ⟨k, l, r, b1, b2, b3, b4, b5, rfl, rfl, rfl, L', hI⟩ := hrel
    by_cases c1 : r = l + 1
    · subst c1
      go_wp2_with fail
      refine (hI.lessC hc hm _ _ (by omega) (by omega) (by omega) (by omega)).mono ?_
      rintro e w2 ⟨t, rfl, hI2⟩
      clear hI
      cases t with
      | false =>
        go_wp2_with fail
        go_end0
        exact hI2.post
      | true =>
        go_wp2_with fail
        refine (hI2.swapC hB hc hm _ _ (by omega) (by omega) (by omega) (by omega)).mono ?_
        rintro e w3 ⟨rfl, L3, hI3⟩
        go_wp2_with fail
        go_end0
        exact hI3.post
    by_cases c2 : r = l + 2
    · subst c2
      go_wp2_with fail
      refine (hI.lessC hc hm _ _ (by omega) (by omega) (by omega) (by omega)).mono ?_
      rintro e w2 ⟨t, rfl, hI2⟩
      clear hI
      cases t with
      | false =>
        go_wp2_with fail
        refine (hI2.lessC hc hm _ _ (by omega) (by omega) (by omega) (by omega)).mono ?_
        rintro e w5 ⟨t5, rfl, hI5⟩
        clear hI2
        cases t5 with
        | false =>
          go_wp2_with fail
          go_end0
          exact hI5.post
        | true =>
          go_wp2_with fail
          refine (hI5.swapC hB hc hm _ _ (by omega) (by omega) (by omega) (by omega)).mono ?_
          rintro e w6 ⟨rfl, L6, hI6⟩
          clear hI5
          go_wp2_with fail
          refine (hI6.lessC hc hm _ _ (by omega) (by omega) (by omega) (by omega)).mono ?_
          rintro e w7 ⟨t7, rfl, hI7⟩
          clear hI6
          cases t7 with
          | false =>
            go_wp2_with fail
            go_end0
            exact hI7.post
          | true =>
            go_wp2_with fail
            refine (hI7.swapC hB hc hm _ _ (by omega) (by omega) (by omega) (by omega)).mono ?_
            rintro e w8 ⟨rfl, L8, hI8⟩
            clear hI7
            go_wp2_with fail
            go_end0
            exact hI8.post
      | true =>
        go_wp2_with fail
        refine (hI2.swapC hB hc hm _ _ (by omega) (by omega) (by omega) (by omega)).mono ?_
        rintro e w3 ⟨rfl, L3, hI3⟩
        clear hI2
        go_wp2_with fail
        refine (hI3.lessC hc hm _ _ (by omega) (by omega) (by omega) (by omega)).mono ?_
        rintro e w5 ⟨t5, rfl, hI5⟩
        clear hI3
        cases t5 with
        | false =>
          go_wp2_with fail
          go_end0
          exact hI5.post
        | true =>
          go_wp2_with fail
          refine (hI5.swapC hB hc hm _ _ (by omega) (by omega) (by omega) (by omega)).mono ?_
          rintro e w6 ⟨rfl, L6, hI6⟩
          clear hI5
          go_wp2_with fail
          refine (hI6.lessC hc hm _ _ (by omega) (by omega) (by omega) (by omega)).mono ?_
          rintro e w7 ⟨t7, rfl, hI7⟩
          clear hI6
          cases t7 with
          | false =>
            go_wp2_with fail
            go_end0
            exact hI7.post
          | true =>
            go_wp2_with fail
            refine (hI7.swapC hB hc hm _ _ (by omega) (by omega) (by omega) (by omega)).mono ?_
            rintro e w8 ⟨rfl, L8, hI8⟩
            clear hI7
            go_wp2_with fail
            go_end0
            exact hI8.post
    go_wp2_with fail
    refine (hI.rndC hB _ (by omega) (by omega)).mono ?_
    rintro e w2 ⟨x, rfl, x0, x1, hI2⟩
    clear hI
    obtain ⟨wo, rfl⟩ : ∃ wo : World, wo = wr := ⟨_, rfl⟩
    by_cases hx : l + x = r
    · go_wp2_with fail
      have hJ := hI2
      clear hI2
      go_loopw [13, 14] (fun jv iv wr' => ∃ j i : Int, l ≤ j ∧ j ≤ i ∧ i ≤ r ∧ jv = .int .i64 j ∧ iv = .int .i64 i ∧ ∃ L', QI w B o5 n cap hz L wr' L') (fun _ iv _ => (r - intOf iv).toNat)
      case atStart => exact ⟨l, l, by omega, by omega, by omega, rfl, rfl, _, hJ⟩
      case round =>
        clear hJ
        obtain ⟨j, i, d1, d2, d3, rfl, rfl, L4, hI4⟩ := hrel
        by_cases hlt : i < r
        · go_wp2_with fail
          refine (hI4.lessC hc hm _ _ (by omega) (by omega) (by omega) (by omega)).mono ?_
          rintro e w5 ⟨t, rfl, hI5⟩
          clear hI4
          cases t with
          | false =>
            go_wp2_with fail
            go_roundw
            case rel => exact ⟨j, i + 1, by omega, by omega, by omega, rfl, rfl, _, hI5⟩
            case measure => simp [intOf]; omega
          | true =>
            go_wp2_with fail
            refine (hI5.swapC hB hc hm _ _ (by omega) (by omega) (by omega) (by omega)).mono ?_
            rintro e w6 ⟨rfl, L6, hI6⟩
            clear hI5
            go_wp2_with fail
            go_roundw
            case rel => exact ⟨j + 1, i + 1, by omega, by omega, by omega, rfl, rfl, _, hI6⟩
            case measure => simp [intOf]; omega
        · have hir : i = r := by omega
          subst hir
          go_wp2_with fail
          refine (hI4.swapC hB hc hm _ _ (by omega) (by omega) (by omega) (by omega)).mono ?_
          rintro e w5 ⟨rfl, L5, hI5⟩
          clear hI4
          rcases Int.lt_trichotomy (j - l) k with h3 | h3 | h3
          · go_wp2_with fail
            go_roundw
            case rel => exact ⟨k - (j - l + 1), j + 1, i, by omega, by omega, by omega, by omega, by omega, rfl, rfl, rfl, _, hI5⟩
            case measure => simp [intOf]; omega
          · go_wp2_with fail
            go_end0
            exact hI5.post
          · go_wp2_with fail
            go_roundw
            case rel => exact ⟨k, l, j - 1, by omega, by omega, by omega, by omega, by omega, rfl, rfl, rfl, _, hI5⟩
            case measure => simp [intOf]; omega
    · go_wp2_with fail
      refine (hI2.swapC hB hc hm _ _ (by omega) (by omega) (by omega) (by omega)).mono ?_
      rintro e w3 ⟨rfl, L3, hJ⟩
      clear hI2
      go_wp2_with fail
      go_loopw [13, 14] (fun jv iv wr' => ∃ j i : Int, l ≤ j ∧ j ≤ i ∧ i ≤ r ∧ jv = .int .i64 j ∧ iv = .int .i64 i ∧ ∃ L', QI w B o5 n cap hz L wr' L') (fun _ iv _ => (r - intOf iv).toNat)
      case atStart => exact ⟨l, l, by omega, by omega, by omega, rfl, rfl, _, hJ⟩
      case round =>
        clear hJ
        obtain ⟨j, i, d1, d2, d3, rfl, rfl, L4, hI4⟩ := hrel
        by_cases hlt : i < r
        · go_wp2_with fail
          refine (hI4.lessC hc hm _ _ (by omega) (by omega) (by omega) (by omega)).mono ?_
          rintro e w5 ⟨t, rfl, hI5⟩
          clear hI4
          cases t with
          | false =>
            go_wp2_with fail
            go_roundw
            case rel => exact ⟨j, i + 1, by omega, by omega, by omega, rfl, rfl, _, hI5⟩
            case measure => simp [intOf]; omega
          | true =>
            go_wp2_with fail
            refine (hI5.swapC hB hc hm _ _ (by omega) (by omega) (by omega) (by omega)).mono ?_
            rintro e w6 ⟨rfl, L6, hI6⟩
            clear hI5
            go_wp2_with fail
            go_roundw
            case rel => exact ⟨j + 1, i + 1, by omega, by omega, by omega, rfl, rfl, _, hI6⟩
            case measure => simp [intOf]; omega
        · have hir : i = r := by omega
          subst hir
          go_wp2_with fail
          refine (hI4.swapC hB hc hm _ _ (by omega) (by omega) (by omega) (by omega)).mono ?_
          rintro e w5 ⟨rfl, L5, hI5⟩
          clear hI4
          rcases Int.lt_trichotomy (j - l) k with h3 | h3 | h3
          · go_wp2_with fail
            go_roundw
            case rel => exact ⟨k - (j - l + 1), j + 1, i, by omega, by omega, by omega, by omega, by omega, rfl, rfl, rfl, _, hI5⟩
            case measure => simp [intOf]; omega
          · go_wp2_with fail
            go_end0
            exact hI5.post
          · go_wp2_with fail
            go_roundw
            case rel => exact ⟨k, l, j - 1, by omega, by omega, by omega, by omega, by omega, rfl, rfl, rfl, _, hI5⟩
            case measure => simp [intOf]; omega
end Go.Proofs.YtokofimfinhnbaaDoor
