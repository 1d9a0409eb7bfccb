/-
  The tree of boxes: a leaf made of up to four items. No condition.
-/
import Derived.Test.YtokofimfinhnbaaDoorTr9
set_option linter.unusedVariables false
set_option linter.unusedSimpArgs false
namespace Go.Proofs.YtokofimfinhnbaaDoor
open Go.RowKit Go.Fl Go.Sl Go.Ch
theorem pad_snoc (es : List Ent) (e : Ent) (h : es.length < 4) : pad (es ++ [e]) = (pad es).set es.length e := by
  unfold pad
  rw [List.set_append_right _ _ (Nat.le_refl _), Nat.sub_self]
  have : 4 - es.length = (4 - (es ++ [e]).length) + 1 := by simp; omega
  rw [this, List.replicate_succ]
  simp
/-- an entry written into its place -/
theorem nodeC_set (es : List Ent) (n : Nat) (e : Ent) (h : es.length < 4) :
    ((((((nodeC es n).set (es.length * 6) (.float .f64 e.box.a)).set (es.length * 6 + 1) (.float .f64 e.box.b)).set (es.length * 6 + 2) (.float .f64 e.box.c)).set (es.length * 6 + 3) (.float .f64 e.box.d)).set (es.length * 6 + 4) (.pointer (e.child.map fun p => ⟨p, 0, none⟩))).set (es.length * 6 + 5) (.int .i64 e.id) = nodeC (es ++ [e]) n := by
  have hp := pad_len es (by omega)
  have hl := flat_len Ent.cells 6 Ent.cells_len (pad es)
  have hl' : ((pad es).flatMap Ent.cells).length = 24 := by rw [hl, hp]
  apply List.ext_getElem?
  intro k
  have hlen : (nodeC es n).length = 25 := by unfold nodeC; simp only [List.length_append, hl', List.length_cons, List.length_nil]
  have hp2 := pad_len (es ++ [e]) (by simp; omega)
  have hl2 : ((pad (es ++ [e])).flatMap Ent.cells).length = 24 := by rw [flat_len Ent.cells 6 Ent.cells_len, hp2]
  by_cases hk : k < 24
  · obtain ⟨q, r, hr, rfl⟩ : ∃ q r, r < 6 ∧ k = q * 6 + r := ⟨k / 6, k % 6, Nat.mod_lt _ (by omega), by omega⟩
    have g2 : (nodeC (es ++ [e]) n)[q * 6 + r]? = (Ent.cells ((pad (es ++ [e]))[q]'(by omega)))[r]? := by
      unfold nodeC
      rw [List.getElem?_append_left (by omega), flat_get Ent.cells 6 Ent.cells_len _ q r (by omega) hr]
    have g1 : (nodeC es n)[q * 6 + r]? = (Ent.cells ((pad es)[q]'(by omega)))[r]? := by
      unfold nodeC
      rw [List.getElem?_append_left (by omega), flat_get Ent.cells 6 Ent.cells_len _ q r (by omega) hr]
    rw [g2]
    simp only [pad_snoc es e h, List.getElem?_set, List.length_set, hlen]
    by_cases he : es.length = q
    · subst he
      rw [List.getElem_set_self]
      have : r = 0 ∨ r = 1 ∨ r = 2 ∨ r = 3 ∨ r = 4 ∨ r = 5 := by omega
      rcases this with rfl | rfl | rfl | rfl | rfl | rfl <;> simp [Ent.cells] <;> omega
    · rw [List.getElem_set_ne he]
      rw [if_neg (by omega), if_neg (by omega), if_neg (by omega), if_neg (by omega), if_neg (by omega), if_neg (by omega), g1]
  · by_cases hk2 : k = 24
    · subst hk2
      rw [nodeC_num _ _ (by simp; omega)]
      simp only [List.getElem?_set, List.length_set, hlen]
      rw [if_neg (by omega), if_neg (by omega), if_neg (by omega), if_neg (by omega), if_neg (by omega), if_neg (by omega), nodeC_num _ _ (by omega)]
    · rw [List.getElem?_eq_none (by simp [hlen]; omega), List.getElem?_eq_none (by unfold nodeC; simp only [List.length_append, hl2, List.length_cons, List.length_nil]; omega)]
theorem nodeC_len (es : List Ent) (n : Nat) (h : es.length ≤ 4) : (nodeC es n).length = 25 := by
  have hl := flat_len Ent.cells 6 Ent.cells_len (pad es)
  rw [pad_len es h] at hl
  unfold nodeC
  simp only [List.length_append, hl, List.length_cons, List.length_nil]
theorem _root_.Go.Ch.Blk.some {w : World} {b : Nat} {e : TypeId} {vs : List Value} (h : Blk w b e vs) {i : Nat} (hi : i < vs.length) : ∃ u, w.cell? ⟨b, i, none⟩ = .some u := ⟨vs[i], h.cell (by simp [hi])⟩
theorem leafE_snoc (l : List It) (t : It) : leafE (l ++ [t]) = leafE l ++ [⟨t.box, none, t.id⟩] := by simp [leafE]
set_option maxRecDepth 100000 in
set_option maxHeartbeats 1000000 in
theorem insert_leaf (B o5 n cap : Nat) (hc : n ≤ cap) (hm : cap ≤ maxLen) (h1 : 1 ≤ n) (h4 : n ≤ 4) : BIC B o5 n cap := by
  intro L w h
  have hB := h.blk.lt
  unfold maxLen at hm
  have g1 : decide ((n : Int) ≤ 4) = true := by simp; omega
  have g2 : ((n : Int) == 0) = false := by simp; omega
  go_enter Tryd.func26, Tryd.ntmps26
  go_wp2
  have hR : Blk (w.alloc (.cells #[.float .f64 0, .float .f64 0, .float .f64 0, .float .f64 0, .pointer none, .int .i64 0, .float .f64 0, .float .f64 0, .float .f64 0, .float .f64 0, .pointer none, .int .i64 0, .float .f64 0, .float .f64 0, .float .f64 0, .float .f64 0, .pointer none, .int .i64 0, .float .f64 0, .float .f64 0, .float .f64 0, .float .f64 0, .pointer none, .int .i64 0, .int .i64 n] 84)) w.heap.size 84 (nodeC (leafE ((sub L (o5 / 5) n).take 0)) n) := Blk.new w (nodeC [] n) _ _ rfl
  have hK : Stab.Keeps w (w.alloc (.cells #[.float .f64 0, .float .f64 0, .float .f64 0, .float .f64 0, .pointer none, .int .i64 0, .float .f64 0, .float .f64 0, .float .f64 0, .float .f64 0, .pointer none, .int .i64 0, .float .f64 0, .float .f64 0, .float .f64 0, .float .f64 0, .pointer none, .int .i64 0, .float .f64 0, .float .f64 0, .float .f64 0, .float .f64 0, .pointer none, .int .i64 0, .int .i64 n] 84)) := by repeat (first | (with_reducible exact Stab.Keeps.refl _) | (with_reducible assumption) | (with_reducible refine Stab.Keeps.alloc ?_ _) | (with_reducible refine Stab.Keeps.drew ?_) | (with_reducible refine Stab.Keeps.drewN ?_ _) | ((with_reducible refine Stab.Keeps.setCell ?_ ?_ _); focus (first | (simp; done) | (simp; omega))) | (with_reducible refine Stab.Keeps.trans ?_ (by with_reducible assumption)))
  generalize (w.alloc (.cells #[.float .f64 0, .float .f64 0, .float .f64 0, .float .f64 0, .pointer none, .int .i64 0, .float .f64 0, .float .f64 0, .float .f64 0, .float .f64 0, .pointer none, .int .i64 0, .float .f64 0, .float .f64 0, .float .f64 0, .float .f64 0, .pointer none, .int .i64 0, .float .f64 0, .float .f64 0, .float .f64 0, .float .f64 0, .pointer none, .int .i64 0, .int .i64 n] 84)) = W at hR hK ⊢
  have hsl : (sub L (o5 / 5) n).length = n := by obtain ⟨off, ho, hl⟩ := h.off; unfold sub; simp; omega
  have HS := Lib.hid hsl
  clear hsl
  go_loopw [27] (fun iv wr => ∃ k : Nat, k ≤ n ∧ iv = .int .i64 k ∧ Stab.Keeps w wr ∧ Blk wr w.heap.size 84 (nodeC (leafE ((sub L (o5 / 5) n).take k)) n)) (fun iv _ => n - (intOf iv).toNat)
  case atStart => exact ⟨0, by omega, rfl, hK, hR⟩
  case round =>
    clear hR hK
    obtain ⟨k, k2, rfl, hK, hR⟩ := hrel
    have hr : Row wr B o5 n L := ⟨h.blk.keep hK, h.off⟩
    have hRl := hR.lt
    have hsl := HS.out
    by_cases hlt : k < n
    · obtain ⟨t, ht, c0, c1, c2, c3, c4⟩ := hr.cell (i := k) hlt
      have hBl := hr.blk.lt
      have hes : (leafE ((sub L (o5 / 5) n).take k)).length = k := by simp [leafE]; omega
      have hnx : (sub L (o5 / 5) n).take (k + 1) = (sub L (o5 / 5) n).take k ++ [t] := by
        rw [List.take_succ_eq_append_getElem (by omega)]
        have := sub_get L (o5 / 5) n k hlt
        rw [ht, List.getElem?_eq_getElem (by omega)] at this
        simp only [Option.some.injEq] at this
        rw [this]
      have hS := fun x => nodeC_set (leafE ((sub L (o5 / 5) n).take k)) n x (by omega)
      rw [hes] at hS
      have hN : leafE ((sub L (o5 / 5) n).take k) ++ [⟨t.box, none, t.id⟩] = leafE ((sub L (o5 / 5) n).take (k + 1)) := by rw [hnx, leafE_snoc]
      generalize hgl : leafE ((sub L (o5 / 5) n).take k) = es at *
      have hlen : (nodeC es n).length = 25 := nodeC_len es n (by omega)
      have hS' := hS ⟨t.box, none, t.id⟩
      have HL := Lib.hid hlen
      clear hS hnx hlen hsl
      have HN := Lib.hid hN
      clear hN
      have HE := Lib.hid hes
      clear hes
      have HS' := Lib.hid hS'
      clear hS' hgl ht
      go_wp2_with fail
      have k0 : (0 : Int) ≤ k := by omega
      have k4 : (k : Int) < 4 := by omega
      have kk : ((k : Int)).toNat = k := by omega
      refine Stab.keep_tail 10 (fun _ _ _ => True) (fun _ => false) (fun k => false) Stab.pre_none (by kernel_rfl) (by kernel_rfl) fun hcx => ?_
      simp only [List.take_succ_cons, List.take_zero, List.drop_succ_cons, List.drop_zero]
      repeat (first
        | (refine Stab.quiet rfl rfl rfl (fun K hK => ?_); go_big_quiet_op; refine hK _ ?_; clear hK K)
        | (refine Stab.one rfl rfl rfl ?_
           apply Exists.intro
           refine ⟨fun w1 hw1 => ?_, fun K hK => ?_⟩
           · go_simp
             first | fail
           go_simp
           refine hK _ ?_
           clear hK K)
        | (refine Stab.skip rfl (fun K hK => ?_); go_simp; refine hK _ ?_; clear hK K))
      refine Stab.nil fun w' hw' _ => ?_
      clear hcx
      have hk : Stab.Keeps wr w' := by repeat (first | (with_reducible exact Stab.Keeps.refl _) | (with_reducible assumption) | (with_reducible refine Stab.Keeps.alloc ?_ _) | (with_reducible refine Stab.Keeps.drew ?_) | (with_reducible refine Stab.Keeps.drewN ?_ _) | ((with_reducible refine Stab.Keeps.setCell ?_ ?_ _); focus (first | (simp; done) | (simp; omega))) | (with_reducible refine Stab.Keeps.trans ?_ (by with_reducible assumption)))
      have hR' := hR.keep hk
      have hlen := HL.out
      obtain ⟨u0, r0⟩ := hR'.some (i := k * 6) (by omega)
      obtain ⟨u1, r1⟩ := hR'.some (i := k * 6 + 1) (by omega)
      obtain ⟨u2, r2⟩ := hR'.some (i := k * 6 + 2) (by omega)
      obtain ⟨u3, r3⟩ := hR'.some (i := k * 6 + 3) (by omega)
      obtain ⟨u4, r4⟩ := hR'.some (i := k * 6 + 4) (by omega)
      obtain ⟨u5, r5⟩ := hR'.some (i := k * 6 + 5) (by omega)
      have rf := hR'.free
      have hKw := Stab.Keeps.trans hK hk
      have hnew : Blk ((((((w'.setCell ⟨w.heap.size, k * 6, none⟩ (.float .f64 t.box.a)).setCell ⟨w.heap.size, k * 6 + 1, none⟩ (.float .f64 t.box.b)).setCell ⟨w.heap.size, k * 6 + 2, none⟩ (.float .f64 t.box.c)).setCell ⟨w.heap.size, k * 6 + 3, none⟩ (.float .f64 t.box.d)).setCell ⟨w.heap.size, k * 6 + 4, none⟩ (.pointer none)).setCell ⟨w.heap.size, k * 6 + 5, none⟩ (.int .i64 t.id)) w.heap.size 84 (nodeC (leafE ((sub L (o5 / 5) n).take (k + 1))) n) := by
        rw [← HN.out, ← HS'.out]
        exact (((((hR'.set _ _).set _ _).set _ _).set _ _).set _ _).set _ _
      have hnl := hR'.lt
      clear hw' hk hR' hlen c0 c1 c2 c3 c4 hr hR hK
      go_wp2_with fail
      go_roundw
      case rel => exact ⟨k + 1, by omega, by go_num, by repeat (first | (with_reducible exact Stab.Keeps.refl _) | (with_reducible assumption) | (with_reducible refine Stab.Keeps.alloc ?_ _) | (with_reducible refine Stab.Keeps.drew ?_) | (with_reducible refine Stab.Keeps.drewN ?_ _) | ((with_reducible refine Stab.Keeps.setCell ?_ ?_ _); focus (first | (simp; done) | (simp; omega))) | (with_reducible refine Stab.Keeps.trans ?_ (by with_reducible assumption))), hnew⟩
      case measure => simp [intOf]; omega
    · have hkn : k = n := by omega
      subst hkn
      have e1 : (sub L (o5 / 5) k).take k = sub L (o5 / 5) k := List.take_of_length_le (by omega)
      rw [e1] at hR
      clear e1
      have HS2 := Lib.hid hsl
      clear hsl
      go_wp2_with fail
      go_ret
      exact ⟨w.heap.size, .leaf (sub L (o5 / 5) k), L, rfl, hr, SubPerm.refl _ _ _, Ch.of_keeps hK, ⟨Nat.le_refl _, by have := HS2.out; omega, by have := HS2.out; omega, by rw [HS2.out]; exact hR⟩, List.Perm.refl _⟩
end Go.Proofs.YtokofimfinhnbaaDoor
