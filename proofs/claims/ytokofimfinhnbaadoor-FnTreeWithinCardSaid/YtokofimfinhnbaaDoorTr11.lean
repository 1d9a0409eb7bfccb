/-
  The tree of boxes: a node made of parts. No condition.
-/
import Derived.Test.YtokofimfinhnbaaDoorTr10
set_option linter.unusedVariables false
set_option linter.unusedSimpArgs false
namespace Go.Proofs.YtokofimfinhnbaaDoor
open Go.RowKit Go.Fl Go.Sl Go.Ch
theorem nodeC_pad (es : List Ent) (n i : Nat) (h : es.length ≤ i) (hi : i < 4) : (nodeC es n)[i * 6 + 5]? = some (.int .i64 0) := by
  have hp := pad_len es (by omega)
  have hl := flat_len Ent.cells 6 Ent.cells_len (pad es)
  unfold nodeC
  rw [List.getElem?_append_left (by omega), flat_get Ent.cells 6 Ent.cells_len _ i 5 (by omega) (by omega)]
  have : (pad es)[i]'(by omega) = Ent.zero := by
    unfold pad
    rw [List.getElem_append_right h]
    simp
  rw [this]
  rfl
theorem nodeC_set2 (es : List Ent) (n p : Nat) (x : B4) (h : es.length < 4) :
    (((((nodeC es n).set (es.length * 6 + 4) (.pointer (some ⟨p, 0, none⟩))).set (es.length * 6) (.float .f64 x.a)).set (es.length * 6 + 1) (.float .f64 x.b)).set (es.length * 6 + 2) (.float .f64 x.c)).set (es.length * 6 + 3) (.float .f64 x.d) = nodeC (es ++ [⟨x, some p, 0⟩]) n := by
  rw [← nodeC_set es n ⟨x, some p, 0⟩ h]
  have hlen := nodeC_len es n (by omega)
  have h5 := nodeC_pad es n es.length (Nat.le_refl _) h
  apply List.ext_getElem?
  intro k
  simp only [List.getElem?_set, List.length_set, hlen]
  by_cases k5 : es.length * 6 + 5 = k
  · subst k5
    rw [if_neg (by omega), if_neg (by omega), if_neg (by omega), if_neg (by omega), if_neg (by omega), if_pos rfl, if_pos (by omega), h5]
  rw [if_neg k5]
  by_cases k4 : es.length * 6 + 4 = k
  · subst k4
    rw [if_neg (by omega), if_neg (by omega), if_neg (by omega), if_neg (by omega), if_pos rfl, if_pos rfl]
    simp
  rw [if_neg k4, if_neg k4]
def partV (B : Nat) (p : Nat × Nat × Nat) : Value := .slice (some ⟨B, p.1, none⟩) p.2.1 p.2.2
def cnt (ps : List (Nat × Nat × Nat)) (k : Nat) : Nat := ((ps.take k).map (·.2.1)).sum
theorem cnt_succ (ps : List (Nat × Nat × Nat)) (k : Nat) (h : k < ps.length) : cnt ps (k + 1) = cnt ps k + ps[k].2.1 := by
  unfold cnt
  rw [List.take_succ_eq_append_getElem h, List.map_append, List.sum_append]
  rfl
theorem cnt_le (ps : List (Nat × Nat × Nat)) : ∀ (j k : Nat), k ≤ j → cnt ps k ≤ cnt ps j := by
  intro j
  induction j with
  | zero => intro k h; have : k = 0 := by omega
            subst this; exact Nat.le_refl _
  | succ j ih =>
    intro k h
    by_cases hk : k = j + 1
    · subst hk; exact Nat.le_refl _
    · have h1 := ih k (by omega)
      by_cases hj : j < ps.length
      · have := cnt_succ ps j hj; omega
      · have : cnt ps (j + 1) = cnt ps j := by unfold cnt; rw [List.take_of_length_le (by omega), List.take_of_length_le (by omega)]
        omega
def entOf (x : Nat × RT) : Ent := ⟨x.2.box, some x.1, 0⟩
/-- how things stand within 'bulkNode' -/
structure BNI (w : World) (B o5 n m : Nat) (L : List It) (c : Nat) (ts : List (Nat × RT)) (wr : World) : Prop where
  lst : ∃ L', Row wr B o5 n L' ∧ SubPerm (o5 / 5) c L L'
  ch : Ch no (· = B) w wr
  root : Blk wr w.heap.size 84 (nodeC (ts.map entOf) m)
  nodes : ∀ x ∈ ts, NodeAt wr (w.heap.size + 1) x.1 x.2
  items : (ts.flatMap (·.2.items)).Perm (sub L (o5 / 5) c)
def BNPost (w : World) (B o5 n m : Nat) (L : List It) (e : Ending) (w' : World) : Prop := ∃ (r : Nat) (ts : List (Nat × RT)), e = .returned (.pointer (some ⟨r, 0, none⟩)) ∧ ts.length = m ∧ (∃ L', Row w' B o5 n L' ∧ SubPerm (o5 / 5) n L L') ∧ Ch no (· = B) w w' ∧
  Blk w' r 84 (nodeC (ts.map entOf) m) ∧ (∀ x ∈ ts, NodeAt w' (w.heap.size + 1) x.1 x.2) ∧ r = w.heap.size ∧ (ts.flatMap (·.2.items)).Perm (sub L (o5 / 5) n)
theorem BNI.step {w : World} {B o5 n m : Nat} {L : List It} {c d : Nat} {ts : List (Nat × RT)} {wr w' : World} {p : Nat} {t : RT} {L1 L2 : List It} (h : BNI w B o5 n m L c ts wr) (hcd : c + d ≤ n) (hr : Row wr B o5 n L1) (hs : SubPerm (o5 / 5) c L L1)
    (hr2 : Row w' B (o5 + c * 5) d L2) (hs2 : SubPerm ((o5 + c * 5) / 5) d L1 L2) (hk : Ch no (· = B) wr w') (hn : NodeAt w' wr.heap.size p t) (hi : t.items.Perm (sub L1 ((o5 + c * 5) / 5) d)) :
    (∃ L', Row w' B o5 n L' ∧ SubPerm (o5 / 5) (c + d) L L') ∧ Ch no (· = B) w w' ∧ Blk w' w.heap.size 84 (nodeC (ts.map entOf) m) ∧ (∀ x ∈ ts ++ [(p, t)], NodeAt w' (w.heap.size + 1) x.1 x.2) ∧ ((ts ++ [(p, t)]).flatMap (·.2.items)).Perm (sub L (o5 / 5) (c + d)) := by
  have hd := hr.div c
  rw [hd] at hs2 hi
  have hBl := hr.blk
  refine ⟨⟨L2, hr.whole hr2 hs2.len, hs.app hs2⟩, h.ch.trans hk, hk.blk h.root (h.root.ne hBl (by decide)) (fun e => e), ?_, ?_⟩
  · intro x hx
    rcases List.mem_append.1 hx with hx | hx
    · exact NodeAt.ch hk hBl (h.nodes x hx)
    · simp at hx; subst hx; exact hn.low h.root.lt
  · rw [sub_append, List.flatMap_append]
    refine List.Perm.append h.items ?_
    simp only [List.flatMap_cons, List.flatMap_nil, List.append_nil]
    refine hi.trans ?_
    rw [sub_out hs.len (fun i h1 h2 => hs.out i (by omega))]
set_option maxRecDepth 100000 in
set_option maxHeartbeats 2000000 in
theorem node_ (B o5 n Q m : Nat) (ps : List (Nat × Nat × Nat)) (hm : ps.length = m) (hm1 : 1 ≤ m) (hm4 : m ≤ 4) (hIH : ∀ p ∈ ps, BIC B p.1 p.2.1 p.2.2) (hof : ∀ i (h : i < ps.length), ps[i].1 = o5 + cnt ps i * 5) (hn : cnt ps m = n)
    (L : List It) (w : World) (h : Row w B o5 n L) (hQ : Blk w Q 55 (ps.map (partV B))) :
    Calls Tryd.prog 36 #[.slice (some ⟨Q, 0, none⟩) m m] w (BNPost w B o5 n m L) := by
  have hB := h.blk.lt
  have hQl := hQ.lt
  go_enter Tryd.func36, Tryd.ntmps36
  go_wp2
  have hI : BNI w B o5 n m L 0 [] (w.alloc (.cells #[.float .f64 0, .float .f64 0, .float .f64 0, .float .f64 0, .pointer none, .int .i64 0, .float .f64 0, .float .f64 0, .float .f64 0, .float .f64 0, .pointer none, .int .i64 0, .float .f64 0, .float .f64 0, .float .f64 0, .float .f64 0, .pointer none, .int .i64 0, .float .f64 0, .float .f64 0, .float .f64 0, .float .f64 0, .pointer none, .int .i64 0, .int .i64 m] 84)) := by
    refine ⟨⟨L, ⟨h.blk.alloc _, h.off⟩, SubPerm.refl _ _ _⟩, (Ch.refl _ _ w).alloc _, Blk.new w (nodeC [] m) _ _ rfl, fun x hx => by simp at hx, ?_⟩
    unfold sub; simp
  generalize (w.alloc (.cells #[.float .f64 0, .float .f64 0, .float .f64 0, .float .f64 0, .pointer none, .int .i64 0, .float .f64 0, .float .f64 0, .float .f64 0, .float .f64 0, .pointer none, .int .i64 0, .float .f64 0, .float .f64 0, .float .f64 0, .float .f64 0, .pointer none, .int .i64 0, .float .f64 0, .float .f64 0, .float .f64 0, .float .f64 0, .pointer none, .int .i64 0, .int .i64 m] 84)) = W at hI ⊢
  have HN := Lib.hid hn
  have HM := Lib.hid hm
  clear hn hm
  go_loopw [13] (fun iv wr => ∃ (k : Nat) (ts : List (Nat × RT)), k ≤ m ∧ iv = .int .i64 k ∧ ts.length = k ∧ BNI w B o5 n m L (cnt ps k) ts wr) (fun iv _ => m - (intOf iv).toNat)
  case atStart => exact ⟨0, [], by omega, rfl, rfl, hI⟩
  case round =>
    clear hI
    obtain ⟨k, ts, k2, rfl, htl, hI⟩ := hrel
    have HT := Lib.hid htl
    clear htl
    by_cases hlt : k < m
    · have hkp : k < ps.length := by have := HM.out; omega
      have hQr : Blk wr Q 55 (ps.map (partV B)) := hI.ch.blk hQ (hQ.ne h.blk (by decide)) (fun e => e)
      have hQrl := hQr.lt
      have cq : wr.cell? ⟨Q, k, none⟩ = some (.slice (some ⟨B, ps[k].1, none⟩) ps[k].2.1 ps[k].2.2) := hQr.cell (by simp [hkp, partV])
      obtain ⟨L1, hr1, hs1⟩ := hI.lst
      have hcn := cnt_succ ps k hkp
      have hcm := cnt_le ps m (k + 1) (by omega)
      have hpk := hof k hkp
      have hC := hIH ps[k] (List.getElem_mem _) L1 wr (by rw [hpk]; exact hr1.part _ _ (by have := HN.out; omega))
      have HP := Lib.hid hpk
      have HC := Lib.hid hcn
      clear hpk hcn
      generalize hpp : ps[k] = pp at *
      obtain ⟨po, pn, pc⟩ := pp
      simp only at hC cq
      clear hpp
      go_wp2_with fail
      refine hC.mono ?_
      clear hC
      rintro e w2 ⟨p, t, L2, rfl, hr2, hs2, hk2, hn2, hi2⟩
      have hpo : po = o5 + cnt ps k * 5 := HP.out
      have hpn : cnt ps (k + 1) = cnt ps k + pn := HC.out
      rw [hpo] at hr2 hs2 hi2
      have hst := hI.step (by have := HN.out; omega) hr1 hs1 hr2 hs2 hk2 hn2 hi2
      rw [← hpn] at hst
      clear hpo hpn
      obtain ⟨hL3, hc3, hroot, hnodes, hitems⟩ := hst
      clear hr1 hs1 hr2 hs2 hk2 hn2 hi2 hI hQr hcm
      have hml : (ts.map entOf).length = k := by rw [List.length_map]; exact HT.out
      have hS := nodeC_set2 (ts.map entOf) m p t.box (by omega)
      have hlen : (nodeC (ts.map entOf) m).length = 25 := nodeC_len _ _ (by omega)
      rw [hml] at hS
      have hsn : ts.map entOf ++ [⟨t.box, some p, 0⟩] = (ts ++ [(p, t)]).map entOf := by simp [entOf]
      rw [hsn] at hS
      generalize nodeC (ts.map entOf) m = cs at *
      clear hsn
      obtain ⟨u4, r4⟩ := hroot.some (i := k * 6 + 4) (by omega)
      have rf := hroot.free
      have hrl := hroot.lt
      have HS := Lib.hid hS
      have HL := Lib.hid hlen
      have HM2 := Lib.hid hml
      clear hS hlen hml
      have k0 : (0 : Int) ≤ k := by omega
      have k4 : (k : Int) < 4 := by omega
      have kk : ((k : Int)).toNat = k := by omega
      go_wp2_with fail
      have hroot3 := hroot.set (k * 6 + 4) (.pointer (some ⟨p, 0, none⟩))
      have hnodes3 : ∀ x ∈ ts ++ [(p, t)], NodeAt (w2.setCell ⟨w.heap.size, k * 6 + 4, none⟩ (.pointer (some ⟨p, 0, none⟩))) (w.heap.size + 1) x.1 x.2 := fun x hx => (hnodes x hx).past (by omega)
      have hc4 : Ch no (· = B) w (w2.setCell ⟨w.heap.size, k * 6 + 4, none⟩ (.pointer (some ⟨p, 0, none⟩))) := hc3.setCell (.inr (Nat.le_refl _)) _
      have hL4 : ∃ L', Row (w2.setCell ⟨w.heap.size, k * 6 + 4, none⟩ (.pointer (some ⟨p, 0, none⟩))) B o5 n L' ∧ SubPerm (o5 / 5) (cnt ps (k + 1)) L L' := by
        obtain ⟨L', h1, h2⟩ := hL3
        exact ⟨L', ⟨h1.blk.past (by simp; omega) _, h1.off⟩, h2⟩
      clear hroot hnodes hc3 hL3 r4 rf hrl u4
      generalize (w2.setCell ⟨w.heap.size, k * 6 + 4, none⟩ (.pointer (some ⟨p, 0, none⟩))) = W3 at *
      obtain ⟨es, z1, z2, z3, z4⟩ := (hnodes3 (p, t) (by simp)).blk
      have hcal := fun w' (hk : Stab.Keeps W3 w') => calc_ p es w' (z3.keep hk) z2 z1
      have hbx : (bnd (es.map Ent.box)).val = t.box.val := by rw [z4]
      simp only [hbx] at hcal
      simp only [B4.val] at hcal
      clear z1 z2 z3 z4 hbx es
      have hRl := hroot3.lt
      refine Stab.keep_tail 8 (fun _ _ _ => True) (fun _ => false) (fun k => k == 3) Stab.pre_none (by kernel_rfl) (by kernel_rfl) fun hcx => ?_
      simp only [List.take_succ_cons, List.take_zero, List.drop_succ_cons, List.drop_zero]
      repeat (first
        | (refine Stab.quiet rfl rfl rfl (fun K hK => ?_); go_big_quiet_op; refine hK _ ?_; clear hK K)
        | (refine Stab.one rfl rfl rfl ?_
           apply Exists.intro
           refine ⟨fun w1 hw1 => ?_, fun K hK => ?_⟩
           · go_simp
             first | (go_at_call 34; exact hcal _ (by with_reducible assumption))
           go_simp
           refine hK _ ?_
           clear hK K)
        | (refine Stab.skip rfl (fun K hK => ?_); go_simp; refine hK _ ?_; clear hK K))
      refine Stab.nil fun w' hw' _ => ?_
      clear hcx hcal
      have hlen := HL.out
      have hR' := hroot3.keep hw'
      have hl5 : (cs.set (k * 6 + 4) (.pointer (some ⟨p, 0, none⟩))).length = 25 := by rw [List.length_set]; exact hlen
      obtain ⟨u0, r0⟩ := hR'.some (i := k * 6) (by omega)
      obtain ⟨u1, r1⟩ := hR'.some (i := k * 6 + 1) (by omega)
      obtain ⟨u2, r2⟩ := hR'.some (i := k * 6 + 2) (by omega)
      obtain ⟨u3, r3⟩ := hR'.some (i := k * 6 + 3) (by omega)
      have rf := hR'.free
      have hrl := hR'.lt
      have hfin : BNI w B o5 n m L (cnt ps (k + 1)) (ts ++ [(p, t)]) ((((w'.setCell ⟨w.heap.size, k * 6, none⟩ (.float .f64 t.box.a)).setCell ⟨w.heap.size, k * 6 + 1, none⟩ (.float .f64 t.box.b)).setCell ⟨w.heap.size, k * 6 + 2, none⟩ (.float .f64 t.box.c)).setCell ⟨w.heap.size, k * 6 + 3, none⟩ (.float .f64 t.box.d)) := by
        refine ⟨?_, ?_, ?_, ?_, hitems⟩
        · obtain ⟨L', h1, h2⟩ := hL4
          exact ⟨L', ⟨((((h1.blk.keep hw').past (by simp; omega) _).past (by simp; omega) _).past (by simp; omega) _).past (by simp; omega) _, h1.off⟩, h2⟩
        · exact ((((hc4.trans (Ch.of_keeps hw')).setCell (.inr (Nat.le_refl _)) _).setCell (.inr (Nat.le_refl _)) _).setCell (.inr (Nat.le_refl _)) _).setCell (.inr (Nat.le_refl _)) _
        · rw [← HS.out]
          exact (((hR'.set _ _).set _ _).set _ _).set _ _
        · exact fun x hx => (((((hnodes3 x hx).keep hw').past (by omega)).past (by omega)).past (by omega)).past (by omega)
      clear hroot3 hnodes3 hc4 hL4 hw' hR' hl5 hlen hitems
      go_wp2_with fail
      go_roundw
      case rel => exact ⟨k + 1, ts ++ [(p, t)], by omega, by go_num, by have := HT.out; simp; omega, hfin⟩
      case measure => simp [intOf]; omega
    · have hkm : k = m := by omega
      subst hkm
      go_wp2_with fail
      go_ret
      have hn := HN.out
      rw [hn] at hI
      exact ⟨w.heap.size, ts, rfl, HT.out, hI.lst, hI.ch, hI.root, hI.nodes, rfl, hI.items⟩
end Go.Proofs.YtokofimfinhnbaaDoor
