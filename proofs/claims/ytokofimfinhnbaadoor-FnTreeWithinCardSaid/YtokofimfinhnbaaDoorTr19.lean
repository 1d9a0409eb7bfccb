/-
  The tree of boxes: questions asked one behind another, walked. No condition.
-/
import Derived.Test.YtokofimfinhnbaaDoorTr18
set_option linter.unusedVariables false
set_option linter.unusedSimpArgs false
namespace Go.Proofs.YtokofimfinhnbaaDoor
open Go.RowKit Go.Fl Go.Sl Go.Ch
theorem grown_other {w w' : World} {base base' k k' n n' : Nat} {e e' : TypeId} {v v' : Value} {xs xs' : List Value} (h : w.ownsRow base e k v n xs) (h' : w.ownsRow base' e' k' v' n' xs') (he : e ≠ e') (hg : w.grownBy w' v'.ownBlock) : w'.ownsRow base e k v n xs := by
  refine h.kept hg ?_
  rcases h.2 with ⟨rfl, _⟩ | ⟨g, cap, cur, rfl, _, hc, _⟩
  · exact .inl rfl
  · refine .inr fun hh => ?_
    rcases h'.2 with ⟨rfl, _⟩ | ⟨g', cap', cur', rfl, _, hc', _⟩
    · cases hh
    · cases hh
      rw [hc] at hc'
      cases hc'
      exact he rfl
theorem owns_base {w : World} {base base' k n : Nat} {e : TypeId} {v : Value} {xs : List Value} (h : w.ownsRow base e k v n xs) (hB : base' ≤ base) : w.ownsRow base' e k v n xs := by
  obtain ⟨h1, h2⟩ := h
  refine ⟨h1, ?_⟩
  rcases h2 with h2 | ⟨g, cap, cur, hv, hg, r⟩
  · exact .inl h2
  · exact .inr ⟨g, cap, cur, hv, Nat.le_trans hB hg, r⟩
theorem Ans.ok.keep {w w' : World} {x : Ans} (h : x.ok w) (hk : Stab.Keeps w w') : x.ok w' := owns_keep h hk
theorem TreeAt.of {w w' : World} {lo p n : Nat} {o : Option RT} (hk : ∀ b e vs, lo ≤ b → e ≠ 39 → Blk w b e vs → Blk w' b e vs) (h : TreeAt w lo p n o) : TreeAt w' lo p n o := by
  cases o with
  | none => exact ⟨h.1, h.2.1, hk _ _ _ h.1 (by decide) h.2.2⟩
  | some t =>
    obtain ⟨h0, r, h1, h2⟩ := h
    exact ⟨h0, r, hk _ _ _ h0 (by decide) h1, NodeAt.of (Nat.le_refl _) (fun b vs hl hb => hk _ _ _ hl (by decide) hb) h2⟩
def RT.full : RT → Prop
  | .leaf l => 0 < l.length
  | .two a b => a.full ∧ b.full
  | .four a b c d => a.full ∧ b.full ∧ c.full ∧ d.full
theorem NodeAt.full {w : World} {lo : Nat} : ∀ {t : RT} {p : Nat}, NodeAt w lo p t → t.full
  | .leaf l, p, h => h.2.1
  | .two a b, p, h => by
    obtain ⟨_, pa, pb, _, ha, hb⟩ := h
    exact ⟨ha.full, hb.full⟩
  | .four a b c d, p, h => by
    obtain ⟨_, pa, pb, pc, pd, _, ha, hb, hc, hd⟩ := h
    exact ⟨ha.full, hb.full, hc.full, hd.full⟩
/-- what one question is answered with -/
def TP (R : List Int → Rest → Prop) (w : World) (e : Ending) (w' : World) : Prop := ∃ ids r, R ids r ∧ ToldPost w ids r e w'
/-- the told answer, and the row that holds it, while the region's order is open -/
def PlayF (R : List Int → Rest → Prop) (B : Nat) (k : Nat) (v : Value) (w : World) : Prop :=
  (k = 3 → ∃ x : Ans, R x.ids x.r ∧ v = toldV x.a x.ids.length x.cap x.r ∧ x.ok w) ∧
  (k = 4 → ∃ (x : Ans) (g : Nat), R x.ids x.r ∧ x.ok w ∧ v = .slice (some ⟨g, 0, none⟩) 1 1 ∧ Blk w g 39 x.cells ∧ B ≤ g)
theorem playPre (R : List Int → Rest → Prop) (B : Nat) : Stab.Pre Stab.Keeps (PlayF R B) :=
  ⟨Stab.Keeps.refl, Stab.Keeps.trans, fun k v w w' hk hF => ⟨fun e => by
      obtain ⟨x, h1, h2, h3⟩ := hF.1 e
      exact ⟨x, h1, h2, h3.keep hk⟩, fun e => by
      obtain ⟨x, g, h1, h2, h3, h4, h5⟩ := hF.2 e
      exact ⟨x, g, h1, h2.keep hk, h3, h4.keep hk, h5⟩⟩⟩
def PlayPost (w : World) (m : Nat) (Rs : Nat → List Int → Rest → Prop) (e : Ending) (w' : World) : Prop := ∃ (a : Option Addr) (cap : Nat) (xs : List Ans), e = .returned (.tuple #[.slice a m cap, .bool true]) ∧ xs.length = m ∧ (∀ i (h : i < xs.length), Rs i xs[i].ids xs[i].r) ∧ (∀ x ∈ xs, x.ok w') ∧ Sl w' a m cap 10 (xs.flatMap Ans.cells) ∧ Stab.Keeps w w'
set_option maxRecDepth 100000 in
set_option maxHeartbeats 2000000 in
theorem play_ (a : Option Addr) (n cap : Nat) (L : List It) (a2 : Option Addr) (m cap2 : Nat) (qs : List Ask) (w : World) (SA : World → Prop) (hSA : ∀ w w', Stab.Keeps w w' → SA w → SA w') (hsa : SA w)
    (hl : L.length = n) (hn : n ≤ 1000000) (h : Sz w a n cap 5 (enc L)) (hm : qs.length = m) (hm2 : m ≤ 1000000) (h2 : Sz w a2 m cap2 7 (qs.flatMap Ask.cells)) (Rs : Option RT → Nat → List Int → Rest → Prop)
    (hT : ∀ (tr : Option RT), (itemsO tr).Perm L → ∀ i (hi : i < qs.length) (p lo : Nat) (w' : World), SA w' → TreeAt w' lo p n tr → Calls Tryd.prog 15 #[.pointer (some ⟨p, 0, none⟩), qs[i].val] w' (TP (Rs tr i) w')) :
    Calls Tryd.prog 8 #[.slice a n cap, .slice a2 m cap2] w (fun e w' => ∃ tr : Option RT, (itemsO tr).Perm L ∧ (∀ t, tr = some t → t.full) ∧ PlayPost w m (Rs tr) e w') := by
  have hmf : ∀ (fn : Fn) (first cap : Array Value) (w : World), (Instr.makeFunc fn first cap).run Tryd.prog w = .ok (.func fn first cap) w := fun _ _ _ _ => rfl
  obtain ⟨i0, hi, hz0, hz1, hz2⟩ := info_parts infoTold
  have hle2 := h2.le
  have hmx2 := h2.max
  unfold maxLen at hmx2
  have HM := Lib.hid hm
  clear hm
  go_enter_defers Tryd.func8, Tryd.ntmps8
  go_wp2_with fail
  have hk0 : Stab.Keeps w ((w.alloc (.cells #[.slice none 0 0] 33)).alloc (.cells #[.bool false] 4)) := by repeat (first | (with_reducible exact Stab.Keeps.refl _) | (with_reducible assumption) | (with_reducible refine Stab.Keeps.alloc ?_ _) | (with_reducible refine Stab.Keeps.drew ?_) | (with_reducible refine Stab.Keeps.drewN ?_ _) | ((with_reducible refine Stab.Keeps.setCell ?_ ?_ _); focus (first | (simp; done) | (simp; omega))) | (with_reducible refine Stab.Keeps.trans ?_ (by with_reducible assumption)))
  have hb0 : Blk ((w.alloc (.cells #[.slice none 0 0] 33)).alloc (.cells #[.bool false] 4)) w.heap.size 33 [.slice none 0 0] := (Blk.new w [_] _ _ rfl).alloc _
  have hb1 : Blk ((w.alloc (.cells #[.slice none 0 0] 33)).alloc (.cells #[.bool false] 4)) (w.heap.size + 1) 4 [.bool false] := Blk.new _ [_] _ _ (by simp)
  have hWl : w.heap.size < ((w.alloc (.cells #[.slice none 0 0] 33)).alloc (.cells #[.bool false] 4)).heap.size := by simp; omega
  generalize ((w.alloc (.cells #[.slice none 0 0] 33)).alloc (.cells #[.bool false] 4)) = W at *
  refine (tree_ a n cap L W hl hn (h.keep hk0)).mono ?_
  rintro e w2 ⟨p, tr, rfl, hTr, hperm, hk2⟩
  have hk02 := Stab.Keeps.trans hk0 hk2
  have hb02 := hb0.keep hk2
  have hb12 := hb1.keep hk2
  have HF : Hid (∀ t, tr = some t → t.full) := Lib.hid (fun t e => by subst e; exact hTr.2.choose_spec.2.full)
  have hqc := hT tr hperm
  clear hT hb0 hb1 h
  go_wp2_with fail
  go_loopw [14] (fun iv wr => ∃ (k : Nat) (xs : List Ans) (al : Option Addr) (c : Nat), k ≤ m ∧ iv = .int .i64 k ∧ xs.length = k ∧ Stab.Keeps w wr ∧ TreeAt wr W.heap.size p n tr ∧ Blk wr w.heap.size 33 [.slice al k c] ∧ Blk wr (w.heap.size + 1) 4 [.bool false] ∧
    wr.ownsRow (w.heap.size + 1 + 1) 39 10 (.slice al k c) k (xs.flatMap Ans.cells) ∧ (∀ i (h : i < xs.length), Rs tr i xs[i].ids xs[i].r) ∧ (∀ x ∈ xs, x.ok wr)) (fun iv _ => m - (intOf iv).toNat)
  case atStart => exact ⟨0, [], none, 0, by omega, rfl, rfl, hk02, hTr, hb02, hb12, World.ownsRow_nil _ _ _ _, fun i h => by simp at h, fun x hx => by simp at hx⟩
  case round =>
    clear hTr hb02 hb12 hk02
    obtain ⟨k, xs, al, c, k2, rfl, hxl, hK, hTr, hb0, hb1, hown, hRs, hok⟩ := hrel
    have HX := Lib.hid hxl
    clear hxl
    by_cases hlt : k < m
    · have hkq : k < qs.length := by have := HM.out; omega
      obtain ⟨b, off, ha, hb, hc⟩ := (h2.keep hK).elem hlt
      subst ha
      have eg := fun j hj => flat_get Ask.cells 7 Ask.cells_len qs k j hkq hj
      have c0 : wr.cell? ⟨b, off + k * 7, none⟩ = some (.int .i64 qs[k].dO) := hc 0 _ (by omega) (by rw [eg 0 (by omega)]; rfl)
      have c1 : wr.cell? ⟨b, off + k * 7 + 1, none⟩ = some (.float .f64 qs[k].box.a) := hc 1 _ (by omega) (by rw [eg 1 (by omega)]; rfl)
      have c2 : wr.cell? ⟨b, off + k * 7 + 2, none⟩ = some (.float .f64 qs[k].box.b) := hc 2 _ (by omega) (by rw [eg 2 (by omega)]; rfl)
      have c3 : wr.cell? ⟨b, off + k * 7 + 3, none⟩ = some (.float .f64 qs[k].box.c) := hc 3 _ (by omega) (by rw [eg 3 (by omega)]; rfl)
      have c4 : wr.cell? ⟨b, off + k * 7 + 4, none⟩ = some (.float .f64 qs[k].box.d) := hc 4 _ (by omega) (by rw [eg 4 (by omega)]; rfl)
      have c5 : wr.cell? ⟨b, off + k * 7 + 5, none⟩ = some (.int .i64 qs[k].stop) := hc 5 _ (by omega) (by rw [eg 5 (by omega)]; rfl)
      have c6 : wr.cell? ⟨b, off + k * 7 + 6, none⟩ = some (.int .i64 qs[k].how) := hc 6 _ (by omega) (by rw [eg 6 (by omega)]; rfl)
      have hcl := fun w' (hs : SA w') hT => hqc k hkq p W.heap.size w' hs hT
      clear eg hc
      generalize qs[k] = q at *
      simp only [Ask.val] at hcl
      have l0 := hb0.cell (i := 0) rfl
      have hll := hb0.lt
      have hsr := hSA _ _ hK hsa
      go_wp2_with fail
      refine Stab.keep_tail 5 (PlayF (Rs tr k) wr.heap.size) (fun k => k == 3 || k == 4) (fun k => false) (playPre _ _) (by kernel_rfl) (by kernel_rfl) fun hcx => ?_
      simp only [List.take_succ_cons, List.take_zero, List.drop_succ_cons, List.drop_zero]
      repeat (first
        | (refine Stab.quiet rfl rfl rfl (fun K hK => ?_); go_big_quiet_op; refine hK _ ?_; clear hK K)
        | (refine Stab.one rfl rfl rfl ?_
           apply Exists.intro
           refine ⟨fun w1 hw1 => ?_, fun K hK => ?_⟩
           · go_simp
             first | fail
           go_simp
           refine hK _ ?_
           clear hK K)
        | (refine Stab.skip rfl (fun K hK => ?_); go_simp; refine hK _ ?_; clear hK K))
      refine Stab.made rfl rfl (fun w1 hk1 => ?_) (fun v hv K hK => ?_)
      · have hkr1 : Stab.Keeps wr w1 := by have := hk1.1; repeat (first | (with_reducible exact Stab.Keeps.refl _) | (with_reducible assumption) | (with_reducible refine Stab.Keeps.alloc ?_ _) | (with_reducible refine Stab.Keeps.drew ?_) | (with_reducible refine Stab.Keeps.drewN ?_ _) | ((with_reducible refine Stab.Keeps.setCell ?_ ?_ _); focus (first | (simp; done) | (simp; omega))) | (with_reducible refine Stab.Keeps.trans ?_ (by with_reducible assumption)))
        go_simp
        refine (hcl w1 (hSA _ _ hkr1 hsr) (hTr.keep hkr1)).mono ?_
        rintro e w2 ⟨ids, r, hR, ax, cx, rfl, hox, hkx⟩
        exact ⟨_, rfl, hkx, fun _ => ⟨⟨ax, cx, ids, r⟩, hR, rfl, owns_base hox (Nat.zero_le _)⟩, fun h => by cases h⟩
      obtain ⟨wv, _, _, hv⟩ := hv
      obtain ⟨x, hxR, rfl, _⟩ := hv.1 rfl
      clear hv
      go_simp
      refine hK _ ?_
      clear hK
      refine Stab.made rfl rfl (fun w1 hk1 => ?_) (fun v hv K hK => ?_)
      · have hkr1 : Stab.Keeps wr w1 := by have := hk1.1; repeat (first | (with_reducible exact Stab.Keeps.refl _) | (with_reducible assumption) | (with_reducible refine Stab.Keeps.alloc ?_ _) | (with_reducible refine Stab.Keeps.drew ?_) | (with_reducible refine Stab.Keeps.drewN ?_ _) | ((with_reducible refine Stab.Keeps.setCell ?_ ?_ _); focus (first | (simp; done) | (simp; omega))) | (with_reducible refine Stab.Keeps.trans ?_ (by with_reducible assumption)))
        obtain ⟨x', hxR', hxe, hxo⟩ := (Stab.setF_new (hk1.2 3 (by kernel_rfl))).1 rfl
        simp only [toldV]
        go_simp
        refine ⟨by repeat (first | (with_reducible exact Stab.Keeps.refl _) | (with_reducible assumption) | (with_reducible refine Stab.Keeps.alloc ?_ _) | (with_reducible refine Stab.Keeps.drew ?_) | (with_reducible refine Stab.Keeps.drewN ?_ _) | ((with_reducible refine Stab.Keeps.setCell ?_ ?_ _); focus (first | (simp; done) | (simp; omega))) | (with_reducible refine Stab.Keeps.trans ?_ (by with_reducible assumption))), (fun h => by cases h), fun _ => ⟨x', w1.heap.size, hxR', hxo.keep (by repeat (first | (with_reducible exact Stab.Keeps.refl _) | (with_reducible assumption) | (with_reducible refine Stab.Keeps.alloc ?_ _) | (with_reducible refine Stab.Keeps.drew ?_) | (with_reducible refine Stab.Keeps.drewN ?_ _) | ((with_reducible refine Stab.Keeps.setCell ?_ ?_ _); focus (first | (simp; done) | (simp; omega))) | (with_reducible refine Stab.Keeps.trans ?_ (by with_reducible assumption)))), rfl, ?_, hkr1.size⟩⟩
        have hce : x.cells = x'.cells := by
          unfold toldV at hxe
          injection hxe with hxe
          have := congrArg Array.toList hxe
          simpa [Ans.cells, Rest.cells] using this
        rw [← hce]
        exact Blk.new w1 x.cells _ _ rfl
      obtain ⟨wv4, _, _, hv4⟩ := hv
      obtain ⟨x4, g, _, _, rfl, _, _⟩ := hv4.2 rfl
      clear hv4
      go_simp
      refine hK _ ?_
      clear hK
      refine Stab.nil fun w' hw' hfs => ?_
      obtain ⟨x5, g', hR5, hok5, he, hB5, hg5⟩ := (Stab.setF_new (hfs 4)).2 rfl
      cases he
      clear hcx hfs hcl c0 c1 c2 c3 c4 c5 c6 l0 hll hsr
      have hkr : Stab.Keeps wr w' := by repeat (first | (with_reducible exact Stab.Keeps.refl _) | (with_reducible assumption) | (with_reducible refine Stab.Keeps.alloc ?_ _) | (with_reducible refine Stab.Keeps.drew ?_) | (with_reducible refine Stab.Keeps.drewN ?_ _) | ((with_reducible refine Stab.Keeps.setCell ?_ ?_ _); focus (first | (simp; done) | (simp; omega))) | (with_reducible refine Stab.Keeps.trans ?_ (by with_reducible assumption)))
      have hown' := owns_keep hown hkr
      have hb0' := hb0.keep hkr
      have hb1' := hb1.keep hkr
      have hTr' := hTr.keep hkr
      have hK' := Stab.Keeps.trans hK hkr
      have hok' : ∀ x ∈ xs ++ [x5], x.ok w' := fun y hy => by
        rcases List.mem_append.1 hy with hy | hy
        · exact (hok y hy).keep hkr
        · simp at hy; subst hy; exact hok5
      have hRs' : ∀ i (h : i < (xs ++ [x5]).length), Rs tr i (xs ++ [x5])[i].ids (xs ++ [x5])[i].r := fun i hi => by
        by_cases h : i < xs.length
        · rw [List.getElem_append_left h]; exact hRs i h
        · have : i = xs.length := by simp at hi; omega
          subst this
          rw [List.getElem_append_right (Nat.le_refl _)]
          simp only [Nat.sub_self, List.getElem_cons_zero]
          rw [HX.out]; exact hR5
      have l0 := hb0'.cell (i := 0) rfl
      have lf := hb0'.free
      have hll := hb0'.lt
      have hll1 := hb1'.lt
      have hw'sz : w.heap.size + 1 + 1 ≤ w'.heap.size := by omega
      clear hown hb0 hb1 hTr hK hok hok5 hRs hw'
      go_wp2_with (at_builtin; (refine Sl.append_own (w0 := w') rfl _ _ 33 rfl (w.heap.size + 1 + 1) 39 i0 _ 10 80 Tryd.underlying33 hi hz0 hz1 hz2 rfl (by decide) _ k _ rfl hown' ⟨g, 0, none⟩ 1 1 x5.cells rfl rfl ?c1 ?c2 ?c3 ?c4 ?c5 ?c6 ?_))
      case c1 => intro j u hj; rw [add_none, Nat.zero_add]; exact hB5.cell hj
      case c2 => intro u hu; simp [Ans.cells, Rest.cells] at hu; rcases hu with rfl | rfl | rfl | rfl | rfl | rfl | rfl | rfl | rfl | rfl <;> rfl
      case c3 => unfold maxLen; omega
      case c4 => omega
      case c5 => omega
      case c6 => exact Below.refl _ _
      intro al' c' w5 hown5 hk5 hsz5 hgr
      have hne : 39 ≠ 3 := by decide
      have hb05 := hb0'.grown hgr (owns_ne hown' hb0' (by decide))
      have hb15 := hb1'.grown hgr (owns_ne hown' hb1' (by decide))
      have hlast : ∀ x ∈ xs ++ [x5], x.ok w5 := fun y hy => grown_other (hok' y hy) hown' (Ne.symm hne) hgr
      have hTr5 : TreeAt w5 W.heap.size p n tr := hTr'.of (fun b e vs _ he hb => hb.grown hgr (owns_ne hown' hb he))
      have hKf : Stab.Keeps w w5 := Below.trans hK' (Below.mono hk5 (by omega))
      have hTr6 : TreeAt (w5.setCell ⟨w.heap.size, 0, none⟩ (.slice al' (k + 1) c')) W.heap.size p n tr := hTr5.of (fun b e vs hl _ hb => hb.past (by simp; omega) _)
      have hown6 := owns_past (i := 0) (u := .slice al' (k + 1) c') (owns_ne hown5 hb05 (by decide)) hown5
      have hlast6 : ∀ x ∈ xs ++ [x5], x.ok (w5.setCell ⟨w.heap.size, 0, none⟩ (.slice al' (k + 1) c')) := fun y hy => owns_past (owns_ne (hlast y hy) hb05 (by decide)) (hlast y hy)
      have hb06 := hb05.set 0 (.slice al' (k + 1) c')
      have hb16 := hb15.past (a := ⟨w.heap.size, 0, none⟩) (by simp) (.slice al' (k + 1) c')
      have l5 := hb05.cell (i := 0) rfl
      have lf5 := hb05.free
      have hll5 := hb05.lt
      have hcat : xs.flatMap Ans.cells ++ x5.cells = (xs ++ [x5]).flatMap Ans.cells := by simp
      rw [hcat] at hown6
      clear hTr5 hown5 hlast hb05 hb15 hTr' hown' hb0' hb1' hok' hgr hK' hkr hB5 hcat l0 lf hll hll1 hi hz0 hz1 hz2
      go_wp2_with fail
      go_roundw
      case rel =>
        refine ⟨k + 1, xs ++ [x5], al', c', by omega, by go_num, by have := HX.out; simp; omega, ?_, hTr6, hb06, hb16, hown6, hRs', hlast6⟩
        repeat (first | (with_reducible exact Stab.Keeps.refl _) | (with_reducible assumption) | (with_reducible refine Stab.Keeps.alloc ?_ _) | (with_reducible refine Stab.Keeps.drew ?_) | (with_reducible refine Stab.Keeps.drewN ?_ _) | ((with_reducible refine Stab.Keeps.setCell ?_ ?_ _); focus (first | (simp; done) | (simp; omega))) | (with_reducible refine Stab.Keeps.trans ?_ (by with_reducible assumption)))
      case measure => simp [intOf]; omega
    · have hkm : k = m := by omega
      subst hkm
      have l0 := hb0.cell (i := 0) rfl
      have l1 := hb1.cell (i := 0) rfl
      have lf0 := hb0.free
      have lf1 := hb1.free
      have hll := hb1.lt
      obtain ⟨al2, c2, he, hSl, _⟩ := of_owns hown
      cases he
      have hnr := owns_ne hown hb0 (by decide)
      have hnr1 := owns_ne hown hb1 (by decide)
      have hokf : ∀ x ∈ xs, x.ok ((wr.setCell ⟨w.heap.size, 0, none⟩ (.slice al k c)).setCell ⟨w.heap.size + 1, 0, none⟩ (.bool true)) := fun y hy =>
        owns_past (owns_ne (hok y hy) hb1 (by decide)) (owns_past (owns_ne (hok y hy) hb0 (by decide)) (hok y hy))
      have hownf := owns_past (i := 0) (u := .bool true) hnr1 (owns_past (i := 0) (u := .slice al k c) hnr hown)
      clear hmf hb0 hb1 hTr hok hown hSl hqc
      go_wp2_with fail
      refine leaves_cons (f := 13) (args := #[.pointer (some ⟨w.heap.size, 0, none⟩), .pointer (some ⟨w.heap.size + 1, 0, none⟩)]) (by simp) (by simp [go_sem]) ?_
      refine (catch_play _ _ _).mono ?_
      rintro e u' w'' ⟨rfl, rfl, rfl⟩
      obtain ⟨al3, c3, he3, hSl3, _⟩ := of_owns hownf
      cases he3
      refine ⟨.tuple #[.slice al k c, .bool true], by simp [results, Tryd.results8, go_sem, *], tr, hperm, HF.out, al, c, xs, rfl, HX.out, hRs, hokf, hSl3, ?_⟩
      repeat (first | (with_reducible exact Stab.Keeps.refl _) | (with_reducible assumption) | (with_reducible refine Stab.Keeps.alloc ?_ _) | (with_reducible refine Stab.Keeps.drew ?_) | (with_reducible refine Stab.Keeps.drewN ?_ _) | ((with_reducible refine Stab.Keeps.setCell ?_ ?_ _); focus (first | (simp; done) | (simp; omega))) | (with_reducible refine Stab.Keeps.trans ?_ (by with_reducible assumption)))
end Go.Proofs.YtokofimfinhnbaaDoor
