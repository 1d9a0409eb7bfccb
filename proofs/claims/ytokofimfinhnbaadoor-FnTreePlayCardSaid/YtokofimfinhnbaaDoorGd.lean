/-
  The laws of trees: good boxes, good items, the box around items, walked. No condition.
  The laws of trees: whether items are good, walked. No condition.
  The laws of trees: the box around items, walked; boxes as whole numbers. No condition.
  The laws of trees in plain words: what a search goes through; a list within another. No condition.
  FnTreeWithin: the walk of the law. No condition.
-/
import Derived.Test.YtokofimfinhnbaaDoorGc
import Derived.Test.YtokofimfinhnbaaDoorFmx
import Derived.Test.YtokofimfinhnbaaDoorMb
set_option linter.unusedVariables false
set_option linter.unusedSimpArgs false
namespace Go.Proofs.YtokofimfinhnbaaDoor
open Go.RowKit Go.Fl Go.Sl Go.Ch Go.Fr Go.Mb
theorem conv_int (x : Nat) (n : Int) (h : floatToIntVal .f64 x .i64 = some n) (w : World) : (convert 26 3 (.float .f64 x)).run Tryd.prog w = .ok (.int .i64 n) w :=
  run_convert_float_int w 26 3 .f64 .i64 x n (by kernel_rfl) Tryd.underlying3 h
set_option maxHeartbeats 1000000 in
theorem kWhole_ (x : Nat) (w : World) : Calls Tryd.prog 17 #[.float .f64 x] w fun e w' => e = .returned (.bool (wholeB x)) ∧ w = w' := by
  by_cases h1 : (gt x 13920626448202203136 || eq x 13920626448202203136) = true
  · by_cases h2 : (lt x 4697254411347427328 || eq x 4697254411347427328) = true
    · obtain ⟨n, hn, hw⟩ := whole_int h1 h2
      have hc := conv_int x n hn
      unfold gt eq at h1
      unfold lt eq at h2
      rw [hw]
      clear hw hn
      go_enter Tryd.func17, Tryd.ntmps17
      go_wp2
      go_ret
      exact ⟨rfl, rfl⟩
    · have hw : wholeB x = false := by unfold wholeB; simp only [Bool.not_eq_true] at h2; rw [h2]; simp
      rw [hw]
      rw [Bool.not_eq_true] at h2
      unfold gt eq at h1
      unfold lt eq at h2
      clear hw
      go_enter Tryd.func17, Tryd.ntmps17
      go_wp2
      go_ret
      exact ⟨rfl, rfl⟩
  · have hw : wholeB x = false := by unfold wholeB; simp only [Bool.not_eq_true] at h1; rw [h1]; simp
    rw [hw]
    rw [Bool.not_eq_true] at h1
    unfold gt eq at h1
    clear hw
    go_enter Tryd.func17, Tryd.ntmps17
    go_wp2
    go_ret
    exact ⟨rfl, rfl⟩
def boxB (x : B4) : Bool := wholeB x.a && wholeB x.b && wholeB x.c && wholeB x.d && (lt x.a x.c || eq x.a x.c) && (lt x.b x.d || eq x.b x.d)
set_option maxRecDepth 100000 in
set_option maxHeartbeats 1000000 in
theorem kBox_ (x : B4) (w : World) : Calls Tryd.prog 11 #[x.val] w (One w (.bool (boxB x))) := by
  obtain ⟨a, b, c, d⟩ := x
  unfold boxB B4.val
  simp only
  cases h1 : wholeB a <;> cases h2 : wholeB b <;> cases h3 : wholeB c <;> cases h4 : wholeB d
  case true.true.true.true =>
    cases h5 : (lt a c || eq a c) with
    | false =>
      unfold lt eq at h5
      go_enter Tryd.func11, Tryd.ntmps11
      go_wp2_with (go_at_call 17; refine (kWhole_ _ _).mono ?_; rintro e w1 ⟨rfl, rfl⟩)
      go_ret
      refine ⟨by simp, ?_⟩
      repeat (first | (with_reducible exact Stab.Keeps.refl _) | (with_reducible assumption) | (with_reducible refine Stab.Keeps.alloc ?_ _) | (with_reducible refine Stab.Keeps.drew ?_) | (with_reducible refine Stab.Keeps.drewN ?_ _) | ((with_reducible refine Stab.Keeps.setCell ?_ ?_ _); focus (first | (simp; done) | (simp; omega))) | (with_reducible refine Stab.Keeps.trans ?_ (by with_reducible assumption)))
    | true =>
      have h6 : (FloatKind.f64.format.order b d == some .lt || FloatKind.f64.format.order b d == some .eq) = (lt b d || eq b d) := rfl
      unfold lt eq at h5
      generalize (lt b d || eq b d) = q at h6 ⊢
      go_enter Tryd.func11, Tryd.ntmps11
      go_wp2_with (go_at_call 17; refine (kWhole_ _ _).mono ?_; rintro e w1 ⟨rfl, rfl⟩)
      go_ret
      refine ⟨by simp, ?_⟩
      repeat (first | (with_reducible exact Stab.Keeps.refl _) | (with_reducible assumption) | (with_reducible refine Stab.Keeps.alloc ?_ _) | (with_reducible refine Stab.Keeps.drew ?_) | (with_reducible refine Stab.Keeps.drewN ?_ _) | ((with_reducible refine Stab.Keeps.setCell ?_ ?_ _); focus (first | (simp; done) | (simp; omega))) | (with_reducible refine Stab.Keeps.trans ?_ (by with_reducible assumption)))
  all_goals
    go_enter Tryd.func11, Tryd.ntmps11
    go_wp2_with (go_at_call 17; refine (kWhole_ _ _).mono ?_; rintro e w1 ⟨rfl, rfl⟩)
    go_ret
    refine ⟨by simp, ?_⟩
    repeat (first | (with_reducible exact Stab.Keeps.refl _) | (with_reducible assumption) | (with_reducible refine Stab.Keeps.alloc ?_ _) | (with_reducible refine Stab.Keeps.drew ?_) | (with_reducible refine Stab.Keeps.drewN ?_ _) | ((with_reducible refine Stab.Keeps.setCell ?_ ?_ _); focus (first | (simp; done) | (simp; omega))) | (with_reducible refine Stab.Keeps.trans ?_ (by with_reducible assumption)))
end Go.Proofs.YtokofimfinhnbaaDoor
set_option linter.unusedVariables false
set_option linter.unusedSimpArgs false
namespace Go.Proofs.YtokofimfinhnbaaDoor
open Go.RowKit Go.Fl Go.Sl Go.Ch Go.Fr Go.Mb
def GoodL (L : List It) : Prop := L.length ≤ 400 ∧ (∀ t ∈ L, boxB t.box = true) ∧ (L.map It.id).Nodup
def KItems (w : World) (L : List It) (e : Ending) (w' : World) : Prop := ∃ t, e = .returned (.bool t) ∧ (t = true → GoodL L) ∧ Stab.Keeps w w'
theorem zeroBool (w : World) : (zeroValue 4).run Tryd.prog w = .ok (.bool false) w := by kernel_rfl
set_option maxRecDepth 100000 in
set_option maxHeartbeats 1000000 in
theorem kItems_ (a : Option Addr) (n cap : Nat) (L : List It) (w : World) (hl : L.length = n) (h : Sz w a n cap 5 (enc L)) (hid : ∀ t ∈ L, (Lit.int .i64 t.id).wf = true) :
    Calls Tryd.prog 6 #[.slice a n cap] w (KItems w L) := by
  have hle := h.le
  have hmx := h.max
  unfold maxLen at hmx
  have hmm : ∀ w : World, (Instr.makeMap 48 none).run Tryd.prog w = .ok (.map (some w.heap.size)) (w.alloc (.map #[] 0)) := fun w => run_makeMap 48 w
  by_cases h4 : n ≤ 400
  · have g1 : decide ((n : Int) > 400) = false := by simp; omega
    have HL := Lib.hid hl
    clear hl
    go_enter Tryd.func6, Tryd.ntmps6
    go_wp2
    have hM := MB.made (P := Tryd.prog) (k := 3) (e := 4) w
    have hK : Stab.Keeps w (w.alloc (.map #[] 0)) := by repeat (first | (with_reducible exact Stab.Keeps.refl _) | (with_reducible assumption) | (with_reducible refine Stab.Keeps.alloc ?_ _) | (with_reducible refine Stab.Keeps.drew ?_) | (with_reducible refine Stab.Keeps.drewN ?_ _) | ((with_reducible refine Stab.Keeps.setCell ?_ ?_ _); focus (first | (simp; done) | (simp; omega))) | (with_reducible refine Stab.Keeps.trans ?_ (by with_reducible assumption)))
    generalize w.alloc (.map #[] 0) = W at hM hK ⊢
    clear hmm
    go_loopw [12] (fun iv wr => ∃ k : Nat, k ≤ n ∧ iv = .int .i64 k ∧ Stab.Keeps w wr ∧ MB Tryd.prog 3 4 wr w.heap.size k ((L.take k).map It.id) ∧ (∀ t ∈ L.take k, boxB t.box = true) ∧ ((L.take k).map It.id).Nodup) (fun iv _ => n - (intOf iv).toNat)
    case atStart => exact ⟨0, by omega, rfl, hK, by simpa using hM, fun t ht => by simp at ht, by simp⟩
    case round =>
      clear hM hK
      obtain ⟨k, k2, rfl, hK, hM, hgood, hnd⟩ := hrel
      by_cases hlt : k < n
      · obtain ⟨b, off, ha, hb, hc⟩ := (h.keep hK).elem hlt
        subst ha
        have hkL : k < L.length := by have := HL.out; omega
        have eg := fun j hj => enc_get L k j hkL hj
        have c0 : wr.cell? ⟨b, off + k * 5, none⟩ = some (.float .f64 L[k].box.a) := hc 0 _ (by omega) (by rw [eg 0 (by omega)]; rfl)
        have c1 : wr.cell? ⟨b, off + k * 5 + 1, none⟩ = some (.float .f64 L[k].box.b) := hc 1 _ (by omega) (by rw [eg 1 (by omega)]; rfl)
        have c2 : wr.cell? ⟨b, off + k * 5 + 2, none⟩ = some (.float .f64 L[k].box.c) := hc 2 _ (by omega) (by rw [eg 2 (by omega)]; rfl)
        have c3 : wr.cell? ⟨b, off + k * 5 + 3, none⟩ = some (.float .f64 L[k].box.d) := hc 3 _ (by omega) (by rw [eg 3 (by omega)]; rfl)
        have c4 : wr.cell? ⟨b, off + k * 5 + 4, none⟩ = some (.int .i64 L[k].id) := hc 4 _ (by omega) (by rw [eg 4 (by omega)]; rfl)
        have hcut : L.take (k + 1) = L.take k ++ [L[k]] := List.take_succ_eq_append_getElem hkL
        have hwf := hid L[k] (List.getElem_mem _)
        have HC := Lib.hid hcut
        clear eg hc hcut
        generalize L[k] = t at *
        have hkb := fun w => kBox_ t.box w
        simp only [B4.val] at hkb
        go_wp2_with fail
        refine (hkb _).mono ?_
        clear hkb
        rintro e w2 ⟨rfl, hk2⟩
        cases hv : boxB t.box with
        | false =>
          go_wp2
          go_ret
          refine ⟨_, rfl, (fun h => by cases h), ?_⟩
          repeat (first | (with_reducible exact Stab.Keeps.refl _) | (with_reducible assumption) | (with_reducible refine Stab.Keeps.alloc ?_ _) | (with_reducible refine Stab.Keeps.drew ?_) | (with_reducible refine Stab.Keeps.drewN ?_ _) | ((with_reducible refine Stab.Keeps.setCell ?_ ?_ _); focus (first | (simp; done) | (simp; omega))) | (with_reducible refine Stab.Keeps.trans ?_ (by with_reducible assumption)))
        | true =>
          obtain ⟨mc_, mf_⟩ := Stab.own_cell hk2 (wr.heap.size) (by first | (simp; done) | (simp; omega) | omega | (apply Stab.cell_lt (a := ⟨wr.heap.size, 0, none⟩); assumption))
          have m0 : w2.cell? ⟨wr.heap.size, 0, none⟩ = some (.float .f64 t.box.a) := by rw [mc_]; first | assumption | (go_simp; done)
          have m1 : w2.cell? ⟨wr.heap.size, 1, none⟩ = some (.float .f64 t.box.b) := by rw [mc_]; first | assumption | (go_simp; done)
          have m2 : w2.cell? ⟨wr.heap.size, 2, none⟩ = some (.float .f64 t.box.c) := by rw [mc_]; first | assumption | (go_simp; done)
          have m3 : w2.cell? ⟨wr.heap.size, 3, none⟩ = some (.float .f64 t.box.d) := by rw [mc_]; first | assumption | (go_simp; done)
          have m4 : w2.cell? ⟨wr.heap.size, 4, none⟩ = some (.int .i64 t.id) := by rw [mc_]; first | assumption | (go_simp; done)
          have mf : ∀ j, w2.frozen? ⟨wr.heap.size, j, none⟩ = false := fun j => by rw [mf_]; first | (go_simp; done) | (apply_assumption)
          clear mc_ mf_
          have hkk : Stab.Keeps wr w2 := by repeat (first | (with_reducible exact Stab.Keeps.refl _) | (with_reducible assumption) | (with_reducible refine Stab.Keeps.alloc ?_ _) | (with_reducible refine Stab.Keeps.drew ?_) | (with_reducible refine Stab.Keeps.drewN ?_ _) | ((with_reducible refine Stab.Keeps.setCell ?_ ?_ _); focus (first | (simp; done) | (simp; omega))) | (with_reducible refine Stab.Keeps.trans ?_ (by with_reducible assumption)))
          have hM2 := hM.keep hkk
          have hlook := hM2.lookup (t := 48) Tryd.underlying48 Tryd.underlying3 Tryd.underlying4 (zeroBool w2) t.id hwf
          have hMl := hM2.lt
          by_cases hin : t.id ∈ (L.take k).map It.id
          · rw [decide_eq_true hin] at hlook
            clear hM hM2 hgood hnd
            go_wp2
            go_ret
            refine ⟨_, rfl, (fun h => by cases h), ?_⟩
            repeat (first | (with_reducible exact Stab.Keeps.refl _) | (with_reducible assumption) | (with_reducible refine Stab.Keeps.alloc ?_ _) | (with_reducible refine Stab.Keeps.drew ?_) | (with_reducible refine Stab.Keeps.drewN ?_ _) | ((with_reducible refine Stab.Keeps.setCell ?_ ?_ _); focus (first | (simp; done) | (simp; omega))) | (with_reducible refine Stab.Keeps.trans ?_ (by with_reducible assumption)))
          · rw [decide_eq_false hin] at hlook
            clear hM
            go_wp2_with ((with_reducible_and_instances refine MB.put rfl _ _ _ 48 rfl Tryd.underlying48 Tryd.underlying3 Tryd.underlying4 rfl hM2 ?c1 t.id hwf rfl rfl ?_))
            case c1 => unfold maxLen; omega
            intro w3 hM3 hg3
            have hk3 : Stab.Keeps w w3 := by
              have h1 : Stab.Keeps w w2 := by repeat (first | (with_reducible exact Stab.Keeps.refl _) | (with_reducible assumption) | (with_reducible refine Stab.Keeps.alloc ?_ _) | (with_reducible refine Stab.Keeps.drew ?_) | (with_reducible refine Stab.Keeps.drewN ?_ _) | ((with_reducible refine Stab.Keeps.setCell ?_ ?_ _); focus (first | (simp; done) | (simp; omega))) | (with_reducible refine Stab.Keeps.trans ?_ (by with_reducible assumption)))
              exact Below.grown h1 hg3 h1.size (fun g hg => by cases hg; exact Nat.le_refl _)
            have hmap : (L.take (k + 1)).map It.id = (L.take k).map It.id ++ [t.id] := by rw [HC.out]; simp
            have hM4 : MB Tryd.prog 3 4 w3 w.heap.size (k + 1) ((L.take (k + 1)).map It.id) := by rw [hmap, List.map_take]; simpa using hM3
            clear hM3
            have hnd' : ((L.take (k + 1)).map It.id).Nodup := by
              rw [hmap]
              exact List.nodup_append.2 ⟨hnd, by simp, fun x hx y hy => by simp at hy; subst hy; rintro rfl; exact hin hx⟩
            have hgood' : ∀ x ∈ L.take (k + 1), boxB x.box = true := fun x hx => by
              rw [HC.out] at hx
              rcases List.mem_append.1 hx with hx | hx
              · exact hgood x hx
              · simp at hx; subst hx; exact hv
            clear hmap hM2 hlook
            go_wp2_with fail
            go_roundw
            case rel => exact ⟨k + 1, by omega, by go_num, hk3, hM4, hgood', hnd'⟩
            case measure => simp [intOf]; omega
      · have hkn : k = n := by omega
        subst hkn
        rw [List.take_of_length_le (by rw [HL.out]; exact Nat.le_refl _)] at hgood hnd
        go_wp2_with fail
        go_ret
        exact ⟨true, rfl, fun _ => ⟨by rw [HL.out]; exact h4, hgood, hnd⟩, hK⟩
  · have g1 : decide ((n : Int) > 400) = true := by simp; omega
    go_enter Tryd.func6, Tryd.ntmps6
    go_wp2
    go_ret
    refine ⟨_, rfl, (fun h => by cases h), ?_⟩
    repeat (first | (with_reducible exact Stab.Keeps.refl _) | (with_reducible assumption) | (with_reducible refine Stab.Keeps.alloc ?_ _) | (with_reducible refine Stab.Keeps.drew ?_) | (with_reducible refine Stab.Keeps.drewN ?_ _) | ((with_reducible refine Stab.Keeps.setCell ?_ ?_ _); focus (first | (simp; done) | (simp; omega))) | (with_reducible refine Stab.Keeps.trans ?_ (by with_reducible assumption)))
end Go.Proofs.YtokofimfinhnbaaDoor
set_option linter.unusedVariables false
set_option linter.unusedSimpArgs false
namespace Go.Proofs.YtokofimfinhnbaaDoor
open Go.RowKit Go.Fl Go.Sl Go.Ch Go.Fr Go.Mb
structure Q4 where
  a : Int
  b : Int
  c : Int
  d : Int
/-- the box has the whole ends q -/
structure ZB (x : B4) (q : Q4) : Prop where
  a : Z x.a q.a
  b : Z x.b q.b
  c : Z x.c q.c
  d : Z x.d q.d
/-- in order, from -2^20 to 2^20 -/
structure Q4.ok (q : Q4) : Prop where
  ac : q.a ≤ q.c
  bd : q.b ≤ q.d
  a0 : -1048576 ≤ q.a
  b0 : -1048576 ≤ q.b
  c1 : q.c ≤ 1048576
  d1 : q.d ≤ 1048576
theorem le_Z {x y : Nat} {a b : Int} (hx : Z x a) (hy : Z y b) : (lt x y || eq x y) = decide (a ≤ b) := by
  rw [hx.lt hy, hx.eq hy]
  by_cases h : a ≤ b
  · by_cases h2 : a = b
    · simp [h2]
    · have : a < b := by omega
      simp [this, h]
  · have h1 : ¬ a < b := by omega
    have h2 : a ≠ b := by omega
    simp [h, h1, h2]
theorem ge_Z {x y : Nat} {a b : Int} (hx : Z x a) (hy : Z y b) : (gt x y || eq x y) = decide (b ≤ a) := by
  rw [hx.gt hy, hx.eq hy]
  by_cases h : b ≤ a
  · by_cases h2 : a = b
    · simp [h2]
    · have : b < a := by omega
      simp [this, h]
  · have h1 : ¬ b < a := by omega
    have h2 : a ≠ b := by omega
    simp [h, h1, h2]
theorem boxB_spec {x : B4} (h : boxB x = true) : ∃ q, ZB x q ∧ q.ok := by
  unfold boxB at h
  simp only [Bool.and_eq_true] at h
  obtain ⟨⟨⟨⟨⟨h1, h2⟩, h3⟩, h4⟩, h5⟩, h6⟩ := h
  obtain ⟨a, a0, a1, za⟩ := whole_spec h1
  obtain ⟨b, b0, b1, zb⟩ := whole_spec h2
  obtain ⟨c, c0, c1, zc⟩ := whole_spec h3
  obtain ⟨d, d0, d1, zd⟩ := whole_spec h4
  rw [le_Z za zc] at h5
  rw [le_Z zb zd] at h6
  simp only [decide_eq_true_eq] at h5 h6
  exact ⟨⟨a, b, c, d⟩, ⟨za, zb, zc, zd⟩, ⟨h5, h6, a0, b0, c1, d1⟩⟩
/-- p lies within q -/
structure Q4.within (p q : Q4) : Prop where
  a : q.a ≤ p.a
  b : q.b ≤ p.b
  c : p.c ≤ q.c
  d : p.d ≤ q.d
def meetB (p q : Q4) : Bool := decide (p.a ≤ q.c) && decide (q.a ≤ p.c) && decide (p.b ≤ q.d) && decide (q.b ≤ p.d)
theorem ovl_Z {x y : B4} {p q : Q4} (hx : ZB x p) (hy : ZB y q) : ovl x y = meetB p q := by
  unfold ovl meetB
  rw [le_Z hx.a hy.c, ge_Z hx.c hy.a, le_Z hx.b hy.d, ge_Z hx.d hy.b]
theorem meet_mono {p q p' q' : Q4} (h : meetB p q = true) (hp : p.within p') (hq : q.within q') : meetB p' q' = true := by
  simp only [meetB, Bool.and_eq_true, decide_eq_true_eq] at h ⊢
  have := hp.a; have := hp.b; have := hp.c; have := hp.d; have := hq.a; have := hq.b; have := hq.c; have := hq.d
  omega
def AroundPost (w : World) (L : List It) (e : Ending) (w' : World) : Prop := ∃ x q, e = .returned (B4.val x) ∧ ZB x q ∧ q.ok ∧ (∀ t ∈ L, ∃ p, ZB t.box p ∧ p.ok ∧ p.within q) ∧ (∀ r : Q4, (∀ t ∈ L, ∃ p, ZB t.box p ∧ p.within r) → q.within r) ∧ Stab.Keeps w w'
set_option maxRecDepth 100000 in
set_option maxHeartbeats 1000000 in
theorem around_ (a : Option Addr) (n cap : Nat) (L : List It) (w : World) (hl : L.length = n) (hn : 1 ≤ n) (hn2 : n ≤ 1000000) (h : Sz w a n cap 5 (enc L)) (hg : ∀ t ∈ L, boxB t.box = true) :
    Calls Tryd.prog 12 #[.slice a n cap] w (AroundPost w L) := by
  have hle := h.le
  have hmx := h.max
  unfold maxLen at hmx
  obtain ⟨b, off, ha, hb, hc⟩ := h.elem (i := 0) (by omega)
  subst ha
  have h0L : 0 < L.length := by omega
  have eg := fun j hj => enc_get L 0 j h0L hj
  have c0 : w.cell? ⟨b, off, none⟩ = some (.float .f64 L[0].box.a) := by have := hc 0 _ (by omega) (by rw [eg 0 (by omega)]; rfl); simpa using this
  have c1 : w.cell? ⟨b, off + 1, none⟩ = some (.float .f64 L[0].box.b) := by have := hc 1 _ (by omega) (by rw [eg 1 (by omega)]; rfl); simpa using this
  have c2 : w.cell? ⟨b, off + 2, none⟩ = some (.float .f64 L[0].box.c) := by have := hc 2 _ (by omega) (by rw [eg 2 (by omega)]; rfl); simpa using this
  have c3 : w.cell? ⟨b, off + 3, none⟩ = some (.float .f64 L[0].box.d) := by have := hc 3 _ (by omega) (by rw [eg 3 (by omega)]; rfl); simpa using this
  obtain ⟨q0, hz0, hk0⟩ := boxB_spec (hg L[0] (List.getElem_mem _))
  have hlub0 : ∀ r : Q4, (∀ t ∈ L, ∃ p, ZB t.box p ∧ p.within r) → q0.within r := fun r hr => by
    obtain ⟨p, h1, h2⟩ := hr _ (List.getElem_mem h0L)
    have : q0 = p := by
      obtain ⟨a, b, c, d⟩ := q0
      obtain ⟨a', b', c', d'⟩ := p
      have e1 := hz0.a.2.symm.trans h1.a.2
      have e2 := hz0.b.2.symm.trans h1.b.2
      have e3 := hz0.c.2.symm.trans h1.c.2
      have e4 := hz0.d.2.symm.trans h1.d.2
      simp only [Rat.intCast_inj] at e1 e2 e3 e4
      subst e1 e2 e3 e4
      rfl
    rw [this]
    exact h2
  have HL := Lib.hid hl
  clear hl eg hc
  generalize L[0] = t0 at *
  go_enter Tryd.func12, Tryd.ntmps12
  go_wp2
  have hX : Blk ((w.alloc (.cells #[.float .f64 0, .float .f64 0, .float .f64 0, .float .f64 0] 28)).alloc (.cells #[.float .f64 t0.box.a, .float .f64 t0.box.b, .float .f64 t0.box.c, .float .f64 t0.box.d] 28)) (w.heap.size + 1) 28 t0.box.cells := Blk.new _ [_, _, _, _] _ _ (by simp)
  have hR : Blk ((w.alloc (.cells #[.float .f64 0, .float .f64 0, .float .f64 0, .float .f64 0] 28)).alloc (.cells #[.float .f64 t0.box.a, .float .f64 t0.box.b, .float .f64 t0.box.c, .float .f64 t0.box.d] 28)) w.heap.size 28 (B4.cells ⟨0, 0, 0, 0⟩) := (Blk.new w [_, _, _, _] _ _ rfl).alloc _
  have hK : Stab.Keeps w ((w.alloc (.cells #[.float .f64 0, .float .f64 0, .float .f64 0, .float .f64 0] 28)).alloc (.cells #[.float .f64 t0.box.a, .float .f64 t0.box.b, .float .f64 t0.box.c, .float .f64 t0.box.d] 28)) := by repeat (first | (with_reducible exact Stab.Keeps.refl _) | (with_reducible assumption) | (with_reducible refine Stab.Keeps.alloc ?_ _) | (with_reducible refine Stab.Keeps.drew ?_) | (with_reducible refine Stab.Keeps.drewN ?_ _) | ((with_reducible refine Stab.Keeps.setCell ?_ ?_ _); focus (first | (simp; done) | (simp; omega))) | (with_reducible refine Stab.Keeps.trans ?_ (by with_reducible assumption)))
  generalize ((w.alloc (.cells #[.float .f64 0, .float .f64 0, .float .f64 0, .float .f64 0] 28)).alloc (.cells #[.float .f64 t0.box.a, .float .f64 t0.box.b, .float .f64 t0.box.c, .float .f64 t0.box.d] 28)) = W at hX hR hK ⊢
  clear c0 c1 c2 c3
  go_loopw [12] (fun iv wr => ∃ (k : Nat) (x : B4) (q : Q4), k ≤ n ∧ iv = .int .i64 k ∧ Stab.Keeps w wr ∧ Blk wr (w.heap.size + 1) 28 x.cells ∧ Blk wr w.heap.size 28 (B4.cells ⟨0, 0, 0, 0⟩) ∧ ZB x q ∧ q.ok ∧ (∀ t ∈ L.take k, ∃ p, ZB t.box p ∧ p.ok ∧ p.within q) ∧ ∀ r : Q4, (∀ t ∈ L, ∃ p, ZB t.box p ∧ p.within r) → q.within r) (fun iv _ => n - (intOf iv).toNat)
  case atStart => exact ⟨0, t0.box, q0, by omega, rfl, hK, hX, hR, hz0, hk0, (fun t ht => by simp at ht), hlub0⟩
  case round =>
    clear hX hR hK hz0 hk0 hlub0
    obtain ⟨k, x, q, k2, rfl, hK, hX, hR, hz, hq, hin, hlub⟩ := hrel
    by_cases hlt : k < n
    · obtain ⟨b', off', ha, hb, hc⟩ := (h.keep hK).elem hlt
      cases ha
      have hkL : k < L.length := by have := HL.out; omega
      have eg := fun j hj => enc_get L k j hkL hj
      have c0 : wr.cell? ⟨b, off + k * 5, none⟩ = some (.float .f64 L[k].box.a) := hc 0 _ (by omega) (by rw [eg 0 (by omega)]; rfl)
      have c1 : wr.cell? ⟨b, off + k * 5 + 1, none⟩ = some (.float .f64 L[k].box.b) := hc 1 _ (by omega) (by rw [eg 1 (by omega)]; rfl)
      have c2 : wr.cell? ⟨b, off + k * 5 + 2, none⟩ = some (.float .f64 L[k].box.c) := hc 2 _ (by omega) (by rw [eg 2 (by omega)]; rfl)
      have c3 : wr.cell? ⟨b, off + k * 5 + 3, none⟩ = some (.float .f64 L[k].box.d) := hc 3 _ (by omega) (by rw [eg 3 (by omega)]; rfl)
      have c4 : wr.cell? ⟨b, off + k * 5 + 4, none⟩ = some (.int .i64 L[k].id) := hc 4 _ (by omega) (by rw [eg 4 (by omega)]; rfl)
      have HC := Lib.hid (List.take_succ_eq_append_getElem hkL)
      obtain ⟨p, hzp, hpk⟩ := boxB_spec (hg L[k] (List.getElem_mem _))
      have hlubn : ∀ r : Q4, (∀ t ∈ L, ∃ p, ZB t.box p ∧ p.within r) → Q4.within ⟨min q.a p.a, min q.b p.b, max q.c p.c, max q.d p.d⟩ r := fun r hr => by
        have h0 := hlub r hr
        obtain ⟨p', h1, h2⟩ := hr _ (List.getElem_mem hkL)
        have e1 := hzp.a.2.symm.trans h1.a.2
        have e2 := hzp.b.2.symm.trans h1.b.2
        have e3 := hzp.c.2.symm.trans h1.c.2
        have e4 := hzp.d.2.symm.trans h1.d.2
        simp only [Rat.intCast_inj] at e1 e2 e3 e4
        have := h0.a; have := h0.b; have := h0.c; have := h0.d; have := h2.a; have := h2.b; have := h2.c; have := h2.d
        constructor <;> simp only <;> omega
      have HLB := Lib.hid hlubn
      clear eg hc hlub hlubn
      generalize L[k] = t at *
      have m1 := fun ts t w => run_min_2 (P := Tryd.prog) ts t hz.a.fin hzp.a.fin w
      have m2 := fun ts t w => run_min_2 (P := Tryd.prog) ts t hz.b.fin hzp.b.fin w
      have m3 := fun ts t w => run_max_2 (P := Tryd.prog) ts t hz.c.fin hzp.c.fin w
      have m4 := fun ts t w => run_max_2 (P := Tryd.prog) ts t hz.d.fin hzp.d.fin w
      have x0 := hX.cell (i := 0) rfl
      have x1 := hX.cell (i := 1) rfl
      have x2 := hX.cell (i := 2) rfl
      have x3 := hX.cell (i := 3) rfl
      have xf := hX.free
      have hxl := hX.lt
      have hXn : Blk (((((wr.setCell ⟨w.heap.size + 1, 0, none⟩ (.float .f64 (mn2 x.a t.box.a))).setCell ⟨w.heap.size + 1, 1, none⟩ (.float .f64 (mn2 x.b t.box.b))).setCell ⟨w.heap.size + 1, 2, none⟩ (.float .f64 (mx2 x.c t.box.c))).setCell ⟨w.heap.size + 1, 3, none⟩ (.float .f64 (mx2 x.d t.box.d))).alloc (.cells #[.float .f64 t.box.a, .float .f64 t.box.b, .float .f64 t.box.c, .float .f64 t.box.d, .int .i64 t.id] 32)) (w.heap.size + 1) 28 (B4.cells ⟨mn2 x.a t.box.a, mn2 x.b t.box.b, mx2 x.c t.box.c, mx2 x.d t.box.d⟩) := ((((hX.set 0 _).set 1 _).set 2 _).set 3 _).alloc _
      have hRn : Blk (((((wr.setCell ⟨w.heap.size + 1, 0, none⟩ (.float .f64 (mn2 x.a t.box.a))).setCell ⟨w.heap.size + 1, 1, none⟩ (.float .f64 (mn2 x.b t.box.b))).setCell ⟨w.heap.size + 1, 2, none⟩ (.float .f64 (mx2 x.c t.box.c))).setCell ⟨w.heap.size + 1, 3, none⟩ (.float .f64 (mx2 x.d t.box.d))).alloc (.cells #[.float .f64 t.box.a, .float .f64 t.box.b, .float .f64 t.box.c, .float .f64 t.box.d, .int .i64 t.id] 32)) w.heap.size 28 (B4.cells ⟨0, 0, 0, 0⟩) := ((((hR.past (by simp) _).past (by simp) _).past (by simp) _).past (by simp) _).alloc _
      have hzn : ZB ⟨mn2 x.a t.box.a, mn2 x.b t.box.b, mx2 x.c t.box.c, mx2 x.d t.box.d⟩ ⟨min q.a p.a, min q.b p.b, max q.c p.c, max q.d p.d⟩ := ⟨mn2_Z hz.a hzp.a, mn2_Z hz.b hzp.b, mx2_Z hz.c hzp.c, mx2_Z hz.d hzp.d⟩
      have hqn : Q4.ok ⟨min q.a p.a, min q.b p.b, max q.c p.c, max q.d p.d⟩ := by
        have := hq.ac; have := hq.bd; have := hq.a0; have := hq.b0; have := hq.c1; have := hq.d1; have := hpk.ac; have := hpk.bd; have := hpk.a0; have := hpk.b0; have := hpk.c1; have := hpk.d1
        constructor <;> simp only <;> omega
      have hinn : ∀ u ∈ L.take (k + 1), ∃ p', ZB u.box p' ∧ p'.ok ∧ p'.within ⟨min q.a p.a, min q.b p.b, max q.c p.c, max q.d p.d⟩ := by
        intro u hu
        rw [HC.out] at hu
        rcases List.mem_append.1 hu with hu | hu
        · obtain ⟨p', h1, h2, h3⟩ := hin u hu
          refine ⟨p', h1, h2, ?_⟩
          have := h3.a; have := h3.b; have := h3.c; have := h3.d
          constructor <;> simp only <;> omega
        · simp at hu; subst hu
          refine ⟨p, hzp, hpk, ?_⟩
          constructor <;> simp only <;> omega
      clear hX hR hz hzp hq hpk hin
      generalize (⟨min q.a p.a, min q.b p.b, max q.c p.c, max q.d p.d⟩ : Q4) = qn at *
      generalize mn2 x.a t.box.a = n0 at *
      generalize mn2 x.b t.box.b = n1 at *
      generalize mx2 x.c t.box.c = n2 at *
      generalize mx2 x.d t.box.d = n3 at *
      go_wp2_with fail
      go_roundw
      case rel =>
        refine ⟨k + 1, _, _, by omega, by go_num, ?_, hXn, hRn, hzn, hqn, hinn, HLB.out⟩
        clear hXn hRn
        repeat (first | (with_reducible exact Stab.Keeps.refl _) | (with_reducible assumption) | (with_reducible refine Stab.Keeps.alloc ?_ _) | (with_reducible refine Stab.Keeps.drew ?_) | (with_reducible refine Stab.Keeps.drewN ?_ _) | ((with_reducible refine Stab.Keeps.setCell ?_ ?_ _); focus (first | (simp; done) | (simp; omega))) | (with_reducible refine Stab.Keeps.trans ?_ (by with_reducible assumption)))
      case measure => simp [intOf]; omega
    · have hkn : k = n := by omega
      subst hkn
      rw [List.take_of_length_le (by rw [HL.out]; exact Nat.le_refl _)] at hin
      have x0 := hX.cell (i := 0) rfl
      have x1 := hX.cell (i := 1) rfl
      have x2 := hX.cell (i := 2) rfl
      have x3 := hX.cell (i := 3) rfl
      have hxl := hX.lt
      have r0 := hR.cell (i := 0) rfl
      have r1 := hR.cell (i := 1) rfl
      have r2 := hR.cell (i := 2) rfl
      have r3 := hR.cell (i := 3) rfl
      have rf := hR.free
      have hrl := hR.lt
      have HLU := Lib.hid hlub
      clear hX hR hlub
      go_wp2
      refine bodyPost_ret (v := x.val) (by simp [results, Tryd.results12, go_sem, B4.val, *]) rfl ⟨x, q, rfl, hz, hq, hin, HLU.out, ?_⟩
      repeat (first | (with_reducible exact Stab.Keeps.refl _) | (with_reducible assumption) | (with_reducible refine Stab.Keeps.alloc ?_ _) | (with_reducible refine Stab.Keeps.drew ?_) | (with_reducible refine Stab.Keeps.drewN ?_ _) | ((with_reducible refine Stab.Keeps.setCell ?_ ?_ _); focus (first | (simp; done) | (simp; omega))) | (with_reducible refine Stab.Keeps.trans ?_ (by with_reducible assumption)))
end Go.Proofs.YtokofimfinhnbaaDoor
set_option linter.unusedVariables false
set_option linter.unusedSimpArgs false
namespace Go.Proofs.YtokofimfinhnbaaDoor
open Go.RowKit Go.Fl Go.Sl Go.Ch Go.Fr Go.Mb
theorem Z_inj {x : Nat} {a b : Int} (h : Z x a) (h' : Z x b) : a = b := by
  have := h.2.symm.trans h'.2
  exact Rat.intCast_inj.1 this
theorem ZB.inj {x : B4} {p q : Q4} (h : ZB x p) (h' : ZB x q) : p = q := by
  obtain ⟨a, b, c, d⟩ := p
  obtain ⟨a', b', c', d'⟩ := q
  have h1 := Z_inj h.a h'.a; have h2 := Z_inj h.b h'.b; have h3 := Z_inj h.c h'.c; have h4 := Z_inj h.d h'.d
  simp only at h1 h2 h3 h4
  subst h1 h2 h3 h4
  rfl
theorem fmn_Z {x y : Nat} {a b : Int} (hx : Z x a) (hy : Z y b) : Z (fmn x y) (min a b) := by
  unfold fmn
  rw [hx.lt hy]
  by_cases h : a < b
  · simp only [h, decide_true, if_true]; rw [Int.min_eq_left (by omega)]; exact hx
  · simp only [h, decide_false, Bool.false_eq_true, if_false]; rw [Int.min_eq_right (by omega)]; exact hy
theorem fmx_Z {x y : Nat} {a b : Int} (hx : Z x a) (hy : Z y b) : Z (fmx x y) (max a b) := by
  unfold fmx
  rw [hx.gt hy]
  by_cases h : b < a
  · simp only [h, decide_true, if_true]; rw [Int.max_eq_left (by omega)]; exact hx
  · simp only [h, decide_false, Bool.false_eq_true, if_false]; rw [Int.max_eq_right (by omega)]; exact hy
def Q4.join (p q : Q4) : Q4 := ⟨min p.a q.a, min p.b q.b, max p.c q.c, max p.d q.d⟩
theorem cmb_Z {x y : B4} {p q : Q4} (hx : ZB x p) (hy : ZB y q) : ZB (cmb x y) (p.join q) := ⟨fmn_Z hx.a hy.a, fmn_Z hx.b hy.b, fmx_Z hx.c hy.c, fmx_Z hx.d hy.d⟩
theorem within_join_l (p q : Q4) : p.within (p.join q) := by constructor <;> simp only [Q4.join] <;> omega
theorem within_join_r (p q : Q4) : q.within (p.join q) := by constructor <;> simp only [Q4.join] <;> omega
theorem Q4.within.trans {p q r : Q4} (h : p.within q) (k : q.within r) : p.within r := by
  have := h.a; have := h.b; have := h.c; have := h.d; have := k.a; have := k.b; have := k.c; have := k.d
  constructor <;> omega
theorem fold_Z : ∀ (l : List B4) (x : B4) (p : Q4), ZB x p → (∀ y ∈ l, ∃ q, ZB y q) → ∃ r, ZB (l.foldl cmb x) r ∧ p.within r ∧ ∀ y ∈ l, ∃ q, ZB y q ∧ q.within r
  | [], x, p, hx, _ => ⟨p, hx, ⟨by omega, by omega, by omega, by omega⟩, fun y hy => by simp at hy⟩
  | z :: l, x, p, hx, h => by
    obtain ⟨q, hz⟩ := h z (by simp)
    obtain ⟨r, h1, h2, h3⟩ := fold_Z l (cmb x z) (p.join q) (cmb_Z hx hz) (fun y hy => h y (by simp [hy]))
    refine ⟨r, h1, (within_join_l p q).trans h2, fun y hy => ?_⟩
    rcases List.mem_cons.1 hy with rfl | hy
    · exact ⟨q, hz, (within_join_r p q).trans h2⟩
    · exact h3 y hy
theorem bnd_Z {l : List B4} (h0 : 0 < l.length) (h : ∀ y ∈ l, ∃ q, ZB y q) : ∃ r, ZB (bnd l) r ∧ ∀ y ∈ l, ∃ q, ZB y q ∧ q.within r := by
  cases l with
  | nil => simp at h0
  | cons x l =>
    obtain ⟨p, hx⟩ := h x (by simp)
    obtain ⟨r, h1, h2, h3⟩ := fold_Z l x p hx (fun y hy => h y (by simp [hy]))
    refine ⟨r, h1, fun y hy => ?_⟩
    rcases List.mem_cons.1 hy with rfl | hy
    · exact ⟨p, hx, h2⟩
    · exact h3 y hy
theorem box_Z : ∀ (t : RT), t.full → (∀ i ∈ t.items, boxB i.box = true) → ∃ r, ZB t.box r ∧ ∀ i ∈ t.items, ∃ p, ZB i.box p ∧ p.within r
  | .leaf l, hf, hg => by
    obtain ⟨r, h1, h2⟩ := bnd_Z (l := l.map It.box) (by simpa [RT.full] using hf) (fun y hy => by
      simp only [List.mem_map] at hy
      obtain ⟨i, hi, rfl⟩ := hy
      obtain ⟨q, hq, _⟩ := boxB_spec (hg i hi)
      exact ⟨q, hq⟩)
    exact ⟨r, h1, fun i hi => h2 _ (List.mem_map_of_mem hi)⟩
  | .two a b, hf, hg => by
    simp only [RT.items, List.mem_append] at hg ⊢
    obtain ⟨ra, a1, a2⟩ := box_Z a hf.1 (fun i hi => hg i (.inl hi))
    obtain ⟨rb, b1, b2⟩ := box_Z b hf.2 (fun i hi => hg i (.inr hi))
    obtain ⟨r, h1, h2⟩ := bnd_Z (l := [a.box, b.box]) (by simp) (fun y hy => by simp at hy; rcases hy with rfl | rfl; exact ⟨ra, a1⟩; exact ⟨rb, b1⟩)
    refine ⟨r, h1, fun i hi => ?_⟩
    rcases hi with hi | hi
    · obtain ⟨p, p1, p2⟩ := a2 i hi
      obtain ⟨q, q1, q2⟩ := h2 a.box (by simp)
      rw [a1.inj q1] at p2
      exact ⟨p, p1, p2.trans q2⟩
    · obtain ⟨p, p1, p2⟩ := b2 i hi
      obtain ⟨q, q1, q2⟩ := h2 b.box (by simp)
      rw [b1.inj q1] at p2
      exact ⟨p, p1, p2.trans q2⟩
  | .four a b c d, hf, hg => by
    simp only [RT.items, List.mem_append] at hg ⊢
    obtain ⟨ra, a1, a2⟩ := box_Z a hf.1 (fun i hi => hg i (.inl hi))
    obtain ⟨rb, b1, b2⟩ := box_Z b hf.2.1 (fun i hi => hg i (.inr (.inl hi)))
    obtain ⟨rc, c1, c2⟩ := box_Z c hf.2.2.1 (fun i hi => hg i (.inr (.inr (.inl hi))))
    obtain ⟨rd, d1, d2⟩ := box_Z d hf.2.2.2 (fun i hi => hg i (.inr (.inr (.inr hi))))
    obtain ⟨r, h1, h2⟩ := bnd_Z (l := [a.box, b.box, c.box, d.box]) (by simp) (fun y hy => by
      simp at hy
      rcases hy with rfl | rfl | rfl | rfl
      · exact ⟨ra, a1⟩
      · exact ⟨rb, b1⟩
      · exact ⟨rc, c1⟩
      · exact ⟨rd, d1⟩)
    refine ⟨r, h1, fun i hi => ?_⟩
    rcases hi with hi | hi | hi | hi
    · obtain ⟨p, p1, p2⟩ := a2 i hi
      obtain ⟨q, q1, q2⟩ := h2 a.box (by simp)
      rw [a1.inj q1] at p2
      exact ⟨p, p1, p2.trans q2⟩
    · obtain ⟨p, p1, p2⟩ := b2 i hi
      obtain ⟨q, q1, q2⟩ := h2 b.box (by simp)
      rw [b1.inj q1] at p2
      exact ⟨p, p1, p2.trans q2⟩
    · obtain ⟨p, p1, p2⟩ := c2 i hi
      obtain ⟨q, q1, q2⟩ := h2 c.box (by simp)
      rw [c1.inj q1] at p2
      exact ⟨p, p1, p2.trans q2⟩
    · obtain ⟨p, p1, p2⟩ := d2 i hi
      obtain ⟨q, q1, q2⟩ := h2 d.box (by simp)
      rw [d1.inj q1] at p2
      exact ⟨p, p1, p2.trans q2⟩
/-- of a tree whose box does not meet y, no item meets y -/
theorem none_meets {t : RT} {y : B4} {q : Q4} (hf : t.full) (hg : ∀ i ∈ t.items, boxB i.box = true) (hy : ZB y q) (h : ovl t.box y = false) : t.items.filter (fun i => ovl i.box y) = [] := by
  obtain ⟨r, h1, h2⟩ := box_Z t hf hg
  rw [List.filter_eq_nil_iff]
  intro i hi hov
  obtain ⟨p, p1, p2⟩ := h2 i hi
  rw [ovl_Z p1 hy] at hov
  rw [ovl_Z h1 hy] at h
  have := meet_mono hov p2 (q' := q) ⟨Int.le_refl _, Int.le_refl _, Int.le_refl _, Int.le_refl _⟩
  rw [this] at h
  cases h
theorem rs_part {t : RT} {y : B4} {q : Q4} (hf : t.full) (hg : ∀ i ∈ t.items, boxB i.box = true) (hy : ZB y q) (ih : rs y t = (t.items.filter fun i => ovl i.box y).map It.id) :
    (if ovl t.box y then rs y t else []) = (t.items.filter fun i => ovl i.box y).map It.id := by
  cases h : ovl t.box y with
  | true => simpa using ih
  | false => rw [none_meets hf hg hy h]; simp
theorem rs_eq {y : B4} {q : Q4} (hy : ZB y q) : ∀ (t : RT), t.full → (∀ i ∈ t.items, boxB i.box = true) → rs y t = (t.items.filter fun i => ovl i.box y).map It.id
  | .leaf l, _, _ => rfl
  | .two a b, hf, hg => by
    simp only [RT.items, List.mem_append] at hg
    simp only [rs, RT.items, List.filter_append, List.map_append]
    rw [rs_part hf.1 (fun i hi => hg i (.inl hi)) hy (rs_eq hy a hf.1 (fun i hi => hg i (.inl hi))), rs_part hf.2 (fun i hi => hg i (.inr hi)) hy (rs_eq hy b hf.2 (fun i hi => hg i (.inr hi)))]
  | .four a b c d, hf, hg => by
    simp only [RT.items, List.mem_append] at hg
    simp only [rs, RT.items, List.filter_append, List.map_append]
    rw [rs_part hf.1 (fun i hi => hg i (.inl hi)) hy (rs_eq hy a hf.1 (fun i hi => hg i (.inl hi))), rs_part hf.2.1 (fun i hi => hg i (.inr (.inl hi))) hy (rs_eq hy b hf.2.1 (fun i hi => hg i (.inr (.inl hi)))),
      rs_part hf.2.2.1 (fun i hi => hg i (.inr (.inr (.inl hi)))) hy (rs_eq hy c hf.2.2.1 (fun i hi => hg i (.inr (.inr (.inl hi))))), rs_part hf.2.2.2 (fun i hi => hg i (.inr (.inr (.inr hi)))) hy (rs_eq hy d hf.2.2.2 (fun i hi => hg i (.inr (.inr (.inr hi)))))]
/-- how far the first list has been met within the second -/
def met (sub : List Int) (l : List Int) (at_ : Nat) : Nat := l.foldl (fun a id => if sub[a]? = some id then a + 1 else a) at_
theorem met_all (p q : It → Bool) : ∀ (l pre : List It), (∀ i ∈ l, p i = true → q i = true) → ((pre ++ l).map It.id).Nodup → met (((pre ++ l).filter p).map It.id) ((l.filter q).map It.id) (pre.filter p).length = ((pre ++ l).filter p).length
  | [], pre, _, _ => by simp [met]
  | x :: l, pre, hpq, hnd => by
    have e : pre ++ x :: l = (pre ++ [x]) ++ l := by simp
    have ih := met_all p q l (pre ++ [x]) (fun i hi => hpq i (by simp [hi])) (by rw [← e]; exact hnd)
    rw [← e] at ih
    by_cases hp : p x = true
    · have hq := hpq x (by simp) hp
      have hget : (((pre ++ x :: l).filter p).map It.id)[(pre.filter p).length]? = some x.id := by
        rw [List.filter_append, List.filter_cons, if_pos hp, List.map_append]
        rw [List.getElem?_append_right (by simp)]
        simp
      rw [List.filter_cons, if_pos hq, List.map_cons]
      unfold met at ih ⊢
      rw [List.foldl_cons, if_pos hget]
      have hlen : ((pre ++ [x]).filter p).length = (pre.filter p).length + 1 := by simp [hp]
      rw [hlen] at ih
      exact ih
    · have hp' : p x = false := by simpa using hp
      have hlen : ((pre ++ [x]).filter p).length = (pre.filter p).length := by simp [hp']
      rw [hlen] at ih
      by_cases hq : q x = true
      · have hget : ¬ (((pre ++ x :: l).filter p).map It.id)[(pre.filter p).length]? = some x.id := by
          intro h
          have hm : x.id ∈ (l.filter p).map It.id := by
            rw [List.filter_append, List.filter_cons, if_neg hp, List.map_append, List.getElem?_append_right (by simp)] at h
            exact List.mem_of_getElem? h
          rw [List.map_append, List.map_cons] at hnd
          have h1 := (List.nodup_append.1 hnd).2.1
          rw [List.nodup_cons] at h1
          obtain ⟨i, hi, he⟩ := List.mem_map.1 hm
          exact h1.1 (List.mem_map.2 ⟨i, (List.mem_filter.1 hi).1, he⟩)
        rw [List.filter_cons, if_pos hq, List.map_cons]
        unfold met at ih ⊢
        rw [List.foldl_cons, if_neg hget]
        exact ih
      · rw [List.filter_cons, if_neg hq]
        exact ih
theorem met_filter {p q : It → Bool} {l : List It} (hpq : ∀ i ∈ l, p i = true → q i = true) (hnd : (l.map It.id).Nodup) : met ((l.filter p).map It.id) ((l.filter q).map It.id) 0 = ((l.filter p).map It.id).length := by
  have := met_all p q l [] hpq (by simpa using hnd)
  simpa using this
theorem met_snoc (sub l : List Int) (x : Int) (a : Nat) : met sub (l ++ [x]) a = if sub[met sub l a]? = some x then met sub l a + 1 else met sub l a := by
  unfold met
  rw [List.foldl_append]
  rfl
theorem met_le (sub : List Int) : ∀ (l : List Int) (a : Nat), a ≤ sub.length → met sub l a ≤ sub.length
  | [], a, h => h
  | x :: l, a, h => by
    unfold met
    rw [List.foldl_cons]
    by_cases hx : sub[a]? = some x
    · rw [if_pos hx]
      have : a < sub.length := by
        rcases Nat.lt_or_ge a sub.length with h | h
        · exact h
        · rw [List.getElem?_eq_none h] at hx; cases hx
      exact met_le sub l (a + 1) (by omega)
    · rw [if_neg hx]; exact met_le sub l a h
end Go.Proofs.YtokofimfinhnbaaDoor
set_option linter.unusedVariables false
set_option linter.unusedSimpArgs false
namespace Go.Proofs.YtokofimfinhnbaaDoor
open Go.RowKit Go.Fl Go.Sl Go.Ch Go.Fr Go.Mb
def LawPost (w : World) (e : Ending) (w' : World) : Prop := e = .returned (.bool true) ∧ Stab.Keeps w w'
/-- what package-level Stop holds -/
def StopAt (w : World) : Prop := ∃ t a, w.cell? ⟨0, 0, none⟩ = some (.iface t (.pointer (some a)))
theorem StopAt.keep {w w' : World} (hk : Stab.Keeps w w') (h : StopAt w) : StopAt w' := by
  obtain ⟨t, a, h⟩ := h
  exact ⟨t, a, by rw [(Stab.own_cell hk 0 (Stab.cell_lt h)).1]; exact h⟩
theorem ok_cells {w : World} {x : Ans} (h : x.ok w) (h0 : 0 < x.ids.length) : ∃ g, x.a = some ⟨g, 0, none⟩ ∧ g < w.heap.size ∧ ∀ i (hi : i < x.ids.length), w.cell? ⟨g, i, none⟩ = some (.int .i64 x.ids[i]) := by
  obtain ⟨hl, h2⟩ := h
  rcases h2 with ⟨hv, hn⟩ | ⟨g, cap, cur, hv, hg, hc, hn, hm, hs, ht⟩
  · omega
  · injection hv with h1 _ _
    refine ⟨g, h1, lt_of_block hc, fun i hi => ?_⟩
    simp only [World.cell?, hc, Option.isSome_none, Bool.false_eq_true, if_false]
    have : (cur.toList.take (x.ids.length * 1))[i]? = (encI x.ids)[i]? := by rw [ht]
    rw [List.getElem?_take, if_pos (by omega)] at this
    rw [← Array.getElem?_toList, this]
    simp [encI, hi]
theorem ok_len {w : World} {x : Ans} (h : x.ok w) : x.ids.length ≤ x.cap ∧ x.cap ≤ maxLen := by
  obtain ⟨hl, h2⟩ := h
  rcases h2 with ⟨hv, hn⟩ | ⟨g, cap, cur, hv, hg, hc, hn, hm, hs, ht⟩
  · injection hv with _ _ h3
    rw [hn, h3]; exact ⟨Nat.le_refl _, Nat.zero_le _⟩
  · injection hv with _ _ h3
    rw [h3]; exact ⟨hn, hm⟩
theorem _root_.Go.Ch.Blk.sz {w : World} {b n k : Nat} {e : TypeId} {vs : List Value} (h : Blk w b e vs) (hl : vs.length = n * k) (hn : n ≤ maxLen) : Sz w (some ⟨b, 0, none⟩) n n k vs :=
  ⟨hl, Nat.le_refl _, hn, fun _ => ⟨hl, Nat.le_refl _, hn, (fun h => by cases h), fun x hx => by
    cases hx
    exact ⟨b, 0, rfl, h.lt, fun j u hu => by rw [Nat.zero_add]; exact h.cell hu⟩⟩⟩
theorem list3' {α : Type} {l : List α} (h : l.length = 3) : ∃ a b c, l = [a, b, c] := by match l, h with | [a, b, c], _ => exact ⟨a, b, c, rfl⟩
/-- what the three questions are answered with -/
def WRs (x y z : B4) (tr : Option RT) (i : Nat) (ids : List Int) (r : Rest) : Prop := ∀ b, [x, y, z][i]? = some b → ids = rsO b tr ∧ r = Rest.zero
theorem items_len {tr : Option RT} {L : List It} (hp : (itemsO tr).Perm L) (b : B4) : (rsO b tr).length ≤ L.length := by
  rw [← hp.length_eq]
  cases tr with
  | none => simp [rsO]
  | some t => exact rs_le b t
theorem rsO_eq {b : B4} {q : Q4} (hb : ZB b q) {tr : Option RT} (hf : ∀ t, tr = some t → t.full) (hg : ∀ i ∈ itemsO tr, boxB i.box = true) : rsO b tr = ((itemsO tr).filter fun i => ovl i.box b).map It.id := by
  cases tr with
  | none => rfl
  | some t => exact rs_eq hb t (hf t rfl) hg
def AroZ (L : List It) (z : B4) : Prop := ∃ q, ZB z q ∧ q.ok ∧ ∀ t ∈ L, ∃ p, ZB t.box p ∧ p.ok ∧ p.within q
def asks3 (x y z : B4) : List Ask := [⟨0, x, 0, 0⟩, ⟨0, y, 0, 0⟩, ⟨0, z, 0, 0⟩]
def Played (L : List It) (x y z : B4) (aL : Option Addr) (cL : Nat) (w : World) : Prop := ∃ (tr : Option RT) (xs : List Ans), (itemsO tr).Perm L ∧ (∀ t, tr = some t → t.full) ∧ xs.length = 3 ∧ (∀ i (h : i < xs.length), WRs x y z tr i xs[i].ids xs[i].r) ∧ (∀ u ∈ xs, u.ok w) ∧ Sl w aL 3 cL 10 (xs.flatMap Ans.cells)
theorem within_plain {L : List It} {n : Nat} (hl : L.length = n) (hg : GoodL L) {x y z : B4} {tr : Option RT} (hp : (itemsO tr).Perm L) (hf : ∀ t, tr = some t → t.full) (hx : boxB x = true) (hy : boxB y = true) (hz : AroZ L z)
    (h1 : lt x.a y.a = false) (h2 : lt x.b y.b = false) (h3 : gt x.c y.c = false) (h4 : gt x.d y.d = false) :
    (rsO z tr).length = n ∧ met (rsO x tr) (rsO y tr) 0 = (rsO x tr).length ∧ met (rsO y tr) (rsO z tr) 0 = (rsO y tr).length := by
  obtain ⟨qx, zx, _⟩ := boxB_spec hx
  obtain ⟨qy, zy, _⟩ := boxB_spec hy
  obtain ⟨qz, zz, _, hin⟩ := hz
  have hgm : ∀ i ∈ itemsO tr, boxB i.box = true := fun i hi => hg.2.1 i (hp.mem_iff.1 hi)
  have hnd : ((itemsO tr).map It.id).Nodup := ((hp.map It.id).nodup_iff).2 hg.2.2
  rw [rsO_eq zx hf hgm, rsO_eq zy hf hgm, rsO_eq zz hf hgm]
  rw [zx.a.lt zy.a] at h1
  rw [zx.b.lt zy.b] at h2
  rw [zx.c.gt zy.c] at h3
  rw [zx.d.gt zy.d] at h4
  simp only [decide_eq_false_iff_not] at h1 h2 h3 h4
  have hall : ∀ i ∈ itemsO tr, ovl i.box z = true := fun i hi => by
    obtain ⟨p, zp, pk, pw⟩ := hin i (hp.mem_iff.1 hi)
    rw [ovl_Z zp zz]
    have := pw.a; have := pw.b; have := pw.c; have := pw.d; have := pk.ac; have := pk.bd
    simp only [meetB, Bool.and_eq_true, decide_eq_true_eq]
    omega
  refine ⟨?_, met_filter (fun i hi h => ?_) hnd, met_filter (fun i hi _ => hall i hi) hnd⟩
  · rw [List.length_map, List.filter_eq_self.2 hall, hp.length_eq, hl]
  · obtain ⟨p, zp, _⟩ := boxB_spec (hgm i hi)
    rw [ovl_Z zp zx] at h
    rw [ovl_Z zp zy]
    exact meet_mono h (p' := p) ⟨Int.le_refl _, Int.le_refl _, Int.le_refl _, Int.le_refl _⟩ ⟨by omega, by omega, by omega, by omega⟩
def KRel (kv : Value) : Prop := kv = .int .i64 1 ∨ kv = .int .i64 2 ∨ kv = .int .i64 3
/-- what the region's calls have made, while its order is open -/
def WitF (L : List It) (x y : B4) (k : Nat) (v : Value) (w : World) : Prop :=
  (k = 6 → ∃ z, v = B4.val z ∧ AroZ L z) ∧
  (k = 8 → ∃ z g, AroZ L z ∧ v = .slice (some ⟨g, 0, none⟩) 3 3 ∧ Blk w g 30 ((asks3 x y z).flatMap Ask.cells)) ∧
  (k = 9 → ∃ z aL cL, AroZ L z ∧ v = .tuple #[.slice aL 3 cL, .bool true] ∧ Played L x y z aL cL w)
theorem witPre (L : List It) (x y : B4) : Stab.Pre Stab.Keeps (WitF L x y) :=
  ⟨Stab.Keeps.refl, Stab.Keeps.trans, fun k v w w' hk h => ⟨h.1, fun e => by
      obtain ⟨z, g, h1, h2, h3⟩ := h.2.1 e
      exact ⟨z, g, h1, h2, h3.keep hk⟩, fun e => by
      obtain ⟨z, aL, cL, h1, h2, tr, xs, g1, g2, g3, g4, g5, g6⟩ := h.2.2 e
      exact ⟨z, aL, cL, h1, h2, tr, xs, g1, g2, g3, g4, fun u hu => (g5 u hu).keep hk, g6.keep hk⟩⟩⟩
/-- whether the law goes on to ask -/
def asksB (L : List It) (x y : B4) : Bool := boxB x && boxB y && !(L.length == 0) && !lt x.a y.a && !lt x.b y.b && !gt x.c y.c && !gt x.d y.d
set_option maxRecDepth 100000 in
set_option maxHeartbeats 4000000 in
theorem within_ (a : Option Addr) (n cap : Nat) (L : List It) (x y : B4) (w : World) (hl : L.length = n) (h : Sz w a n cap 5 (enc L)) (hid : ∀ t ∈ L, (Lit.int .i64 t.id).wf = true) (hsa : StopAt w) :
    Calls Tryd.prog 5 #[.slice a n cap, x.val, y.val] w (LawPost w) := by
  have hle := h.le
  have hmx := h.max
  unfold maxLen at hmx
  simp only [B4.val]
  by_cases c1 : (2147483647 : Int) < n
  · go_enter Tryd.func5, Tryd.ntmps5
    go_wp2_with fail
    go_ret
    refine ⟨rfl, ?_⟩
    repeat (first | (with_reducible exact Stab.Keeps.refl _) | (with_reducible assumption) | (with_reducible refine Stab.Keeps.alloc ?_ _) | (with_reducible refine Stab.Keeps.drew ?_) | (with_reducible refine Stab.Keeps.drewN ?_ _) | ((with_reducible refine Stab.Keeps.setCell ?_ ?_ _); focus (first | (simp; done) | (simp; omega))) | (with_reducible refine Stab.Keeps.trans ?_ (by with_reducible assumption)))
  have hki := fun w' (hk : Stab.Keeps w w') => kItems_ a n cap L w' hl (h.keep hk) hid
  have hkx := fun w => kBox_ x w
  have hky := fun w => kBox_ y w
  simp only [B4.val] at hkx hky
  have hne : ((n : Int) == 0) = (L.length == 0) := by rw [Bool.eq_iff_iff, beq_iff_eq, beq_iff_eq]; omega
  have l1 : (FloatKind.f64.format.order x.a y.a == some .lt) = lt x.a y.a := rfl
  have l2 : (FloatKind.f64.format.order x.b y.b == some .lt) = lt x.b y.b := rfl
  have l3 : (FloatKind.f64.format.order x.c y.c == some .gt) = gt x.c y.c := rfl
  have l4 : (FloatKind.f64.format.order x.d y.d == some .gt) = gt x.d y.d := rfl
  have HL := Lib.hid hl
  clear hl
  go_enter Tryd.func5, Tryd.ntmps5
  go_wp2_with fail
  refine (hki _ (by repeat (first | (with_reducible exact Stab.Keeps.refl _) | (with_reducible assumption) | (with_reducible refine Stab.Keeps.alloc ?_ _) | (with_reducible refine Stab.Keeps.drew ?_) | (with_reducible refine Stab.Keeps.drewN ?_ _) | ((with_reducible refine Stab.Keeps.setCell ?_ ?_ _); focus (first | (simp; done) | (simp; omega))) | (with_reducible refine Stab.Keeps.trans ?_ (by with_reducible assumption))))).mono ?_
  clear hki
  rintro e w2 ⟨t, rfl, hgood, hk2⟩
  cases t with
  | false =>
    go_wp2_with fail
    go_ret
    refine ⟨rfl, ?_⟩
    repeat (first | (with_reducible exact Stab.Keeps.refl _) | (with_reducible assumption) | (with_reducible refine Stab.Keeps.alloc ?_ _) | (with_reducible refine Stab.Keeps.drew ?_) | (with_reducible refine Stab.Keeps.drewN ?_ _) | ((with_reducible refine Stab.Keeps.setCell ?_ ?_ _); focus (first | (simp; done) | (simp; omega))) | (with_reducible refine Stab.Keeps.trans ?_ (by with_reducible assumption)))
  | true =>
    replace hgood := hgood rfl
    obtain ⟨mc_, mf_⟩ := Stab.own_cell hk2 (w.heap.size) (by first | (simp; done) | (simp; omega) | omega | (apply Stab.cell_lt (a := ⟨w.heap.size, 0, none⟩); assumption))
    have m0 : w2.cell? ⟨w.heap.size, 0, none⟩ = some (.float .f64 x.a) := by rw [mc_]; first | assumption | (go_simp; done)
    have m1 : w2.cell? ⟨w.heap.size, 1, none⟩ = some (.float .f64 x.b) := by rw [mc_]; first | assumption | (go_simp; done)
    have m2 : w2.cell? ⟨w.heap.size, 2, none⟩ = some (.float .f64 x.c) := by rw [mc_]; first | assumption | (go_simp; done)
    have m3 : w2.cell? ⟨w.heap.size, 3, none⟩ = some (.float .f64 x.d) := by rw [mc_]; first | assumption | (go_simp; done)
    have mf : ∀ j, w2.frozen? ⟨w.heap.size, j, none⟩ = false := fun j => by rw [mf_]; first | (go_simp; done) | (apply_assumption)
    clear mc_ mf_
    obtain ⟨nc_, nf_⟩ := Stab.own_cell hk2 (w.heap.size + 1) (by first | (simp; done) | (simp; omega) | omega | (apply Stab.cell_lt (a := ⟨w.heap.size + 1, 0, none⟩); assumption))
    have n0 : w2.cell? ⟨w.heap.size + 1, 0, none⟩ = some (.float .f64 y.a) := by rw [nc_]; first | assumption | (go_simp; done)
    have n1 : w2.cell? ⟨w.heap.size + 1, 1, none⟩ = some (.float .f64 y.b) := by rw [nc_]; first | assumption | (go_simp; done)
    have n2 : w2.cell? ⟨w.heap.size + 1, 2, none⟩ = some (.float .f64 y.c) := by rw [nc_]; first | assumption | (go_simp; done)
    have n3 : w2.cell? ⟨w.heap.size + 1, 3, none⟩ = some (.float .f64 y.d) := by rw [nc_]; first | assumption | (go_simp; done)
    have nf : ∀ j, w2.frozen? ⟨w.heap.size + 1, j, none⟩ = false := fun j => by rw [nf_]; first | (go_simp; done) | (apply_assumption)
    clear nc_ nf_
    have hkk2 : Stab.Keeps w w2 := by repeat (first | (with_reducible exact Stab.Keeps.refl _) | (with_reducible assumption) | (with_reducible refine Stab.Keeps.alloc ?_ _) | (with_reducible refine Stab.Keeps.drew ?_) | (with_reducible refine Stab.Keeps.drewN ?_ _) | ((with_reducible refine Stab.Keeps.setCell ?_ ?_ _); focus (first | (simp; done) | (simp; omega))) | (with_reducible refine Stab.Keeps.trans ?_ (by with_reducible assumption)))
    clear hk2
    go_wp2_with fail
    refine (hkx _).mono ?_
    clear hkx
    rintro e w3 ⟨rfl, hk3⟩
    obtain ⟨pc_, pf_⟩ := Stab.own_cell hk3 (w.heap.size) (by first | (simp; done) | (simp; omega) | omega | (apply Stab.cell_lt (a := ⟨w.heap.size, 0, none⟩); assumption))
    have p0 : w3.cell? ⟨w.heap.size, 0, none⟩ = some (.float .f64 x.a) := by rw [pc_]; first | assumption | (go_simp; done)
    have p1 : w3.cell? ⟨w.heap.size, 1, none⟩ = some (.float .f64 x.b) := by rw [pc_]; first | assumption | (go_simp; done)
    have p2 : w3.cell? ⟨w.heap.size, 2, none⟩ = some (.float .f64 x.c) := by rw [pc_]; first | assumption | (go_simp; done)
    have p3 : w3.cell? ⟨w.heap.size, 3, none⟩ = some (.float .f64 x.d) := by rw [pc_]; first | assumption | (go_simp; done)
    have pf : ∀ j, w3.frozen? ⟨w.heap.size, j, none⟩ = false := fun j => by rw [pf_]; first | (go_simp; done) | (apply_assumption)
    clear pc_ pf_
    obtain ⟨qc_, qf_⟩ := Stab.own_cell hk3 (w.heap.size + 1) (by first | (simp; done) | (simp; omega) | omega | (apply Stab.cell_lt (a := ⟨w.heap.size + 1, 0, none⟩); assumption))
    have q0 : w3.cell? ⟨w.heap.size + 1, 0, none⟩ = some (.float .f64 y.a) := by rw [qc_]; first | assumption | (go_simp; done)
    have q1 : w3.cell? ⟨w.heap.size + 1, 1, none⟩ = some (.float .f64 y.b) := by rw [qc_]; first | assumption | (go_simp; done)
    have q2 : w3.cell? ⟨w.heap.size + 1, 2, none⟩ = some (.float .f64 y.c) := by rw [qc_]; first | assumption | (go_simp; done)
    have q3 : w3.cell? ⟨w.heap.size + 1, 3, none⟩ = some (.float .f64 y.d) := by rw [qc_]; first | assumption | (go_simp; done)
    have qf : ∀ j, w3.frozen? ⟨w.heap.size + 1, j, none⟩ = false := fun j => by rw [qf_]; first | (go_simp; done) | (apply_assumption)
    clear qc_ qf_
    clear m0 m1 m2 m3 mf n0 n1 n2 n3 nf
    cases hbx : boxB x with
    | false =>
      go_wp2_with fail
      go_ret
      refine ⟨rfl, ?_⟩
      repeat (first | (with_reducible exact Stab.Keeps.refl _) | (with_reducible assumption) | (with_reducible refine Stab.Keeps.alloc ?_ _) | (with_reducible refine Stab.Keeps.drew ?_) | (with_reducible refine Stab.Keeps.drewN ?_ _) | ((with_reducible refine Stab.Keeps.setCell ?_ ?_ _); focus (first | (simp; done) | (simp; omega))) | (with_reducible refine Stab.Keeps.trans ?_ (by with_reducible assumption)))
    | true =>
      go_wp2_with fail
      refine (hky _).mono ?_
      clear hky
      rintro e w4 ⟨rfl, hk4⟩
      obtain ⟨mc_, mf_⟩ := Stab.own_cell hk4 (w.heap.size) (by first | (simp; done) | (simp; omega) | omega | (apply Stab.cell_lt (a := ⟨w.heap.size, 0, none⟩); assumption))
      have m0 : w4.cell? ⟨w.heap.size, 0, none⟩ = some (.float .f64 x.a) := by rw [mc_]; first | assumption | (go_simp; done)
      have m1 : w4.cell? ⟨w.heap.size, 1, none⟩ = some (.float .f64 x.b) := by rw [mc_]; first | assumption | (go_simp; done)
      have m2 : w4.cell? ⟨w.heap.size, 2, none⟩ = some (.float .f64 x.c) := by rw [mc_]; first | assumption | (go_simp; done)
      have m3 : w4.cell? ⟨w.heap.size, 3, none⟩ = some (.float .f64 x.d) := by rw [mc_]; first | assumption | (go_simp; done)
      have mf : ∀ j, w4.frozen? ⟨w.heap.size, j, none⟩ = false := fun j => by rw [mf_]; first | (go_simp; done) | (apply_assumption)
      clear mc_ mf_
      obtain ⟨nc_, nf_⟩ := Stab.own_cell hk4 (w.heap.size + 1) (by first | (simp; done) | (simp; omega) | omega | (apply Stab.cell_lt (a := ⟨w.heap.size + 1, 0, none⟩); assumption))
      have n0 : w4.cell? ⟨w.heap.size + 1, 0, none⟩ = some (.float .f64 y.a) := by rw [nc_]; first | assumption | (go_simp; done)
      have n1 : w4.cell? ⟨w.heap.size + 1, 1, none⟩ = some (.float .f64 y.b) := by rw [nc_]; first | assumption | (go_simp; done)
      have n2 : w4.cell? ⟨w.heap.size + 1, 2, none⟩ = some (.float .f64 y.c) := by rw [nc_]; first | assumption | (go_simp; done)
      have n3 : w4.cell? ⟨w.heap.size + 1, 3, none⟩ = some (.float .f64 y.d) := by rw [nc_]; first | assumption | (go_simp; done)
      have nf : ∀ j, w4.frozen? ⟨w.heap.size + 1, j, none⟩ = false := fun j => by rw [nf_]; first | (go_simp; done) | (apply_assumption)
      clear nc_ nf_
      clear p0 p1 p2 p3 pf q0 q1 q2 q3 qf
      have hk : Stab.Keeps w w4 := by repeat (first | (with_reducible exact Stab.Keeps.refl _) | (with_reducible assumption) | (with_reducible refine Stab.Keeps.alloc ?_ _) | (with_reducible refine Stab.Keeps.drew ?_) | (with_reducible refine Stab.Keeps.drewN ?_ _) | ((with_reducible refine Stab.Keeps.setCell ?_ ?_ _); focus (first | (simp; done) | (simp; omega))) | (with_reducible refine Stab.Keeps.trans ?_ (by with_reducible assumption)))
      clear hk4 hk3 hkk2
      cases hby : boxB y with
      | false =>
        go_wp2_with fail
        go_ret
        refine ⟨rfl, ?_⟩
        repeat (first | (with_reducible exact Stab.Keeps.refl _) | (with_reducible assumption) | (with_reducible refine Stab.Keeps.alloc ?_ _) | (with_reducible refine Stab.Keeps.drew ?_) | (with_reducible refine Stab.Keeps.drewN ?_ _) | ((with_reducible refine Stab.Keeps.setCell ?_ ?_ _); focus (first | (simp; done) | (simp; omega))) | (with_reducible refine Stab.Keeps.trans ?_ (by with_reducible assumption)))
      | true =>
        cases hn0 : (L.length == 0) with
        | true =>
          rw [hn0] at hne
          go_wp2_with fail
          go_ret
          refine ⟨rfl, ?_⟩
          repeat (first | (with_reducible exact Stab.Keeps.refl _) | (with_reducible assumption) | (with_reducible refine Stab.Keeps.alloc ?_ _) | (with_reducible refine Stab.Keeps.drew ?_) | (with_reducible refine Stab.Keeps.drewN ?_ _) | ((with_reducible refine Stab.Keeps.setCell ?_ ?_ _); focus (first | (simp; done) | (simp; omega))) | (with_reducible refine Stab.Keeps.trans ?_ (by with_reducible assumption)))
        | false =>
          rw [hn0] at hne
          cases h1 : lt x.a y.a with
          | true =>
            rw [h1] at l1
            go_wp2_with fail
            go_ret
            refine ⟨rfl, ?_⟩
            repeat (first | (with_reducible exact Stab.Keeps.refl _) | (with_reducible assumption) | (with_reducible refine Stab.Keeps.alloc ?_ _) | (with_reducible refine Stab.Keeps.drew ?_) | (with_reducible refine Stab.Keeps.drewN ?_ _) | ((with_reducible refine Stab.Keeps.setCell ?_ ?_ _); focus (first | (simp; done) | (simp; omega))) | (with_reducible refine Stab.Keeps.trans ?_ (by with_reducible assumption)))
          | false =>
            rw [h1] at l1
            cases h2 : lt x.b y.b with
            | true =>
              rw [h2] at l2
              go_wp2_with fail
              go_ret
              refine ⟨rfl, ?_⟩
              repeat (first | (with_reducible exact Stab.Keeps.refl _) | (with_reducible assumption) | (with_reducible refine Stab.Keeps.alloc ?_ _) | (with_reducible refine Stab.Keeps.drew ?_) | (with_reducible refine Stab.Keeps.drewN ?_ _) | ((with_reducible refine Stab.Keeps.setCell ?_ ?_ _); focus (first | (simp; done) | (simp; omega))) | (with_reducible refine Stab.Keeps.trans ?_ (by with_reducible assumption)))
            | false =>
              rw [h2] at l2
              cases h3 : gt x.c y.c with
              | true =>
                rw [h3] at l3
                go_wp2_with fail
                go_ret
                refine ⟨rfl, ?_⟩
                repeat (first | (with_reducible exact Stab.Keeps.refl _) | (with_reducible assumption) | (with_reducible refine Stab.Keeps.alloc ?_ _) | (with_reducible refine Stab.Keeps.drew ?_) | (with_reducible refine Stab.Keeps.drewN ?_ _) | ((with_reducible refine Stab.Keeps.setCell ?_ ?_ _); focus (first | (simp; done) | (simp; omega))) | (with_reducible refine Stab.Keeps.trans ?_ (by with_reducible assumption)))
              | false =>
                rw [h3] at l3
                cases h4 : gt x.d y.d with
                | true =>
                  rw [h4] at l4
                  go_wp2_with fail
                  go_ret
                  refine ⟨rfl, ?_⟩
                  repeat (first | (with_reducible exact Stab.Keeps.refl _) | (with_reducible assumption) | (with_reducible refine Stab.Keeps.alloc ?_ _) | (with_reducible refine Stab.Keeps.drew ?_) | (with_reducible refine Stab.Keeps.drewN ?_ _) | ((with_reducible refine Stab.Keeps.setCell ?_ ?_ _); focus (first | (simp; done) | (simp; omega))) | (with_reducible refine Stab.Keeps.trans ?_ (by with_reducible assumption)))
                | false =>
                  rw [h4] at l4
                  go_wp2_with fail
                  have hn0' : 1 ≤ n := by have := HL.out; simp at hn0; cases hh : L with | nil => rw [hh] at hn0; simp at hn0 | cons u v => rw [hh] at this; simp at this; omega
                  have hn400 : n ≤ 400 := by have := hgood.1; have := HL.out; omega
                  have hAr := fun w' (hk' : Stab.Keeps w4 w') => around_ a n cap L w' HL.out hn0' (by omega) (h.keep (Stab.Keeps.trans hk hk')) hgood.2.1
                  have hl4 := Stab.cell_lt m0
                  have hl5 := Stab.cell_lt n0
                  simp only at hl4 hl5
                  refine Stab.keep_region (WitF L x y) (fun k => k == 6 || k == 8 || k == 9) (fun k => false) (witPre L x y) (by kernel_rfl) (by kernel_rfl) fun hcx => ?_
                  repeat (first
                    | (refine Stab.quiet rfl rfl rfl (fun K hK => ?_); go_big_quiet_op; refine hK _ ?_; clear hK K)
                    | (refine Stab.one rfl rfl rfl ?_
                       apply Exists.intro
                       refine ⟨fun w1 hw1 => ?_, fun K hK => ?_⟩
                       · go_simp
                         first | fail
                       go_simp
                       refine hK _ ?_
                       clear hK K)
                    | (refine Stab.skip rfl (fun K hK => ?_); go_simp; refine hK _ ?_; clear hK K))
                  refine Stab.made rfl rfl (fun w1 hk1 => ?_) (fun v hv K hK => ?_)
                  · go_simp
                    refine (hAr w1 hk1.1).mono ?_
                    rintro e w5 ⟨z, q, rfl, hz, hq, hin, _, hk5⟩
                    exact ⟨_, rfl, hk5, fun _ => ⟨z, rfl, q, hz, hq, hin⟩, (fun h => by cases h), fun h => by cases h⟩
                  obtain ⟨wv, _, _, hv⟩ := hv
                  obtain ⟨z, rfl, hzA⟩ := hv.1 rfl
                  clear hv hAr
                  simp only [B4.val]
                  go_simp
                  refine hK _ ?_
                  clear hK
                  repeat (first
                    | (refine Stab.quiet rfl rfl rfl (fun K hK => ?_); go_big_quiet_op; refine hK _ ?_; clear hK K)
                    | (refine Stab.one rfl rfl rfl ?_
                       apply Exists.intro
                       refine ⟨fun w1 hw1 => ?_, fun K hK => ?_⟩
                       · go_simp
                         first | fail
                       go_simp
                       refine hK _ ?_
                       clear hK K)
                    | (refine Stab.skip rfl (fun K hK => ?_); go_simp; refine hK _ ?_; clear hK K))
                  refine Stab.made rfl rfl (fun w1 hk1 => ?_) (fun v hv K hK => ?_)
                  · go_simp
                    refine ⟨by repeat (first | (with_reducible exact Stab.Keeps.refl _) | (with_reducible assumption) | (with_reducible refine Stab.Keeps.alloc ?_ _) | (with_reducible refine Stab.Keeps.drew ?_) | (with_reducible refine Stab.Keeps.drewN ?_ _) | ((with_reducible refine Stab.Keeps.setCell ?_ ?_ _); focus (first | (simp; done) | (simp; omega))) | (with_reducible refine Stab.Keeps.trans ?_ (by with_reducible assumption))), (fun h => by cases h), fun _ => ⟨z, w1.heap.size, hzA, rfl, Blk.new w1 ((asks3 x y z).flatMap Ask.cells) _ _ rfl⟩, fun h => by cases h⟩
                  obtain ⟨wv8, _, _, hv8⟩ := hv
                  obtain ⟨z8, g8, _, rfl, _⟩ := hv8.2.1 rfl
                  clear hv8
                  go_simp
                  refine hK _ ?_
                  clear hK
                  refine Stab.made rfl rfl (fun w1 hk1 => ?_) (fun v hv K hK => ?_)
                  · obtain ⟨z9, g9, hz9, he9, hB9⟩ := (Stab.setF_new (hk1.2 8 (by kernel_rfl))).2.1 rfl
                    cases he9
                    have hkq : Stab.Keeps w w1 := Stab.Keeps.trans hk hk1.1
                    go_simp
                    refine (play_ a n cap L (some ⟨g8, 0, none⟩) 3 3 (asks3 x y z9) _ StopAt (fun _ _ hk hs => hs.keep hk) (hsa.keep hkq) HL.out (by omega) (h.keep hkq) rfl (by omega) (hB9.sz rfl (by unfold maxLen; omega)) (WRs x y z9) ?_).mono ?_
                    · intro tr hperm i hi p lo w7 hs7 hT7
                      have hlen := fun b => items_len hperm b
                      have : i = 0 ∨ i = 1 ∨ i = 2 := by simp [asks3] at hi; omega
                      rcases this with rfl | rfl | rfl
                      · refine (told0_ lo p n x 0 0 tr w7 hT7 hs7 (Int.le_refl _) (by have := hlen x; have := hgood.1; omega)).mono ?_
                        exact fun e w8 h8 => ⟨_, _, fun b hb => by simp at hb; subst hb; exact ⟨rfl, rfl⟩, h8⟩
                      · refine (told0_ lo p n y 0 0 tr w7 hT7 hs7 (Int.le_refl _) (by have := hlen y; have := hgood.1; omega)).mono ?_
                        exact fun e w8 h8 => ⟨_, _, fun b hb => by simp at hb; subst hb; exact ⟨rfl, rfl⟩, h8⟩
                      · refine (told0_ lo p n z9 0 0 tr w7 hT7 hs7 (Int.le_refl _) (by have := hlen z9; have := hgood.1; omega)).mono ?_
                        exact fun e w8 h8 => ⟨_, _, fun b hb => by simp at hb; subst hb; exact ⟨rfl, rfl⟩, h8⟩
                    rintro e w5 ⟨tr, hperm, hfull, aL, cL, xs, rfl, hxl, hRs, hok, hSl, hk5⟩
                    exact ⟨_, rfl, hk5, (fun h => by cases h), (fun h => by cases h), fun _ => ⟨z9, aL, cL, hz9, rfl, tr, xs, hperm, hfull, hxl, hRs, hok, hSl⟩⟩
                  obtain ⟨wv9, _, _, hv9⟩ := hv
                  obtain ⟨z9, aL, cL, _, rfl, _⟩ := hv9.2.2 rfl
                  clear hv9
                  go_simp
                  refine hK _ ?_
                  clear hK
                  repeat (first
                    | (refine Stab.quiet rfl rfl rfl (fun K hK => ?_); go_big_quiet_op; refine hK _ ?_; clear hK K)
                    | (refine Stab.one rfl rfl rfl ?_
                       apply Exists.intro
                       refine ⟨fun w1 hw1 => ?_, fun K hK => ?_⟩
                       · go_simp
                         first | fail
                       go_simp
                       refine hK _ ?_
                       clear hK K)
                    | (refine Stab.skip rfl (fun K hK => ?_); go_simp; refine hK _ ?_; clear hK K))
                  refine Stab.nil fun w' hw' hfs => ?_
                  obtain ⟨z5, aL5, cL5, hzA5, he5, tr, xs, hperm, hfull, hxl, hRs, hok, hSl⟩ := (hfs 9 |> fun h => by first | exact (Stab.setF_new h).2.2 rfl | exact (Stab.setF_new (Stab.setF_old h)).2.2 rfl)
                  cases he5
                  clear hcx hfs
                  have hkF := Lib.hid (Stab.Keeps.trans hk hw')
                  clear m0 m1 m2 m3 mf n0 n1 n2 n3 nf
                  obtain ⟨x0, x1, x2, rfl⟩ := list3' hxl
                  have hr0 := (hRs 0 (by simp) x rfl).1
                  have hr1 := (hRs 1 (by simp) y rfl).1
                  have hr2 := (hRs 2 (by simp) z5 rfl).1
                  simp only [List.getElem_cons_zero, List.getElem_cons_succ] at hr0 hr1 hr2
                  obtain ⟨hz2, hm1, hm2⟩ := within_plain HL.out hgood hperm hfull hbx hby hzA5 h1 h2 h3 h4
                  rw [← hr2] at hz2 hm2
                  rw [← hr1] at hm1 hm2
                  rw [← hr0] at hm1
                  have HM1 := Lib.hid hm1
                  have HM2 := Lib.hid hm2
                  have hkx0 := hok x0 (by simp)
                  have hkx1 := hok x1 (by simp)
                  have hkx2 := hok x2 (by simp)
                  have ox0 := ok_len hkx0
                  have ox1 := ok_len hkx1
                  have ox2 := ok_len hkx2
                  unfold maxLen at ox0 ox1 ox2
                  have hz400 : x2.ids.length ≤ 400 := by omega
                  obtain ⟨bl, off, hbl, hbll, hlc⟩ := hSl.at_ _ (show aL = some (aL.get (by
                    cases haL : aL with
                    | none => have := hSl.nil haL; have := hSl.le; omega
                    | some v => rfl)) by simp)
                  have i0 := hlc 0 _ rfl
                  have i1 := hlc 10 _ rfl
                  have i2 := hlc 20 _ rfl
                  simp only [Nat.add_zero] at i0
                  have haL : aL = some ⟨bl, off, none⟩ := by rw [← hbl]; simp
                  subst haL
                  have hcL := hSl.le
                  have hcM := hSl.max
                  unfold maxLen at hcM
                  have HZ := Lib.hid hz2
                  clear hlc hbl hRs hok hSl hr0 hr1 hr2 hz2 hm1 hm2 hfull
                  have hzz : ((x2.ids.length : Int) == n) = true := by have := HZ.out; simp; omega
                  go_wp2_with fail
                  go_loop [9] KRel (fun kv => (3 - intOf kv).toNat)
                  case atStart => exact .inl rfl
                  case round =>
                    rcases hrel with rfl | rfl | rfl
                    · have hkx0' := hkx0
                      go_wp2_with fail
                      go_loop [10, 102] (fun av iv => ∃ i : Nat, i ≤ x1.ids.length ∧ iv = .int .i64 i ∧ av = .int .i64 (met x0.ids (x1.ids.take i) 0 : Nat)) (fun _ iv => x1.ids.length - (intOf iv).toNat)
                      case atStart => exact ⟨0, Nat.zero_le _, rfl, rfl⟩
                      case round =>
                        obtain ⟨i, hi, rfl, rfl⟩ := hrel
                        have hml := met_le x0.ids (x1.ids.take i) 0 (Nat.zero_le _)
                        by_cases hlt : i < x1.ids.length
                        · obtain ⟨g, hga, hgl, hgc⟩ := ok_cells hkx1 (by omega)
                          have s0 := hgc i hlt
                          have hsn := met_snoc x0.ids (x1.ids.take i) x1.ids[i] 0
                          rw [← List.take_succ_eq_append_getElem hlt] at hsn
                          have HS := Lib.hid hsn
                          clear hsn hgc
                          generalize x1.ids[i] = id at *
                          generalize met x0.ids (x1.ids.take i) 0 = m at *
                          by_cases hlt2 : m < x0.ids.length
                          · obtain ⟨g2, hga2, hgl2, hgc2⟩ := ok_cells hkx0 (by omega)
                            have s1 := hgc2 m hlt2
                            have hsome := List.getElem?_eq_getElem hlt2
                            clear hgc2
                            generalize x0.ids[m] = id2 at *
                            by_cases he : id2 = id
                            · have HS2 : met x0.ids (x1.ids.take (i + 1)) 0 = m + 1 := by
                                have := HS.out
                                rw [hsome, if_pos (by rw [he])] at this
                                exact this
                              have HS3 := Lib.hid HS2
                              have hee : (id2 == id) = true := by simpa using he
                              clear HS hsome HS2 he
                              go_wp2_with fail
                              go_round
                              case rel => exact ⟨i + 1, by omega, by go_num, by rw [HS3.out]; go_num⟩
                              case measure => simp [intOf]; omega
                            · have HS2 : met x0.ids (x1.ids.take (i + 1)) 0 = m := by
                                have := HS.out
                                rw [hsome, if_neg (by simpa using he)] at this
                                exact this
                              have HS3 := Lib.hid HS2
                              have hee : (id2 == id) = false := by simpa using he
                              clear HS hsome HS2
                              go_wp2_with fail
                              go_round
                              case rel => exact ⟨i + 1, by omega, by go_num, by rw [HS3.out]⟩
                              case measure => simp [intOf]; omega
                          · have HS2 : met x0.ids (x1.ids.take (i + 1)) 0 = m := by
                              have := HS.out
                              rw [List.getElem?_eq_none (by omega), if_neg (by simp)] at this
                              exact this
                            have HS3 := Lib.hid HS2
                            clear HS HS2
                            go_wp2_with fail
                            go_round
                            case rel => exact ⟨i + 1, by omega, by go_num, by rw [HS3.out]⟩
                            case measure => simp [intOf]; omega
                        · have hii : i = x1.ids.length := by omega
                          have hmm : met x0.ids (x1.ids.take i) 0 = x0.ids.length := by rw [hii, List.take_length]; exact HM1.out
                          rw [hmm]
                          clear hmm hml
                          go_wp2_with fail
                          go_round
                          case rel => exact .inr (.inl rfl)
                          case measure => first | (simp [intOf]; done) | (simp [intOf]; omega)
                    · have hkx1' := hkx1
                      go_wp2_with fail
                      go_loop [10, 102] (fun av iv => ∃ i : Nat, i ≤ x2.ids.length ∧ iv = .int .i64 i ∧ av = .int .i64 (met x1.ids (x2.ids.take i) 0 : Nat)) (fun _ iv => x2.ids.length - (intOf iv).toNat)
                      case atStart => exact ⟨0, Nat.zero_le _, rfl, rfl⟩
                      case round =>
                        obtain ⟨i, hi, rfl, rfl⟩ := hrel
                        have hml := met_le x1.ids (x2.ids.take i) 0 (Nat.zero_le _)
                        by_cases hlt : i < x2.ids.length
                        · obtain ⟨g, hga, hgl, hgc⟩ := ok_cells hkx2 (by omega)
                          have s0 := hgc i hlt
                          have hsn := met_snoc x1.ids (x2.ids.take i) x2.ids[i] 0
                          rw [← List.take_succ_eq_append_getElem hlt] at hsn
                          have HS := Lib.hid hsn
                          clear hsn hgc
                          generalize x2.ids[i] = id at *
                          generalize met x1.ids (x2.ids.take i) 0 = m at *
                          by_cases hlt2 : m < x1.ids.length
                          · obtain ⟨g2, hga2, hgl2, hgc2⟩ := ok_cells hkx1 (by omega)
                            have s1 := hgc2 m hlt2
                            have hsome := List.getElem?_eq_getElem hlt2
                            clear hgc2
                            generalize x1.ids[m] = id2 at *
                            by_cases he : id2 = id
                            · have HS2 : met x1.ids (x2.ids.take (i + 1)) 0 = m + 1 := by
                                have := HS.out
                                rw [hsome, if_pos (by rw [he])] at this
                                exact this
                              have HS3 := Lib.hid HS2
                              have hee : (id2 == id) = true := by simpa using he
                              clear HS hsome HS2 he
                              go_wp2_with fail
                              go_round
                              case rel => exact ⟨i + 1, by omega, by go_num, by rw [HS3.out]; go_num⟩
                              case measure => simp [intOf]; omega
                            · have HS2 : met x1.ids (x2.ids.take (i + 1)) 0 = m := by
                                have := HS.out
                                rw [hsome, if_neg (by simpa using he)] at this
                                exact this
                              have HS3 := Lib.hid HS2
                              have hee : (id2 == id) = false := by simpa using he
                              clear HS hsome HS2
                              go_wp2_with fail
                              go_round
                              case rel => exact ⟨i + 1, by omega, by go_num, by rw [HS3.out]⟩
                              case measure => simp [intOf]; omega
                          · have HS2 : met x1.ids (x2.ids.take (i + 1)) 0 = m := by
                              have := HS.out
                              rw [List.getElem?_eq_none (by omega), if_neg (by simp)] at this
                              exact this
                            have HS3 := Lib.hid HS2
                            clear HS HS2
                            go_wp2_with fail
                            go_round
                            case rel => exact ⟨i + 1, by omega, by go_num, by rw [HS3.out]⟩
                            case measure => simp [intOf]; omega
                        · have hii : i = x2.ids.length := by omega
                          have hmm : met x1.ids (x2.ids.take i) 0 = x1.ids.length := by rw [hii, List.take_length]; exact HM2.out
                          rw [hmm]
                          clear hmm hml
                          go_wp2_with fail
                          go_round
                          case rel => exact .inr (.inr rfl)
                          case measure => first | (simp [intOf]; done) | (simp [intOf]; omega)
                    · go_wp2_with fail
                      go_ret
                      exact ⟨rfl, hkF.out⟩
end Go.Proofs.YtokofimfinhnbaaDoor
