/-
  The law of answers in plain words: what an answer is by the items alone; whether two boxes meet, walked. No condition.
  What is told of one question is right by the items alone: the map of distances, walked. No condition.
  What is told of one question is right by the items alone: the extent, the count, walked. No condition.
  What is told of one question is right by the items alone: a search, the nearest one, walked. No condition.
  FnTreePlay: the walk of the law. No condition.
-/
import Derived.Test.YtokofimfinhnbaaDoorGh
import Derived.Deep.Cut
import Derived.Deep.LoopGhost
import Derived.Test.YtokofimfinhnbaaDoorMi2
import Derived.BigRegion
set_option linter.unusedVariables false
set_option linter.unusedSimpArgs false
namespace Go.Proofs.YtokofimfinhnbaaDoor
open Go.RowKit Go.Fl Go.Sl Go.Ch Go.Fr Go.Mb Go.Hp Go.Mi
theorem le_ZV {x y : Nat} {a b : Int} (hx : Z x a) (hy : Z y b) : (FloatKind.f64.format.order x y == some .lt || FloatKind.f64.format.order x y == some .eq) = decide (a ≤ b) := le_Z hx hy
set_option maxRecDepth 100000 in
set_option maxHeartbeats 1000000 in
theorem kMeet_ (x y : B4) (p q : Q4) (hx : ZB x p) (hy : ZB y q) (w : World) : Calls Tryd.prog 16 #[x.val, y.val] w (One w (.bool (meetB p q))) := by
  have l1 := le_ZV hx.a hy.c
  have l2 := le_ZV hy.a hx.c
  have l3 := le_ZV hx.b hy.d
  have l4 := le_ZV hy.b hx.d
  obtain ⟨x0, x1, x2, x3⟩ := x
  obtain ⟨y0, y1, y2, y3⟩ := y
  simp only [B4.val] at l1 l2 l3 l4 ⊢
  unfold meetB
  clear hx hy
  generalize decide (p.a ≤ q.c) = b1 at *
  generalize decide (q.a ≤ p.c) = b2 at *
  generalize decide (p.b ≤ q.d) = b3 at *
  generalize decide (q.b ≤ p.d) = b4 at *
  cases b1 <;> cases b2 <;> cases b3
  all_goals
    go_enter Tryd.func16, Tryd.ntmps16
    go_wp2
    go_ret
    refine ⟨by simp, ?_⟩
    repeat (first | (with_reducible exact Stab.Keeps.refl _) | (with_reducible assumption) | (with_reducible refine Stab.Keeps.alloc ?_ _) | (with_reducible refine Stab.Keeps.drew ?_) | (with_reducible refine Stab.Keeps.drewN ?_ _) | ((with_reducible refine Stab.Keeps.setCell ?_ ?_ _); focus (first | (simp; done) | (simp; omega))) | (with_reducible refine Stab.Keeps.trans ?_ (by with_reducible assumption)))
/-- the items that a question looks at -/
def lookB (q : Ask) (t : It) : Bool := !(q.dO == 0) || ovl t.box q.box
def looked (q : Ask) (L : List It) : List It := L.filter (lookB q)
/-- how a search's answer is made of the items -/
structure Fits (F : List It) (yq : Q4) (q : Ask) (ids : List Int) (r : Rest) (S R : List It) : Prop where
  eids : ids = S.map It.id
  perm : (S ++ R).Perm F
  sorted : q.dO = 1 → S.Pairwise fun a b => far1 yq a ≤ far1 yq b
  le : q.dO = 1 → ∀ s ∈ S, ∀ r ∈ R, far1 yq s ≤ far1 yq r
  how : (R = [] ∧ On q ids.length ∧ r = Rest.zero) ∨ (S ≠ [] ∧ (ids.length : Int) = q.stop ∧ r = if q.how = 0 ∨ q.how = 1 then Rest.zero else Rest.bad)
theorem looked_all {q : Ask} (h : q.dO ≠ 0) (L : List It) : looked q L = L := by
  unfold looked
  refine List.filter_eq_self.2 fun t _ => ?_
  unfold lookB
  simp [h]
theorem looked_range {q : Ask} (h : q.dO = 0) (L : List It) : looked q L = L.filter fun t => ovl t.box q.box := by
  unfold looked
  congr 1
  funext t
  unfold lookB
  simp [h]
theorem fits_of {L : List It} {n : Nat} (hg : GoodL L) {tr : Option RT} (hp : (itemsO tr).Perm L) (hf : ∀ t, tr = some t → t.full) {q : Ask} {yq : Q4} (hy : ZB q.box yq) {ids : List Int} {r : Rest} (h : TAns n tr yq q ids r) (hd : q.dO = 0 ∨ q.dO = 1) :
    ∃ S R, Fits (looked q L) yq q ids r S R := by
  have hgt : ∀ i ∈ itemsO tr, boxB i.box = true := fun i hi => hg.2.1 i (hp.mem_iff.1 hi)
  rcases h with ⟨d, h⟩ | ⟨d, h⟩ | ⟨d, _⟩ | ⟨d, _⟩ | ⟨d, _⟩
  · have hF : ((itemsO tr).filter fun t => ovl t.box q.box).Perm (looked q L) := by rw [looked_range d]; exact hp.filter _
    rcases h with ⟨h1, h2, h3⟩ | ⟨h1, h2, h3⟩
    · have e : ids = rsO q.box tr := by rcases h1 with ⟨_, h⟩ | ⟨h, _⟩; exact h; cases h
      rw [rsO_eq hy hf hgt] at e
      exact ⟨_, [], e, by rw [List.append_nil]; exact hF, fun h => by omega, fun h => by omega, .inl ⟨rfl, h2, h3⟩⟩
    · obtain ⟨hne, m, e⟩ : ids ≠ [] ∧ ∃ m, rsO q.box tr = ids ++ m := by rcases h1 with ⟨h, _⟩ | ⟨_, h⟩; cases h; exact h
      rw [rsO_eq hy hf hgt] at e
      refine ⟨((itemsO tr).filter fun t => ovl t.box q.box).take ids.length, ((itemsO tr).filter fun t => ovl t.box q.box).drop ids.length, ?_, by rw [List.take_append_drop]; exact hF, fun h => by omega, fun h => by omega, .inr ⟨?_, h2, h3⟩⟩
      · rw [List.map_take, e, List.take_left]
      · intro hn
        have := congrArg (fun l => (l.map It.id)) hn
        rw [List.map_take, e, List.take_left] at this
        exact hne (by simpa using this)
  · have hF : looked q L = L := looked_all (by omega) L
    rw [hF]
    rcases h with ⟨h1, h2, h3⟩ | ⟨h1, h2, h3⟩
    · obtain ⟨S, R, e, hs, hR, _⟩ := h1
      exact ⟨S, R, e, hs.perm.trans hp, fun _ => hs.sorted, fun _ => hs.le, .inl ⟨hR rfl, h2, h3⟩⟩
    · obtain ⟨S, R, e, hs, _, hS⟩ := h1
      exact ⟨S, R, e, hs.perm.trans hp, fun _ => hs.sorted, fun _ => hs.le, .inr ⟨hS rfl, h2, h3⟩⟩
  all_goals omega
end Go.Proofs.YtokofimfinhnbaaDoor
set_option linter.unusedVariables false
set_option linter.unusedSimpArgs false
namespace Go.Proofs.YtokofimfinhnbaaDoor
open Go.RowKit Go.Fl Go.Sl Go.Ch Go.Fr Go.Mb Go.Hp Go.Mi
/-- how far the looked-at items among a list are, by number -/
noncomputable def farF (yq : Q4) (F : List It) (id : Int) : Option Value := (F.find? fun t => decide (t.id = id)).map fun t => .int .i64 (far1 yq t)
theorem farF_nil (yq : Q4) : farF yq [] = fun _ => none := by funext id; simp [farF]
theorem farF_snoc {yq : Q4} {F : List It} {t : It} (hn : t.id ∉ F.map It.id) : putF (farF yq F) t.id (.int .i64 (far1 yq t)) = farF yq (F ++ [t]) := by
  funext id
  unfold putF farF
  rw [List.find?_append]
  by_cases h : id = t.id
  · subst h
    have he : F.find? (fun u => decide (u.id = t.id)) = none := by
      rw [List.find?_eq_none]
      intro u hu hd
      exact hn (List.mem_map.2 ⟨u, hu, of_decide_eq_true hd⟩)
    rw [he]
    simp
  · rw [if_neg h]
    simp [Ne.symm h]
theorem farF_get {yq : Q4} {F : List It} (hnd : (F.map It.id).Nodup) {t : It} (ht : t ∈ F) : farF yq F t.id = some (.int .i64 (far1 yq t)) := by
  unfold farF
  cases hf : F.find? (fun u => decide (u.id = t.id)) with
  | none =>
    rw [List.find?_eq_none] at hf
    exact absurd (decide_eq_true rfl) (hf t ht)
  | some u =>
    have hu := List.mem_of_find?_eq_some hf
    have he : u.id = t.id := by simpa using List.find?_some (p := fun u : It => decide (u.id = t.id)) hf
    obtain ⟨i, hi, rfl⟩ := List.mem_iff_getElem.1 ht
    obtain ⟨j, hj, rfl⟩ := List.mem_iff_getElem.1 hu
    have : i = j := by
      rcases Nat.lt_trichotomy i j with h | h | h
      · have := (List.pairwise_iff_getElem.1 hnd) i j (by simpa using hi) (by simpa using hj) h
        simp only [List.getElem_map] at this
        exact absurd he.symm this
      · exact h
      · have := (List.pairwise_iff_getElem.1 hnd) j i (by simpa using hj) (by simpa using hi) h
        simp only [List.getElem_map] at this
        exact absurd he this
    subst this
    rfl
theorem farF_mem {yq : Q4} {F : List It} {id : Int} {v : Value} (h : farF yq F id = some v) : ∃ t ∈ F, t.id = id ∧ v = .int .i64 (far1 yq t) := by
  unfold farF at h
  cases hf : F.find? (fun u => decide (u.id = id)) with
  | none => rw [hf] at h; cases h
  | some u =>
    rw [hf] at h
    injection h with h
    exact ⟨u, List.mem_of_find?_eq_some hf, by simpa using List.find?_some (p := fun u : It => decide (u.id = id)) hf, h.symm⟩
/-- one that is struck from the map -/
theorem farF_del {yq : Q4} {F F' : List It} {t : It} (hnd : (F.map It.id).Nodup) (hp : F.Perm (t :: F')) : delF (farF yq F) t.id = farF yq F' := by
  have hnd' : ((t :: F').map It.id).Nodup := ((hp.map It.id).nodup_iff).1 hnd
  rw [List.map_cons, List.nodup_cons] at hnd'
  funext id
  unfold delF
  by_cases h : id = t.id
  · subst h
    rw [if_pos rfl]
    cases hf : farF yq F' t.id with
    | none => rfl
    | some v =>
      obtain ⟨u, hu, he, _⟩ := farF_mem hf
      exact absurd (List.mem_map.2 ⟨u, hu, he⟩) hnd'.1
  · rw [if_neg h]
    cases hf : farF yq F' id with
    | some v =>
      obtain ⟨u, hu, he, hv⟩ := farF_mem hf
      subst he
      rw [farF_get hnd (hp.mem_iff.2 (List.mem_cons_of_mem _ hu)), hv]
    | none =>
      cases hf2 : farF yq F id with
      | none => rfl
      | some v =>
        obtain ⟨u, hu, he, hv⟩ := farF_mem hf2
        subst he
        rcases List.mem_cons.1 (hp.mem_iff.1 hu) with rfl | hu'
        · exact absurd rfl h
        · rw [farF_get hnd'.2 hu'] at hf
          cases hf
end Go.Proofs.YtokofimfinhnbaaDoor
set_option linter.unusedVariables false
set_option linter.unusedSimpArgs false
namespace Go.Proofs.YtokofimfinhnbaaDoor
open Go.RowKit Go.Fl Go.Sl Go.Ch Go.Fr Go.Mb Go.Hp Go.Mi
/-- a box that is the least one around the items -/
def Least (L : List It) (x : B4) : Prop := ∃ q, ZB x q ∧ (∀ t ∈ L, ∃ p, ZB t.box p ∧ p.within q) ∧ ∀ r : Q4, (∀ t ∈ L, ∃ p, ZB t.box p ∧ p.within r) → q.within r
theorem Least.eqB {L : List It} {x y : B4} (h : Least L x) (k : Least L y) : EqB x y := by
  obtain ⟨q, h1, h2, h3⟩ := h
  obtain ⟨r, k1, k2, k3⟩ := k
  have : q = r := within_eq (h3 r k2) (k3 q h2)
  subst this
  exact h1.eqB k1
theorem ext_least {L : List It} (hg : ∀ t ∈ L, boxB t.box = true) {t : RT} (hp : t.items.Perm L) (hf : t.full) : Least L t.box := by
  obtain ⟨r, h1, h2, h3⟩ := box_least t hf (fun i hi => hg i (hp.mem_iff.1 hi))
  exact ⟨r, h1, fun i hi => h2 i (hp.mem_iff.2 hi), fun r' hr => h3 r' fun i hi => hr i (hp.mem_iff.1 hi)⟩
def AroF (L : List It) (k : Nat) (v : Value) (w : World) : Prop := k = 14 → ∃ x, v = B4.val x ∧ Least L x
theorem aroPre (L : List It) : Stab.Pre Stab.Keeps (AroF L) := ⟨Stab.Keeps.refl, Stab.Keeps.trans, fun k v w w' _ h => h⟩
set_option maxRecDepth 100000 in
set_option maxHeartbeats 4000000 in
theorem told34_ (a : Option Addr) (n cap : Nat) (L : List It) (tr : Option RT) (q : Ask) (ids : List Int) (r : Rest) (xa : Option Addr) (xc : Nat) (w : World) (hl : L.length = n) (h : Sz w a n cap 5 (enc L)) (hg : GoodL L) (hp : (itemsO tr).Perm L) (hf : ∀ t, tr = some t → t.full)
    (hA : (q.dO = 3 ∧ ids = [] ∧ r = ⟨false, false, tr.isSome, 0, extB tr, 0⟩) ∨ (q.dO = 4 ∧ ids = [] ∧ r = ⟨false, false, false, 0, ⟨0, 0, 0, 0⟩, n⟩)) :
    Calls Tryd.prog 10 #[.slice a n cap, q.val, toldV xa ids.length xc r] w (One w (.bool true)) := by
  have hle := h.le
  have hmx := h.max
  unfold maxLen at hmx
  obtain ⟨d, y, stp, hw⟩ := q
  simp only at hA
  rcases hA with ⟨rfl, rfl, rfl⟩ | ⟨rfl, rfl, rfl⟩
  · simp only [Ask.val, toldV, List.length_nil]
    cases tr with
    | none =>
      have hn0 : n = 0 := by rw [← hl, ← hp.length_eq]; rfl
      subst hn0
      simp only [Option.isSome_none, extB]
      clear h hl hp
      go_enter Tryd.func10, Tryd.ntmps10
      go_wp2_with fail
      refine Stab.keep_region (fun _ _ _ => True) (fun _ => false) (fun k => k == 14) Stab.pre_none (by kernel_rfl) (by kernel_rfl) fun hcx => ?_
      repeat (first
        | (refine Stab.quiet rfl rfl rfl (fun K hK => ?_); go_big_quiet_op; refine hK _ ?_; clear hK K)
        | (refine Stab.one rfl rfl rfl ?_
           apply Exists.intro
           refine ⟨fun w1 hw1 => ?_, fun K hK => ?_⟩
           · go_simp
             first | fail
           go_simp
           refine hK _ ?_
           clear hK K)
        | (refine Stab.skip rfl (fun K hK => ?_); go_simp; refine hK _ ?_; clear hK K))
      refine Stab.nil fun w' hw' _ => ?_
      clear hcx
      go_wp2_with fail
      go_ret
      refine ⟨rfl, ?_⟩
      repeat (first | (with_reducible exact Stab.Keeps.refl _) | (with_reducible assumption) | (with_reducible refine Stab.Keeps.alloc ?_ _) | (with_reducible refine Stab.Keeps.drew ?_) | (with_reducible refine Stab.Keeps.drewN ?_ _) | ((with_reducible refine Stab.Keeps.setCell ?_ ?_ _); focus (first | (simp; done) | (simp; omega))) | (with_reducible refine Stab.Keeps.trans ?_ (by with_reducible assumption)))
    | some t =>
      have hL := ext_least hg.2.1 hp (hf t rfl)
      have hn0 : 1 ≤ n := by
        rcases Nat.eq_zero_or_pos n with h0 | h0
        · exfalso
          have : itemsO (some t) = [] := by rw [← List.length_eq_zero_iff, hp.length_eq, hl, h0]
          rw [items_empty hf] at this
          cases this
        · exact h0
      have g1 : decide (0 < n) = true := decide_eq_true (by omega)
      have hAr := fun w' (hk' : Stab.Keeps w w') => around_ a n cap L w' hl hn0 (by have := hg.1; omega) (h.keep hk') hg.2.1
      simp only [Option.isSome_some, extB]
      generalize t.box = bx at *
      obtain ⟨x0, x1, x2, x3⟩ := bx
      have HL := Lib.hid hl
      clear hl
      go_enter Tryd.func10, Tryd.ntmps10
      go_wp2_with fail
      refine Stab.keep_region (AroF L) (fun k => k == 14) (fun k => false) (aroPre L) (by kernel_rfl) (by kernel_rfl) fun hcx => ?_
      repeat (first
        | (refine Stab.quiet rfl rfl rfl (fun K hK => ?_); go_big_quiet_op; refine hK _ ?_; clear hK K)
        | (refine Stab.one rfl rfl rfl ?_
           apply Exists.intro
           refine ⟨fun w1 hw1 => ?_, fun K hK => ?_⟩
           · go_simp
             first | fail
           go_simp
           refine hK _ ?_
           clear hK K)
        | (refine Stab.skip rfl (fun K hK => ?_); go_simp; refine hK _ ?_; clear hK K))
      refine Stab.made rfl rfl (fun w1 hk1 => ?_) (fun v hv K hK => ?_)
      · have hk2 : Stab.Keeps w w1 := by
          have := hk1.1
          repeat (first | (with_reducible exact Stab.Keeps.refl _) | (with_reducible assumption) | (with_reducible refine Stab.Keeps.alloc ?_ _) | (with_reducible refine Stab.Keeps.drew ?_) | (with_reducible refine Stab.Keeps.drewN ?_ _) | ((with_reducible refine Stab.Keeps.setCell ?_ ?_ _); focus (first | (simp; done) | (simp; omega))) | (with_reducible refine Stab.Keeps.trans ?_ (by with_reducible assumption)))
        go_simp
        refine (hAr w1 hk2).mono ?_
        rintro e w5 ⟨z, q, rfl, hz, hq, hin, hlub, hk5⟩
        exact ⟨_, rfl, hk5, fun _ => ⟨z, rfl, q, hz, (fun t ht => by obtain ⟨p, h1, _, h2⟩ := hin t ht; exact ⟨p, h1, h2⟩), hlub⟩⟩
      obtain ⟨wv, _, _, hv⟩ := hv
      obtain ⟨z, rfl, hzA⟩ := hv rfl
      have hEq := hL.eqB hzA
      have bxe : ∀ w : World, (binOp .eql 28 (.agg #[.float .f64 x0, .float .f64 x1, .float .f64 x2, .float .f64 x3]) (.agg #[.float .f64 z.a, .float .f64 z.b, .float .f64 z.c, .float .f64 z.d])).run Tryd.prog w = .ok (.bool true) w := fun w => by
        have := box_eql ⟨x0, x1, x2, x3⟩ z w
        rw [hEq.1, hEq.2.1, hEq.2.2.1, hEq.2.2.2] at this
        exact this
      have bxg := boxGuard
      clear hv hAr hL hEq hzA
      simp only [B4.val]
      go_simp
      refine hK _ ?_
      clear hK
      repeat (first
        | (refine Stab.quiet rfl rfl rfl (fun K hK => ?_); go_big_quiet_op; refine hK _ ?_; clear hK K)
        | (refine Stab.one rfl rfl rfl ?_
           apply Exists.intro
           refine ⟨fun w1 hw1 => ?_, fun K hK => ?_⟩
           · go_simp
             first | fail
           go_simp
           refine hK _ ?_
           clear hK K)
        | (refine Stab.skip rfl (fun K hK => ?_); go_simp; refine hK _ ?_; clear hK K))
      refine Stab.nil fun w' hw' _ => ?_
      clear hcx
      go_wp2_with fail
      go_ret
      refine ⟨rfl, ?_⟩
      repeat (first | (with_reducible exact Stab.Keeps.refl _) | (with_reducible assumption) | (with_reducible refine Stab.Keeps.alloc ?_ _) | (with_reducible refine Stab.Keeps.drew ?_) | (with_reducible refine Stab.Keeps.drewN ?_ _) | ((with_reducible refine Stab.Keeps.setCell ?_ ?_ _); focus (first | (simp; done) | (simp; omega))) | (with_reducible refine Stab.Keeps.trans ?_ (by with_reducible assumption)))
  · simp only [Ask.val, toldV, List.length_nil]
    go_enter Tryd.func10, Tryd.ntmps10
    go_wp2_with fail
    go_ret
    refine ⟨by simp, ?_⟩
    repeat (first | (with_reducible exact Stab.Keeps.refl _) | (with_reducible assumption) | (with_reducible refine Stab.Keeps.alloc ?_ _) | (with_reducible refine Stab.Keeps.drew ?_) | (with_reducible refine Stab.Keeps.drewN ?_ _) | ((with_reducible refine Stab.Keeps.setCell ?_ ?_ _); focus (first | (simp; done) | (simp; omega))) | (with_reducible refine Stab.Keeps.trans ?_ (by with_reducible assumption)))
end Go.Proofs.YtokofimfinhnbaaDoor
set_option linter.unusedVariables false
set_option linter.unusedSimpArgs false
namespace Go.Proofs.YtokofimfinhnbaaDoor
open Go.RowKit Go.Fl Go.Sl Go.Ch Go.Fr Go.Mb Go.Hp Go.Mi
theorem far1_nonneg (yq : Q4) (t : It) : 0 ≤ far1 yq t := by
  unfold far1 far
  have h1 := Int.mul_self_le_mul_self (a := 0) (Int.le_refl 0) (show (0 : Int) ≤ gap (qof t.box).a (qof t.box).c yq.a yq.c by unfold gap; omega)
  have h2 := Int.mul_self_le_mul_self (a := 0) (Int.le_refl 0) (show (0 : Int) ≤ gap (qof t.box).b (qof t.box).d yq.b yq.d by unfold gap; omega)
  omega
theorem looked_snoc {q : Ask} {L : List It} {t : It} : looked q (L ++ [t]) = if lookB q t then looked q L ++ [t] else looked q L := by
  unfold looked
  rw [List.filter_append]
  cases h : lookB q t <;> simp [h]
theorem looked_nodup {q : Ask} {L : List It} (h : (L.map It.id).Nodup) : ((looked q L).map It.id).Nodup := h.sublist (List.filter_sublist.map _)
theorem farF_some (yq : Q4) (F : List It) (id : Int) : (farF yq F id).isSome = true ↔ id ∈ F.map It.id := by
  constructor
  · intro h
    obtain ⟨v, hv⟩ := Option.isSome_iff_exists.1 h
    obtain ⟨t, ht, he, _⟩ := farF_mem hv
    exact List.mem_map.2 ⟨t, ht, he⟩
  · intro h
    obtain ⟨t, ht, he⟩ := List.mem_map.1 h
    unfold farF
    rw [Option.isSome_map]
    cases hf : F.find? (fun u => decide (u.id = id)) with
    | some u => rfl
    | none =>
      rw [List.find?_eq_none] at hf
      exact absurd (decide_eq_true he) (hf t ht)
theorem farF_perm {yq : Q4} {F F' : List It} (hnd : (F.map It.id).Nodup) (hp : F.Perm F') : farF yq F = farF yq F' := by
  have hnd' : (F'.map It.id).Nodup := ((hp.map It.id).nodup_iff).1 hnd
  funext id
  cases hf : farF yq F' id with
  | some v =>
    obtain ⟨u, hu, he, hv⟩ := farF_mem hf
    subst he
    rw [farF_get hnd (hp.mem_iff.2 hu), hv]
  | none =>
    cases hf2 : farF yq F id with
    | none => rfl
    | some v =>
      obtain ⟨u, hu, he, hv⟩ := farF_mem hf2
      subst he
      rw [farF_get hnd' (hp.mem_iff.1 hu)] at hf
      cases hf
/-- how far the last one gone through lies -/
noncomputable def lastD (yq : Q4) (S : List It) (j : Nat) : Int := match j with | 0 => 0 | j + 1 => match S[j]? with | some t => far1 yq t | none => 0
set_option maxRecDepth 100000 in
set_option maxHeartbeats 8000000 in
theorem told012_ (a : Option Addr) (n cap : Nat) (L : List It) (q : Ask) (yq : Q4) (ids : List Int) (r : Rest) (xa : Option Addr) (xc : Nat) (w : World) (hl : L.length = n) (h : Sz w a n cap 5 (enc L)) (hid : ∀ t ∈ L, (Lit.int .i64 t.id).wf = true) (hg : GoodL L)
    (hy : ZB q.box yq) (hyo : yq.ok) (ho : (Ans.mk xa xc ids r).ok w) (h0 : 0 ≤ q.how) (h3 : q.how ≤ 3) (hs0 : 0 ≤ q.stop)
    (hA : (q.dO = 2 ∧ ids = [] ∧ ∃ id f, r = ⟨false, false, f, id, ⟨0, 0, 0, 0⟩, 0⟩ ∧ ((f = false ∧ id = 0 ∧ L = []) ∨ (f = true ∧ ∃ s ∈ L, s.id = id ∧ ∀ r ∈ L, far1 yq s ≤ far1 yq r))) ∨ ((q.dO = 0 ∨ q.dO = 1) ∧ ∃ S R, Fits (looked q L) yq q ids r S R)) :
    Calls Tryd.prog 10 #[.slice a n cap, q.val, toldV xa ids.length xc r] w (One w (.bool true)) := by
  have hle := h.le
  have hmx := h.max
  unfold maxLen at hmx
  have HL := Lib.hid hl
  have HA := Lib.hid hA
  have HH := Lib.hid (And.intro h0 (And.intro h3 hs0))
  clear hl hA h0 h3 hs0
  have hfar : ∀ s ∈ L, ∀ w' : World, Calls Tryd.prog 9 #[s.box.val, q.box.val] w' (One w' (.int .i64 (far1 yq s))) := fun s hs w' => by
    obtain ⟨p, hp, hpk⟩ := boxB_spec (hg.2.1 s hs)
    have := kFar_ s.box q.box p yq hp hy hpk hyo w'
    unfold far1
    rw [qof_eq hp]
    exact this
  have hmeet : ∀ s ∈ L, ∀ w' : World, Calls Tryd.prog 16 #[s.box.val, q.box.val] w' (One w' (.bool (ovl s.box q.box))) := fun s hs w' => by
    obtain ⟨p, hp, hpk⟩ := boxB_spec (hg.2.1 s hs)
    have := kMeet_ s.box q.box p yq hp hy w'
    rw [ovl_Z hp hy]
    exact this
  have HF := Lib.hid hfar
  have HMt := Lib.hid hmeet
  clear hfar hmeet
  have hd : q.dO = 0 ∨ q.dO = 1 ∨ q.dO = 2 := by rcases HA.out with h | ⟨h | h, _⟩ <;> omega
  have d3 : (q.dO == 3) = false := by simp; omega
  have d4 : (q.dO == 4) = false := by simp; omega
  have HD := Lib.hid hd
  clear hd
  have hmm : ∀ w : World, (Instr.makeMap 41 none).run Tryd.prog w = .ok (.map (some w.heap.size)) (w.alloc (.map #[] 0)) := fun w => run_makeMap 41 w
  simp only [Ask.val, toldV]
  go_enter Tryd.func10, Tryd.ntmps10
  go_upto_region 7 with (fail)
  have hBq : Blk (((w.alloc (.cells #[.int .i64 q.dO, .float .f64 q.box.a, .float .f64 q.box.b, .float .f64 q.box.c, .float .f64 q.box.d, .int .i64 q.stop, .int .i64 q.how] 30)).alloc (.cells #[.slice xa ids.length xc, .bool r.err, .bool r.own, .bool r.found, .int .i64 r.id, .float .f64 r.box.a, .float .f64 r.box.b, .float .f64 r.box.c, .float .f64 r.box.d, .int .i64 r.count] 39)).alloc (.map #[] 0)) w.heap.size 30 q.cells := ((Blk.new w q.cells _ _ rfl).alloc _).alloc _
  have hBa : Blk (((w.alloc (.cells #[.int .i64 q.dO, .float .f64 q.box.a, .float .f64 q.box.b, .float .f64 q.box.c, .float .f64 q.box.d, .int .i64 q.stop, .int .i64 q.how] 30)).alloc (.cells #[.slice xa ids.length xc, .bool r.err, .bool r.own, .bool r.found, .int .i64 r.id, .float .f64 r.box.a, .float .f64 r.box.b, .float .f64 r.box.c, .float .f64 r.box.d, .int .i64 r.count] 39)).alloc (.map #[] 0)) (w.heap.size + 1) 39 (.slice xa ids.length xc :: r.cells) := (Blk.new _ (.slice xa ids.length xc :: r.cells) _ _ (by simp)).alloc _
  have hM0 : MI Tryd.prog 3 (((w.alloc (.cells #[.int .i64 q.dO, .float .f64 q.box.a, .float .f64 q.box.b, .float .f64 q.box.c, .float .f64 q.box.d, .int .i64 q.stop, .int .i64 q.how] 30)).alloc (.cells #[.slice xa ids.length xc, .bool r.err, .bool r.own, .bool r.found, .int .i64 r.id, .float .f64 r.box.a, .float .f64 r.box.b, .float .f64 r.box.c, .float .f64 r.box.d, .int .i64 r.count] 39)).alloc (.map #[] 0)) (w.heap.size + 1 + 1) 0 (farF yq (looked q (L.take 0))) := by
    have hM := MI.made (P := Tryd.prog) (k := 3) ((w.alloc (.cells #[.int .i64 q.dO, .float .f64 q.box.a, .float .f64 q.box.b, .float .f64 q.box.c, .float .f64 q.box.d, .int .i64 q.stop, .int .i64 q.how] 30)).alloc (.cells #[.slice xa ids.length xc, .bool r.err, .bool r.own, .bool r.found, .int .i64 r.id, .float .f64 r.box.a, .float .f64 r.box.b, .float .f64 r.box.c, .float .f64 r.box.d, .int .i64 r.count] 39))
    simp at hM
    simpa [looked, farF_nil] using hM
  have hkW : Stab.Keeps w (((w.alloc (.cells #[.int .i64 q.dO, .float .f64 q.box.a, .float .f64 q.box.b, .float .f64 q.box.c, .float .f64 q.box.d, .int .i64 q.stop, .int .i64 q.how] 30)).alloc (.cells #[.slice xa ids.length xc, .bool r.err, .bool r.own, .bool r.found, .int .i64 r.id, .float .f64 r.box.a, .float .f64 r.box.b, .float .f64 r.box.c, .float .f64 r.box.d, .int .i64 r.count] 39)).alloc (.map #[] 0)) := by repeat (first | (with_reducible exact Stab.Keeps.refl _) | (with_reducible assumption) | (with_reducible refine Stab.Keeps.alloc ?_ _) | (with_reducible refine Stab.Keeps.drew ?_) | (with_reducible refine Stab.Keeps.drewN ?_ _) | ((with_reducible refine Stab.Keeps.setCell ?_ ?_ _); focus (first | (simp; done) | (simp; omega))) | (with_reducible refine Stab.Keeps.trans ?_ (by with_reducible assumption)))
  generalize (((w.alloc (.cells #[.int .i64 q.dO, .float .f64 q.box.a, .float .f64 q.box.b, .float .f64 q.box.c, .float .f64 q.box.d, .int .i64 q.stop, .int .i64 q.how] 30)).alloc (.cells #[.slice xa ids.length xc, .bool r.err, .bool r.own, .bool r.found, .int .i64 r.id, .float .f64 r.box.a, .float .f64 r.box.b, .float .f64 r.box.c, .float .f64 r.box.d, .int .i64 r.count] 39)).alloc (.map #[] 0)) = W at hBq hBa hM0 hkW ⊢
  clear hmm
  go_wp2_with fail
  go_loopw [55] (fun iv wr => ∃ k : Nat, k ≤ n ∧ iv = .int .i64 k ∧ Stab.Keeps w wr ∧ Blk wr w.heap.size 30 q.cells ∧ Blk wr (w.heap.size + 1) 39 (.slice xa ids.length xc :: r.cells) ∧ MI Tryd.prog 3 wr (w.heap.size + 1 + 1) k (farF yq (looked q (L.take k)))) (fun iv _ => n - (intOf iv).toNat)
  case atStart => exact ⟨0, by omega, rfl, hkW, hBq, hBa, hM0⟩
  case round =>
    clear hBq hBa hM0 hkW
    obtain ⟨k, k2, rfl, hk, hBq, hBa, hM⟩ := hrel
    by_cases hlt : k < n
    · obtain ⟨g, off, ha, hb, hc⟩ := (h.keep hk).elem hlt
      subst ha
      have hkL : k < L.length := by have := HL.out; omega
      have eg := fun j hj => enc_get L k j hkL hj
      have e0 : wr.cell? ⟨g, off + k * 5, none⟩ = some (.float .f64 L[k].box.a) := hc 0 _ (by omega) (by rw [eg 0 (by omega)]; rfl)
      have e1 : wr.cell? ⟨g, off + k * 5 + 1, none⟩ = some (.float .f64 L[k].box.b) := hc 1 _ (by omega) (by rw [eg 1 (by omega)]; rfl)
      have e2 : wr.cell? ⟨g, off + k * 5 + 2, none⟩ = some (.float .f64 L[k].box.c) := hc 2 _ (by omega) (by rw [eg 2 (by omega)]; rfl)
      have e3 : wr.cell? ⟨g, off + k * 5 + 3, none⟩ = some (.float .f64 L[k].box.d) := hc 3 _ (by omega) (by rw [eg 3 (by omega)]; rfl)
      have e4 : wr.cell? ⟨g, off + k * 5 + 4, none⟩ = some (.int .i64 L[k].id) := hc 4 _ (by omega) (by rw [eg 4 (by omega)]; rfl)
      have hf := HF.out L[k] (List.getElem_mem _)
      have hmt := HMt.out L[k] (List.getElem_mem _)
      have hwf := hid L[k] (List.getElem_mem _)
      have hsn : looked q (L.take (k + 1)) = if lookB q L[k] then looked q (L.take k) ++ [L[k]] else looked q (L.take k) := by
        rw [List.take_succ_eq_append_getElem hkL]; exact looked_snoc
      have hni : L[k].id ∉ (looked q (L.take k)).map It.id := by
        intro hm
        obtain ⟨u, hu, hue⟩ := List.mem_map.1 hm
        have hu := (List.mem_filter.1 hu).1
        obtain ⟨i, hi, rfl⟩ := List.mem_iff_getElem.1 hu
        rw [List.length_take] at hi
        rw [List.getElem_take] at hue
        have := (List.pairwise_iff_getElem.1 hg.2.2) i k (by simp; omega) (by simp; omega) (by omega)
        simp only [List.getElem_map] at this
        exact this hue
      have HSN := Lib.hid hsn
      have HNI := Lib.hid hni
      clear eg hc hsn hni
      generalize L[k] = t at *
      simp only [B4.val] at hf hmt
      have y0 := hBq.cell (i := 0) rfl
      have y1 := hBq.cell (i := 1) rfl
      have y2 := hBq.cell (i := 2) rfl
      have y3 := hBq.cell (i := 3) rfl
      have y4 := hBq.cell (i := 4) rfl
      have lq := hBq.lt
      by_cases hd0 : q.dO = 0
      · have g0 : (q.dO != 0) = false := by simp [hd0]
        have hlb : lookB q t = ovl t.box q.box := by unfold lookB; simp [hd0]
        have HLB := Lib.hid hlb
        clear hd0 hlb
        go_wp2_with fail
        refine (hmt _).mono ?_
        clear hmt
        rintro e w2 ⟨rfl, hk2⟩
        cases hov : ovl t.box q.box with
        | false =>
          have hlf : looked q (L.take (k + 1)) = looked q (L.take k) := by rw [HSN.out, HLB.out, hov]; rfl
          have hkf : Stab.Keeps wr w2 := by repeat (first | (with_reducible exact Stab.Keeps.refl _) | (with_reducible assumption) | (with_reducible refine Stab.Keeps.alloc ?_ _) | (with_reducible refine Stab.Keeps.drew ?_) | (with_reducible refine Stab.Keeps.drewN ?_ _) | ((with_reducible refine Stab.Keeps.setCell ?_ ?_ _); focus (first | (simp; done) | (simp; omega))) | (with_reducible refine Stab.Keeps.trans ?_ (by with_reducible assumption)))
          have hr : Stab.Keeps w w2 ∧ Blk w2 w.heap.size 30 q.cells ∧ Blk w2 (w.heap.size + 1) 39 (.slice xa ids.length xc :: r.cells) ∧ MI Tryd.prog 3 w2 (w.heap.size + 1 + 1) (k + 1) (farF yq (looked q (L.take (k + 1)))) := by
            refine ⟨Stab.Keeps.trans hk hkf, hBq.keep hkf, hBa.keep hkf, ?_⟩
            rw [hlf]
            exact (hM.keep hkf).le (by omega)
          clear hf e0 e1 e2 e3 e4 y0 y1 y2 y3 y4 lq hlf HSN hM hBq hBa hk hk2
          go_wp2_with fail
          go_roundw
          case rel => exact ⟨k + 1, by omega, by go_num, hr⟩
          case measure => simp [intOf]; omega
        | true =>
          have HLT := Lib.hid (HLB.out.trans hov)
          clear hov
          obtain ⟨mc_, mf_⟩ := Stab.own_cell hk2 (wr.heap.size) (by first | (simp; done) | (simp; omega) | omega | (apply Stab.cell_lt (a := ⟨wr.heap.size, 0, none⟩); assumption))
          have m0 : w2.cell? ⟨wr.heap.size, 0, none⟩ = some (.float .f64 t.box.a) := by rw [mc_]; first | assumption | (go_simp; done)
          have m1 : w2.cell? ⟨wr.heap.size, 1, none⟩ = some (.float .f64 t.box.b) := by rw [mc_]; first | assumption | (go_simp; done)
          have m2 : w2.cell? ⟨wr.heap.size, 2, none⟩ = some (.float .f64 t.box.c) := by rw [mc_]; first | assumption | (go_simp; done)
          have m3 : w2.cell? ⟨wr.heap.size, 3, none⟩ = some (.float .f64 t.box.d) := by rw [mc_]; first | assumption | (go_simp; done)
          have m4 : w2.cell? ⟨wr.heap.size, 4, none⟩ = some (.int .i64 t.id) := by rw [mc_]; first | assumption | (go_simp; done)
          have mf : ∀ j, w2.frozen? ⟨wr.heap.size, j, none⟩ = false := fun j => by rw [mf_]; first | (go_simp; done) | (apply_assumption)
          clear mc_ mf_
          have hkf : Stab.Keeps wr w2 := by repeat (first | (with_reducible exact Stab.Keeps.refl _) | (with_reducible assumption) | (with_reducible refine Stab.Keeps.alloc ?_ _) | (with_reducible refine Stab.Keeps.drew ?_) | (with_reducible refine Stab.Keeps.drewN ?_ _) | ((with_reducible refine Stab.Keeps.setCell ?_ ?_ _); focus (first | (simp; done) | (simp; omega))) | (with_reducible refine Stab.Keeps.trans ?_ (by with_reducible assumption)))
          have ml : wr.heap.size < w2.heap.size := by have := hk2.size; simp at this; omega
          have hBq2 := hBq.keep hkf
          have hBa2 := hBa.keep hkf
          have hM2 := hM.keep hkf
          have hk3 := Stab.Keeps.trans hk hkf
          clear e0 e1 e2 e3 e4 y0 y1 y2 y3 y4 lq hM hBq hBa hk hk2 hkf
          have y0 := hBq2.cell (i := 0) rfl
          have y1 := hBq2.cell (i := 1) rfl
          have y2 := hBq2.cell (i := 2) rfl
          have y3 := hBq2.cell (i := 3) rfl
          have y4 := hBq2.cell (i := 4) rfl
          have lq := hBq2.lt
          go_wp2_with fail
          refine Stab.keep_tail 8 (fun _ _ _ => True) (fun _ => false) (fun k => k == 7) Stab.pre_none (by kernel_rfl) (by kernel_rfl) fun hcx => ?_
          simp only [List.take_succ_cons, List.take_zero, List.drop_succ_cons, List.drop_zero]
          repeat (first
            | (refine Stab.quiet rfl rfl rfl (fun K hK => ?_); go_big_quiet_op; refine hK _ ?_; clear hK K)
            | (refine Stab.one rfl rfl rfl ?_
               apply Exists.intro
               refine ⟨fun w1 hw1 => ?_, fun K hK => ?_⟩
               · go_simp
                 first | (go_at_call 9; exact hf _)
               go_simp
               refine hK _ ?_
               clear hK K)
            | (refine Stab.skip rfl (fun K hK => ?_); go_simp; refine hK _ ?_; clear hK K))
          refine Stab.nil fun w' hw' _ => ?_
          have hk4 := Stab.Keeps.trans hk3 hw'
          have hBq4 := hBq2.keep hw'
          have hBa4 := hBa2.keep hw'
          have hM4 := hM2.keep hw'
          have hs4 := hw'.size
          have hlM := hM2.lt
          clear hcx hf hM2 hBq2 hBa2 m0 m1 m2 m3 m4 y0 y1 y2 y3 y4 lq
          go_wp2_with ((with_reducible_and_instances refine MI.put rfl _ _ _ 41 rfl Tryd.underlying41 Tryd.underlying3 rfl hM4 ?c1a t.id hwf rfl (.int .i64 (far1 yq t)) rfl ?_))
          case c1a => unfold maxLen; omega
          intro w5 hM5 hg5
          have hk5 : Stab.Keeps w w5 := Below.grown hk4 hg5 hk4.size (fun g hg => by cases hg; omega)
          have hBq5 : Blk w5 w.heap.size 30 q.cells := hBq4.grown hg5 (by simp; omega)
          have hBa5 : Blk w5 (w.heap.size + 1) 39 (.slice xa ids.length xc :: r.cells) := hBa4.grown hg5 (by simp)
          rw [farF_snoc HNI.out] at hM5
          have hlk : looked q (L.take (k + 1)) = looked q (L.take k) ++ [t] := by rw [HSN.out, HLT.out]; rfl
          rw [← hlk] at hM5
          clear hlk hg5 hM4 hBq4 hBa4 hk4 hw' hk3 HSN HNI HLT
          go_wp2_with fail
          go_roundw
          case rel => exact ⟨k + 1, by omega, by go_num, hk5, hBq5, hBa5, hM5⟩
          case measure => simp [intOf]; omega
      · have g0 : (q.dO != 0) = true := by simp [hd0]
        have hlb : lookB q t = true := by unfold lookB; simp [hd0]
        have HLT := Lib.hid hlb
        clear hd0 hlb hmt
        go_upto_region 11 with (fail)
        have hk2 : Stab.Keeps wr (wr.alloc (.cells #[.float .f64 t.box.a, .float .f64 t.box.b, .float .f64 t.box.c, .float .f64 t.box.d, .int .i64 t.id] 32)) := by repeat (first | (with_reducible exact Stab.Keeps.refl _) | (with_reducible assumption) | (with_reducible refine Stab.Keeps.alloc ?_ _) | (with_reducible refine Stab.Keeps.drew ?_) | (with_reducible refine Stab.Keeps.drewN ?_ _) | ((with_reducible refine Stab.Keeps.setCell ?_ ?_ _); focus (first | (simp; done) | (simp; omega))) | (with_reducible refine Stab.Keeps.trans ?_ (by with_reducible assumption)))
        have hBt : Blk (wr.alloc (.cells #[.float .f64 t.box.a, .float .f64 t.box.b, .float .f64 t.box.c, .float .f64 t.box.d, .int .i64 t.id] 32)) wr.heap.size 32 t.cells := Blk.new wr t.cells _ _ rfl
        generalize (wr.alloc (.cells #[.float .f64 t.box.a, .float .f64 t.box.b, .float .f64 t.box.c, .float .f64 t.box.d, .int .i64 t.id] 32)) = w2 at hk2 hBt ⊢
        have hBq2 := hBq.keep hk2
        have hBa2 := hBa.keep hk2
        have hM2 := hM.keep hk2
        have hk3 := Stab.Keeps.trans hk hk2
        have m0 := hBt.cell (i := 0) rfl
        have m1 := hBt.cell (i := 1) rfl
        have m2 := hBt.cell (i := 2) rfl
        have m3 := hBt.cell (i := 3) rfl
        have m4 := hBt.cell (i := 4) rfl
        have ml := hBt.lt
        clear e0 e1 e2 e3 e4 y0 y1 y2 y3 y4 lq hM hBq hBa hk hk2
        have y0 := hBq2.cell (i := 0) rfl
        have y1 := hBq2.cell (i := 1) rfl
        have y2 := hBq2.cell (i := 2) rfl
        have y3 := hBq2.cell (i := 3) rfl
        have y4 := hBq2.cell (i := 4) rfl
        have lq := hBq2.lt
        refine Stab.keep_tail 8 (fun _ _ _ => True) (fun _ => false) (fun k => k == 7) Stab.pre_none (by kernel_rfl) (by kernel_rfl) fun hcx => ?_
        simp only [List.take_succ_cons, List.take_zero, List.drop_succ_cons, List.drop_zero]
        repeat (first
          | (refine Stab.quiet rfl rfl rfl (fun K hK => ?_); go_big_quiet_op; refine hK _ ?_; clear hK K)
          | (refine Stab.one rfl rfl rfl ?_
             apply Exists.intro
             refine ⟨fun w1 hw1 => ?_, fun K hK => ?_⟩
             · go_simp
               first | (go_at_call 9; exact hf _)
             go_simp
             refine hK _ ?_
             clear hK K)
          | (refine Stab.skip rfl (fun K hK => ?_); go_simp; refine hK _ ?_; clear hK K))
        refine Stab.nil fun w' hw' _ => ?_
        have hk4 := Stab.Keeps.trans hk3 hw'
        have hBq4 := hBq2.keep hw'
        have hBa4 := hBa2.keep hw'
        have hM4 := hM2.keep hw'
        have hs4 := hw'.size
        have hlM := hM2.lt
        clear hcx hf hM2 hBq2 hBa2 m0 m1 m2 m3 m4 y0 y1 y2 y3 y4 lq
        go_wp2_with ((with_reducible_and_instances refine MI.put rfl _ _ _ 41 rfl Tryd.underlying41 Tryd.underlying3 rfl hM4 ?c1b t.id hwf rfl (.int .i64 (far1 yq t)) rfl ?_))
        case c1b => unfold maxLen; omega
        intro w5 hM5 hg5
        have hk5 : Stab.Keeps w w5 := Below.grown hk4 hg5 hk4.size (fun g hg => by cases hg; omega)
        have hBq5 : Blk w5 w.heap.size 30 q.cells := hBq4.grown hg5 (by simp; omega)
        have hBa5 : Blk w5 (w.heap.size + 1) 39 (.slice xa ids.length xc :: r.cells) := hBa4.grown hg5 (by simp)
        rw [farF_snoc HNI.out] at hM5
        have hlk : looked q (L.take (k + 1)) = looked q (L.take k) ++ [t] := by rw [HSN.out, HLT.out]; rfl
        rw [← hlk] at hM5
        clear hlk hg5 hM4 hBq4 hBa4 hk4 hw' hk3 HSN HNI HLT
        go_wp2_with fail
        go_roundw
        case rel => exact ⟨k + 1, by omega, by go_num, hk5, hBq5, hBa5, hM5⟩
        case measure => simp [intOf]; omega
    · obtain rfl : n = k := by omega
      rw [List.take_of_length_le (by rw [HL.out]; exact Nat.le_refl _)] at hM
      obtain ⟨wl, rfl⟩ : ∃ wl : World, wl = wr := ⟨_, rfl⟩
      have y0 := hBq.cell (i := 0) rfl
      have y5 := hBq.cell (i := 5) rfl
      have y6 := hBq.cell (i := 6) rfl
      have lq := hBq.lt
      have z0 := hBa.cell (i := 0) rfl
      have z1 := hBa.cell (i := 1) rfl
      have z2 := hBa.cell (i := 2) rfl
      have z3 := hBa.cell (i := 3) rfl
      have z4 := hBa.cell (i := 4) rfl
      have la := hBa.lt
      by_cases hd2 : q.dO = 2
      · have g2 : (q.dO == 2) = true := by simp [hd2]
        obtain ⟨hids, id, f, rfl, hI⟩ : ids = [] ∧ ∃ id f, r = ⟨false, false, f, id, ⟨0, 0, 0, 0⟩, 0⟩ ∧ ((f = false ∧ id = 0 ∧ L = []) ∨ (f = true ∧ ∃ s ∈ L, s.id = id ∧ ∀ r ∈ L, far1 yq s ≤ far1 yq r)) := by
          rcases HA.out with ⟨_, h⟩ | ⟨h, _⟩
          · exact h
          · omega
        rw [looked_all (by omega)] at hM
        simp only at z1 z2 z3 z4
        clear hd2 hids HF HMt HA HH y5 y6 z0 z1 z2 hBa hBq
        rcases hI with ⟨rfl, rfl, hnil⟩ | ⟨rfl, s, hs, hse, hmin⟩
        · have hlk := hM.look_ok Tryd.underlying41 Tryd.underlying3 (zeroIntV wl) 0 (by decide)
          have hn0 : n = 0 := by have := HL.out; rw [hnil] at this; simpa using this.symm
          have n1 : decide (0 < n) = false := by simp [hn0]
          have n2 : decide ((n : Int) > 0) = false := by simp [hn0]
          rw [hnil, farF_nil] at hlk
          simp only [Option.getD_none, Option.isSome_none] at hlk
          clear hM hnil hn0
          go_wp2_with fail
          go_ret
          exact ⟨rfl, hk⟩
        · subst hse
          have hlk := hM.look_ok Tryd.underlying41 Tryd.underlying3 (zeroIntV wl) s.id (hid s hs)
          rw [farF_get hg.2.2 hs] at hlk
          simp only [Option.getD_some, Option.isSome_some] at hlk
          have HMN := Lib.hid hmin
          clear hmin
          go_wp2_with (first | ((with_reducible_and_instances refine MI.range rfl _ 41 rfl Tryd.underlying41 Tryd.underlying3 rfl hM ?_)) | fail)
          intro w9 cnt hR hgr9 hsz9
          have hk9 : Stab.Keeps w w9 := Below.grown hk hgr9 hk.size (fun g hg => by cases hg)
          have hrl : w.heap.size < wl.heap.size := lq
          clear hM hgr9 hsz9 hk hlk y0 z3 z4 lq la
          go_wp2_with fail
          go_loopg [11] cnt (fun gc v wr => v = .bool true ∧ Stab.Keeps w wr ∧ ∃ left, MR Tryd.prog 3 wr (w.heap.size + 1 + 1) wl.heap.size n gc (farF yq L) left)
          case atStart => exact ⟨rfl, hk9, _, hR⟩
          case round =>
            clear hR hk9
            obtain ⟨rfl, hk9, left, hR⟩ := hrel
            go_wp2_with (first | (at_next; refine MR.next rfl _ rfl Tryd.underlying3 rfl hR ?_ ?_) | fail)
            · intro _
              clear hR
              go_wp2_with fail
              go_ret
              exact ⟨rfl, hk9⟩
            · intro x v w10 cnt' hwx hlx hMx hR' hlt' hg10 hs10 hen
              obtain ⟨t, ht, hti, rfl⟩ := farF_mem hMx
              have hle1 : decide (far1 yq s ≤ far1 yq t) = true := decide_eq_true (HMN.out t ht)
              have hk10 : Stab.Keeps w w10 := Below.grown hk9 hg10 hk9.size (fun g hg => by cases hg; omega)
              clear hR hk9 hg10 hs10 hMx hti
              go_wp2_with fail
              go_roundg cnt'
              case measure => exact hlt'
              case rel => exact ⟨rfl, hk10, _, hR'⟩
      · have g2 : (q.dO == 2) = false := by simp [hd2]
        obtain ⟨hd01, S, R, hF⟩ : (q.dO = 0 ∨ q.dO = 1) ∧ ∃ S R, Fits (looked q L) yq q ids r S R := by
          rcases HA.out with ⟨h, _⟩ | h
          · exact absurd h hd2
          · exact h
        have hndF : ((looked q L).map It.id).Nodup := looked_nodup hg.2.2
        have hlen := fun ty => hM.len Tryd.underlying41 Tryd.underlying3 (ids := (looked q L).map It.id) hndF (fun i hi => by
          obtain ⟨t, ht, rfl⟩ := List.mem_map.1 hi
          exact hid t (List.mem_filter.1 ht).1) (farF_some yq _) ty
        rw [List.length_map] at hlen
        have hFl := hF.perm.length_eq
        rw [List.length_append] at hFl
        have hil : ids.length = S.length := by rw [hF.eids, List.length_map]
        have hFn : (looked q L).length ≤ n := by rw [← HL.out]; exact List.length_filter_le _ _
        have hndS : ((S ++ R).map It.id).Nodup := ((hF.perm.map It.id).nodup_iff).2 hndF
        have hwfS : ∀ t ∈ S ++ R, (Lit.int .i64 t.id).wf = true := fun t ht => hid t (List.mem_filter.1 (hF.perm.mem_iff.1 ht)).1
        rw [← farF_perm hndS hF.perm] at hM
        generalize (looked q L).length = M at *
        have h00 := HH.out
        obtain ⟨d, qb, stp, hw⟩ := q
        simp only at *
        have HFE := Lib.hid hF.eids
        have HFS := Lib.hid hF.sorted
        have HFL := Lib.hid hF.le
        have hgoal0 : (∃ b5 b6 : Bool, decide (0 < stp) = b5 ∧ decide (stp ≤ (M : Int)) = b6 ∧ ((b5 && b6) = false ∧ (ids.length = M) ∧ r = Rest.zero ∨ (b5 = true ∧ b6 = true) ∧ stp = (ids.length : Int) ∧ ∃ b7 : Bool, decide (1 < hw) = b7 ∧ r.err = b7 ∧ r.own = b7)) := by
          refine ⟨_, _, rfl, rfl, ?_⟩
          rcases hF.how with ⟨h1, h2, h3⟩ | ⟨h1, h2, h3⟩
          · left
            subst h1
            simp only [List.length_nil] at hFl
            unfold On at h2
            replace h2 : stp ≤ 0 ∨ (ids.length : Int) < stp := h2
            refine ⟨?_, by omega, h3⟩
            simp only [Bool.and_eq_false_iff, decide_eq_false_iff_not]
            omega
          · right
            have : 0 < S.length := List.length_pos_iff.2 h1
            replace h2 : (ids.length : Int) = stp := h2
            replace h3 : r = if hw = 0 ∨ hw = 1 then Rest.zero else Rest.bad := h3
            refine ⟨⟨decide_eq_true (by omega), decide_eq_true (by omega)⟩, h2.symm, _, rfl, ?_⟩
            by_cases hc : hw = 0 ∨ hw = 1
            · rw [if_pos hc] at h3
              subst h3
              have : ¬ 1 < hw := by omega
              simp [Rest.zero, this]
            · rw [if_neg hc] at h3
              subst h3
              have : 1 < hw := by omega
              simp [Rest.bad, this]
        obtain ⟨b5, b6, e5, e6, hcs⟩ := id hgoal0
        have hle5 : S.length + R.length ≤ n := by omega
        have HIL := Lib.hid hil
        clear hFl hFn hF hndF h00 hd2 hil
        have hready : ∃ b7 : Bool, decide (hw > 1) = b7 ∧ ((b5 = false ∧ ids.length = M ∧ r.err = false ∧ r.own = false) ∨ (b5 = true ∧ b6 = false ∧ ids.length = M ∧ r.err = false ∧ r.own = false) ∨ (b5 = true ∧ b6 = true ∧ stp = (ids.length : Int) ∧ r.err = b7 ∧ r.own = b7)) := by
          refine ⟨_, rfl, ?_⟩
          rcases hcs with ⟨h1, h2, h3⟩ | ⟨⟨h1, h2⟩, h3, b7, h4, h5, h6⟩
          · subst h3
            cases b5
            · exact .inl ⟨rfl, h2, rfl, rfl⟩
            · cases b6
              · exact .inr (.inl ⟨rfl, rfl, h2, rfl, rfl⟩)
              · cases h1
          · exact .inr (.inr ⟨h1, h2, h3, by rw [h5, ← h4], by rw [h6, ← h4]⟩)
        clear hcs
        obtain ⟨b7, e7, hcs⟩ := hready
        have hd5 : decide (stp > 0) = b5 := e5
        clear e5
        have hstart : MI Tryd.prog 3 wl (w.heap.size + 1 + 1) n (farF yq (S.drop 0 ++ R)) := hM
        rcases hcs with ⟨rfl, rfl, r1, r2⟩ | ⟨rfl, rfl, rfl, r1, r2⟩ | ⟨rfl, rfl, rfl, r1, r2⟩
        rotate_left 2
        · have e8 : decide (ids.length ≤ M) = true := decide_eq_true (by have := of_decide_eq_true e6; omega)
          have e9 : decide (0 < ids.length) = true := decide_eq_true (by have := of_decide_eq_true hd5; omega)
          cases b7
          all_goals
            rw [r1] at z1
            rw [r2] at z2
            clear r1 r2 HMt HF
            go_upto_region 29 with (fail)
            clear hlen hd5 e6 e7 e8 e9 z1 z2 z3 z4 y5 y6 hM g2
            go_wp2_with fail
            go_loopg [16, 159] ids.length (fun gj lv iv wr5 => ∃ j : Nat, j ≤ ids.length ∧ gj = ids.length - j ∧ lv = .int .i64 (lastD yq S j) ∧ iv = .int .i64 j ∧ Stab.Keeps w wr5 ∧ Blk wr5 w.heap.size 30 [.int .i64 d, .float .f64 qb.a, .float .f64 qb.b, .float .f64 qb.c, .float .f64 qb.d, .int .i64 (ids.length : Int), .int .i64 hw] ∧ Blk wr5 (w.heap.size + 1) 39 (.slice xa ids.length xc :: r.cells) ∧ MI Tryd.prog 3 wr5 (w.heap.size + 1 + 1) n (farF yq (S.drop j ++ R)))
            case atStart => exact ⟨0, by omega, rfl, rfl, rfl, hk, hBq, hBa, hstart⟩
            case round =>
              clear hk hBq hBa hstart y0 z0 lq la
              obtain ⟨j, j2, hgj, rfl, rfl, hk, hBq, hBa, hMj⟩ := hrel
              have HGJ := Lib.hid hgj
              clear hgj
              have y0 := hBq.cell (i := 0) rfl
              have lq := hBq.lt
              have lm := hMj.lt
              by_cases hjl : j < ids.length
              · obtain ⟨g, hx1, hg1, hc1⟩ := ok_cells ho (by show 0 < ids.length; omega)
                simp only at hx1
                subst hx1
                have hjS : j < S.length := by have := HIL.out; omega
                have hij : ids[j] = S[j].id := by
                  have h1 := HFE.out
                  have h2 : (S.map It.id)[j]'(by simp; omega) = S[j].id := List.getElem_map ..
                  rw [← h2]
                  exact List.getElem_of_eq h1 hjl
                have d1 : w.cell? ⟨g, j, none⟩ = some (.int .i64 S[j].id) := by rw [← hij]; exact hc1 j hjl
                have e1 : wr.cell? ⟨g, j, none⟩ = some (.int .i64 S[j].id) := by rw [(Stab.own_cell hk g hg1).1]; exact d1
                have eg1 : g < wr.heap.size := Nat.lt_of_lt_of_le hg1 hk.size
                have hdr : S.drop j = S[j] :: S.drop (j + 1) := List.drop_eq_getElem_cons hjS
                have hwf := hwfS S[j] (List.mem_append_left _ (List.getElem_mem _))
                have hndj : ((S.drop j ++ R).map It.id).Nodup := hndS.sublist (((List.drop_sublist j S).append_right R).map _)
                have hlk := hMj.look_ok Tryd.underlying41 Tryd.underlying3 (zeroIntV wr) S[j].id hwf
                rw [farF_get hndj (List.mem_append_left _ (by rw [hdr]; exact List.mem_cons_self))] at hlk
                simp only [Option.getD_some, Option.isSome_some] at hlk
                have HDL := Lib.hid (farF_del (yq := yq) (F' := S.drop (j + 1) ++ R) hndj (by rw [hdr]; exact List.Perm.refl _))
                have hlast : lastD yq S (j + 1) = far1 yq S[j] := by simp [lastD, hjS]
                have HLS := Lib.hid hlast
                have hnl : d = 1 → decide (far1 yq S[j] < lastD yq S j) = false := fun h1 => by
                  refine decide_eq_false ?_
                  cases j with
                  | zero => have := far1_nonneg yq S[0]; simp only [lastD]; omega
                  | succ i =>
                    have h2 := (List.pairwise_iff_getElem.1 (HFS.out h1)) i (i + 1) (by omega) hjS (by omega)
                    have hi : i < S.length := by omega
                    simp only [lastD, List.getElem?_eq_getElem hi]
                    omega
                clear hij d1 hdr hndj hlast hc1
                generalize S[j] = t at *
                generalize lastD yq S j = ls at *
                by_cases hd1 : d = 1
                · have g3 : (d == 1) = true := by simp [hd1]
                  have hn1 := hnl hd1
                  clear hnl hd1
                  go_wp2_with (first | ((with_reducible_and_instances refine MI.drop rfl _ _ 41 rfl Tryd.underlying41 Tryd.underlying3 rfl hMj t.id hwf rfl ?_)) | fail)
                  intro w6 hM6 ht6
                  have hg6 := ht6.grown
                  have hk6 : Stab.Keeps w w6 := Below.grown hk hg6 hk.size (fun g hg => by cases hg; omega)
                  have hBq6 := hBq.grown hg6 (by simp; omega)
                  have hBa6 := hBa.grown hg6 (by simp)
                  rw [HDL.out] at hM6
                  clear hg6 ht6 hMj hBq hBa hk hlk e1 eg1 y0 lq lm
                  go_wp2_with fail
                  go_roundg (ids.length - (j + 1))
                  case measure => have := HGJ.out; omega
                  case rel => exact ⟨j + 1, by omega, rfl, by rw [HLS.out], by go_num, hk6, hBq6, hBa6, hM6⟩
                · have g3 : (d == 1) = false := by simp [hd1]
                  clear hnl hd1
                  go_wp2_with (first | ((with_reducible_and_instances refine MI.drop rfl _ _ 41 rfl Tryd.underlying41 Tryd.underlying3 rfl hMj t.id hwf rfl ?_)) | fail)
                  intro w6 hM6 ht6
                  have hg6 := ht6.grown
                  have hk6 : Stab.Keeps w w6 := Below.grown hk hg6 hk.size (fun g hg => by cases hg; omega)
                  have hBq6 := hBq.grown hg6 (by simp; omega)
                  have hBa6 := hBa.grown hg6 (by simp)
                  rw [HDL.out] at hM6
                  clear hg6 ht6 hMj hBq hBa hk hlk e1 eg1 y0 lq lm
                  go_wp2_with fail
                  go_roundg (ids.length - (j + 1))
                  case measure => have := HGJ.out; omega
                  case rel => exact ⟨j + 1, by omega, rfl, by rw [HLS.out], by go_num, hk6, hBq6, hBa6, hM6⟩
              · obtain rfl : j = ids.length := by omega
                have hMe : MI Tryd.prog 3 wr (w.heap.size + 1 + 1) n (farF yq R) := by
                  have h1 : S.drop ids.length = [] := List.drop_of_length_le (by have := HIL.out; omega)
                  rw [h1] at hMj
                  exact hMj
                have hlr : ∀ t ∈ R, d = 1 → decide (far1 yq t < lastD yq S ids.length) = false := fun t ht h1 => by
                  refine decide_eq_false ?_
                  have h2 := HFL.out h1
                  rw [HIL.out]
                  cases hS : S.length with
                  | zero => have := far1_nonneg yq t; simp only [lastD]; omega
                  | succ i =>
                    have hi : i < S.length := by omega
                    simp only [lastD, List.getElem?_eq_getElem hi]
                    have := h2 S[i] (List.getElem_mem _) t ht
                    omega
                have HLR := Lib.hid hlr
                clear hlr hMj
                generalize lastD yq S ids.length = ls at *
                go_wp2_with (first | ((with_reducible_and_instances refine MI.range rfl _ 41 rfl Tryd.underlying41 Tryd.underlying3 rfl hMe ?_)) | fail)
                intro w9 cnt hR hgr9 hsz9
                have hk9 : Stab.Keeps w w9 := Below.grown hk hgr9 hk.size (fun g hg => by cases hg)
                have hBq9 := hBq.grown hgr9 (by simp)
                obtain ⟨wn, rfl⟩ : ∃ wn : World, wn = wr := ⟨_, rfl⟩
                have hrl : w.heap.size < wn.heap.size := lq
                clear hMe hgr9 hsz9 hk hBq hBa y0 lq
                go_wp2_with fail
                go_loopg [] cnt (fun gc wr => Stab.Keeps w wr ∧ Blk wr w.heap.size 30 [.int .i64 d, .float .f64 qb.a, .float .f64 qb.b, .float .f64 qb.c, .float .f64 qb.d, .int .i64 (ids.length : Int), .int .i64 hw] ∧ ∃ left, MR Tryd.prog 3 wr (w.heap.size + 1 + 1) wn.heap.size n gc (farF yq R) left)
                case atStart => exact ⟨hk9, hBq9, _, hR⟩
                case round =>
                  clear hR hk9 hBq9
                  obtain ⟨hk9, hBq9, left, hR⟩ := hrel
                  go_wp2_with (first | (at_next; refine MR.next rfl _ rfl Tryd.underlying3 rfl hR ?_ ?_) | fail)
                  · intro _
                    clear hR
                    go_wp2_with fail
                    go_ret
                    exact ⟨rfl, hk9⟩
                  · intro x v w10 cnt' hwx hlx hMx hR' hlt' hg10 hs10 hen
                    obtain ⟨t, ht, hti, rfl⟩ := farF_mem hMx
                    have hk10 : Stab.Keeps w w10 := Below.grown hk9 hg10 hk9.size (fun g hg => by cases hg; omega)
                    have hBq10 := hBq9.grown hg10 (by simp; omega)
                    have y0 := hBq10.cell (i := 0) rfl
                    have lq := hBq10.lt
                    by_cases hd1 : d = 1
                    · have g3 : (d == 1) = true := by simp [hd1]
                      have hn1 := HLR.out t ht hd1
                      clear hR hk9 hg10 hs10 hMx hti hd1
                      go_wp2_with fail
                      go_roundg cnt'
                      case measure => exact hlt'
                      case rel => exact ⟨hk10, hBq10, _, hR'⟩
                    · have g3 : (d == 1) = false := by simp [hd1]
                      clear hR hk9 hg10 hs10 hMx hti hd1
                      go_wp2_with fail
                      go_roundg cnt'
                      case measure => exact hlt'
                      case rel => exact ⟨hk10, hBq10, _, hR'⟩
        all_goals
          rw [r1] at z1
          rw [r2] at z2
          clear r1 r2 HMt HF
          go_upto_region 29 with (fail)
          clear hlen hd5 e6 e7 z1 z2 z3 z4 y5 y6 hM g2
          go_wp2_with fail
          go_loopg [16, 159] ids.length (fun gj lv iv wr5 => ∃ j : Nat, j ≤ ids.length ∧ gj = ids.length - j ∧ lv = .int .i64 (lastD yq S j) ∧ iv = .int .i64 j ∧ Stab.Keeps w wr5 ∧ Blk wr5 w.heap.size 30 [.int .i64 d, .float .f64 qb.a, .float .f64 qb.b, .float .f64 qb.c, .float .f64 qb.d, .int .i64 stp, .int .i64 hw] ∧ Blk wr5 (w.heap.size + 1) 39 (.slice xa ids.length xc :: r.cells) ∧ MI Tryd.prog 3 wr5 (w.heap.size + 1 + 1) n (farF yq (S.drop j ++ R)))
          case atStart => exact ⟨0, by omega, rfl, rfl, rfl, hk, hBq, hBa, hstart⟩
          case round =>
            clear hk hBq hBa hstart y0 z0 lq la
            obtain ⟨j, j2, hgj, rfl, rfl, hk, hBq, hBa, hMj⟩ := hrel
            have HGJ := Lib.hid hgj
            clear hgj
            have y0 := hBq.cell (i := 0) rfl
            have lq := hBq.lt
            have lm := hMj.lt
            by_cases hjl : j < ids.length
            · obtain ⟨g, hx1, hg1, hc1⟩ := ok_cells ho (by show 0 < ids.length; omega)
              simp only at hx1
              subst hx1
              have hjS : j < S.length := by have := HIL.out; omega
              have hij : ids[j] = S[j].id := by
                have h1 := HFE.out
                have h2 : (S.map It.id)[j]'(by simp; omega) = S[j].id := List.getElem_map ..
                rw [← h2]
                exact List.getElem_of_eq h1 hjl
              have d1 : w.cell? ⟨g, j, none⟩ = some (.int .i64 S[j].id) := by rw [← hij]; exact hc1 j hjl
              have e1 : wr.cell? ⟨g, j, none⟩ = some (.int .i64 S[j].id) := by rw [(Stab.own_cell hk g hg1).1]; exact d1
              have eg1 : g < wr.heap.size := Nat.lt_of_lt_of_le hg1 hk.size
              have hdr : S.drop j = S[j] :: S.drop (j + 1) := List.drop_eq_getElem_cons hjS
              have hwf := hwfS S[j] (List.mem_append_left _ (List.getElem_mem _))
              have hndj : ((S.drop j ++ R).map It.id).Nodup := hndS.sublist (((List.drop_sublist j S).append_right R).map _)
              have hlk := hMj.look_ok Tryd.underlying41 Tryd.underlying3 (zeroIntV wr) S[j].id hwf
              rw [farF_get hndj (List.mem_append_left _ (by rw [hdr]; exact List.mem_cons_self))] at hlk
              simp only [Option.getD_some, Option.isSome_some] at hlk
              have HDL := Lib.hid (farF_del (yq := yq) (F' := S.drop (j + 1) ++ R) hndj (by rw [hdr]; exact List.Perm.refl _))
              have hlast : lastD yq S (j + 1) = far1 yq S[j] := by simp [lastD, hjS]
              have HLS := Lib.hid hlast
              have hnl : d = 1 → decide (far1 yq S[j] < lastD yq S j) = false := fun h1 => by
                refine decide_eq_false ?_
                cases j with
                | zero => have := far1_nonneg yq S[0]; simp only [lastD]; omega
                | succ i =>
                  have h2 := (List.pairwise_iff_getElem.1 (HFS.out h1)) i (i + 1) (by omega) hjS (by omega)
                  have hi : i < S.length := by omega
                  simp only [lastD, List.getElem?_eq_getElem hi]
                  omega
              clear hij d1 hdr hndj hlast hc1
              generalize S[j] = t at *
              generalize lastD yq S j = ls at *
              by_cases hd1 : d = 1
              · have g3 : (d == 1) = true := by simp [hd1]
                have hn1 := hnl hd1
                clear hnl hd1
                go_wp2_with (first | ((with_reducible_and_instances refine MI.drop rfl _ _ 41 rfl Tryd.underlying41 Tryd.underlying3 rfl hMj t.id hwf rfl ?_)) | fail)
                intro w6 hM6 ht6
                have hg6 := ht6.grown
                have hk6 : Stab.Keeps w w6 := Below.grown hk hg6 hk.size (fun g hg => by cases hg; omega)
                have hBq6 := hBq.grown hg6 (by simp; omega)
                have hBa6 := hBa.grown hg6 (by simp)
                rw [HDL.out] at hM6
                clear hg6 ht6 hMj hBq hBa hk hlk e1 eg1 y0 lq lm
                go_wp2_with fail
                go_roundg (ids.length - (j + 1))
                case measure => have := HGJ.out; omega
                case rel => exact ⟨j + 1, by omega, rfl, by rw [HLS.out], by go_num, hk6, hBq6, hBa6, hM6⟩
              · have g3 : (d == 1) = false := by simp [hd1]
                clear hnl hd1
                go_wp2_with (first | ((with_reducible_and_instances refine MI.drop rfl _ _ 41 rfl Tryd.underlying41 Tryd.underlying3 rfl hMj t.id hwf rfl ?_)) | fail)
                intro w6 hM6 ht6
                have hg6 := ht6.grown
                have hk6 : Stab.Keeps w w6 := Below.grown hk hg6 hk.size (fun g hg => by cases hg; omega)
                have hBq6 := hBq.grown hg6 (by simp; omega)
                have hBa6 := hBa.grown hg6 (by simp)
                rw [HDL.out] at hM6
                clear hg6 ht6 hMj hBq hBa hk hlk e1 eg1 y0 lq lm
                go_wp2_with fail
                go_roundg (ids.length - (j + 1))
                case measure => have := HGJ.out; omega
                case rel => exact ⟨j + 1, by omega, rfl, by rw [HLS.out], by go_num, hk6, hBq6, hBa6, hM6⟩
            · obtain rfl : j = ids.length := by omega
              have hMe : MI Tryd.prog 3 wr (w.heap.size + 1 + 1) n (farF yq R) := by
                have h1 : S.drop ids.length = [] := List.drop_of_length_le (by have := HIL.out; omega)
                rw [h1] at hMj
                exact hMj
              have hlr : ∀ t ∈ R, d = 1 → decide (far1 yq t < lastD yq S ids.length) = false := fun t ht h1 => by
                refine decide_eq_false ?_
                have h2 := HFL.out h1
                rw [HIL.out]
                cases hS : S.length with
                | zero => have := far1_nonneg yq t; simp only [lastD]; omega
                | succ i =>
                  have hi : i < S.length := by omega
                  simp only [lastD, List.getElem?_eq_getElem hi]
                  have := h2 S[i] (List.getElem_mem _) t ht
                  omega
              have HLR := Lib.hid hlr
              clear hlr hMj
              generalize lastD yq S ids.length = ls at *
              go_wp2_with (first | ((with_reducible_and_instances refine MI.range rfl _ 41 rfl Tryd.underlying41 Tryd.underlying3 rfl hMe ?_)) | fail)
              intro w9 cnt hR hgr9 hsz9
              have hk9 : Stab.Keeps w w9 := Below.grown hk hgr9 hk.size (fun g hg => by cases hg)
              have hBq9 := hBq.grown hgr9 (by simp)
              obtain ⟨wn, rfl⟩ : ∃ wn : World, wn = wr := ⟨_, rfl⟩
              have hrl : w.heap.size < wn.heap.size := lq
              clear hMe hgr9 hsz9 hk hBq hBa y0 lq
              go_wp2_with fail
              go_loopg [] cnt (fun gc wr => Stab.Keeps w wr ∧ Blk wr w.heap.size 30 [.int .i64 d, .float .f64 qb.a, .float .f64 qb.b, .float .f64 qb.c, .float .f64 qb.d, .int .i64 stp, .int .i64 hw] ∧ ∃ left, MR Tryd.prog 3 wr (w.heap.size + 1 + 1) wn.heap.size n gc (farF yq R) left)
              case atStart => exact ⟨hk9, hBq9, _, hR⟩
              case round =>
                clear hR hk9 hBq9
                obtain ⟨hk9, hBq9, left, hR⟩ := hrel
                go_wp2_with (first | (at_next; refine MR.next rfl _ rfl Tryd.underlying3 rfl hR ?_ ?_) | fail)
                · intro _
                  clear hR
                  go_wp2_with fail
                  go_ret
                  exact ⟨rfl, hk9⟩
                · intro x v w10 cnt' hwx hlx hMx hR' hlt' hg10 hs10 hen
                  obtain ⟨t, ht, hti, rfl⟩ := farF_mem hMx
                  have hk10 : Stab.Keeps w w10 := Below.grown hk9 hg10 hk9.size (fun g hg => by cases hg; omega)
                  have hBq10 := hBq9.grown hg10 (by simp; omega)
                  have y0 := hBq10.cell (i := 0) rfl
                  have lq := hBq10.lt
                  by_cases hd1 : d = 1
                  · have g3 : (d == 1) = true := by simp [hd1]
                    have hn1 := HLR.out t ht hd1
                    clear hR hk9 hg10 hs10 hMx hti hd1
                    go_wp2_with fail
                    go_roundg cnt'
                    case measure => exact hlt'
                    case rel => exact ⟨hk10, hBq10, _, hR'⟩
                  · have g3 : (d == 1) = false := by simp [hd1]
                    clear hR hk9 hg10 hs10 hMx hti hd1
                    go_wp2_with fail
                    go_roundg cnt'
                    case measure => exact hlt'
                    case rel => exact ⟨hk10, hBq10, _, hR'⟩
end Go.Proofs.YtokofimfinhnbaaDoor
set_option linter.unusedVariables false
set_option linter.unusedSimpArgs false
namespace Go.Proofs.YtokofimfinhnbaaDoor
open Go.RowKit Go.Fl Go.Sl Go.Ch Go.Fr Go.Mb Go.Hp Go.Mi
theorem kTold_ (a : Option Addr) (n cap : Nat) (L : List It) (tr : Option RT) (q : Ask) (ids : List Int) (r : Rest) (xa : Option Addr) (xc : Nat) (w : World) (hl : L.length = n) (h : Sz w a n cap 5 (enc L)) (hid : ∀ t ∈ L, (Lit.int .i64 t.id).wf = true) (hg : GoodL L)
    (hp : (itemsO tr).Perm L) (hf : ∀ t, tr = some t → t.full) (hq : GoodA n q) (ho : (Ans.mk xa xc ids r).ok w) (hA : TAns n tr (qof q.box) q ids r) :
    Calls Tryd.prog 10 #[.slice a n cap, q.val, toldV xa ids.length xc r] w (One w (.bool true)) := by
  obtain ⟨yq, hy, hyo⟩ := boxB_spec hq.box
  rw [qof_eq hy] at hA
  have hF := fun hd => fits_of hg hp hf hy hA hd
  rcases hA with ⟨hd, _⟩ | ⟨hd, _⟩ | ⟨hd, hi, id, f, hr, hc⟩ | hA | hA
  · exact told012_ a n cap L q yq ids r xa xc w hl h hid hg hy hyo ho hq.h0 hq.h3 hq.s0 (.inr ⟨.inl hd, hF (.inl hd)⟩)
  · exact told012_ a n cap L q yq ids r xa xc w hl h hid hg hy hyo ho hq.h0 hq.h3 hq.s0 (.inr ⟨.inr hd, hF (.inr hd)⟩)
  · refine told012_ a n cap L q yq ids r xa xc w hl h hid hg hy hyo ho hq.h0 hq.h3 hq.s0 (.inl ⟨hd, hi, id, f, hr, ?_⟩)
    rcases hc with ⟨h1, h2, h3⟩ | ⟨h1, s, h2, h3, h4⟩
    · refine .inl ⟨h1, h2, ?_⟩
      have := hp.length_eq
      rw [h3] at this
      exact List.length_eq_zero_iff.1 (by simpa using this.symm)
    · exact .inr ⟨h1, s, hp.mem_iff.1 h2, h3, fun u hu => h4 u (hp.mem_iff.2 hu)⟩
  · exact told34_ a n cap L tr q ids r xa xc w hl h hg hp hf (.inl hA)
  · exact told34_ a n cap L tr q ids r xa xc w hl h hg hp hf (.inr hA)
set_option maxRecDepth 100000 in
set_option maxHeartbeats 8000000 in
theorem playlaw_ (st : Addr) (a : Option Addr) (n cap : Nat) (L : List It) (a2 : Option Addr) (m cap2 : Nat) (qs : List Ask) (w : World) (hl : L.length = n) (h : Sz w a n cap 5 (enc L)) (hid : ∀ t ∈ L, (Lit.int .i64 t.id).wf = true)
    (hm : qs.length = m) (h2 : Sz w a2 m cap2 7 (qs.flatMap Ask.cells)) (hS : StopE st w) :
    Calls Tryd.prog 4 #[.slice a n cap, .slice a2 m cap2] w (LawPost w) := by
  have hle := h.le
  have hmx := h.max
  have hle2 := h2.le
  have hmx2 := h2.max
  unfold maxLen at hmx hmx2
  by_cases c1 : (2147483647 : Int) < n
  · have d1 : decide ((n : Int) > 2147483647) = true := decide_eq_true c1
    go_enter Tryd.func4, Tryd.ntmps4
    go_wp2_with fail
    go_ret
    exact ⟨rfl, Stab.Keeps.refl w⟩
  have d1 : decide ((n : Int) > 2147483647) = false := decide_eq_false c1
  by_cases c2 : (2147483647 : Int) < m
  · have d2 : decide ((m : Int) > 2147483647) = true := decide_eq_true c2
    go_enter Tryd.func4, Tryd.ntmps4
    go_wp2_with fail
    go_ret
    exact ⟨rfl, Stab.Keeps.refl w⟩
  have d2 : decide ((m : Int) > 2147483647) = false := decide_eq_false c2
  have hki := kItems_ a n cap L w hl h hid
  have hka := fun w' (hk : Stab.Keeps w w') => kAsked_ a2 m cap2 n qs w' hm (h2.keep hk)
  have HL := Lib.hid hl
  have HM := Lib.hid hm
  clear hl hm
  go_enter Tryd.func4, Tryd.ntmps4
  go_wp2_with fail
  refine hki.mono ?_
  clear hki
  rintro e w2 ⟨t, rfl, hgood, hk2⟩
  cases t with
  | false =>
    go_wp2_with fail
    go_ret
    exact ⟨rfl, hk2⟩
  | true =>
    replace hgood := hgood rfl
    go_wp2_with fail
    refine (hka w2 hk2).mono ?_
    clear hka
    rintro e w3 ⟨t, rfl, hgq, hk3⟩
    have hk := Stab.Keeps.trans hk2 hk3
    clear hk2 hk3
    cases t with
    | false =>
      go_wp2_with fail
      go_ret
      exact ⟨rfl, hk⟩
    | true =>
      replace hgq := hgq rfl
      have hn400 : n ≤ 400 := by have := hgood.1; have := HL.out; omega
      have hm60 : m ≤ 60 := by have := hgq.1; have := HM.out; omega
      have hSr : StopE st w3 := hS.below hk (Stab.cell_lt hS)
      have hgo : ∀ q ∈ qs, q.dO = 0 → ∀ (w : World) (lo p : Nat) (t : RT), NodeAt w lo p t → t.items.Perm L → q.stop ≤ 0 ∨ ¬ (q.how = 0 ∨ q.how = 1) ∨ ∃ l, t = .leaf l := by
        intro q hq hd w lo p t hN hp
        have hga := hgq.2 q hq
        by_cases hs : q.stop ≤ 0
        · exact .inl hs
        by_cases hh : q.how = 0 ∨ q.how = 1
        · refine .inr (.inr (hN.small ?_))
          rw [hp.length_eq, HL.out]
          have := hga.no
          omega
        · exact .inr (.inl hh)
      have hP := plays_ st a n cap L a2 m cap2 qs w3 HL.out (h.keep hk) HM.out (h2.keep hk) hSr hgood hgq hgo
      clear hgo c1 c2 d1 d2
      go_wp2_with fail
      refine hP.mono ?_
      clear hP
      rintro e w5 ⟨hk5, tr, xs, aL, cL, rfl, hp⟩
      have hkf := Stab.Keeps.trans hk hk5
      clear hk5 hSr hk
      go_wp2_with fail
      go_loopw [44] (fun iv wr => ∃ k : Nat, k ≤ m ∧ iv = .int .i64 k ∧ Stab.Keeps w5 wr) (fun iv _ => m - (intOf iv).toNat)
      case atStart => exact ⟨0, by omega, rfl, Stab.Keeps.refl _⟩
      case round =>
        obtain ⟨k, k2, rfl, hk6⟩ := hrel
        by_cases hlt : k < m
        · obtain ⟨g, off, ha, hb, hc⟩ := ((h2.keep hkf).keep hk6).elem hlt
          subst ha
          have hkq : k < qs.length := by have := HM.out; omega
          have hkx : k < xs.length := by rw [hp.len]; exact hlt
          have eg := fun j hj => flat_get Ask.cells 7 Ask.cells_len qs k j hkq hj
          have e0 : wr.cell? ⟨g, off + k * 7, none⟩ = some (.int .i64 qs[k].dO) := hc 0 _ (by omega) (by rw [eg 0 (by omega)]; rfl)
          have e1 : wr.cell? ⟨g, off + k * 7 + 1, none⟩ = some (.float .f64 qs[k].box.a) := hc 1 _ (by omega) (by rw [eg 1 (by omega)]; rfl)
          have e2 : wr.cell? ⟨g, off + k * 7 + 2, none⟩ = some (.float .f64 qs[k].box.b) := hc 2 _ (by omega) (by rw [eg 2 (by omega)]; rfl)
          have e3 : wr.cell? ⟨g, off + k * 7 + 3, none⟩ = some (.float .f64 qs[k].box.c) := hc 3 _ (by omega) (by rw [eg 3 (by omega)]; rfl)
          have e4 : wr.cell? ⟨g, off + k * 7 + 4, none⟩ = some (.float .f64 qs[k].box.d) := hc 4 _ (by omega) (by rw [eg 4 (by omega)]; rfl)
          have e5 : wr.cell? ⟨g, off + k * 7 + 5, none⟩ = some (.int .i64 qs[k].stop) := hc 5 _ (by omega) (by rw [eg 5 (by omega)]; rfl)
          have e6 : wr.cell? ⟨g, off + k * 7 + 6, none⟩ = some (.int .i64 qs[k].how) := hc 6 _ (by omega) (by rw [eg 6 (by omega)]; rfl)
          go_upto_region 11 with (fail)
          have hkq2 : Stab.Keeps wr (wr.alloc (.cells #[.int .i64 qs[k].dO, .float .f64 qs[k].box.a, .float .f64 qs[k].box.b, .float .f64 qs[k].box.c, .float .f64 qs[k].box.d, .int .i64 qs[k].stop, .int .i64 qs[k].how] 30)) := by repeat (first | (with_reducible exact Stab.Keeps.refl _) | (with_reducible assumption) | (with_reducible refine Stab.Keeps.alloc ?_ _) | (with_reducible refine Stab.Keeps.drew ?_) | (with_reducible refine Stab.Keeps.drewN ?_ _) | ((with_reducible refine Stab.Keeps.setCell ?_ ?_ _); focus (first | (simp; done) | (simp; omega))) | (with_reducible refine Stab.Keeps.trans ?_ (by with_reducible assumption)))
          have hBq : Blk (wr.alloc (.cells #[.int .i64 qs[k].dO, .float .f64 qs[k].box.a, .float .f64 qs[k].box.b, .float .f64 qs[k].box.c, .float .f64 qs[k].box.d, .int .i64 qs[k].stop, .int .i64 qs[k].how] 30)) wr.heap.size 30 qs[k].cells := Blk.new wr qs[k].cells _ _ rfl
          generalize wr.alloc (.cells #[.int .i64 qs[k].dO, .float .f64 qs[k].box.a, .float .f64 qs[k].box.b, .float .f64 qs[k].box.c, .float .f64 qs[k].box.d, .int .i64 qs[k].stop, .int .i64 qs[k].how] 30) = W2 at hkq2 hBq ⊢
          have hk7 := Stab.Keeps.trans hk6 hkq2
          have hkW := Stab.Keeps.trans hkf hk7
          have hTold := fun w' (hk' : Stab.Keeps W2 w') => kTold_ a n cap L tr qs[k] xs[k].ids xs[k].r xs[k].a xs[k].cap w' HL.out ((h.keep hkW).keep hk') hid hgood hp.perm hp.full (hgq.2 _ (List.getElem_mem hkq)) (((hp.ok _ (List.getElem_mem hkx)).keep hk7).keep hk') (hp.ans k hkx qs[k] (List.getElem?_eq_getElem hkq))
          obtain ⟨ab, ao, aha, hab, ac⟩ := (hp.sl.keep hk7).elem hlt
          have ag := fun j hj => flat_get Ans.cells 10 Ans.cells_len xs k j hkx hj
          have a0 : W2.cell? ⟨ab, ao + k * 10, none⟩ = some (.slice xs[k].a xs[k].ids.length xs[k].cap) := ac 0 _ (by omega) (by rw [ag 0 (by omega)]; rfl)
          have a1 : W2.cell? ⟨ab, ao + k * 10 + 1, none⟩ = some (.bool xs[k].r.err) := ac 1 _ (by omega) (by rw [ag 1 (by omega)]; rfl)
          have a2 : W2.cell? ⟨ab, ao + k * 10 + 2, none⟩ = some (.bool xs[k].r.own) := ac 2 _ (by omega) (by rw [ag 2 (by omega)]; rfl)
          have a3 : W2.cell? ⟨ab, ao + k * 10 + 3, none⟩ = some (.bool xs[k].r.found) := ac 3 _ (by omega) (by rw [ag 3 (by omega)]; rfl)
          have a4 : W2.cell? ⟨ab, ao + k * 10 + 4, none⟩ = some (.int .i64 xs[k].r.id) := ac 4 _ (by omega) (by rw [ag 4 (by omega)]; rfl)
          have a5 : W2.cell? ⟨ab, ao + k * 10 + 5, none⟩ = some (.float .f64 xs[k].r.box.a) := ac 5 _ (by omega) (by rw [ag 5 (by omega)]; rfl)
          have a6 : W2.cell? ⟨ab, ao + k * 10 + 6, none⟩ = some (.float .f64 xs[k].r.box.b) := ac 6 _ (by omega) (by rw [ag 6 (by omega)]; rfl)
          have a7 : W2.cell? ⟨ab, ao + k * 10 + 7, none⟩ = some (.float .f64 xs[k].r.box.c) := ac 7 _ (by omega) (by rw [ag 7 (by omega)]; rfl)
          have a8 : W2.cell? ⟨ab, ao + k * 10 + 8, none⟩ = some (.float .f64 xs[k].r.box.d) := ac 8 _ (by omega) (by rw [ag 8 (by omega)]; rfl)
          have a9 : W2.cell? ⟨ab, ao + k * 10 + 9, none⟩ = some (.int .i64 xs[k].r.count) := ac 9 _ (by omega) (by rw [ag 9 (by omega)]; rfl)
          subst aha
          have hal2 : ab < W2.heap.size := hab
          have hmL : m ≤ cL := hp.sl.le
          have hmcL : cL ≤ maxLen := hp.sl.max
          clear ac ag eg hc e0 e1 e2 e3 e4 e5 e6 hab hkq2
          generalize qs[k] = q at *
          generalize xs[k] = x at *
          have b0 := hBq.cell (i := 0) rfl
          have b1 := hBq.cell (i := 1) rfl
          have b2 := hBq.cell (i := 2) rfl
          have b3 := hBq.cell (i := 3) rfl
          have b4 := hBq.cell (i := 4) rfl
          have b5 := hBq.cell (i := 5) rfl
          have b6 := hBq.cell (i := 6) rfl
          have hbl := hBq.lt
          have hkq := Lib.hid hkq
          have hkx := Lib.hid hkx
          simp only [Ask.val, toldV] at hTold
          refine Stab.keep_region (fun _ _ _ => True) (fun _ => false) (fun k => k == 6) Stab.pre_none (by kernel_rfl) (by kernel_rfl) fun hcx => ?_
          (with_reducible refine Stab.quiet ?_ ?_ ?_ ?_); rfl; rfl; rfl; intro K hK; go_big_quiet_op; refine hK _ ?_; clear hK K
          (with_reducible refine Stab.quiet ?_ ?_ ?_ ?_); rfl; rfl; rfl; intro K hK; go_big_quiet_op; refine hK _ ?_; clear hK K
          (with_reducible refine Stab.quiet ?_ ?_ ?_ ?_); rfl; rfl; rfl; intro K hK; go_big_quiet_op; refine hK _ ?_; clear hK K
          (with_reducible refine Stab.quiet ?_ ?_ ?_ ?_); rfl; rfl; rfl; intro K hK; go_big_quiet_op; refine hK _ ?_; clear hK K
          (with_reducible refine Stab.quiet ?_ ?_ ?_ ?_); rfl; rfl; rfl; intro K hK; go_big_quiet_op; refine hK _ ?_; clear hK K
          (with_reducible refine Stab.quiet ?_ ?_ ?_ ?_); rfl; rfl; rfl; intro K hK; go_big_quiet_op; refine hK _ ?_; clear hK K
          (with_reducible refine Stab.one ?_ ?_ ?_ ?_); rfl; rfl; rfl
          apply Exists.intro
          refine ⟨fun w1 hw1 => ?_, fun K hK => ?_⟩
          · go_simp
            go_at_call 10; exact hTold _ (by with_reducible assumption)
          go_simp
          refine hK _ ?_
          clear hK K
          (with_reducible refine Stab.quiet ?_ ?_ ?_ ?_); rfl; rfl; rfl; intro K hK; go_big_quiet_op; refine hK _ ?_; clear hK K
          refine Stab.nil fun w' hw' _ => ?_
          have hk8 := Stab.Keeps.trans hk7 hw'
          clear hcx hTold a0 a1 a2 a3 a4 a5 a6 a7 a8 a9 b0 b1 b2 b3 b4 b5 b6 hBq hbl hal2
          go_wp2_with fail
          go_roundw
          case rel => exact ⟨k + 1, by omega, by go_num, hk8⟩
          case measure => simp [intOf]; omega
        · have hkF := Stab.Keeps.trans hkf hk6
          go_wp2_with fail
          go_ret
          exact ⟨rfl, hkF⟩
end Go.Proofs.YtokofimfinhnbaaDoor
