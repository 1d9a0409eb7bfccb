/-
  FnTreeWithin: the walk of the law. No condition.
-/
import Derived.Test.YtokofimfinhnbaaDoorTr23
set_option linter.unusedVariables false
set_option linter.unusedSimpArgs false
namespace Go.Proofs.YtokofimfinhnbaaDoor
open Go.RowKit Go.Fl Go.Sl Go.Ch Go.Fr Go.Mb
def LawPost (w : World) (e : Ending) (w' : World) : Prop := e = .returned (.bool true) ∧ Stab.Keeps w w'
/-- what package-level Stop holds -/
def StopAt (w : World) : Prop := ∃ t a, w.cell? ⟨0, 0, none⟩ = some (.iface t (.pointer (some a)))
theorem StopAt.keep {w w' : World} (hk : Stab.Keeps w w') (h : StopAt w) : StopAt w' := by
  obtain ⟨t, a, h⟩ := h
  exact ⟨t, a, by rw [(Stab.own_cell hk 0 (Stab.cell_lt h)).1]; exact h⟩
theorem ok_cells {w : World} {x : Ans} (h : x.ok w) (h0 : 0 < x.ids.length) : ∃ g, x.a = some ⟨g, 0, none⟩ ∧ g < w.heap.size ∧ ∀ i (hi : i < x.ids.length), w.cell? ⟨g, i, none⟩ = some (.int .i64 x.ids[i]) := by
  obtain ⟨hl, h2⟩ := h
  rcases h2 with ⟨hv, hn⟩ | ⟨g, cap, cur, hv, hg, hc, hn, hm, hs, ht⟩
  · omega
  · injection hv with h1 _ _
    refine ⟨g, h1, lt_of_block hc, fun i hi => ?_⟩
    simp only [World.cell?, hc, Option.isSome_none, Bool.false_eq_true, if_false]
    have : (cur.toList.take (x.ids.length * 1))[i]? = (encI x.ids)[i]? := by rw [ht]
    rw [List.getElem?_take, if_pos (by omega)] at this
    rw [← Array.getElem?_toList, this]
    simp [encI, hi]
theorem ok_len {w : World} {x : Ans} (h : x.ok w) : x.ids.length ≤ x.cap ∧ x.cap ≤ maxLen := by
  obtain ⟨hl, h2⟩ := h
  rcases h2 with ⟨hv, hn⟩ | ⟨g, cap, cur, hv, hg, hc, hn, hm, hs, ht⟩
  · injection hv with _ _ h3
    rw [hn, h3]; exact ⟨Nat.le_refl _, Nat.zero_le _⟩
  · injection hv with _ _ h3
    rw [h3]; exact ⟨hn, hm⟩
theorem _root_.Go.Ch.Blk.sz {w : World} {b n k : Nat} {e : TypeId} {vs : List Value} (h : Blk w b e vs) (hl : vs.length = n * k) (hn : n ≤ maxLen) : Sz w (some ⟨b, 0, none⟩) n n k vs :=
  ⟨hl, Nat.le_refl _, hn, fun _ => ⟨hl, Nat.le_refl _, hn, (fun h => by cases h), fun x hx => by
    cases hx
    exact ⟨b, 0, rfl, h.lt, fun j u hu => by rw [Nat.zero_add]; exact h.cell hu⟩⟩⟩
theorem list3' {α : Type} {l : List α} (h : l.length = 3) : ∃ a b c, l = [a, b, c] := by match l, h with | [a, b, c], _ => exact ⟨a, b, c, rfl⟩
/-- what the three questions are answered with -/
def WRs (x y z : B4) (tr : Option RT) (i : Nat) (ids : List Int) (r : Rest) : Prop := ∀ b, [x, y, z][i]? = some b → ids = rsO b tr ∧ r = Rest.zero
theorem items_len {tr : Option RT} {L : List It} (hp : (itemsO tr).Perm L) (b : B4) : (rsO b tr).length ≤ L.length := by
  rw [← hp.length_eq]
  cases tr with
  | none => simp [rsO]
  | some t => exact rs_le b t
theorem rsO_eq {b : B4} {q : Q4} (hb : ZB b q) {tr : Option RT} (hf : ∀ t, tr = some t → t.full) (hg : ∀ i ∈ itemsO tr, boxB i.box = true) : rsO b tr = ((itemsO tr).filter fun i => ovl i.box b).map It.id := by
  cases tr with
  | none => rfl
  | some t => exact rs_eq hb t (hf t rfl) hg
def AroZ (L : List It) (z : B4) : Prop := ∃ q, ZB z q ∧ q.ok ∧ ∀ t ∈ L, ∃ p, ZB t.box p ∧ p.ok ∧ p.within q
def asks3 (x y z : B4) : List Ask := [⟨0, x, 0, 0⟩, ⟨0, y, 0, 0⟩, ⟨0, z, 0, 0⟩]
def Played (L : List It) (x y z : B4) (aL : Option Addr) (cL : Nat) (w : World) : Prop := ∃ (tr : Option RT) (xs : List Ans), (itemsO tr).Perm L ∧ (∀ t, tr = some t → t.full) ∧ xs.length = 3 ∧ (∀ i (h : i < xs.length), WRs x y z tr i xs[i].ids xs[i].r) ∧ (∀ u ∈ xs, u.ok w) ∧ Sl w aL 3 cL 10 (xs.flatMap Ans.cells)
theorem within_plain {L : List It} {n : Nat} (hl : L.length = n) (hg : GoodL L) {x y z : B4} {tr : Option RT} (hp : (itemsO tr).Perm L) (hf : ∀ t, tr = some t → t.full) (hx : boxB x = true) (hy : boxB y = true) (hz : AroZ L z)
    (h1 : lt x.a y.a = false) (h2 : lt x.b y.b = false) (h3 : gt x.c y.c = false) (h4 : gt x.d y.d = false) :
    (rsO z tr).length = n ∧ met (rsO x tr) (rsO y tr) 0 = (rsO x tr).length ∧ met (rsO y tr) (rsO z tr) 0 = (rsO y tr).length := by
  obtain ⟨qx, zx, _⟩ := boxB_spec hx
  obtain ⟨qy, zy, _⟩ := boxB_spec hy
  obtain ⟨qz, zz, _, hin⟩ := hz
  have hgm : ∀ i ∈ itemsO tr, boxB i.box = true := fun i hi => hg.2.1 i (hp.mem_iff.1 hi)
  have hnd : ((itemsO tr).map It.id).Nodup := ((hp.map It.id).nodup_iff).2 hg.2.2
  rw [rsO_eq zx hf hgm, rsO_eq zy hf hgm, rsO_eq zz hf hgm]
  rw [zx.a.lt zy.a] at h1
  rw [zx.b.lt zy.b] at h2
  rw [zx.c.gt zy.c] at h3
  rw [zx.d.gt zy.d] at h4
  simp only [decide_eq_false_iff_not] at h1 h2 h3 h4
  have hall : ∀ i ∈ itemsO tr, ovl i.box z = true := fun i hi => by
    obtain ⟨p, zp, pk, pw⟩ := hin i (hp.mem_iff.1 hi)
    rw [ovl_Z zp zz]
    have := pw.a; have := pw.b; have := pw.c; have := pw.d; have := pk.ac; have := pk.bd
    simp only [meetB, Bool.and_eq_true, decide_eq_true_eq]
    omega
  refine ⟨?_, met_filter (fun i hi h => ?_) hnd, met_filter (fun i hi _ => hall i hi) hnd⟩
  · rw [List.length_map, List.filter_eq_self.2 hall, hp.length_eq, hl]
  · obtain ⟨p, zp, _⟩ := boxB_spec (hgm i hi)
    rw [ovl_Z zp zx] at h
    rw [ovl_Z zp zy]
    exact meet_mono h (p' := p) ⟨Int.le_refl _, Int.le_refl _, Int.le_refl _, Int.le_refl _⟩ ⟨by omega, by omega, by omega, by omega⟩
def KRel (kv : Value) : Prop := kv = .int .i64 1 ∨ kv = .int .i64 2 ∨ kv = .int .i64 3
/-- what the region's calls have made, while its order is open -/
def WitF (L : List It) (x y : B4) (k : Nat) (v : Value) (w : World) : Prop :=
  (k = 6 → ∃ z, v = B4.val z ∧ AroZ L z) ∧
  (k = 8 → ∃ z g, AroZ L z ∧ v = .slice (some ⟨g, 0, none⟩) 3 3 ∧ Blk w g 30 ((asks3 x y z).flatMap Ask.cells)) ∧
  (k = 9 → ∃ z aL cL, AroZ L z ∧ v = .tuple #[.slice aL 3 cL, .bool true] ∧ Played L x y z aL cL w)
theorem witPre (L : List It) (x y : B4) : Stab.Pre Stab.Keeps (WitF L x y) :=
  ⟨Stab.Keeps.refl, Stab.Keeps.trans, fun k v w w' hk h => ⟨h.1, fun e => by
      obtain ⟨z, g, h1, h2, h3⟩ := h.2.1 e
      exact ⟨z, g, h1, h2, h3.keep hk⟩, fun e => by
      obtain ⟨z, aL, cL, h1, h2, tr, xs, g1, g2, g3, g4, g5, g6⟩ := h.2.2 e
      exact ⟨z, aL, cL, h1, h2, tr, xs, g1, g2, g3, g4, fun u hu => (g5 u hu).keep hk, g6.keep hk⟩⟩⟩
/-- whether the law goes on to ask -/
def asksB (L : List It) (x y : B4) : Bool := boxB x && boxB y && !(L.length == 0) && !lt x.a y.a && !lt x.b y.b && !gt x.c y.c && !gt x.d y.d
set_option maxRecDepth 100000 in
set_option maxHeartbeats 4000000 in
theorem within_ (a : Option Addr) (n cap : Nat) (L : List It) (x y : B4) (w : World) (hl : L.length = n) (h : Sz w a n cap 5 (enc L)) (hid : ∀ t ∈ L, (Lit.int .i64 t.id).wf = true) (hsa : StopAt w) :
    Calls Tryd.prog 5 #[.slice a n cap, x.val, y.val] w (LawPost w) := by
  have hle := h.le
  have hmx := h.max
  unfold maxLen at hmx
  simp only [B4.val]
  by_cases c1 : (2147483647 : Int) < n
  · go_enter Tryd.func5, Tryd.ntmps5
    go_wp2_with fail
    go_ret
    refine ⟨rfl, ?_⟩
    repeat (first | (with_reducible exact Stab.Keeps.refl _) | (with_reducible assumption) | (with_reducible refine Stab.Keeps.alloc ?_ _) | (with_reducible refine Stab.Keeps.drew ?_) | (with_reducible refine Stab.Keeps.drewN ?_ _) | ((with_reducible refine Stab.Keeps.setCell ?_ ?_ _); focus (first | (simp; done) | (simp; omega))) | (with_reducible refine Stab.Keeps.trans ?_ (by with_reducible assumption)))
  have hki := fun w' (hk : Stab.Keeps w w') => kItems_ a n cap L w' hl (h.keep hk) hid
  have hkx := fun w => kBox_ x w
  have hky := fun w => kBox_ y w
  simp only [B4.val] at hkx hky
  have hne : ((n : Int) == 0) = (L.length == 0) := by rw [Bool.eq_iff_iff, beq_iff_eq, beq_iff_eq]; omega
  have l1 : (FloatKind.f64.format.order x.a y.a == some .lt) = lt x.a y.a := rfl
  have l2 : (FloatKind.f64.format.order x.b y.b == some .lt) = lt x.b y.b := rfl
  have l3 : (FloatKind.f64.format.order x.c y.c == some .gt) = gt x.c y.c := rfl
  have l4 : (FloatKind.f64.format.order x.d y.d == some .gt) = gt x.d y.d := rfl
  have HL := Lib.hid hl
  clear hl
  go_enter Tryd.func5, Tryd.ntmps5
  go_wp2_with fail
  refine (hki _ (by repeat (first | (with_reducible exact Stab.Keeps.refl _) | (with_reducible assumption) | (with_reducible refine Stab.Keeps.alloc ?_ _) | (with_reducible refine Stab.Keeps.drew ?_) | (with_reducible refine Stab.Keeps.drewN ?_ _) | ((with_reducible refine Stab.Keeps.setCell ?_ ?_ _); focus (first | (simp; done) | (simp; omega))) | (with_reducible refine Stab.Keeps.trans ?_ (by with_reducible assumption))))).mono ?_
  clear hki
  rintro e w2 ⟨t, rfl, hgood, hk2⟩
  cases t with
  | false =>
    go_wp2_with fail
    go_ret
    refine ⟨rfl, ?_⟩
    repeat (first | (with_reducible exact Stab.Keeps.refl _) | (with_reducible assumption) | (with_reducible refine Stab.Keeps.alloc ?_ _) | (with_reducible refine Stab.Keeps.drew ?_) | (with_reducible refine Stab.Keeps.drewN ?_ _) | ((with_reducible refine Stab.Keeps.setCell ?_ ?_ _); focus (first | (simp; done) | (simp; omega))) | (with_reducible refine Stab.Keeps.trans ?_ (by with_reducible assumption)))
  | true =>
    replace hgood := hgood rfl
    obtain ⟨mc_, mf_⟩ := Stab.own_cell hk2 (w.heap.size) (by first | (simp; done) | (simp; omega) | omega | (apply Stab.cell_lt (a := ⟨w.heap.size, 0, none⟩); assumption))
    have m0 : w2.cell? ⟨w.heap.size, 0, none⟩ = some (.float .f64 x.a) := by rw [mc_]; first | assumption | (go_simp; done)
    have m1 : w2.cell? ⟨w.heap.size, 1, none⟩ = some (.float .f64 x.b) := by rw [mc_]; first | assumption | (go_simp; done)
    have m2 : w2.cell? ⟨w.heap.size, 2, none⟩ = some (.float .f64 x.c) := by rw [mc_]; first | assumption | (go_simp; done)
    have m3 : w2.cell? ⟨w.heap.size, 3, none⟩ = some (.float .f64 x.d) := by rw [mc_]; first | assumption | (go_simp; done)
    have mf : ∀ j, w2.frozen? ⟨w.heap.size, j, none⟩ = false := fun j => by rw [mf_]; first | (go_simp; done) | (apply_assumption)
    clear mc_ mf_
    obtain ⟨nc_, nf_⟩ := Stab.own_cell hk2 (w.heap.size + 1) (by first | (simp; done) | (simp; omega) | omega | (apply Stab.cell_lt (a := ⟨w.heap.size + 1, 0, none⟩); assumption))
    have n0 : w2.cell? ⟨w.heap.size + 1, 0, none⟩ = some (.float .f64 y.a) := by rw [nc_]; first | assumption | (go_simp; done)
    have n1 : w2.cell? ⟨w.heap.size + 1, 1, none⟩ = some (.float .f64 y.b) := by rw [nc_]; first | assumption | (go_simp; done)
    have n2 : w2.cell? ⟨w.heap.size + 1, 2, none⟩ = some (.float .f64 y.c) := by rw [nc_]; first | assumption | (go_simp; done)
    have n3 : w2.cell? ⟨w.heap.size + 1, 3, none⟩ = some (.float .f64 y.d) := by rw [nc_]; first | assumption | (go_simp; done)
    have nf : ∀ j, w2.frozen? ⟨w.heap.size + 1, j, none⟩ = false := fun j => by rw [nf_]; first | (go_simp; done) | (apply_assumption)
    clear nc_ nf_
    have hkk2 : Stab.Keeps w w2 := by repeat (first | (with_reducible exact Stab.Keeps.refl _) | (with_reducible assumption) | (with_reducible refine Stab.Keeps.alloc ?_ _) | (with_reducible refine Stab.Keeps.drew ?_) | (with_reducible refine Stab.Keeps.drewN ?_ _) | ((with_reducible refine Stab.Keeps.setCell ?_ ?_ _); focus (first | (simp; done) | (simp; omega))) | (with_reducible refine Stab.Keeps.trans ?_ (by with_reducible assumption)))
    clear hk2
    go_wp2_with fail
    refine (hkx _).mono ?_
    clear hkx
    rintro e w3 ⟨rfl, hk3⟩
    obtain ⟨pc_, pf_⟩ := Stab.own_cell hk3 (w.heap.size) (by first | (simp; done) | (simp; omega) | omega | (apply Stab.cell_lt (a := ⟨w.heap.size, 0, none⟩); assumption))
    have p0 : w3.cell? ⟨w.heap.size, 0, none⟩ = some (.float .f64 x.a) := by rw [pc_]; first | assumption | (go_simp; done)
    have p1 : w3.cell? ⟨w.heap.size, 1, none⟩ = some (.float .f64 x.b) := by rw [pc_]; first | assumption | (go_simp; done)
    have p2 : w3.cell? ⟨w.heap.size, 2, none⟩ = some (.float .f64 x.c) := by rw [pc_]; first | assumption | (go_simp; done)
    have p3 : w3.cell? ⟨w.heap.size, 3, none⟩ = some (.float .f64 x.d) := by rw [pc_]; first | assumption | (go_simp; done)
    have pf : ∀ j, w3.frozen? ⟨w.heap.size, j, none⟩ = false := fun j => by rw [pf_]; first | (go_simp; done) | (apply_assumption)
    clear pc_ pf_
    obtain ⟨qc_, qf_⟩ := Stab.own_cell hk3 (w.heap.size + 1) (by first | (simp; done) | (simp; omega) | omega | (apply Stab.cell_lt (a := ⟨w.heap.size + 1, 0, none⟩); assumption))
    have q0 : w3.cell? ⟨w.heap.size + 1, 0, none⟩ = some (.float .f64 y.a) := by rw [qc_]; first | assumption | (go_simp; done)
    have q1 : w3.cell? ⟨w.heap.size + 1, 1, none⟩ = some (.float .f64 y.b) := by rw [qc_]; first | assumption | (go_simp; done)
    have q2 : w3.cell? ⟨w.heap.size + 1, 2, none⟩ = some (.float .f64 y.c) := by rw [qc_]; first | assumption | (go_simp; done)
    have q3 : w3.cell? ⟨w.heap.size + 1, 3, none⟩ = some (.float .f64 y.d) := by rw [qc_]; first | assumption | (go_simp; done)
    have qf : ∀ j, w3.frozen? ⟨w.heap.size + 1, j, none⟩ = false := fun j => by rw [qf_]; first | (go_simp; done) | (apply_assumption)
    clear qc_ qf_
    clear m0 m1 m2 m3 mf n0 n1 n2 n3 nf
    cases hbx : boxB x with
    | false =>
      go_wp2_with fail
      go_ret
      refine ⟨rfl, ?_⟩
      repeat (first | (with_reducible exact Stab.Keeps.refl _) | (with_reducible assumption) | (with_reducible refine Stab.Keeps.alloc ?_ _) | (with_reducible refine Stab.Keeps.drew ?_) | (with_reducible refine Stab.Keeps.drewN ?_ _) | ((with_reducible refine Stab.Keeps.setCell ?_ ?_ _); focus (first | (simp; done) | (simp; omega))) | (with_reducible refine Stab.Keeps.trans ?_ (by with_reducible assumption)))
    | true =>
      go_wp2_with fail
      refine (hky _).mono ?_
      clear hky
      rintro e w4 ⟨rfl, hk4⟩
      obtain ⟨mc_, mf_⟩ := Stab.own_cell hk4 (w.heap.size) (by first | (simp; done) | (simp; omega) | omega | (apply Stab.cell_lt (a := ⟨w.heap.size, 0, none⟩); assumption))
      have m0 : w4.cell? ⟨w.heap.size, 0, none⟩ = some (.float .f64 x.a) := by rw [mc_]; first | assumption | (go_simp; done)
      have m1 : w4.cell? ⟨w.heap.size, 1, none⟩ = some (.float .f64 x.b) := by rw [mc_]; first | assumption | (go_simp; done)
      have m2 : w4.cell? ⟨w.heap.size, 2, none⟩ = some (.float .f64 x.c) := by rw [mc_]; first | assumption | (go_simp; done)
      have m3 : w4.cell? ⟨w.heap.size, 3, none⟩ = some (.float .f64 x.d) := by rw [mc_]; first | assumption | (go_simp; done)
      have mf : ∀ j, w4.frozen? ⟨w.heap.size, j, none⟩ = false := fun j => by rw [mf_]; first | (go_simp; done) | (apply_assumption)
      clear mc_ mf_
      obtain ⟨nc_, nf_⟩ := Stab.own_cell hk4 (w.heap.size + 1) (by first | (simp; done) | (simp; omega) | omega | (apply Stab.cell_lt (a := ⟨w.heap.size + 1, 0, none⟩); assumption))
      have n0 : w4.cell? ⟨w.heap.size + 1, 0, none⟩ = some (.float .f64 y.a) := by rw [nc_]; first | assumption | (go_simp; done)
      have n1 : w4.cell? ⟨w.heap.size + 1, 1, none⟩ = some (.float .f64 y.b) := by rw [nc_]; first | assumption | (go_simp; done)
      have n2 : w4.cell? ⟨w.heap.size + 1, 2, none⟩ = some (.float .f64 y.c) := by rw [nc_]; first | assumption | (go_simp; done)
      have n3 : w4.cell? ⟨w.heap.size + 1, 3, none⟩ = some (.float .f64 y.d) := by rw [nc_]; first | assumption | (go_simp; done)
      have nf : ∀ j, w4.frozen? ⟨w.heap.size + 1, j, none⟩ = false := fun j => by rw [nf_]; first | (go_simp; done) | (apply_assumption)
      clear nc_ nf_
      clear p0 p1 p2 p3 pf q0 q1 q2 q3 qf
      have hk : Stab.Keeps w w4 := by repeat (first | (with_reducible exact Stab.Keeps.refl _) | (with_reducible assumption) | (with_reducible refine Stab.Keeps.alloc ?_ _) | (with_reducible refine Stab.Keeps.drew ?_) | (with_reducible refine Stab.Keeps.drewN ?_ _) | ((with_reducible refine Stab.Keeps.setCell ?_ ?_ _); focus (first | (simp; done) | (simp; omega))) | (with_reducible refine Stab.Keeps.trans ?_ (by with_reducible assumption)))
      clear hk4 hk3 hkk2
      cases hby : boxB y with
      | false =>
        go_wp2_with fail
        go_ret
        refine ⟨rfl, ?_⟩
        repeat (first | (with_reducible exact Stab.Keeps.refl _) | (with_reducible assumption) | (with_reducible refine Stab.Keeps.alloc ?_ _) | (with_reducible refine Stab.Keeps.drew ?_) | (with_reducible refine Stab.Keeps.drewN ?_ _) | ((with_reducible refine Stab.Keeps.setCell ?_ ?_ _); focus (first | (simp; done) | (simp; omega))) | (with_reducible refine Stab.Keeps.trans ?_ (by with_reducible assumption)))
      | true =>
        cases hn0 : (L.length == 0) with
        | true =>
          rw [hn0] at hne
          go_wp2_with fail
          go_ret
          refine ⟨rfl, ?_⟩
          repeat (first | (with_reducible exact Stab.Keeps.refl _) | (with_reducible assumption) | (with_reducible refine Stab.Keeps.alloc ?_ _) | (with_reducible refine Stab.Keeps.drew ?_) | (with_reducible refine Stab.Keeps.drewN ?_ _) | ((with_reducible refine Stab.Keeps.setCell ?_ ?_ _); focus (first | (simp; done) | (simp; omega))) | (with_reducible refine Stab.Keeps.trans ?_ (by with_reducible assumption)))
        | false =>
          rw [hn0] at hne
          cases h1 : lt x.a y.a with
          | true =>
            rw [h1] at l1
            go_wp2_with fail
            go_ret
            refine ⟨rfl, ?_⟩
            repeat (first | (with_reducible exact Stab.Keeps.refl _) | (with_reducible assumption) | (with_reducible refine Stab.Keeps.alloc ?_ _) | (with_reducible refine Stab.Keeps.drew ?_) | (with_reducible refine Stab.Keeps.drewN ?_ _) | ((with_reducible refine Stab.Keeps.setCell ?_ ?_ _); focus (first | (simp; done) | (simp; omega))) | (with_reducible refine Stab.Keeps.trans ?_ (by with_reducible assumption)))
          | false =>
            rw [h1] at l1
            cases h2 : lt x.b y.b with
            | true =>
              rw [h2] at l2
              go_wp2_with fail
              go_ret
              refine ⟨rfl, ?_⟩
              repeat (first | (with_reducible exact Stab.Keeps.refl _) | (with_reducible assumption) | (with_reducible refine Stab.Keeps.alloc ?_ _) | (with_reducible refine Stab.Keeps.drew ?_) | (with_reducible refine Stab.Keeps.drewN ?_ _) | ((with_reducible refine Stab.Keeps.setCell ?_ ?_ _); focus (first | (simp; done) | (simp; omega))) | (with_reducible refine Stab.Keeps.trans ?_ (by with_reducible assumption)))
            | false =>
              rw [h2] at l2
              cases h3 : gt x.c y.c with
              | true =>
                rw [h3] at l3
                go_wp2_with fail
                go_ret
                refine ⟨rfl, ?_⟩
                repeat (first | (with_reducible exact Stab.Keeps.refl _) | (with_reducible assumption) | (with_reducible refine Stab.Keeps.alloc ?_ _) | (with_reducible refine Stab.Keeps.drew ?_) | (with_reducible refine Stab.Keeps.drewN ?_ _) | ((with_reducible refine Stab.Keeps.setCell ?_ ?_ _); focus (first | (simp; done) | (simp; omega))) | (with_reducible refine Stab.Keeps.trans ?_ (by with_reducible assumption)))
              | false =>
                rw [h3] at l3
                cases h4 : gt x.d y.d with
                | true =>
                  rw [h4] at l4
                  go_wp2_with fail
                  go_ret
                  refine ⟨rfl, ?_⟩
                  repeat (first | (with_reducible exact Stab.Keeps.refl _) | (with_reducible assumption) | (with_reducible refine Stab.Keeps.alloc ?_ _) | (with_reducible refine Stab.Keeps.drew ?_) | (with_reducible refine Stab.Keeps.drewN ?_ _) | ((with_reducible refine Stab.Keeps.setCell ?_ ?_ _); focus (first | (simp; done) | (simp; omega))) | (with_reducible refine Stab.Keeps.trans ?_ (by with_reducible assumption)))
                | false =>
                  rw [h4] at l4
                  go_wp2_with fail
                  have hn0' : 1 ≤ n := by have := HL.out; simp at hn0; cases hh : L with | nil => rw [hh] at hn0; simp at hn0 | cons u v => rw [hh] at this; simp at this; omega
                  have hn400 : n ≤ 400 := by have := hgood.1; have := HL.out; omega
                  have hAr := fun w' (hk' : Stab.Keeps w4 w') => around_ a n cap L w' HL.out hn0' (by omega) (h.keep (Stab.Keeps.trans hk hk')) hgood.2.1
                  have hl4 := Stab.cell_lt m0
                  have hl5 := Stab.cell_lt n0
                  simp only at hl4 hl5
                  refine Stab.keep_region (WitF L x y) (fun k => k == 6 || k == 8 || k == 9) (fun k => false) (witPre L x y) (by kernel_rfl) (by kernel_rfl) fun hcx => ?_
                  repeat (first
                    | (refine Stab.quiet rfl rfl rfl (fun K hK => ?_); go_big_quiet_op; refine hK _ ?_; clear hK K)
                    | (refine Stab.one rfl rfl rfl ?_
                       apply Exists.intro
                       refine ⟨fun w1 hw1 => ?_, fun K hK => ?_⟩
                       · go_simp
                         first | fail
                       go_simp
                       refine hK _ ?_
                       clear hK K)
                    | (refine Stab.skip rfl (fun K hK => ?_); go_simp; refine hK _ ?_; clear hK K))
                  refine Stab.made rfl rfl (fun w1 hk1 => ?_) (fun v hv K hK => ?_)
                  · go_simp
                    refine (hAr w1 hk1.1).mono ?_
                    rintro e w5 ⟨z, q, rfl, hz, hq, hin, hk5⟩
                    exact ⟨_, rfl, hk5, fun _ => ⟨z, rfl, q, hz, hq, hin⟩, (fun h => by cases h), fun h => by cases h⟩
                  obtain ⟨wv, _, _, hv⟩ := hv
                  obtain ⟨z, rfl, hzA⟩ := hv.1 rfl
                  clear hv hAr
                  simp only [B4.val]
                  go_simp
                  refine hK _ ?_
                  clear hK
                  repeat (first
                    | (refine Stab.quiet rfl rfl rfl (fun K hK => ?_); go_big_quiet_op; refine hK _ ?_; clear hK K)
                    | (refine Stab.one rfl rfl rfl ?_
                       apply Exists.intro
                       refine ⟨fun w1 hw1 => ?_, fun K hK => ?_⟩
                       · go_simp
                         first | fail
                       go_simp
                       refine hK _ ?_
                       clear hK K)
                    | (refine Stab.skip rfl (fun K hK => ?_); go_simp; refine hK _ ?_; clear hK K))
                  refine Stab.made rfl rfl (fun w1 hk1 => ?_) (fun v hv K hK => ?_)
                  · go_simp
                    refine ⟨by repeat (first | (with_reducible exact Stab.Keeps.refl _) | (with_reducible assumption) | (with_reducible refine Stab.Keeps.alloc ?_ _) | (with_reducible refine Stab.Keeps.drew ?_) | (with_reducible refine Stab.Keeps.drewN ?_ _) | ((with_reducible refine Stab.Keeps.setCell ?_ ?_ _); focus (first | (simp; done) | (simp; omega))) | (with_reducible refine Stab.Keeps.trans ?_ (by with_reducible assumption))), (fun h => by cases h), fun _ => ⟨z, w1.heap.size, hzA, rfl, Blk.new w1 ((asks3 x y z).flatMap Ask.cells) _ _ rfl⟩, fun h => by cases h⟩
                  obtain ⟨wv8, _, _, hv8⟩ := hv
                  obtain ⟨z8, g8, _, rfl, _⟩ := hv8.2.1 rfl
                  clear hv8
                  go_simp
                  refine hK _ ?_
                  clear hK
                  refine Stab.made rfl rfl (fun w1 hk1 => ?_) (fun v hv K hK => ?_)
                  · obtain ⟨z9, g9, hz9, he9, hB9⟩ := (Stab.setF_new (hk1.2 8 (by kernel_rfl))).2.1 rfl
                    cases he9
                    have hkq : Stab.Keeps w w1 := Stab.Keeps.trans hk hk1.1
                    go_simp
                    refine (play_ a n cap L (some ⟨g8, 0, none⟩) 3 3 (asks3 x y z9) _ StopAt (fun _ _ hk hs => hs.keep hk) (hsa.keep hkq) HL.out (by omega) (h.keep hkq) rfl (by omega) (hB9.sz rfl (by unfold maxLen; omega)) (WRs x y z9) ?_).mono ?_
                    · intro tr hperm i hi p lo w7 hs7 hT7
                      have hlen := fun b => items_len hperm b
                      have : i = 0 ∨ i = 1 ∨ i = 2 := by simp [asks3] at hi; omega
                      rcases this with rfl | rfl | rfl
                      · refine (told0_ lo p n x 0 0 tr w7 hT7 hs7 (Int.le_refl _) (by have := hlen x; have := hgood.1; omega)).mono ?_
                        exact fun e w8 h8 => ⟨_, _, fun b hb => by simp at hb; subst hb; exact ⟨rfl, rfl⟩, h8⟩
                      · refine (told0_ lo p n y 0 0 tr w7 hT7 hs7 (Int.le_refl _) (by have := hlen y; have := hgood.1; omega)).mono ?_
                        exact fun e w8 h8 => ⟨_, _, fun b hb => by simp at hb; subst hb; exact ⟨rfl, rfl⟩, h8⟩
                      · refine (told0_ lo p n z9 0 0 tr w7 hT7 hs7 (Int.le_refl _) (by have := hlen z9; have := hgood.1; omega)).mono ?_
                        exact fun e w8 h8 => ⟨_, _, fun b hb => by simp at hb; subst hb; exact ⟨rfl, rfl⟩, h8⟩
                    rintro e w5 ⟨tr, hperm, hfull, aL, cL, xs, rfl, hxl, hRs, hok, hSl, hk5⟩
                    exact ⟨_, rfl, hk5, (fun h => by cases h), (fun h => by cases h), fun _ => ⟨z9, aL, cL, hz9, rfl, tr, xs, hperm, hfull, hxl, hRs, hok, hSl⟩⟩
                  obtain ⟨wv9, _, _, hv9⟩ := hv
                  obtain ⟨z9, aL, cL, _, rfl, _⟩ := hv9.2.2 rfl
                  clear hv9
                  go_simp
                  refine hK _ ?_
                  clear hK
                  repeat (first
                    | (refine Stab.quiet rfl rfl rfl (fun K hK => ?_); go_big_quiet_op; refine hK _ ?_; clear hK K)
                    | (refine Stab.one rfl rfl rfl ?_
                       apply Exists.intro
                       refine ⟨fun w1 hw1 => ?_, fun K hK => ?_⟩
                       · go_simp
                         first | fail
                       go_simp
                       refine hK _ ?_
                       clear hK K)
                    | (refine Stab.skip rfl (fun K hK => ?_); go_simp; refine hK _ ?_; clear hK K))
                  refine Stab.nil fun w' hw' hfs => ?_
                  obtain ⟨z5, aL5, cL5, hzA5, he5, tr, xs, hperm, hfull, hxl, hRs, hok, hSl⟩ := (hfs 9 |> fun h => by first | exact (Stab.setF_new h).2.2 rfl | exact (Stab.setF_new (Stab.setF_old h)).2.2 rfl)
                  cases he5
                  clear hcx hfs
                  have hkF := Lib.hid (Stab.Keeps.trans hk hw')
                  clear m0 m1 m2 m3 mf n0 n1 n2 n3 nf
                  obtain ⟨x0, x1, x2, rfl⟩ := list3' hxl
                  have hr0 := (hRs 0 (by simp) x rfl).1
                  have hr1 := (hRs 1 (by simp) y rfl).1
                  have hr2 := (hRs 2 (by simp) z5 rfl).1
                  simp only [List.getElem_cons_zero, List.getElem_cons_succ] at hr0 hr1 hr2
                  obtain ⟨hz2, hm1, hm2⟩ := within_plain HL.out hgood hperm hfull hbx hby hzA5 h1 h2 h3 h4
                  rw [← hr2] at hz2 hm2
                  rw [← hr1] at hm1 hm2
                  rw [← hr0] at hm1
                  have HM1 := Lib.hid hm1
                  have HM2 := Lib.hid hm2
                  have hkx0 := hok x0 (by simp)
                  have hkx1 := hok x1 (by simp)
                  have hkx2 := hok x2 (by simp)
                  have ox0 := ok_len hkx0
                  have ox1 := ok_len hkx1
                  have ox2 := ok_len hkx2
                  unfold maxLen at ox0 ox1 ox2
                  have hz400 : x2.ids.length ≤ 400 := by omega
                  obtain ⟨bl, off, hbl, hbll, hlc⟩ := hSl.at_ _ (show aL = some (aL.get (by
                    cases haL : aL with
                    | none => have := hSl.nil haL; have := hSl.le; omega
                    | some v => rfl)) by simp)
                  have i0 := hlc 0 _ rfl
                  have i1 := hlc 10 _ rfl
                  have i2 := hlc 20 _ rfl
                  simp only [Nat.add_zero] at i0
                  have haL : aL = some ⟨bl, off, none⟩ := by rw [← hbl]; simp
                  subst haL
                  have hcL := hSl.le
                  have hcM := hSl.max
                  unfold maxLen at hcM
                  have HZ := Lib.hid hz2
                  clear hlc hbl hRs hok hSl hr0 hr1 hr2 hz2 hm1 hm2 hfull
                  have hzz : ((x2.ids.length : Int) == n) = true := by have := HZ.out; simp; omega
                  go_wp2_with fail
                  go_loop [9] KRel (fun kv => (3 - intOf kv).toNat)
                  case atStart => exact .inl rfl
                  case round =>
                    rcases hrel with rfl | rfl | rfl
                    · have hkx0' := hkx0
                      go_wp2_with fail
                      go_loop [10, 102] (fun av iv => ∃ i : Nat, i ≤ x1.ids.length ∧ iv = .int .i64 i ∧ av = .int .i64 (met x0.ids (x1.ids.take i) 0 : Nat)) (fun _ iv => x1.ids.length - (intOf iv).toNat)
                      case atStart => exact ⟨0, Nat.zero_le _, rfl, rfl⟩
                      case round =>
                        obtain ⟨i, hi, rfl, rfl⟩ := hrel
                        have hml := met_le x0.ids (x1.ids.take i) 0 (Nat.zero_le _)
                        by_cases hlt : i < x1.ids.length
                        · obtain ⟨g, hga, hgl, hgc⟩ := ok_cells hkx1 (by omega)
                          have s0 := hgc i hlt
                          have hsn := met_snoc x0.ids (x1.ids.take i) x1.ids[i] 0
                          rw [← List.take_succ_eq_append_getElem hlt] at hsn
                          have HS := Lib.hid hsn
                          clear hsn hgc
                          generalize x1.ids[i] = id at *
                          generalize met x0.ids (x1.ids.take i) 0 = m at *
                          by_cases hlt2 : m < x0.ids.length
                          · obtain ⟨g2, hga2, hgl2, hgc2⟩ := ok_cells hkx0 (by omega)
                            have s1 := hgc2 m hlt2
                            have hsome := List.getElem?_eq_getElem hlt2
                            clear hgc2
                            generalize x0.ids[m] = id2 at *
                            by_cases he : id2 = id
                            · have HS2 : met x0.ids (x1.ids.take (i + 1)) 0 = m + 1 := by
                                have := HS.out
                                rw [hsome, if_pos (by rw [he])] at this
                                exact this
                              have HS3 := Lib.hid HS2
                              have hee : (id2 == id) = true := by simpa using he
                              clear HS hsome HS2 he
                              go_wp2_with fail
                              go_round
                              case rel => exact ⟨i + 1, by omega, by go_num, by rw [HS3.out]; go_num⟩
                              case measure => simp [intOf]; omega
                            · have HS2 : met x0.ids (x1.ids.take (i + 1)) 0 = m := by
                                have := HS.out
                                rw [hsome, if_neg (by simpa using he)] at this
                                exact this
                              have HS3 := Lib.hid HS2
                              have hee : (id2 == id) = false := by simpa using he
                              clear HS hsome HS2
                              go_wp2_with fail
                              go_round
                              case rel => exact ⟨i + 1, by omega, by go_num, by rw [HS3.out]⟩
                              case measure => simp [intOf]; omega
                          · have HS2 : met x0.ids (x1.ids.take (i + 1)) 0 = m := by
                              have := HS.out
                              rw [List.getElem?_eq_none (by omega), if_neg (by simp)] at this
                              exact this
                            have HS3 := Lib.hid HS2
                            clear HS HS2
                            go_wp2_with fail
                            go_round
                            case rel => exact ⟨i + 1, by omega, by go_num, by rw [HS3.out]⟩
                            case measure => simp [intOf]; omega
                        · have hii : i = x1.ids.length := by omega
                          have hmm : met x0.ids (x1.ids.take i) 0 = x0.ids.length := by rw [hii, List.take_length]; exact HM1.out
                          rw [hmm]
                          clear hmm hml
                          go_wp2_with fail
                          go_round
                          case rel => exact .inr (.inl rfl)
                          case measure => first | (simp [intOf]; done) | (simp [intOf]; omega)
                    · have hkx1' := hkx1
                      go_wp2_with fail
                      go_loop [10, 102] (fun av iv => ∃ i : Nat, i ≤ x2.ids.length ∧ iv = .int .i64 i ∧ av = .int .i64 (met x1.ids (x2.ids.take i) 0 : Nat)) (fun _ iv => x2.ids.length - (intOf iv).toNat)
                      case atStart => exact ⟨0, Nat.zero_le _, rfl, rfl⟩
                      case round =>
                        obtain ⟨i, hi, rfl, rfl⟩ := hrel
                        have hml := met_le x1.ids (x2.ids.take i) 0 (Nat.zero_le _)
                        by_cases hlt : i < x2.ids.length
                        · obtain ⟨g, hga, hgl, hgc⟩ := ok_cells hkx2 (by omega)
                          have s0 := hgc i hlt
                          have hsn := met_snoc x1.ids (x2.ids.take i) x2.ids[i] 0
                          rw [← List.take_succ_eq_append_getElem hlt] at hsn
                          have HS := Lib.hid hsn
                          clear hsn hgc
                          generalize x2.ids[i] = id at *
                          generalize met x1.ids (x2.ids.take i) 0 = m at *
                          by_cases hlt2 : m < x1.ids.length
                          · obtain ⟨g2, hga2, hgl2, hgc2⟩ := ok_cells hkx1 (by omega)
                            have s1 := hgc2 m hlt2
                            have hsome := List.getElem?_eq_getElem hlt2
                            clear hgc2
                            generalize x1.ids[m] = id2 at *
                            by_cases he : id2 = id
                            · have HS2 : met x1.ids (x2.ids.take (i + 1)) 0 = m + 1 := by
                                have := HS.out
                                rw [hsome, if_pos (by rw [he])] at this
                                exact this
                              have HS3 := Lib.hid HS2
                              have hee : (id2 == id) = true := by simpa using he
                              clear HS hsome HS2 he
                              go_wp2_with fail
                              go_round
                              case rel => exact ⟨i + 1, by omega, by go_num, by rw [HS3.out]; go_num⟩
                              case measure => simp [intOf]; omega
                            · have HS2 : met x1.ids (x2.ids.take (i + 1)) 0 = m := by
                                have := HS.out
                                rw [hsome, if_neg (by simpa using he)] at this
                                exact this
                              have HS3 := Lib.hid HS2
                              have hee : (id2 == id) = false := by simpa using he
                              clear HS hsome HS2
                              go_wp2_with fail
                              go_round
                              case rel => exact ⟨i + 1, by omega, by go_num, by rw [HS3.out]⟩
                              case measure => simp [intOf]; omega
                          · have HS2 : met x1.ids (x2.ids.take (i + 1)) 0 = m := by
                              have := HS.out
                              rw [List.getElem?_eq_none (by omega), if_neg (by simp)] at this
                              exact this
                            have HS3 := Lib.hid HS2
                            clear HS HS2
                            go_wp2_with fail
                            go_round
                            case rel => exact ⟨i + 1, by omega, by go_num, by rw [HS3.out]⟩
                            case measure => simp [intOf]; omega
                        · have hii : i = x2.ids.length := by omega
                          have hmm : met x1.ids (x2.ids.take i) 0 = x1.ids.length := by rw [hii, List.take_length]; exact HM2.out
                          rw [hmm]
                          clear hmm hml
                          go_wp2_with fail
                          go_round
                          case rel => exact .inr (.inr rfl)
                          case measure => first | (simp [intOf]; done) | (simp [intOf]; omega)
                    · go_wp2_with fail
                      go_ret
                      exact ⟨rfl, hkF.out⟩
end Go.Proofs.YtokofimfinhnbaaDoor
