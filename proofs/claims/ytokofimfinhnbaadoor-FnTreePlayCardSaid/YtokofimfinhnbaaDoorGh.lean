/-
  The laws of trees: how far two boxes lie apart in whole numbers; whether questions are good, walked. No condition.
  The laws of trees in plain words: what two trees of the same items answer. No condition.
  Two boxes compared; how often numbers stand in two lists. No condition.
  FnTreeOrder: the walk of the law. No condition.
-/
import Derived.Test.YtokofimfinhnbaaDoorGg
import Derived.Test.YtokofimfinhnbaaDoorFi
import Derived.Test.YtokofimfinhnbaaDoorMi
import Derived.Laws.StructEq
import Derived.Test.YtokofimfinhnbaaDoorAp
import Derived.Deep.CutRange
import Derived.Deep.LoopGhost
import Derived.BigRegion
set_option linter.unusedVariables false
set_option linter.unusedSimpArgs false
namespace Go.Proofs.YtokofimfinhnbaaDoor
open Go.RowKit Go.Fl Go.Sl Go.Ch Go.Fr Go.Mb Go.Hp Go.Mi
theorem gap_eq (a c a' c' : Int) : max (max 0 (a - c')) (a' - c) = gap a c a' c' := by unfold gap; omega
set_option maxRecDepth 100000 in
set_option maxHeartbeats 1000000 in
theorem kFar_ (x y : B4) (p q : Q4) (hx : ZB x p) (hy : ZB y q) (hp : p.ok) (hq : q.ok) (w : World) : Calls Tryd.prog 9 #[x.val, y.val] w (One w (.int .i64 (far p q))) := by
  obtain ⟨g1, g2, g3, g4⟩ := gap_ok hp hq
  have b1 := sq_bound g1 g2
  have b2 := sq_bound g3 g4
  obtain ⟨h1, h2, h3, h4, h5, h6⟩ := id hp
  obtain ⟨k1, k2, k3, k4, k5, k6⟩ := id hq
  obtain ⟨x0, x1, x2, x3⟩ := x
  obtain ⟨y0, y1, y2, y3⟩ := y
  obtain ⟨zx0, zx1, zx2, zx3⟩ := hx
  obtain ⟨zy0, zy1, zy2, zy3⟩ := hy
  simp only at zx0 zx1 zx2 zx3 zy0 zy1 zy2 zy3
  simp only [B4.val]
  obtain ⟨r1, e1, z1⟩ := zx0.sub zy2 (by omega)
  obtain ⟨r2, e2, z2⟩ := zy0.sub zx2 (by omega)
  obtain ⟨r3, e3, z3⟩ := zx1.sub zy3 (by omega)
  obtain ⟨r4, e4, z4⟩ := zy1.sub zx3 (by omega)
  have m1 := fun ts t w => run_max_3 (P := Tryd.prog) ts t Z_zero.fin z1.fin z2.fin w
  have m2 := fun ts t w => run_max_3 (P := Tryd.prog) ts t Z_zero.fin z3.fin z4.fin w
  have zg1 := mx2_Z (mx2_Z Z_zero z1) z2
  have zg2 := mx2_Z (mx2_Z Z_zero z3) z4
  rw [gap_eq] at zg1 zg2
  generalize mx2 (mx2 0 r1) r2 = u1 at *
  generalize mx2 (mx2 0 r3) r4 = u2 at *
  have v1 := fun w => opV_some e1 w
  have v2 := fun w => opV_some e2 w
  have v3 := fun w => opV_some e3 w
  have v4 := fun w => opV_some e4 w
  have n1 := opN_some e1
  have n2 := opN_some e2
  have n3 := opN_some e3
  have n4 := opN_some e4
  have hc1 := fun w => conv_int u1 _ (toInt_Z zg1 (by omega)) w
  have hc2 := fun w => conv_int u2 _ (toInt_Z zg2 (by omega)) w
  have hfar : far p q = gap p.a p.c q.a q.c * gap p.a p.c q.a q.c + gap p.b p.d q.b q.d * gap p.b p.d q.b q.d := rfl
  rw [hfar]
  clear hfar e1 e2 e3 e4 z1 z2 z3 z4 zg1 zg2 zx0 zx1 zx2 zx3 zy0 zy1 zy2 zy3 h1 h2 h3 h4 h5 h6 k1 k2 k3 k4 k5 k6 hp hq
  generalize gap p.a p.c q.a q.c = a at *
  generalize gap p.b p.d q.b q.d = b at *
  have w1' : wrap64 (a * a) = a * a := IntWalk.wrap64_in _ ⟨by omega, by omega⟩
  have w2' : wrap64 (b * b) = b * b := IntWalk.wrap64_in _ ⟨by omega, by omega⟩
  have w3' : wrap64 (a * a + b * b) = a * a + b * b := IntWalk.wrap64_in _ ⟨by omega, by omega⟩
  have w1 : IntKind.i64.wrap (a * a) = a * a := IntWalk.i64_in _ (by omega)
  have w2 : IntKind.i64.wrap (b * b) = b * b := IntWalk.i64_in _ (by omega)
  have w3 : IntKind.i64.wrap (a * a + b * b) = a * a + b * b := IntWalk.i64_in _ (by omega)
  clear b1 b2 g1 g2 g3 g4
  go_enter Tryd.func9, Tryd.ntmps9
  go_wp2
  go_ret
  refine ⟨rfl, ?_⟩
  repeat (first | (with_reducible exact Stab.Keeps.refl _) | (with_reducible assumption) | (with_reducible refine Stab.Keeps.alloc ?_ _) | (with_reducible refine Stab.Keeps.drew ?_) | (with_reducible refine Stab.Keeps.drewN ?_ _) | ((with_reducible refine Stab.Keeps.setCell ?_ ?_ _); focus (first | (simp; done) | (simp; omega))) | (with_reducible refine Stab.Keeps.trans ?_ (by with_reducible assumption)))
/-- what is asked is good -/
structure GoodA (n : Nat) (q : Ask) : Prop where
  d0 : 0 ≤ q.dO
  d4 : q.dO ≤ 4
  box : boxB q.box = true
  s0 : 0 ≤ q.stop
  h0 : 0 ≤ q.how
  h3 : q.how ≤ 3
  no : ¬ (q.dO = 0 ∧ 0 < q.stop ∧ q.how < 2 ∧ 4 < n)
def GoodQ (n : Nat) (qs : List Ask) : Prop := qs.length ≤ 60 ∧ ∀ q ∈ qs, GoodA n q
def KAsked (w : World) (n : Nat) (qs : List Ask) (e : Ending) (w' : World) : Prop := ∃ t, e = .returned (.bool t) ∧ (t = true → GoodQ n qs) ∧ Stab.Keeps w w'
def askB (q : Ask) : Bool := !(decide (q.dO < 0) || decide (4 < q.dO) || !boxB q.box || decide (q.stop < 0) || decide (q.how < 0) || decide (3 < q.how))
set_option maxRecDepth 100000 in
set_option maxHeartbeats 2000000 in
theorem kAsked_ (a : Option Addr) (m cap n : Nat) (qs : List Ask) (w : World) (hl : qs.length = m) (h : Sz w a m cap 7 (qs.flatMap Ask.cells)) :
    Calls Tryd.prog 7 #[.slice a m cap, .int .i64 n] w (KAsked w n qs) := by
  have hle := h.le
  have hmx := h.max
  unfold maxLen at hmx
  by_cases h4 : m ≤ 60
  · have g1 : decide ((m : Int) > 60) = false := decide_eq_false (by omega)
    have HL := Lib.hid hl
    clear hl
    have hK : Stab.Keeps w w := Stab.Keeps.refl w
    go_enter Tryd.func7, Tryd.ntmps7
    go_wp2_with fail
    go_loopw [12] (fun iv wr => ∃ k : Nat, k ≤ m ∧ iv = .int .i64 k ∧ Stab.Keeps w wr ∧ ∀ q ∈ qs.take k, GoodA n q) (fun iv _ => m - (intOf iv).toNat)
    case atStart => exact ⟨0, by omega, rfl, hK, fun t ht => by simp at ht⟩
    case round =>
      clear hK
      obtain ⟨k, k2, rfl, hK, hgood⟩ := hrel
      by_cases hlt : k < m
      · obtain ⟨b, off, ha, hb, hc⟩ := (h.keep hK).elem hlt
        subst ha
        have hkq : k < qs.length := by have := HL.out; omega
        have eg := fun j hj => flat_get Ask.cells 7 Ask.cells_len qs k j hkq hj
        have c0 : wr.cell? ⟨b, off + k * 7, none⟩ = some (.int .i64 qs[k].dO) := hc 0 _ (by omega) (by rw [eg 0 (by omega)]; rfl)
        have c1 : wr.cell? ⟨b, off + k * 7 + 1, none⟩ = some (.float .f64 qs[k].box.a) := hc 1 _ (by omega) (by rw [eg 1 (by omega)]; rfl)
        have c2 : wr.cell? ⟨b, off + k * 7 + 2, none⟩ = some (.float .f64 qs[k].box.b) := hc 2 _ (by omega) (by rw [eg 2 (by omega)]; rfl)
        have c3 : wr.cell? ⟨b, off + k * 7 + 3, none⟩ = some (.float .f64 qs[k].box.c) := hc 3 _ (by omega) (by rw [eg 3 (by omega)]; rfl)
        have c4 : wr.cell? ⟨b, off + k * 7 + 4, none⟩ = some (.float .f64 qs[k].box.d) := hc 4 _ (by omega) (by rw [eg 4 (by omega)]; rfl)
        have c5 : wr.cell? ⟨b, off + k * 7 + 5, none⟩ = some (.int .i64 qs[k].stop) := hc 5 _ (by omega) (by rw [eg 5 (by omega)]; rfl)
        have c6 : wr.cell? ⟨b, off + k * 7 + 6, none⟩ = some (.int .i64 qs[k].how) := hc 6 _ (by omega) (by rw [eg 6 (by omega)]; rfl)
        have hcut : qs.take (k + 1) = qs.take k ++ [qs[k]] := List.take_succ_eq_append_getElem hkq
        have HC := Lib.hid hcut
        clear eg hc hcut
        generalize qs[k] = q at *
        obtain ⟨d, y, stp, hw⟩ := q
        simp only at c0 c1 c2 c3 c4 c5 c6
        have hkb := fun w => kBox_ y w
        simp only [B4.val] at hkb
        by_cases q1 : d < 0 ∨ 4 < d
        · rcases q1 with q1 | q1
          · have d1 : decide (d < 0) = true := decide_eq_true q1
            clear hkb
            go_wp2_with fail
            go_ret
            refine ⟨_, rfl, (fun h => by cases h), ?_⟩
            repeat (first | (with_reducible exact Stab.Keeps.refl _) | (with_reducible assumption) | (with_reducible refine Stab.Keeps.alloc ?_ _) | (with_reducible refine Stab.Keeps.drew ?_) | (with_reducible refine Stab.Keeps.drewN ?_ _) | ((with_reducible refine Stab.Keeps.setCell ?_ ?_ _); focus (first | (simp; done) | (simp; omega))) | (with_reducible refine Stab.Keeps.trans ?_ (by with_reducible assumption)))
          · have d1 : decide (d < 0) = false := decide_eq_false (by omega)
            have d2 : decide (d > 4) = true := decide_eq_true q1
            clear hkb
            go_wp2_with fail
            go_ret
            refine ⟨_, rfl, (fun h => by cases h), ?_⟩
            repeat (first | (with_reducible exact Stab.Keeps.refl _) | (with_reducible assumption) | (with_reducible refine Stab.Keeps.alloc ?_ _) | (with_reducible refine Stab.Keeps.drew ?_) | (with_reducible refine Stab.Keeps.drewN ?_ _) | ((with_reducible refine Stab.Keeps.setCell ?_ ?_ _); focus (first | (simp; done) | (simp; omega))) | (with_reducible refine Stab.Keeps.trans ?_ (by with_reducible assumption)))
        have d1 : decide (d < 0) = false := decide_eq_false (by omega)
        have d2 : decide (d > 4) = false := decide_eq_false (by omega)
        have Q1 := Lib.hid q1
        clear q1
        go_wp2_with fail
        refine (hkb _).mono ?_
        clear hkb
        rintro e w2 ⟨rfl, hk2⟩
        cases hv : boxB y with
        | false =>
          go_wp2_with fail
          go_ret
          refine ⟨_, rfl, (fun h => by cases h), ?_⟩
          repeat (first | (with_reducible exact Stab.Keeps.refl _) | (with_reducible assumption) | (with_reducible refine Stab.Keeps.alloc ?_ _) | (with_reducible refine Stab.Keeps.drew ?_) | (with_reducible refine Stab.Keeps.drewN ?_ _) | ((with_reducible refine Stab.Keeps.setCell ?_ ?_ _); focus (first | (simp; done) | (simp; omega))) | (with_reducible refine Stab.Keeps.trans ?_ (by with_reducible assumption)))
        | true =>
          obtain ⟨mc_, mf_⟩ := Stab.own_cell hk2 (wr.heap.size) (by first | (simp; done) | (simp; omega) | omega | (apply Stab.cell_lt (a := ⟨wr.heap.size, 0, none⟩); assumption))
          have m0 : w2.cell? ⟨wr.heap.size, 0, none⟩ = some (.int .i64 d) := by rw [mc_]; first | assumption | (go_simp; done)
          have m1 : w2.cell? ⟨wr.heap.size, 1, none⟩ = some (.float .f64 y.a) := by rw [mc_]; first | assumption | (go_simp; done)
          have m2 : w2.cell? ⟨wr.heap.size, 2, none⟩ = some (.float .f64 y.b) := by rw [mc_]; first | assumption | (go_simp; done)
          have m3 : w2.cell? ⟨wr.heap.size, 3, none⟩ = some (.float .f64 y.c) := by rw [mc_]; first | assumption | (go_simp; done)
          have m4 : w2.cell? ⟨wr.heap.size, 4, none⟩ = some (.float .f64 y.d) := by rw [mc_]; first | assumption | (go_simp; done)
          have m5 : w2.cell? ⟨wr.heap.size, 5, none⟩ = some (.int .i64 stp) := by rw [mc_]; first | assumption | (go_simp; done)
          have m6 : w2.cell? ⟨wr.heap.size, 6, none⟩ = some (.int .i64 hw) := by rw [mc_]; first | assumption | (go_simp; done)
          have mf : ∀ j, w2.frozen? ⟨wr.heap.size, j, none⟩ = false := fun j => by rw [mf_]; first | (go_simp; done) | (apply_assumption)
          clear mc_ mf_
          have hkk : Stab.Keeps wr w2 := by repeat (first | (with_reducible exact Stab.Keeps.refl _) | (with_reducible assumption) | (with_reducible refine Stab.Keeps.alloc ?_ _) | (with_reducible refine Stab.Keeps.drew ?_) | (with_reducible refine Stab.Keeps.drewN ?_ _) | ((with_reducible refine Stab.Keeps.setCell ?_ ?_ _); focus (first | (simp; done) | (simp; omega))) | (with_reducible refine Stab.Keeps.trans ?_ (by with_reducible assumption)))
          have hl2 := hkk.size
          have hl3 : wr.heap.size < w2.heap.size := by have := hk2.size; simp at this; omega
          by_cases q2 : stp < 0
          · have d3 : decide (stp < 0) = true := decide_eq_true q2
            go_wp2_with fail
            go_ret
            refine ⟨_, rfl, (fun h => by cases h), ?_⟩
            repeat (first | (with_reducible exact Stab.Keeps.refl _) | (with_reducible assumption) | (with_reducible refine Stab.Keeps.alloc ?_ _) | (with_reducible refine Stab.Keeps.drew ?_) | (with_reducible refine Stab.Keeps.drewN ?_ _) | ((with_reducible refine Stab.Keeps.setCell ?_ ?_ _); focus (first | (simp; done) | (simp; omega))) | (with_reducible refine Stab.Keeps.trans ?_ (by with_reducible assumption)))
          have d3 : decide (stp < 0) = false := decide_eq_false q2
          by_cases q3 : hw < 0
          · have d4 : decide (hw < 0) = true := decide_eq_true q3
            go_wp2_with fail
            go_ret
            refine ⟨_, rfl, (fun h => by cases h), ?_⟩
            repeat (first | (with_reducible exact Stab.Keeps.refl _) | (with_reducible assumption) | (with_reducible refine Stab.Keeps.alloc ?_ _) | (with_reducible refine Stab.Keeps.drew ?_) | (with_reducible refine Stab.Keeps.drewN ?_ _) | ((with_reducible refine Stab.Keeps.setCell ?_ ?_ _); focus (first | (simp; done) | (simp; omega))) | (with_reducible refine Stab.Keeps.trans ?_ (by with_reducible assumption)))
          have d4 : decide (hw < 0) = false := decide_eq_false q3
          by_cases q4 : 3 < hw
          · have d5 : decide (hw > 3) = true := decide_eq_true q4
            go_wp2_with fail
            go_ret
            refine ⟨_, rfl, (fun h => by cases h), ?_⟩
            repeat (first | (with_reducible exact Stab.Keeps.refl _) | (with_reducible assumption) | (with_reducible refine Stab.Keeps.alloc ?_ _) | (with_reducible refine Stab.Keeps.drew ?_) | (with_reducible refine Stab.Keeps.drewN ?_ _) | ((with_reducible refine Stab.Keeps.setCell ?_ ?_ _); focus (first | (simp; done) | (simp; omega))) | (with_reducible refine Stab.Keeps.trans ?_ (by with_reducible assumption)))
          have d5 : decide (hw > 3) = false := decide_eq_false q4
          by_cases q5 : d = 0 ∧ 0 < stp ∧ hw < 2 ∧ 4 < n
          · obtain ⟨e1, e2, e3, e4⟩ := q5
            have d6 : (d == 0) = true := by simpa using e1
            have d7 : decide (stp > 0) = true := decide_eq_true e2
            have d8 : decide (hw < 2) = true := decide_eq_true e3
            have d9 : decide ((n : Int) > 4) = true := decide_eq_true (by omega)
            clear e1 q2 q3 q4
            go_wp2_with fail
            go_ret
            refine ⟨_, rfl, (fun h => by cases h), ?_⟩
            repeat (first | (with_reducible exact Stab.Keeps.refl _) | (with_reducible assumption) | (with_reducible refine Stab.Keeps.alloc ?_ _) | (with_reducible refine Stab.Keeps.drew ?_) | (with_reducible refine Stab.Keeps.drewN ?_ _) | ((with_reducible refine Stab.Keeps.setCell ?_ ?_ _); focus (first | (simp; done) | (simp; omega))) | (with_reducible refine Stab.Keeps.trans ?_ (by with_reducible assumption)))
          · have hgood' : ∀ q ∈ qs.take (k + 1), GoodA n q := fun q hq => by
              rw [HC.out] at hq
              rcases List.mem_append.1 hq with hq | hq
              · exact hgood q hq
              · simp at hq; subst hq
                have := Q1.out
                exact ⟨by simp only; omega, by simp only; omega, hv, by simp only; omega, by simp only; omega, by simp only; omega, q5⟩
            have hKf : Stab.Keeps w w2 := by repeat (first | (with_reducible exact Stab.Keeps.refl _) | (with_reducible assumption) | (with_reducible refine Stab.Keeps.alloc ?_ _) | (with_reducible refine Stab.Keeps.drew ?_) | (with_reducible refine Stab.Keeps.drewN ?_ _) | ((with_reducible refine Stab.Keeps.setCell ?_ ?_ _); focus (first | (simp; done) | (simp; omega))) | (with_reducible refine Stab.Keeps.trans ?_ (by with_reducible assumption)))
            have Q5 := Lib.hid q5
            clear q2 q3 q4 q5 HC hgood
            by_cases e1 : d = 0
            · have d6 : (d == 0) = true := by simpa using e1
              have E1 := Lib.hid e1
              clear e1
              by_cases e2 : 0 < stp
              · have d7 : decide (stp > 0) = true := decide_eq_true e2
                by_cases e3 : hw < 2
                · have d8 : decide (hw < 2) = true := decide_eq_true e3
                  have d9 : decide ((n : Int) > 4) = false := decide_eq_false (fun h => Q5.out ⟨E1.out, e2, e3, by omega⟩)
                  clear e2 e3
                  go_wp2_with fail
                  go_roundw
                  case rel => exact ⟨k + 1, by omega, by go_num, hKf, hgood'⟩
                  case measure => simp [intOf]; omega
                · have d8 : decide (hw < 2) = false := decide_eq_false e3
                  clear e2 e3
                  go_wp2_with fail
                  go_roundw
                  case rel => exact ⟨k + 1, by omega, by go_num, hKf, hgood'⟩
                  case measure => simp [intOf]; omega
              · have d7 : decide (stp > 0) = false := decide_eq_false e2
                clear e2
                go_wp2_with fail
                go_roundw
                case rel => exact ⟨k + 1, by omega, by go_num, hKf, hgood'⟩
                case measure => simp [intOf]; omega
            · have d6 : (d == 0) = false := by simpa using e1
              clear e1
              go_wp2_with fail
              go_roundw
              case rel => exact ⟨k + 1, by omega, by go_num, hKf, hgood'⟩
              case measure => simp [intOf]; omega
      · have hkn : k = m := by omega
        subst hkn
        rw [List.take_of_length_le (by rw [HL.out]; exact Nat.le_refl _)] at hgood
        go_wp2_with fail
        go_ret
        exact ⟨true, rfl, fun _ => ⟨by rw [HL.out]; exact h4, hgood⟩, hK⟩
  · have g1 : decide ((m : Int) > 60) = true := decide_eq_true (by omega)
    go_enter Tryd.func7, Tryd.ntmps7
    go_wp2_with fail
    go_ret
    refine ⟨_, rfl, (fun h => by cases h), ?_⟩
    repeat (first | (with_reducible exact Stab.Keeps.refl _) | (with_reducible assumption) | (with_reducible refine Stab.Keeps.alloc ?_ _) | (with_reducible refine Stab.Keeps.drew ?_) | (with_reducible refine Stab.Keeps.drewN ?_ _) | ((with_reducible refine Stab.Keeps.setCell ?_ ?_ _); focus (first | (simp; done) | (simp; omega))) | (with_reducible refine Stab.Keeps.trans ?_ (by with_reducible assumption)))
end Go.Proofs.YtokofimfinhnbaaDoor
set_option linter.unusedVariables false
set_option linter.unusedSimpArgs false
namespace Go.Proofs.YtokofimfinhnbaaDoor
open Go.RowKit Go.Fl Go.Sl Go.Ch Go.Fr Go.Mb Go.Hp Go.Mi
theorem join_lub {p q r : Q4} (hp : p.within r) (hq : q.within r) : (p.join q).within r := by
  have := hp.a; have := hp.b; have := hp.c; have := hp.d; have := hq.a; have := hq.b; have := hq.c; have := hq.d
  constructor <;> simp only [Q4.join] <;> omega
theorem fold_lub (r : Q4) : ∀ (l : List B4) (x : B4), (∃ p, ZB x p ∧ p.within r) → (∀ y ∈ l, ∃ q, ZB y q ∧ q.within r) → ∃ s, ZB (l.foldl cmb x) s ∧ s.within r
  | [], x, hx, _ => hx
  | z :: l, x, hx, h => by
    obtain ⟨p, hx, hp⟩ := hx
    obtain ⟨q, hz, hq⟩ := h z (by simp)
    exact fold_lub r l (cmb x z) ⟨_, cmb_Z hx hz, join_lub hp hq⟩ (fun y hy => h y (by simp [hy]))
theorem bnd_lub (r : Q4) {l : List B4} (h0 : 0 < l.length) (h : ∀ y ∈ l, ∃ q, ZB y q ∧ q.within r) : ∃ s, ZB (bnd l) s ∧ s.within r := by
  cases l with
  | nil => simp at h0
  | cons x l => exact fold_lub r l x (h x (by simp)) (fun y hy => h y (by simp [hy]))
theorem box_lub (r : Q4) : ∀ (t : RT), t.full → (∀ i ∈ t.items, ∃ q, ZB i.box q ∧ q.within r) → ∃ s, ZB t.box s ∧ s.within r
  | .leaf l, hf, hg => bnd_lub r (by simpa [RT.full] using hf) (fun y hy => by
      simp only [List.mem_map] at hy
      obtain ⟨i, hi, rfl⟩ := hy
      exact hg i hi)
  | .two a b, hf, hg => by
    simp only [RT.items, List.mem_append] at hg
    refine bnd_lub r (by simp) (fun y hy => ?_)
    simp at hy
    rcases hy with rfl | rfl
    · exact box_lub r a hf.1 (fun i hi => hg i (.inl hi))
    · exact box_lub r b hf.2 (fun i hi => hg i (.inr hi))
  | .four a b c d, hf, hg => by
    simp only [RT.items, List.mem_append] at hg
    refine bnd_lub r (by simp) (fun y hy => ?_)
    simp at hy
    rcases hy with rfl | rfl | rfl | rfl
    · exact box_lub r a hf.1 (fun i hi => hg i (.inl hi))
    · exact box_lub r b hf.2.1 (fun i hi => hg i (.inr (.inl hi)))
    · exact box_lub r c hf.2.2.1 (fun i hi => hg i (.inr (.inr (.inl hi))))
    · exact box_lub r d hf.2.2.2 (fun i hi => hg i (.inr (.inr (.inr hi))))
theorem within_eq {p q : Q4} (h : p.within q) (k : q.within p) : p = q := by
  obtain ⟨a, b, c, d⟩ := p
  obtain ⟨a', b', c', d'⟩ := q
  have := h.a; have := h.b; have := h.c; have := h.d; have := k.a; have := k.b; have := k.c; have := k.d
  simp only at *
  congr <;> omega
/-- the box of a tree: the least one around its items -/
theorem box_least (t : RT) (hf : t.full) (hg : ∀ i ∈ t.items, boxB i.box = true) : ∃ r, ZB t.box r ∧ (∀ i ∈ t.items, ∃ p, ZB i.box p ∧ p.within r) ∧ ∀ r', (∀ i ∈ t.items, ∃ p, ZB i.box p ∧ p.within r') → r.within r' := by
  obtain ⟨r, h1, h2⟩ := box_Z t hf hg
  refine ⟨r, h1, h2, fun r' h => ?_⟩
  obtain ⟨s, h3, h4⟩ := box_lub r' t hf h
  rw [h1.inj h3]
  exact h4
def EqB (x y : B4) : Prop := eq x.a y.a = true ∧ eq x.b y.b = true ∧ eq x.c y.c = true ∧ eq x.d y.d = true
theorem ZB.eqB {x y : B4} {q : Q4} (h : ZB x q) (k : ZB y q) : EqB x y :=
  ⟨by rw [h.a.eq k.a]; simp, by rw [h.b.eq k.b]; simp, by rw [h.c.eq k.c]; simp, by rw [h.d.eq k.d]; simp⟩
theorem zero_eqB : EqB ⟨0, 0, 0, 0⟩ ⟨0, 0, 0, 0⟩ := ZB.eqB (q := ⟨0, 0, 0, 0⟩) ⟨Z_zero, Z_zero, Z_zero, Z_zero⟩ ⟨Z_zero, Z_zero, Z_zero, Z_zero⟩
theorem items_empty {tr : Option RT} (hf : ∀ t, tr = some t → t.full) : itemsO tr = [] ↔ tr.isSome = false := by
  cases tr with
  | none => simp [itemsO]
  | some t =>
    simp only [itemsO, Option.isSome_some]
    have : ∀ t : RT, t.full → t.items ≠ [] := by
      intro t
      induction t with
      | leaf l => intro h; simp only [RT.items, RT.full] at *; exact List.length_pos_iff.1 h
      | two a b iha ihb => intro h h2; simp only [RT.items, List.append_eq_nil_iff] at h2; exact iha h.1 h2.1
      | four a b c d iha _ _ _ => intro h h2; simp only [RT.items, List.append_eq_nil_iff] at h2; exact iha h.1 h2.1
    simp [this t (hf t rfl)]
theorem ext_eqB {L : List It} (hg : ∀ t ∈ L, boxB t.box = true) {tr1 tr2 : Option RT} (p1 : (itemsO tr1).Perm L) (p2 : (itemsO tr2).Perm L) (f1 : ∀ t, tr1 = some t → t.full) (f2 : ∀ t, tr2 = some t → t.full) : tr1.isSome = tr2.isSome ∧ EqB (extB tr1) (extB tr2) := by
  have h12 : tr1.isSome = tr2.isSome := by
    have e1 := items_empty f1
    have e2 := items_empty f2
    have : itemsO tr1 = [] ↔ itemsO tr2 = [] := by rw [← List.length_eq_zero_iff, ← List.length_eq_zero_iff, p1.length_eq, p2.length_eq]
    rw [e1, e2] at this
    cases h1 : tr1.isSome <;> cases h2 : tr2.isSome <;> simp_all
  refine ⟨h12, ?_⟩
  cases tr1 with
  | none =>
    cases tr2 with
    | none => exact zero_eqB
    | some t => simp at h12
  | some t1 =>
    cases tr2 with
    | none => simp at h12
    | some t2 =>
      simp only [itemsO] at p1 p2
      obtain ⟨r1, a1, b1, c1⟩ := box_least t1 (f1 t1 rfl) (fun i hi => hg i (p1.mem_iff.1 hi))
      obtain ⟨r2, a2, b2, c2⟩ := box_least t2 (f2 t2 rfl) (fun i hi => hg i (p2.mem_iff.1 hi))
      have : r1 = r2 := within_eq (c1 r2 fun i hi => b2 i (p2.mem_iff.2 (p1.mem_iff.1 hi))) (c2 r1 fun i hi => b1 i (p1.mem_iff.2 (p2.mem_iff.1 hi)))
      subst this
      exact a1.eqB a2
/-- two answers that are the same but for their order -/
structure Same (L : List It) (yq : Q4) (q : Ask) (ids1 : List Int) (r1 : Rest) (ids2 : List Int) (r2 : Rest) : Prop where
  perm : ids1.Perm ids2
  sub : ∀ id ∈ ids1, ∃ t ∈ L, t.id = id
  len : ids1.length ≤ L.length
  found : r1.found = r2.found
  count : r1.count = r2.count
  err1 : r1.err = false
  err2 : r2.err = false
  box : EqB r1.box r2.box
  near : q.dO = 2 → r1.found = true → ∃ s1 ∈ L, ∃ s2 ∈ L, s1.id = r1.id ∧ s2.id = r2.id ∧ far1 yq s1 = far1 yq s2
  prio : q.dO = 1 → ∀ k (h1 : k < ids1.length) (h2 : k < ids2.length), ∃ s1 ∈ L, ∃ s2 ∈ L, s1.id = ids1[k] ∧ s2.id = ids2[k] ∧ far1 yq s1 = far1 yq s2
theorem ended_whole {A : List Int → Bool → Prop} {q : Ask} {ids : List Int} {r : Rest} (h : Ended A q ids r) (hs : q.stop ≤ 0) (hA : A ids true → ids ≠ []) : A ids false ∧ r = Rest.zero := by
  rcases h with ⟨h1, _, h2⟩ | ⟨h1, h2, _⟩
  · exact ⟨h1, h2⟩
  · have := List.length_pos_iff.2 (hA h1)
    omega
theorem same_of {L : List It} {n : Nat} (hg : GoodL L) {tr1 tr2 : Option RT} (p1 : (itemsO tr1).Perm L) (p2 : (itemsO tr2).Perm L) (f1 : ∀ t, tr1 = some t → t.full) (f2 : ∀ t, tr2 = some t → t.full) {q : Ask} (hs : q.stop ≤ 0) {yq : Q4} (hy : ZB q.box yq) {ids1 ids2 : List Int} {r1 r2 : Rest}
    (h1 : TAns n tr1 yq q ids1 r1) (h2 : TAns n tr2 yq q ids2 r2) : Same L yq q ids1 r1 ids2 r2 := by
  have g1 : ∀ i ∈ itemsO tr1, boxB i.box = true := fun i hi => hg.2.1 i (p1.mem_iff.1 hi)
  have g2 : ∀ i ∈ itemsO tr2, boxB i.box = true := fun i hi => hg.2.1 i (p2.mem_iff.1 hi)
  rcases h1 with ⟨d1, h1⟩ | ⟨d1, h1⟩ | ⟨d1, i1, h1⟩ | ⟨d1, i1, h1⟩ | ⟨d1, i1, h1⟩ <;> rcases h2 with ⟨d2, h2⟩ | ⟨d2, h2⟩ | ⟨d2, i2, h2⟩ | ⟨d2, i2, h2⟩ | ⟨d2, i2, h2⟩ <;> first | (exfalso; omega; done) | skip
  · obtain ⟨a1, rfl⟩ := ended_whole h1 hs (fun h => by rcases h with ⟨h, _⟩ | ⟨_, h, _⟩; cases h; exact h)
    obtain ⟨a2, rfl⟩ := ended_whole h2 hs (fun h => by rcases h with ⟨h, _⟩ | ⟨_, h, _⟩; cases h; exact h)
    have e1 : ids1 = rsO q.box tr1 := by rcases a1 with ⟨_, h⟩ | ⟨h, _⟩; exact h; cases h
    have e2 : ids2 = rsO q.box tr2 := by rcases a2 with ⟨_, h⟩ | ⟨h, _⟩; exact h; cases h
    rw [rsO_eq hy f1 g1] at e1
    rw [rsO_eq hy f2 g2] at e2
    subst e1 e2
    refine ⟨((p1.trans p2.symm).filter _).map _, fun id hid => ?_, ?_, rfl, rfl, rfl, rfl, zero_eqB, fun h => by omega, fun h => by omega⟩
    · obtain ⟨t, ht, rfl⟩ := List.mem_map.1 hid
      exact ⟨t, p1.mem_iff.1 (List.mem_filter.1 ht).1, rfl⟩
    · rw [List.length_map, ← p1.length_eq]
      exact List.length_filter_le _ _
  · obtain ⟨a1, rfl⟩ := ended_whole h1 hs (fun ⟨S, R, e, _, _, h⟩ => by rw [e]; simpa using h rfl)
    obtain ⟨a2, rfl⟩ := ended_whole h2 hs (fun ⟨S, R, e, _, _, h⟩ => by rw [e]; simpa using h rfl)
    obtain ⟨S1, R1, rfl, s1, b1, _⟩ := a1
    obtain ⟨S2, R2, rfl, s2, b2, _⟩ := a2
    have b1 := b1 rfl
    have b2 := b2 rfl
    subst b1 b2
    have q1 : S1.Perm L := by have := s1.perm; rw [List.append_nil] at this; exact this.trans p1
    have q2 : S2.Perm L := by have := s2.perm; rw [List.append_nil] at this; exact this.trans p2
    have heq : S1.map (far1 yq) = S2.map (far1 yq) := by
      refine List.Perm.eq_of_pairwise (le := (· ≤ ·)) (fun a b _ _ h1 h2 => by omega) ?_ ?_ ((q1.trans q2.symm).map _)
      · exact List.pairwise_map.2 s1.sorted
      · exact List.pairwise_map.2 s2.sorted
    refine ⟨(q1.trans q2.symm).map _, fun id hid => ?_, by rw [List.length_map, q1.length_eq]; exact Nat.le_refl _, rfl, rfl, rfl, rfl, zero_eqB, fun h => by omega, fun _ k h1 h2 => ?_⟩
    · obtain ⟨t, ht, rfl⟩ := List.mem_map.1 hid
      exact ⟨t, q1.mem_iff.1 ht, rfl⟩
    · simp only [List.length_map] at h1 h2
      refine ⟨S1[k], q1.mem_iff.1 (List.getElem_mem _), S2[k], q2.mem_iff.1 (List.getElem_mem _), by simp, by simp, ?_⟩
      have := congrArg (fun l => l[k]?) heq
      simpa [h1, h2] using this
  · subst i1 i2
    obtain ⟨id1, b1, rfl, c1⟩ := h1
    obtain ⟨id2, b2, rfl, c2⟩ := h2
    have hb : b1 = b2 := by
      rcases c1 with ⟨e1, _, h1⟩ | ⟨e1, s1, m1, _⟩ <;> rcases c2 with ⟨e2, _, h2⟩ | ⟨e2, s2, m2, _⟩
      · rw [e1, e2]
      · have := p1.mem_iff.2 (p2.mem_iff.1 m2); rw [h1] at this; simp at this
      · have := p2.mem_iff.2 (p1.mem_iff.1 m1); rw [h2] at this; simp at this
      · rw [e1, e2]
    refine ⟨List.Perm.refl _, fun id hid => by simp at hid, by simp, hb, rfl, rfl, rfl, zero_eqB, fun _ hf => ?_, fun h => by omega⟩
    simp only at hf
    subst hf
    subst hb
    rcases c1 with ⟨e1, _⟩ | ⟨_, s1, m1, k1, l1⟩
    · cases e1
    · rcases c2 with ⟨e2, _⟩ | ⟨_, s2, m2, k2, l2⟩
      · cases e2
      · refine ⟨s1, p1.mem_iff.1 m1, s2, p2.mem_iff.1 m2, k1, k2, ?_⟩
        have := l1 s2 (p1.mem_iff.2 (p2.mem_iff.1 m2))
        have := l2 s1 (p2.mem_iff.2 (p1.mem_iff.1 m1))
        omega
  · subst i1 i2 h1 h2
    obtain ⟨e1, e2⟩ := ext_eqB hg.2.1 p1 p2 f1 f2
    exact ⟨List.Perm.refl _, fun id hid => by simp at hid, by simp, e1, rfl, rfl, rfl, e2, fun h => by omega, fun h => by omega⟩
  · subst i1 i2 h1 h2
    exact ⟨List.Perm.refl _, fun id hid => by simp at hid, by simp, rfl, rfl, rfl, rfl, zero_eqB, fun h => by omega, fun h => by omega⟩
end Go.Proofs.YtokofimfinhnbaaDoor
set_option linter.unusedVariables false
set_option linter.unusedSimpArgs false
namespace Go.Proofs.YtokofimfinhnbaaDoor
open Go.RowKit Go.Fl Go.Sl Go.Ch Go.Fr Go.Mb Go.Hp Go.Mi
theorem run_equalIn_float (d : Nat) (t : TypeId) (a b : Nat) (w : World) (h : Tryd.prog.underlying t = some (.float .f64)) : (Op.equalIn (d + 1) t (.float .f64 a) (.float .f64 b)).run Tryd.prog w = .ok (eq a b) w := by
  simp [Op.equalIn, run_underlying h]
  rfl
theorem boxGuard (op : BinOp) (x y : Operand) (xs ys : Array Value) (w : World) : (eqGuard op 28 x y (.agg xs) (.agg ys)).run Tryd.prog w = .ok () w := run_eqGuard_agg w op 28 x y xs ys (by kernel_rfl)
theorem box_in (x y : B4) (w : World) : (Op.equalIn 10000 28 x.val y.val).run Tryd.prog w = .ok (eq x.a y.a && (eq x.b y.b && (eq x.c y.c && eq x.d y.d))) w := by
  have hS : Tryd.prog.underlying 28 = some (.struct (Tryd.prog.fieldsOf 28)) := by kernel_rfl
  have hp : Tryd.prog.stoodInHeld 28 = false := by kernel_rfl
  have hf := fun d a b w => run_equalIn_float d 26 a b w Tryd.underlying26
  unfold B4.val
  rw [show (10000 : Nat) = 9998 + 1 + 1 from rfl, run_equalIn_agg w (9998 + 1) 28 _ _ hS hp]
  simp only [Program.fieldsOf, Tryd.underlying28]
  go_simp
  cases eq x.a y.a <;> cases eq x.b y.b <;> cases eq x.c y.c <;> cases eq x.d y.d <;> simp
theorem box_eql (x y : B4) (w : World) : (binOp .eql 28 x.val y.val).run Tryd.prog w = .ok (.bool (eq x.a y.a && (eq x.b y.b && (eq x.c y.c && eq x.d y.d)))) w := by
  have h := box_in x y w
  unfold B4.val at h ⊢
  rw [run_eql_struct, h]
  rfl
theorem box_neq (x y : B4) (w : World) : (binOp .neq 28 x.val y.val).run Tryd.prog w = .ok (.bool (!(eq x.a y.a && (eq x.b y.b && (eq x.c y.c && eq x.d y.d))))) w := by
  have h := box_in x y w
  unfold B4.val at h ⊢
  rw [run_neq_struct, h]
  rfl
/-- how often a number stands in the first list more than in the second -/
def cI (l1 l2 : List Int) (id : Int) : Option Value := if id ∈ l1 ∨ id ∈ l2 then some (.int .i64 ((l1.count id : Int) - l2.count id)) else none
theorem cI_nil : cI [] [] = fun _ => none := by funext id; simp [cI]
theorem cI_get (l1 l2 : List Int) (id : Int) : (cI l1 l2 id).getD (.int .i64 0) = .int .i64 ((l1.count id : Int) - l2.count id) := by
  unfold cI
  by_cases h : id ∈ l1 ∨ id ∈ l2
  · rw [if_pos h]; rfl
  · rw [if_neg h]
    have h1 : l1.count id = 0 := List.count_eq_zero.2 (fun e => h (.inl e))
    have h2 : l2.count id = 0 := List.count_eq_zero.2 (fun e => h (.inr e))
    rw [h1, h2]
    rfl
theorem cI_inc (l1 l2 : List Int) (x : Int) : putF (cI l1 l2) x (.int .i64 ((l1.count x : Int) - l2.count x + 1)) = cI (l1 ++ [x]) l2 := by
  funext id
  unfold putF cI
  by_cases h : id = x
  · subst h
    simp
    omega
  · rw [if_neg h]
    have hc : (l1 ++ [x]).count id = l1.count id := by rw [List.count_append]; simp [Ne.symm h]
    rw [hc]
    simp [h]
theorem cI_dec (l1 l2 : List Int) (x : Int) : putF (cI l1 l2) x (.int .i64 ((l1.count x : Int) - l2.count x - 1)) = cI l1 (l2 ++ [x]) := by
  funext id
  unfold putF cI
  by_cases h : id = x
  · subst h
    simp
    omega
  · rw [if_neg h]
    have hc : (l2 ++ [x]).count id = l2.count id := by rw [List.count_append]; simp [Ne.symm h]
    rw [hc]
    simp [h]
theorem cI_perm {l1 l2 : List Int} (h : l1.Perm l2) {id : Int} {v : Value} (hv : cI l1 l2 id = some v) : v = .int .i64 0 := by
  unfold cI at hv
  split at hv
  · injection hv with hv
    rw [← hv, h.count_eq]
    simp
  · cases hv
end Go.Proofs.YtokofimfinhnbaaDoor
set_option linter.unusedVariables false
set_option linter.unusedSimpArgs false
namespace Go.Proofs.YtokofimfinhnbaaDoor
open Go.RowKit Go.Fl Go.Sl Go.Ch Go.Fr Go.Mb Go.Hp Go.Mi
theorem zeroBoxV (w : World) : (zeroValue 28).run Tryd.prog w = .ok (.agg #[.float .f64 0, .float .f64 0, .float .f64 0, .float .f64 0]) w := by kernel_rfl
theorem zeroIntV (w : World) : (zeroValue 3).run Tryd.prog w = .ok (.int .i64 0) w := by kernel_rfl
theorem infoItem : (Tryd.prog.info? 32).map (fun i => (i.zero, i.size, i.bytes)) = some (some (.agg #[.float .f64 0, .float .f64 0, .float .f64 0, .float .f64 0, .int .i64 0]), 5, 40) := by kernel_rfl
theorem sizeItem (w : World) : (sizeOf (Tryd.prog.elem 22)).run Tryd.prog w = .ok 5 w := by kernel_rfl
theorem enc_one (l : List It) : ∀ u ∈ enc l, u.oneCell' = true := by
  intro u hu
  obtain ⟨t, _, h⟩ := List.mem_flatMap.1 hu
  simp [It.cells] at h
  rcases h with rfl | rfl | rfl | rfl | rfl <;> rfl
theorem enc_drop (l : List It) (k : Nat) : (enc l).drop (k * 5) = enc (l.drop k) := by
  induction l generalizing k with
  | nil => simp [enc]
  | cons t l ih =>
    cases k with
    | zero => simp
    | succ k =>
      have : (k + 1) * 5 = t.cells.length + k * 5 := by rw [It.cells_len]; omega
      have e : enc (t :: l) = t.cells ++ enc l := by simp [enc]
      rw [e, this, List.drop_append, List.drop_eq_nil_of_le (by omega), List.nil_append]
      rw [show t.cells.length + k * 5 - t.cells.length = k * 5 by omega, ih]
      simp
/-- the items in another order, as far as they have been put: j are still to come -/
def oth (L : List It) (b j : Nat) : List It := L.drop b ++ ((L.take b).drop j).reverse
theorem oth_step (L : List It) (b j : Nat) (hj : j < b) (hb : b ≤ L.length) : oth L b j = oth L b (j + 1) ++ [L[j]'(by omega)] := by
  unfold oth
  have : (L.take b).drop j = L[j]'(by omega) :: (L.take b).drop (j + 1) := by
    rw [List.drop_eq_getElem_cons (by rw [List.length_take]; omega)]
    rw [List.getElem_take]
  rw [this, List.reverse_cons, List.append_assoc]
theorem oth_start (L : List It) (b : Nat) : oth L b b = L.drop b := by
  unfold oth
  have e : (L.take b).drop b = [] := List.drop_of_length_le (by rw [List.length_take]; omega)
  rw [e]
  simp
theorem oth_perm (L : List It) (b : Nat) : (oth L b 0).Perm L := by
  unfold oth
  rw [List.drop_zero]
  refine (List.Perm.append_left _ (List.reverse_perm _)).trans ?_
  refine List.perm_append_comm.trans ?_
  rw [List.take_append_drop]
/-- where the first k items lie -/
def whr (L : List It) (k : Nat) (id : Int) : Option Value := ((L.take k).find? (fun t => decide (t.id = id))).map (fun t => t.box.val)
theorem whr_zero (L : List It) : whr L 0 = fun _ => none := by funext id; simp [whr]
theorem whr_step {L : List It} (hnd : (L.map It.id).Nodup) {k : Nat} (hk : k < L.length) : putF (whr L k) L[k].id L[k].box.val = whr L (k + 1) := by
  funext id
  unfold putF whr
  rw [List.take_succ_eq_append_getElem hk, List.find?_append]
  by_cases h : id = L[k].id
  · subst h
    have hn : (L.take k).find? (fun t => decide (t.id = L[k].id)) = none := by
      rw [List.find?_eq_none]
      intro t ht hd
      have he := of_decide_eq_true hd
      obtain ⟨i, hi, rfl⟩ := List.mem_iff_getElem.1 ht
      rw [List.length_take] at hi
      rw [List.getElem_take] at he
      have := (List.pairwise_iff_getElem.1 hnd) i k (by simp; omega) (by simp; omega) (by omega)
      simp only [List.getElem_map] at this
      exact this he
    rw [hn]
    simp
  · rw [if_neg h]
    simp [Ne.symm h]
theorem whr_get {L : List It} (hnd : (L.map It.id).Nodup) {t : It} (ht : t ∈ L) : whr L L.length t.id = some t.box.val := by
  unfold whr
  rw [List.take_length]
  cases hf : L.find? (fun u => decide (u.id = t.id)) with
  | none =>
    rw [List.find?_eq_none] at hf
    exact absurd (decide_eq_true rfl) (hf t ht)
  | some u =>
    have hu := List.mem_of_find?_eq_some hf
    have he : u.id = t.id := by simpa using List.find?_some (p := fun u : It => decide (u.id = t.id)) hf
    obtain ⟨i, hi, rfl⟩ := List.mem_iff_getElem.1 ht
    obtain ⟨j, hj, rfl⟩ := List.mem_iff_getElem.1 hu
    have : i = j := by
      rcases Nat.lt_trichotomy i j with h | h | h
      · have := (List.pairwise_iff_getElem.1 hnd) i j (by simpa using hi) (by simpa using hj) h
        simp only [List.getElem_map] at this
        exact absurd he.symm this
      · exact h
      · have := (List.pairwise_iff_getElem.1 hnd) j i (by simpa using hj) (by simpa using hi) h
        simp only [List.getElem_map] at this
        exact absurd he this
    subst this
    rfl
/-- two answers in blocks of their own -/
def TwoAt (w0 : World) (x1 x2 : Ans) (u v : Value) (wc : World) : Prop := ∃ p1 p2, u = .pointer (some ⟨p1, 0, none⟩) ∧ v = .pointer (some ⟨p2, 0, none⟩) ∧ w0.heap.size ≤ p1 ∧ w0.heap.size ≤ p2 ∧ Blk wc p1 39 x1.cells ∧ Blk wc p2 39 x2.cells ∧ Stab.Keeps w0 wc
/-- what the questions are answered with -/
structure Plays (L : List It) (qs : List Ask) (n m : Nat) (tr : Option RT) (xs : List Ans) (aL : Option Addr) (cL : Nat) (w : World) : Prop where
  perm : (itemsO tr).Perm L
  full : ∀ t, tr = some t → t.full
  len : xs.length = m
  ans : ∀ i (h : i < xs.length) (q : Ask), qs[i]? = some q → TAns n tr (qof q.box) q xs[i].ids xs[i].r
  ok : ∀ x ∈ xs, x.ok w
  sl : Sl w aL m cL 10 (xs.flatMap Ans.cells)
theorem Plays.keep {L : List It} {qs : List Ask} {n m : Nat} {tr : Option RT} {xs : List Ans} {aL : Option Addr} {cL : Nat} {w w' : World} (h : Plays L qs n m tr xs aL cL w) (hk : Stab.Keeps w w') : Plays L qs n m tr xs aL cL w' :=
  ⟨h.perm, h.full, h.len, h.ans, fun x hx => (h.ok x hx).keep hk, h.sl.keep hk⟩
def PlaysPost (L : List It) (qs : List Ask) (n m : Nat) (w : World) (e : Ending) (w' : World) : Prop := Stab.Keeps w w' ∧ ∃ tr xs aL cL, e = .returned (.tuple #[.slice aL m cL, .bool true]) ∧ Plays L qs n m tr xs aL cL w'
theorem plays_ (st : Addr) (a : Option Addr) (n cap : Nat) (L : List It) (a2 : Option Addr) (m cap2 : Nat) (qs : List Ask) (w : World) (hl : L.length = n) (h : Sz w a n cap 5 (enc L)) (hm : qs.length = m) (h2 : Sz w a2 m cap2 7 (qs.flatMap Ask.cells)) (hS : StopE st w) (hg : GoodL L) (hq : GoodQ n qs)
    (hgo : ∀ q ∈ qs, q.dO = 0 → ∀ (w : World) (lo p : Nat) (t : RT), NodeAt w lo p t → t.items.Perm L → q.stop ≤ 0 ∨ ¬ (q.how = 0 ∨ q.how = 1) ∨ ∃ l, t = .leaf l) :
    Calls Tryd.prog 8 #[.slice a n cap, .slice a2 m cap2] w (PlaysPost L qs n m w) := by
  refine (play_ a n cap L a2 m cap2 qs w (StopE st) (fun w w' hk hs => hs.below hk (Stab.cell_lt hs)) hS hl (by have := hg.1; omega) h hm (by have := hq.1; omega) h2 (fun tr i ids r => ∀ q, qs[i]? = some q → TAns n tr (qof q.box) q ids r) ?_).mono ?_
  · intro tr hperm i hi p lo w' hs hT
    have hga := hq.2 _ (List.getElem_mem hi)
    obtain ⟨yq, hy, hyo⟩ := boxB_spec hga.box
    have hyq := qof_eq hy
    refine (tell_ st lo p n tr yq qs[i] w' hT (fun j hj => hg.2.1 j (hperm.mem_iff.1 hj)) (by rw [hperm.length_eq]; have := hg.1; omega) hy hyo hs hga.d0 hga.d4 (fun hd t ht => ?_)).mono ?_
    · subst ht
      obtain ⟨_, r, _, hN⟩ := hT
      exact hgo _ (List.getElem_mem hi) hd w' lo r t hN hperm
    · rintro e w2 ⟨ids, r, hA, ht⟩
      refine ⟨ids, r, fun q hq => ?_, ht⟩
      rw [List.getElem?_eq_getElem hi, Option.some.injEq] at hq
      subst hq
      rw [hyq]
      exact hA
  · rintro e w' ⟨tr, hperm, hfull, aL, cL, xs, rfl, hxl, hRs, hok, hSl, hk⟩
    exact ⟨hk, tr, xs, aL, cL, rfl, hperm, hfull, hxl, hRs, hok, hSl⟩
set_option maxRecDepth 100000 in
set_option maxHeartbeats 8000000 in
theorem order_ (st : Addr) (a : Option Addr) (n cap : Nat) (L : List It) (by_ : Int) (a2 : Option Addr) (m cap2 : Nat) (qs : List Ask) (w : World) (hl : L.length = n) (h : Sz w a n cap 5 (enc L)) (hid : ∀ t ∈ L, (Lit.int .i64 t.id).wf = true)
    (hm : qs.length = m) (h2 : Sz w a2 m cap2 7 (qs.flatMap Ask.cells)) (hS : StopE st w) :
    Calls Tryd.prog 3 #[.slice a n cap, .int .i64 by_, .slice a2 m cap2] w (LawPost w) := by
  have hle := h.le
  have hmx := h.max
  have hle2 := h2.le
  have hmx2 := h2.max
  unfold maxLen at hmx hmx2
  by_cases c1 : (2147483647 : Int) < n
  · have d1 : decide ((n : Int) > 2147483647) = true := decide_eq_true c1
    go_enter Tryd.func3, Tryd.ntmps3
    go_wp2_with fail
    go_ret
    exact ⟨rfl, Stab.Keeps.refl w⟩
  have d1 : decide ((n : Int) > 2147483647) = false := decide_eq_false c1
  by_cases c2 : (2147483647 : Int) < m
  · have d2 : decide ((m : Int) > 2147483647) = true := decide_eq_true c2
    go_enter Tryd.func3, Tryd.ntmps3
    go_wp2_with fail
    go_ret
    exact ⟨rfl, Stab.Keeps.refl w⟩
  have d2 : decide ((m : Int) > 2147483647) = false := decide_eq_false c2
  have hki := kItems_ a n cap L w hl h hid
  have hka := fun w' (hk : Stab.Keeps w w') => kAsked_ a2 m cap2 n qs w' hm (h2.keep hk)
  have HL := Lib.hid hl
  have HM := Lib.hid hm
  clear hl hm
  go_enter Tryd.func3, Tryd.ntmps3
  go_wp2_with fail
  refine hki.mono ?_
  clear hki
  rintro e w2 ⟨t, rfl, hgood, hk2⟩
  cases t with
  | false =>
    go_wp2_with fail
    go_ret
    exact ⟨rfl, hk2⟩
  | true =>
    replace hgood := hgood rfl
    go_wp2_with fail
    refine (hka w2 hk2).mono ?_
    clear hka
    rintro e w3 ⟨t, rfl, hgq, hk3⟩
    have hk := Stab.Keeps.trans hk2 hk3
    clear hk2 hk3
    cases t with
    | false =>
      go_wp2_with fail
      go_ret
      exact ⟨rfl, hk⟩
    | true =>
      replace hgq := hgq rfl
      by_cases c3 : by_ < 0
      · have d3 : decide (by_ < 0) = true := decide_eq_true c3
        go_wp2_with fail
        go_ret
        exact ⟨rfl, hk⟩
      have d3 : decide (by_ < 0) = false := decide_eq_false c3
      by_cases c4 : (n : Int) < by_
      · have d4 : decide (by_ > (n : Int)) = true := decide_eq_true c4
        go_wp2_with fail
        go_ret
        exact ⟨rfl, hk⟩
      have d4 : decide (by_ > (n : Int)) = false := decide_eq_false c4
      obtain ⟨b, rfl⟩ : ∃ b : Nat, by_ = b := ⟨by_.toNat, by omega⟩
      have hbn : b ≤ n := by omega
      have hn400 : n ≤ 400 := by have := hgood.1; have := HL.out; omega
      have hm60 : m ≤ 60 := by have := hgq.1; have := HM.out; omega
      clear c1 c2 c3 c4 d1 d2
      go_wp2_with fail
      go_loopw [57] (fun iv wr => ∃ k : Nat, k ≤ m ∧ iv = .int .i64 k ∧ Stab.Keeps w wr ∧ ∀ q ∈ qs.take k, q.stop ≤ 0) (fun iv _ => m - (intOf iv).toNat)
      case atStart => exact ⟨0, by omega, rfl, hk, fun t ht => by simp at ht⟩
      case round =>
        clear hk
        obtain ⟨k, k2, rfl, hk, hns⟩ := hrel
        by_cases hlt : k < m
        · obtain ⟨g, off, ha, hb, hc⟩ := (h2.keep hk).elem hlt
          subst ha
          have hkq : k < qs.length := by have := HM.out; omega
          have eg := fun j hj => flat_get Ask.cells 7 Ask.cells_len qs k j hkq hj
          have e0 : wr.cell? ⟨g, off + k * 7, none⟩ = some (.int .i64 qs[k].dO) := hc 0 _ (by omega) (by rw [eg 0 (by omega)]; rfl)
          have e1 : wr.cell? ⟨g, off + k * 7 + 1, none⟩ = some (.float .f64 qs[k].box.a) := hc 1 _ (by omega) (by rw [eg 1 (by omega)]; rfl)
          have e2 : wr.cell? ⟨g, off + k * 7 + 2, none⟩ = some (.float .f64 qs[k].box.b) := hc 2 _ (by omega) (by rw [eg 2 (by omega)]; rfl)
          have e3 : wr.cell? ⟨g, off + k * 7 + 3, none⟩ = some (.float .f64 qs[k].box.c) := hc 3 _ (by omega) (by rw [eg 3 (by omega)]; rfl)
          have e4 : wr.cell? ⟨g, off + k * 7 + 4, none⟩ = some (.float .f64 qs[k].box.d) := hc 4 _ (by omega) (by rw [eg 4 (by omega)]; rfl)
          have e5 : wr.cell? ⟨g, off + k * 7 + 5, none⟩ = some (.int .i64 qs[k].stop) := hc 5 _ (by omega) (by rw [eg 5 (by omega)]; rfl)
          have e6 : wr.cell? ⟨g, off + k * 7 + 6, none⟩ = some (.int .i64 qs[k].how) := hc 6 _ (by omega) (by rw [eg 6 (by omega)]; rfl)
          have HC := Lib.hid (List.take_succ_eq_append_getElem hkq)
          clear eg hc
          generalize qs[k] = q at *
          by_cases hs : 0 < q.stop
          · have d5 : decide (q.stop > 0) = true := decide_eq_true hs
            go_wp2_with fail
            go_ret
            refine ⟨rfl, ?_⟩
            repeat (first | (with_reducible exact Stab.Keeps.refl _) | (with_reducible assumption) | (with_reducible refine Stab.Keeps.alloc ?_ _) | (with_reducible refine Stab.Keeps.drew ?_) | (with_reducible refine Stab.Keeps.drewN ?_ _) | ((with_reducible refine Stab.Keeps.setCell ?_ ?_ _); focus (first | (simp; done) | (simp; omega))) | (with_reducible refine Stab.Keeps.trans ?_ (by with_reducible assumption)))
          · have d5 : decide (q.stop > 0) = false := decide_eq_false hs
            have hns' : ∀ q ∈ qs.take (k + 1), q.stop ≤ 0 := fun u hu => by
              rw [HC.out] at hu
              rcases List.mem_append.1 hu with hu | hu
              · exact hns u hu
              · simp at hu; subst hu; omega
            clear hns HC
            go_wp2_with fail
            go_roundw
            case rel => exact ⟨k + 1, by omega, by go_num, by repeat (first | (with_reducible exact Stab.Keeps.refl _) | (with_reducible assumption) | (with_reducible refine Stab.Keeps.alloc ?_ _) | (with_reducible refine Stab.Keeps.drew ?_) | (with_reducible refine Stab.Keeps.drewN ?_ _) | ((with_reducible refine Stab.Keeps.setCell ?_ ?_ _); focus (first | (simp; done) | (simp; omega))) | (with_reducible refine Stab.Keeps.trans ?_ (by with_reducible assumption))), hns'⟩
            case measure => simp [intOf]; omega
        · obtain rfl : m = k := by omega
          rw [List.take_of_length_le (by rw [HM.out]; exact Nat.le_refl _)] at hns
          have hsl := fun w => run_from (P := Tryd.prog) w 22 32 a n cap 5 b Tryd.underlying22 (sizeItem w) hbn
          have hz := ((h.keep hk).drop b hbn)
          rw [enc_drop] at hz
          generalize (if cap = b then a else a.map (·.add (b * 5))) = A' at *
          obtain ⟨i0, hi, hz0, hz1, hz2⟩ := info_parts infoItem
          go_wp2_with (at_builtin; (refine append_sz (w0 := w) rfl _ _ 22 rfl w.heap.size 32 i0 _ 5 40 Tryd.underlying22 hi hz0 hz1 hz2 rfl (by decide) _ 0 [] rfl (World.ownsRow_nil _ _ _ _) A' (n - b) (cap - b) _ rfl hz (enc_one _) (by unfold maxLen; omega) (by omega) hk.size hk ?_))
          intro al c' w5 hown hk5 hsz5 hgr
          have hz3 : Below w.heap.size w w5 := hk5
          rw [← oth_start L b] at hown
          have w1 : IntKind.i64.wrap ((b : Int) - 1) = (b : Int) - 1 := IntWalk.i64_in _ (by omega)
          have HI := Lib.hid hi
          have HZ0 := Lib.hid hz0
          have HZ1 := Lib.hid hz1
          have HZ2 := Lib.hid hz2
          have HNS := Lib.hid hns
          clear hi hz0 hz1 hz2 hz hsl hgr hk5 hk hns
          go_wp2_with fail
          clear w1
          go_loopw [9, 10] (fun ov iv wr => ∃ (j : Nat) (al : Option Addr) (c : Nat), j ≤ b ∧ iv = .int .i64 ((j : Int) - 1) ∧ ov = .slice al (n - j) c ∧ wr.ownsRow w.heap.size 32 5 (.slice al (n - j) c) (n - j) (enc (oth L b j)) ∧ Stab.Keeps w wr) (fun _ iv _ => (intOf iv + 1).toNat)
          case atStart => exact ⟨b, al, c', Nat.le_refl _, rfl, rfl, hown, hz3⟩
          case round =>
            clear hown hz3
            obtain ⟨j, al, c, hjb, rfl, rfl, hown, hk⟩ := hrel
            by_cases hlt : 0 < j
            · obtain ⟨i, rfl⟩ : ∃ i, j = i + 1 := ⟨j - 1, by omega⟩
              obtain ⟨g, off, ha, hb, hc⟩ := (h.keep hk).elem (i := i) (by omega)
              subst ha
              have hiL : i < L.length := by have := HL.out; omega
              have eg := fun j hj => enc_get L i j hiL hj
              have e0 : wr.cell? ⟨g, off + i * 5, none⟩ = some (.float .f64 L[i].box.a) := hc 0 _ (by omega) (by rw [eg 0 (by omega)]; rfl)
              have e1 : wr.cell? ⟨g, off + i * 5 + 1, none⟩ = some (.float .f64 L[i].box.b) := hc 1 _ (by omega) (by rw [eg 1 (by omega)]; rfl)
              have e2 : wr.cell? ⟨g, off + i * 5 + 2, none⟩ = some (.float .f64 L[i].box.c) := hc 2 _ (by omega) (by rw [eg 2 (by omega)]; rfl)
              have e3 : wr.cell? ⟨g, off + i * 5 + 3, none⟩ = some (.float .f64 L[i].box.d) := hc 3 _ (by omega) (by rw [eg 3 (by omega)]; rfl)
              have e4 : wr.cell? ⟨g, off + i * 5 + 4, none⟩ = some (.int .i64 L[i].id) := hc 4 _ (by omega) (by rw [eg 4 (by omega)]; rfl)
              have HO := Lib.hid (oth_step L b i (by omega) (by have := HL.out; omega))
              clear eg hc
              generalize L[i] = t at *
              have hown1 := hown.alloc (.cells #[.float .f64 t.box.a, .float .f64 t.box.b, .float .f64 t.box.c, .float .f64 t.box.d, .int .i64 t.id] 32)
              have x1 : (((i + 1 : Nat) : Int) - 1) = (i : Int) := by omega
              rw [x1]
              clear x1
              go_wp2_with (at_builtin; (refine Sl.append_own (w0 := w) rfl _ _ 22 rfl w.heap.size 32 i0 _ 5 40 Tryd.underlying22 HI.out HZ0.out HZ1.out HZ2.out rfl (by decide) _ (n - (i + 1)) _ rfl hown1 ⟨wr.heap.size, 0, none⟩ 1 1 [.float .f64 t.box.a, .float .f64 t.box.b, .float .f64 t.box.c, .float .f64 t.box.d, .int .i64 t.id] rfl rfl ?c1 ?c2 ?c3 ?c4 ?c5 ?c6 ?_))
              case c1 => exact new_cells _ _ _ _ (by simp)
              case c2 => intro u hu; simp at hu; rcases hu with rfl | rfl | rfl | rfl | rfl <;> rfl
              case c3 => unfold maxLen; omega
              case c4 => omega
              case c5 => have := hk.size; simp; omega
              case c6 => exact Below.alloc hk hk.size _
              intro al' c' w5 hown' hk5 hsz5 hgr
              have hnn : n - (i + 1) + 1 = n - i := by omega
              rw [hnn] at hown' ⊢
              have hown5 : w5.ownsRow w.heap.size 32 5 (.slice al' (n - i) c') (n - i) (enc (oth L b i)) := by
                rw [HO.out]
                have e : enc (oth L b (i + 1) ++ [t]) = enc (oth L b (i + 1)) ++ [.float .f64 t.box.a, .float .f64 t.box.b, .float .f64 t.box.c, .float .f64 t.box.d, .int .i64 t.id] := by simp [enc, It.cells]
                rw [e]
                exact hown'
              clear hown' hown1 hown hgr hnn e0 e1 e2 e3 e4
              go_wp2_with fail
              go_roundw
              case rel => exact ⟨i, al', c', by omega, by go_num, rfl, hown5, hk5⟩
              case measure => simp only [intOf]; omega
            · have hj0 : j = 0 := by omega
              subst hj0
              have hOp := oth_perm L b
              have hSz : Sz wr al n c 5 (enc (oth L b 0)) := by
                obtain ⟨al2, cc, he, hs, _, _⟩ := of_owns hown
                cases he
                exact hs.toSz
              have hSr : StopE st wr := hS.below hk (Stab.cell_lt hS)
              have hgo : ∀ q ∈ qs, q.dO = 0 → ∀ (w : World) (lo p : Nat) (t : RT), NodeAt w lo p t → t.items.Perm L → q.stop ≤ 0 ∨ ¬ (q.how = 0 ∨ q.how = 1) ∨ ∃ l, t = .leaf l := fun q hq _ _ _ _ _ _ _ => .inl (HNS.out q hq)
              have hgo2 : ∀ q ∈ qs, q.dO = 0 → ∀ (w : World) (lo p : Nat) (t : RT), NodeAt w lo p t → t.items.Perm (oth L b 0) → q.stop ≤ 0 ∨ ¬ (q.how = 0 ∨ q.how = 1) ∨ ∃ l, t = .leaf l := fun q hq _ _ _ _ _ _ _ => .inl (HNS.out q hq)
              have hg2 : GoodL (oth L b 0) := ⟨by rw [hOp.length_eq]; exact hgood.1, fun t ht => hgood.2.1 t (hOp.mem_iff.1 ht), ((hOp.map It.id).nodup_iff).2 hgood.2.2⟩
              have hol : (oth L b 0).length = n - 0 := by rw [hOp.length_eq, HL.out]; rfl
              have hP1 := plays_ st a n cap L a2 m cap2 qs wr HL.out (h.keep hk) HM.out (h2.keep hk) hSr hgood hgq hgo
              have hP2 := fun w' (hk' : Stab.Keeps wr w') => plays_ st al n c (oth L b 0) a2 m cap2 qs w' hol (hSz.keep hk') HM.out ((h2.keep hk).keep hk') (hSr.below hk' (Stab.cell_lt hSr)) hg2 hgq hgo2
              simp only [Nat.sub_zero]
              clear hgo hgo2 hol hown hSz
              go_wp2_with fail
              refine hP1.mono ?_
              clear hP1
              rintro e w5 ⟨hk5, tr1, xs1, aL1, cL1, rfl, hp1⟩
              go_wp2_with fail
              refine (hP2 _ hk5).mono ?_
              clear hP2
              rintro e w6 ⟨hk6, tr2, xs2, aL2, cL2, rfl, hp2⟩
              replace hp1 := hp1.keep hk6
              have hkf := Stab.Keeps.trans hk (Stab.Keeps.trans hk5 hk6)
              clear hk5 hk6 hSr hk hg2
              have hp2' : Plays L qs n m tr2 xs2 aL2 cL2 w6 := ⟨hp2.perm.trans hOp, hp2.full, hp2.len, hp2.ans, hp2.ok, hp2.sl⟩
              clear hp2 hOp
              have hmm : ∀ w : World, (Instr.makeMap 36 none).run Tryd.prog w = .ok (.map (some w.heap.size)) (w.alloc (.map #[] 0)) := fun w => run_makeMap 36 w
              go_wp2_with fail
              have hM0 := MI.made (P := Tryd.prog) (k := 3) w6
              rw [← whr_zero L] at hM0
              have hk60 : Stab.Keeps w6 (w6.alloc (.map #[] 0)) := by repeat (first | (with_reducible exact Stab.Keeps.refl _) | (with_reducible assumption) | (with_reducible refine Stab.Keeps.alloc ?_ _) | (with_reducible refine Stab.Keeps.drew ?_) | (with_reducible refine Stab.Keeps.drewN ?_ _) | ((with_reducible refine Stab.Keeps.setCell ?_ ?_ _); focus (first | (simp; done) | (simp; omega))) | (with_reducible refine Stab.Keeps.trans ?_ (by with_reducible assumption)))
              generalize w6.alloc (.map #[] 0) = W at hM0 hk60 ⊢
              clear hmm
              go_loopw [118] (fun iv wr => ∃ k : Nat, k ≤ n ∧ iv = .int .i64 k ∧ Stab.Keeps w6 wr ∧ MI Tryd.prog 3 wr w6.heap.size k (whr L k)) (fun iv _ => n - (intOf iv).toNat)
              case atStart => exact ⟨0, by omega, rfl, hk60, hM0⟩
              case round =>
                clear hM0 hk60
                obtain ⟨k, k2, rfl, hk6, hM⟩ := hrel
                by_cases hlt : k < n
                · obtain ⟨g, off, ha, hb, hc⟩ := (h.keep (Stab.Keeps.trans hkf hk6)).elem hlt
                  subst ha
                  have hkL : k < L.length := by have := HL.out; omega
                  have eg := fun j hj => enc_get L k j hkL hj
                  have e0 : wr.cell? ⟨g, off + k * 5, none⟩ = some (.float .f64 L[k].box.a) := hc 0 _ (by omega) (by rw [eg 0 (by omega)]; rfl)
                  have e1 : wr.cell? ⟨g, off + k * 5 + 1, none⟩ = some (.float .f64 L[k].box.b) := hc 1 _ (by omega) (by rw [eg 1 (by omega)]; rfl)
                  have e2 : wr.cell? ⟨g, off + k * 5 + 2, none⟩ = some (.float .f64 L[k].box.c) := hc 2 _ (by omega) (by rw [eg 2 (by omega)]; rfl)
                  have e3 : wr.cell? ⟨g, off + k * 5 + 3, none⟩ = some (.float .f64 L[k].box.d) := hc 3 _ (by omega) (by rw [eg 3 (by omega)]; rfl)
                  have e4 : wr.cell? ⟨g, off + k * 5 + 4, none⟩ = some (.int .i64 L[k].id) := hc 4 _ (by omega) (by rw [eg 4 (by omega)]; rfl)
                  have HW := Lib.hid (whr_step hgood.2.2 hkL)
                  have hwf := hid L[k] (List.getElem_mem _)
                  clear eg hc
                  generalize L[k] = t at *
                  have hMl := hM.lt
                  have hM1 := hM.keep (w' := wr.alloc (.cells #[.float .f64 t.box.a, .float .f64 t.box.b, .float .f64 t.box.c, .float .f64 t.box.d, .int .i64 t.id] 32)) (by show Stab.Keeps _ _; repeat (first | (with_reducible exact Stab.Keeps.refl _) | (with_reducible assumption) | (with_reducible refine Stab.Keeps.alloc ?_ _) | (with_reducible refine Stab.Keeps.drew ?_) | (with_reducible refine Stab.Keeps.drewN ?_ _) | ((with_reducible refine Stab.Keeps.setCell ?_ ?_ _); focus (first | (simp; done) | (simp; omega))) | (with_reducible refine Stab.Keeps.trans ?_ (by with_reducible assumption))))
                  go_wp2_with ((with_reducible_and_instances refine MI.put rfl _ _ _ 36 rfl Tryd.underlying36 Tryd.underlying3 rfl hM1 ?c1 t.id hwf rfl (.agg #[.float .f64 t.box.a, .float .f64 t.box.b, .float .f64 t.box.c, .float .f64 t.box.d]) rfl ?_))
                  case c1 => unfold maxLen; omega
                  intro w3 hM3 hg3
                  have hM4 : MI Tryd.prog 3 w3 w6.heap.size (k + 1) (whr L (k + 1)) := by rw [← HW.out]; exact hM3
                  have hk3 : Stab.Keeps w6 w3 := by
                    have h1 : Stab.Keeps w6 (wr.alloc (.cells #[.float .f64 t.box.a, .float .f64 t.box.b, .float .f64 t.box.c, .float .f64 t.box.d, .int .i64 t.id] 32)) := by repeat (first | (with_reducible exact Stab.Keeps.refl _) | (with_reducible assumption) | (with_reducible refine Stab.Keeps.alloc ?_ _) | (with_reducible refine Stab.Keeps.drew ?_) | (with_reducible refine Stab.Keeps.drewN ?_ _) | ((with_reducible refine Stab.Keeps.setCell ?_ ?_ _); focus (first | (simp; done) | (simp; omega))) | (with_reducible refine Stab.Keeps.trans ?_ (by with_reducible assumption)))
                    exact Below.grown h1 hg3 h1.size (fun g hg => by cases hg; exact Nat.le_refl _)
                  clear hM3 hM1 hM hg3
                  go_wp2_with fail
                  go_roundw
                  case rel => exact ⟨k + 1, by omega, by go_num, hk3, hM4⟩
                  case measure => simp [intOf]; omega
                · obtain rfl : n = k := by omega
                  have hMw := hM
                  clear hM
                  go_wp2_with fail
                  go_loopg [130] m (fun gk iv wr2 => ∃ k : Nat, k ≤ m ∧ gk = m - k ∧ iv = .int .i64 k ∧ Stab.Keeps w6 wr2 ∧ MI Tryd.prog 3 wr2 w6.heap.size n (whr L n))
                  case atStart => exact ⟨0, by omega, rfl, rfl, hk6, hMw⟩
                  case round =>
                    clear hMw hk6
                    obtain ⟨k, k2, hgk, rfl, hk6, hMw⟩ := hrel
                    have HGK := Lib.hid hgk
                    clear hgk
                    by_cases hlt : k < m
                    · obtain ⟨g, off, ha, hb, hc⟩ := ((h2.keep hkf).keep hk6).elem hlt
                      subst ha
                      have hkq : k < qs.length := by have := HM.out; omega
                      have eg := fun j hj => flat_get Ask.cells 7 Ask.cells_len qs k j hkq hj
                      have e0 : wr.cell? ⟨g, off + k * 7, none⟩ = some (.int .i64 qs[k].dO) := hc 0 _ (by omega) (by rw [eg 0 (by omega)]; rfl)
                      have e1 : wr.cell? ⟨g, off + k * 7 + 1, none⟩ = some (.float .f64 qs[k].box.a) := hc 1 _ (by omega) (by rw [eg 1 (by omega)]; rfl)
                      have e2 : wr.cell? ⟨g, off + k * 7 + 2, none⟩ = some (.float .f64 qs[k].box.b) := hc 2 _ (by omega) (by rw [eg 2 (by omega)]; rfl)
                      have e3 : wr.cell? ⟨g, off + k * 7 + 3, none⟩ = some (.float .f64 qs[k].box.c) := hc 3 _ (by omega) (by rw [eg 3 (by omega)]; rfl)
                      have e4 : wr.cell? ⟨g, off + k * 7 + 4, none⟩ = some (.float .f64 qs[k].box.d) := hc 4 _ (by omega) (by rw [eg 4 (by omega)]; rfl)
                      have e5 : wr.cell? ⟨g, off + k * 7 + 5, none⟩ = some (.int .i64 qs[k].stop) := hc 5 _ (by omega) (by rw [eg 5 (by omega)]; rfl)
                      have e6 : wr.cell? ⟨g, off + k * 7 + 6, none⟩ = some (.int .i64 qs[k].how) := hc 6 _ (by omega) (by rw [eg 6 (by omega)]; rfl)
                      go_upto_region 30 with (fail)
                      have hkq2 : Stab.Keeps wr (wr.alloc (.cells #[.int .i64 qs[k].dO, .float .f64 qs[k].box.a, .float .f64 qs[k].box.b, .float .f64 qs[k].box.c, .float .f64 qs[k].box.d, .int .i64 qs[k].stop, .int .i64 qs[k].how] 30)) := by repeat (first | (with_reducible exact Stab.Keeps.refl _) | (with_reducible assumption) | (with_reducible refine Stab.Keeps.alloc ?_ _) | (with_reducible refine Stab.Keeps.drew ?_) | (with_reducible refine Stab.Keeps.drewN ?_ _) | ((with_reducible refine Stab.Keeps.setCell ?_ ?_ _); focus (first | (simp; done) | (simp; omega))) | (with_reducible refine Stab.Keeps.trans ?_ (by with_reducible assumption)))
                      have hBq : Blk (wr.alloc (.cells #[.int .i64 qs[k].dO, .float .f64 qs[k].box.a, .float .f64 qs[k].box.b, .float .f64 qs[k].box.c, .float .f64 qs[k].box.d, .int .i64 qs[k].stop, .int .i64 qs[k].how] 30)) wr.heap.size 30 qs[k].cells := Blk.new wr qs[k].cells _ _ rfl
                      generalize wr.alloc (.cells #[.int .i64 qs[k].dO, .float .f64 qs[k].box.a, .float .f64 qs[k].box.b, .float .f64 qs[k].box.c, .float .f64 qs[k].box.d, .int .i64 qs[k].stop, .int .i64 qs[k].how] 30) = W2 at hkq2 hBq ⊢
                      have hM2 := hMw.keep hkq2
                      have hk62 := Stab.Keeps.trans hk6 hkq2
                      have hsame : Same L (qof qs[k].box) qs[k] (xs1[k]'(by rw [hp1.len]; exact hlt)).ids (xs1[k]'(by rw [hp1.len]; exact hlt)).r (xs2[k]'(by rw [hp2'.len]; exact hlt)).ids (xs2[k]'(by rw [hp2'.len]; exact hlt)).r := by
                        obtain ⟨yq, hy, _⟩ := boxB_spec (hgq.2 _ (List.getElem_mem hkq)).box
                        rw [qof_eq hy]
                        have a1 := hp1.ans k (by rw [hp1.len]; exact hlt) qs[k] (List.getElem?_eq_getElem hkq)
                        have a2 := hp2'.ans k (by rw [hp2'.len]; exact hlt) qs[k] (List.getElem?_eq_getElem hkq)
                        rw [qof_eq hy] at a1 a2
                        exact same_of hgood hp1.perm hp2'.perm hp1.full hp2'.full (HNS.out _ (List.getElem_mem hkq)) hy a1 a2
                      have hboxg := (hgq.2 _ (List.getElem_mem hkq)).box
                      have hok1 : (xs1[k]'(by rw [hp1.len]; exact hlt)).ok W2 := (hp1.ok _ (List.getElem_mem _)).keep hk62
                      have hok2 : (xs2[k]'(by rw [hp2'.len]; exact hlt)).ok W2 := (hp2'.ok _ (List.getElem_mem _)).keep hk62
                      obtain ⟨ab, ao, aha, hab, ac⟩ := (hp1.sl.keep hk62).elem hlt
                      obtain ⟨bb, bo, bha, hbb, bc⟩ := (hp2'.sl.keep hk62).elem hlt
                      have ag := fun j hj => flat_get Ans.cells 10 Ans.cells_len xs1 k j (by rw [hp1.len]; exact hlt) hj
                      have bg := fun j hj => flat_get Ans.cells 10 Ans.cells_len xs2 k j (by rw [hp2'.len]; exact hlt) hj
                      have a0 : W2.cell? ⟨ab, ao + k * 10, none⟩ = some (.slice (xs1[k]'(by rw [hp1.len]; exact hlt)).a (xs1[k]'(by rw [hp1.len]; exact hlt)).ids.length (xs1[k]'(by rw [hp1.len]; exact hlt)).cap) := ac 0 _ (by omega) (by rw [ag 0 (by omega)]; rfl)
                      have a1 : W2.cell? ⟨ab, ao + k * 10 + 1, none⟩ = some (.bool (xs1[k]'(by rw [hp1.len]; exact hlt)).r.err) := ac 1 _ (by omega) (by rw [ag 1 (by omega)]; rfl)
                      have a2 : W2.cell? ⟨ab, ao + k * 10 + 2, none⟩ = some (.bool (xs1[k]'(by rw [hp1.len]; exact hlt)).r.own) := ac 2 _ (by omega) (by rw [ag 2 (by omega)]; rfl)
                      have a3 : W2.cell? ⟨ab, ao + k * 10 + 3, none⟩ = some (.bool (xs1[k]'(by rw [hp1.len]; exact hlt)).r.found) := ac 3 _ (by omega) (by rw [ag 3 (by omega)]; rfl)
                      have a4 : W2.cell? ⟨ab, ao + k * 10 + 4, none⟩ = some (.int .i64 (xs1[k]'(by rw [hp1.len]; exact hlt)).r.id) := ac 4 _ (by omega) (by rw [ag 4 (by omega)]; rfl)
                      have a5 : W2.cell? ⟨ab, ao + k * 10 + 5, none⟩ = some (.float .f64 (xs1[k]'(by rw [hp1.len]; exact hlt)).r.box.a) := ac 5 _ (by omega) (by rw [ag 5 (by omega)]; rfl)
                      have a6 : W2.cell? ⟨ab, ao + k * 10 + 6, none⟩ = some (.float .f64 (xs1[k]'(by rw [hp1.len]; exact hlt)).r.box.b) := ac 6 _ (by omega) (by rw [ag 6 (by omega)]; rfl)
                      have a7 : W2.cell? ⟨ab, ao + k * 10 + 7, none⟩ = some (.float .f64 (xs1[k]'(by rw [hp1.len]; exact hlt)).r.box.c) := ac 7 _ (by omega) (by rw [ag 7 (by omega)]; rfl)
                      have a8 : W2.cell? ⟨ab, ao + k * 10 + 8, none⟩ = some (.float .f64 (xs1[k]'(by rw [hp1.len]; exact hlt)).r.box.d) := ac 8 _ (by omega) (by rw [ag 8 (by omega)]; rfl)
                      have a9 : W2.cell? ⟨ab, ao + k * 10 + 9, none⟩ = some (.int .i64 (xs1[k]'(by rw [hp1.len]; exact hlt)).r.count) := ac 9 _ (by omega) (by rw [ag 9 (by omega)]; rfl)
                      have b0 : W2.cell? ⟨bb, bo + k * 10, none⟩ = some (.slice (xs2[k]'(by rw [hp2'.len]; exact hlt)).a (xs2[k]'(by rw [hp2'.len]; exact hlt)).ids.length (xs2[k]'(by rw [hp2'.len]; exact hlt)).cap) := bc 0 _ (by omega) (by rw [bg 0 (by omega)]; rfl)
                      have b1 : W2.cell? ⟨bb, bo + k * 10 + 1, none⟩ = some (.bool (xs2[k]'(by rw [hp2'.len]; exact hlt)).r.err) := bc 1 _ (by omega) (by rw [bg 1 (by omega)]; rfl)
                      have b2 : W2.cell? ⟨bb, bo + k * 10 + 2, none⟩ = some (.bool (xs2[k]'(by rw [hp2'.len]; exact hlt)).r.own) := bc 2 _ (by omega) (by rw [bg 2 (by omega)]; rfl)
                      have b3 : W2.cell? ⟨bb, bo + k * 10 + 3, none⟩ = some (.bool (xs2[k]'(by rw [hp2'.len]; exact hlt)).r.found) := bc 3 _ (by omega) (by rw [bg 3 (by omega)]; rfl)
                      have b4 : W2.cell? ⟨bb, bo + k * 10 + 4, none⟩ = some (.int .i64 (xs2[k]'(by rw [hp2'.len]; exact hlt)).r.id) := bc 4 _ (by omega) (by rw [bg 4 (by omega)]; rfl)
                      have b5 : W2.cell? ⟨bb, bo + k * 10 + 5, none⟩ = some (.float .f64 (xs2[k]'(by rw [hp2'.len]; exact hlt)).r.box.a) := bc 5 _ (by omega) (by rw [bg 5 (by omega)]; rfl)
                      have b6 : W2.cell? ⟨bb, bo + k * 10 + 6, none⟩ = some (.float .f64 (xs2[k]'(by rw [hp2'.len]; exact hlt)).r.box.b) := bc 6 _ (by omega) (by rw [bg 6 (by omega)]; rfl)
                      have b7 : W2.cell? ⟨bb, bo + k * 10 + 7, none⟩ = some (.float .f64 (xs2[k]'(by rw [hp2'.len]; exact hlt)).r.box.c) := bc 7 _ (by omega) (by rw [bg 7 (by omega)]; rfl)
                      have b8 : W2.cell? ⟨bb, bo + k * 10 + 8, none⟩ = some (.float .f64 (xs2[k]'(by rw [hp2'.len]; exact hlt)).r.box.d) := bc 8 _ (by omega) (by rw [bg 8 (by omega)]; rfl)
                      have b9 : W2.cell? ⟨bb, bo + k * 10 + 9, none⟩ = some (.int .i64 (xs2[k]'(by rw [hp2'.len]; exact hlt)).r.count) := bc 9 _ (by omega) (by rw [bg 9 (by omega)]; rfl)
                      generalize (xs1[k]'(by rw [hp1.len]; exact hlt)) = x1 at *
                      generalize (xs2[k]'(by rw [hp2'.len]; exact hlt)) = x2 at *
                      generalize qs[k] = q at *
                      subst aha
                      subst bha
                      clear ag ac bg bc eg hc e0 e1 e2 e3 e4 e5 e6
                      have hbl2 : bb < W2.heap.size := hbb
                      have hal2 : ab < W2.heap.size := hab
                      go_cut [20, 21] from 135 to 142 (fun u v wc => TwoAt W2 x1 x2 u v wc)
                      case first =>
                        clear hMw hM2 hsame hok1 hok2 hBq hk62 hk6 hkf h h2 hgood hgq hp1 hp2' hid
                        go_region
                        all_goals
                          go_wp2_with fail
                          go_meet
                          case rel =>
                            first
                            | exact ⟨W2.heap.size, W2.heap.size + 1, rfl, rfl, by omega, by omega, ((Blk.new W2 x1.cells _ _ rfl).alloc _).drew, (Blk.new _ x2.cells _ _ (by simp)).drew, by repeat (first | (with_reducible exact Stab.Keeps.refl _) | (with_reducible assumption) | (with_reducible refine Stab.Keeps.alloc ?_ _) | (with_reducible refine Stab.Keeps.drew ?_) | (with_reducible refine Stab.Keeps.drewN ?_ _) | ((with_reducible refine Stab.Keeps.setCell ?_ ?_ _); focus (first | (simp; done) | (simp; omega))) | (with_reducible refine Stab.Keeps.trans ?_ (by with_reducible assumption)))⟩
                            | exact ⟨W2.heap.size + 1, W2.heap.size, rfl, rfl, by omega, by omega, (Blk.new _ x1.cells _ _ (by simp)).drew, ((Blk.new W2 x2.cells _ _ rfl).alloc _).drew, by repeat (first | (with_reducible exact Stab.Keeps.refl _) | (with_reducible assumption) | (with_reducible refine Stab.Keeps.alloc ?_ _) | (with_reducible refine Stab.Keeps.drew ?_) | (with_reducible refine Stab.Keeps.drewN ?_ _) | ((with_reducible refine Stab.Keeps.setCell ?_ ?_ _); focus (first | (simp; done) | (simp; omega))) | (with_reducible refine Stab.Keeps.trans ?_ (by with_reducible assumption)))⟩
                      case rest =>
                        obtain ⟨w3, rfl⟩ : ∃ w3 : World, w3 = wc := ⟨_, rfl⟩
                        obtain ⟨p1, p2, rfl, rfl, hp1l, hp2l, hB1, hB2, hk3⟩ := hcut
                        have hM3 := hM2.keep hk3
                        have hBq3 := hBq.keep hk3
                        have ho1 := hok1.keep hk3
                        have ho2 := hok2.keep hk3
                        have hk63 := Stab.Keeps.trans hk62 hk3
                        clear hM2 hBq hok1 hok2 hMw a0 a1 a2 a3 a4 a5 a6 a7 a8 a9 b0 b1 b2 b3 b4 b5 b6 b7 b8 b9 hbl2 hal2 hab hbb hk6 hkq2 hk3 hk62
                        obtain ⟨xa1, xc1, ids1, ⟨er1, ow1, fo1, id1, bx1, ct1⟩⟩ := x1
                        obtain ⟨xa2, xc2, ids2, ⟨er2, ow2, fo2, id2, bx2, ct2⟩⟩ := x2
                        obtain ⟨sperm, ssub, slen, sfo, sct, se1, se2, sbx, snear, sprio⟩ := hsame
                        simp only at sperm ssub slen sfo sct se1 se2 sbx snear sprio
                        subst sfo sct se1 se2
                        obtain ⟨qd, qb, qstp, qhw⟩ := q
                        simp only at snear sprio hboxg
                        have bxn : ∀ w : World, (binOp .neq 28 (.agg #[.float .f64 bx1.a, .float .f64 bx1.b, .float .f64 bx1.c, .float .f64 bx1.d]) (.agg #[.float .f64 bx2.a, .float .f64 bx2.b, .float .f64 bx2.c, .float .f64 bx2.d])).run Tryd.prog w = .ok (.bool false) w := fun w => by
                          have := box_neq bx1 bx2 w
                          rw [sbx.1, sbx.2.1, sbx.2.2.1, sbx.2.2.2] at this
                          exact this
                        have bxg := boxGuard
                        have nl : ((ids1.length : Int) != ids2.length) = false := by rw [sperm.length_eq]; simp
                        have u0 := hB1.cell (i := 0) rfl
                        have u1 := hB1.cell (i := 1) rfl
                        have u3 := hB1.cell (i := 3) rfl
                        have u4 := hB1.cell (i := 4) rfl
                        have u5 := hB1.cell (i := 5) rfl
                        have u6_ := hB1.cell (i := 6) rfl
                        have u7 := hB1.cell (i := 7) rfl
                        have u8_ := hB1.cell (i := 8) rfl
                        have u9 := hB1.cell (i := 9) rfl
                        have v0 := hB2.cell (i := 0) rfl
                        have v1 := hB2.cell (i := 1) rfl
                        have v3 := hB2.cell (i := 3) rfl
                        have v4 := hB2.cell (i := 4) rfl
                        have v5 := hB2.cell (i := 5) rfl
                        have v6 := hB2.cell (i := 6) rfl
                        have v7 := hB2.cell (i := 7) rfl
                        have v8 := hB2.cell (i := 8) rfl
                        have v9 := hB2.cell (i := 9) rfl
                        have y0 := hBq3.cell (i := 0) rfl
                        have y1 := hBq3.cell (i := 1) rfl
                        have y2 := hBq3.cell (i := 2) rfl
                        have y3 := hBq3.cell (i := 3) rfl
                        have y4 := hBq3.cell (i := 4) rfl
                        have lp1 := hB1.lt
                        have lp2 := hB2.lt
                        have lq := hBq3.lt
                        have HSP := Lib.hid sperm
                        have HSN := Lib.hid snear
                        have HSR := Lib.hid sprio
                        have HSB := Lib.hid ssub
                        clear sperm snear sprio ssub sbx
                        go_upto_region 33 with (fail)
                        have hlook : ∀ s ∈ L, ∀ w' : World, Stab.Keeps w3 w' → (Instr.lookup 36 (.map (some w6.heap.size)) (.int .i64 s.id) false).run Tryd.prog w' = .ok s.box.val w' := fun s hs w' hk' => by
                          have h1 := (hM3.keep hk').look Tryd.underlying36 Tryd.underlying3 (zeroBoxV w') s.id (hid s hs)
                          have h2 := whr_get hgood.2.2 hs
                          rw [HL.out] at h2
                          rw [h1, h2]
                          rfl
                        have hfar : ∀ s ∈ L, ∀ w' : World, Calls Tryd.prog 9 #[s.box.val, qb.val] w' (One w' (.int .i64 (far1 (qof qb) s))) := fun s hs w' => by
                          obtain ⟨p, hp, hpk⟩ := boxB_spec (hgood.2.1 s hs)
                          obtain ⟨yq, hy, hyk⟩ := boxB_spec hboxg
                          have := kFar_ s.box qb p yq hp hy hpk hyk w'
                          unfold far1
                          rw [qof_eq hp, qof_eq hy]
                          exact this
                        go_cut [202] from 179 to 202 (fun v wc => v = .bool false ∧ Stab.Keeps w3 wc)
                        case first =>
                          clear u0 u1 u5 u6_ u7 u8_ u9 v0 v1 v3 v5 v6 v7 v8 v9 nl bxn bxg ho1 ho2 hp1 hp2'
                          by_cases e2 : qd = 2
                          · have g2 : (qd == 2) = true := by simpa using e2
                            cases fo1 with
                            | false =>
                              clear hlook hfar e2
                              refine Stab.keep_region (fun _ _ _ => True) (fun _ => false) (fun k => k == 14 || k == 21) Stab.pre_none (by kernel_rfl) (by kernel_rfl) fun hcx => ?_
                              (with_reducible refine Stab.quiet ?_ ?_ ?_ ?_); rfl; rfl; rfl; intro K hK; go_big_quiet_op; refine hK _ ?_; clear hK K
                              (with_reducible refine Stab.quiet ?_ ?_ ?_ ?_); rfl; rfl; rfl; intro K hK; go_big_quiet_op; refine hK _ ?_; clear hK K
                              (with_reducible refine Stab.quiet ?_ ?_ ?_ ?_); rfl; rfl; rfl; intro K hK; go_big_quiet_op; refine hK _ ?_; clear hK K
                              (with_reducible refine Stab.quiet ?_ ?_ ?_ ?_); rfl; rfl; rfl; intro K hK; go_big_quiet_op; refine hK _ ?_; clear hK K
                              (with_reducible refine Stab.quiet ?_ ?_ ?_ ?_); rfl; rfl; rfl; intro K hK; go_big_quiet_op; refine hK _ ?_; clear hK K
                              (with_reducible refine Stab.quiet ?_ ?_ ?_ ?_); rfl; rfl; rfl; intro K hK; go_big_quiet_op; refine hK _ ?_; clear hK K
                              (with_reducible refine Stab.quiet ?_ ?_ ?_ ?_); rfl; rfl; rfl; intro K hK; go_big_quiet_op; refine hK _ ?_; clear hK K
                              (with_reducible refine Stab.quiet ?_ ?_ ?_ ?_); rfl; rfl; rfl; intro K hK; go_big_quiet_op; refine hK _ ?_; clear hK K
                              (with_reducible refine Stab.skip ?_ ?_); rfl; intro K hK; go_simp; refine hK _ ?_; clear hK K
                              (with_reducible refine Stab.skip ?_ ?_); rfl; intro K hK; go_simp; refine hK _ ?_; clear hK K
                              (with_reducible refine Stab.skip ?_ ?_); rfl; intro K hK; go_simp; refine hK _ ?_; clear hK K
                              (with_reducible refine Stab.skip ?_ ?_); rfl; intro K hK; go_simp; refine hK _ ?_; clear hK K
                              (with_reducible refine Stab.skip ?_ ?_); rfl; intro K hK; go_simp; refine hK _ ?_; clear hK K
                              (with_reducible refine Stab.skip ?_ ?_); rfl; intro K hK; go_simp; refine hK _ ?_; clear hK K
                              (with_reducible refine Stab.skip ?_ ?_); rfl; intro K hK; go_simp; refine hK _ ?_; clear hK K
                              (with_reducible refine Stab.skip ?_ ?_); rfl; intro K hK; go_simp; refine hK _ ?_; clear hK K
                              (with_reducible refine Stab.skip ?_ ?_); rfl; intro K hK; go_simp; refine hK _ ?_; clear hK K
                              (with_reducible refine Stab.skip ?_ ?_); rfl; intro K hK; go_simp; refine hK _ ?_; clear hK K
                              (with_reducible refine Stab.skip ?_ ?_); rfl; intro K hK; go_simp; refine hK _ ?_; clear hK K
                              (with_reducible refine Stab.skip ?_ ?_); rfl; intro K hK; go_simp; refine hK _ ?_; clear hK K
                              (with_reducible refine Stab.skip ?_ ?_); rfl; intro K hK; go_simp; refine hK _ ?_; clear hK K
                              (with_reducible refine Stab.skip ?_ ?_); rfl; intro K hK; go_simp; refine hK _ ?_; clear hK K
                              (with_reducible refine Stab.skip ?_ ?_); rfl; intro K hK; go_simp; refine hK _ ?_; clear hK K
                              (with_reducible refine Stab.quiet ?_ ?_ ?_ ?_); rfl; rfl; rfl; intro K hK; go_big_quiet_op; refine hK _ ?_; clear hK K
                              refine Stab.nil fun w' hw' _ => ?_
                              clear hcx
                              go_wp2_with fail
                              go_meet
                              case rel => exact ⟨rfl, hw'⟩
                            | true =>
                              obtain ⟨s1, m1, s2, m2, n1, n2, hfe⟩ := HSN.out e2 rfl
                              have l1 := fun (x : Stab.Ext Stab.Keeps w3) => hlook s1 m1 x.w x.h
                              have l2 := fun (x : Stab.Ext Stab.Keeps w3) => hlook s2 m2 x.w x.h
                              have f1 := hfar s1 m1
                              have f2 := hfar s2 m2
                              rw [n1] at l1
                              rw [n2] at l2
                              rw [← hfe] at f2
                              clear hlook hfar e2 n1 n2 hfe
                              simp only [B4.val] at l1 l2 f1 f2
                              refine Stab.keep_region (fun _ _ _ => True) (fun _ => false) (fun k => k == 14 || k == 21) Stab.pre_none (by kernel_rfl) (by kernel_rfl) fun hcx => ?_
                              (with_reducible refine Stab.quiet ?_ ?_ ?_ ?_); rfl; rfl; rfl; intro K hK; go_big_quiet_op; refine hK _ ?_; clear hK K
                              (with_reducible refine Stab.quiet ?_ ?_ ?_ ?_); rfl; rfl; rfl; intro K hK; go_big_quiet_op; refine hK _ ?_; clear hK K
                              (with_reducible refine Stab.quiet ?_ ?_ ?_ ?_); rfl; rfl; rfl; intro K hK; go_big_quiet_op; refine hK _ ?_; clear hK K
                              (with_reducible refine Stab.quiet ?_ ?_ ?_ ?_); rfl; rfl; rfl; intro K hK; go_big_quiet_op; refine hK _ ?_; clear hK K
                              (with_reducible refine Stab.quiet ?_ ?_ ?_ ?_); rfl; rfl; rfl; intro K hK; go_big_quiet_op; refine hK _ ?_; clear hK K
                              (with_reducible refine Stab.quiet ?_ ?_ ?_ ?_); rfl; rfl; rfl; intro K hK; go_big_quiet_op; refine hK _ ?_; clear hK K
                              (with_reducible refine Stab.quiet ?_ ?_ ?_ ?_); rfl; rfl; rfl; intro K hK; go_big_quiet_op; refine hK _ ?_; clear hK K
                              (with_reducible refine Stab.quiet ?_ ?_ ?_ ?_); rfl; rfl; rfl; intro K hK; go_big_quiet_op; refine hK _ ?_; clear hK K
                              (with_reducible refine Stab.quiet ?_ ?_ ?_ ?_); rfl; rfl; rfl; intro K hK; go_big_quiet_op; refine hK _ ?_; clear hK K
                              (with_reducible refine Stab.quiet ?_ ?_ ?_ ?_); rfl; rfl; rfl; intro K hK; go_big_quiet_op; refine hK _ ?_; clear hK K
                              (with_reducible refine Stab.quiet ?_ ?_ ?_ ?_); rfl; rfl; rfl; intro K hK; go_big_quiet_op; refine hK _ ?_; clear hK K
                              (with_reducible refine Stab.quiet ?_ ?_ ?_ ?_); rfl; rfl; rfl; intro K hK; go_big_quiet_op; refine hK _ ?_; clear hK K
                              (with_reducible refine Stab.quiet ?_ ?_ ?_ ?_); rfl; rfl; rfl; intro K hK; go_big_quiet_op; refine hK _ ?_; clear hK K
                              (with_reducible refine Stab.quiet ?_ ?_ ?_ ?_); rfl; rfl; rfl; intro K hK; go_big_quiet_op; refine hK _ ?_; clear hK K
                              (with_reducible refine Stab.one ?_ ?_ ?_ ?_); rfl; rfl; rfl
                              apply Exists.intro
                              refine ⟨fun w1 hw1 => ?_, fun K hK => ?_⟩
                              · go_simp
                                go_at_call 9; exact f1 _
                              go_simp
                              refine hK _ ?_
                              clear hK K
                              (with_reducible refine Stab.quiet ?_ ?_ ?_ ?_); rfl; rfl; rfl; intro K hK; go_big_quiet_op; refine hK _ ?_; clear hK K
                              (with_reducible refine Stab.quiet ?_ ?_ ?_ ?_); rfl; rfl; rfl; intro K hK; go_big_quiet_op; refine hK _ ?_; clear hK K
                              (with_reducible refine Stab.quiet ?_ ?_ ?_ ?_); rfl; rfl; rfl; intro K hK; go_big_quiet_op; refine hK _ ?_; clear hK K
                              (with_reducible refine Stab.quiet ?_ ?_ ?_ ?_); rfl; rfl; rfl; intro K hK; go_big_quiet_op; refine hK _ ?_; clear hK K
                              (with_reducible refine Stab.quiet ?_ ?_ ?_ ?_); rfl; rfl; rfl; intro K hK; go_big_quiet_op; refine hK _ ?_; clear hK K
                              (with_reducible refine Stab.quiet ?_ ?_ ?_ ?_); rfl; rfl; rfl; intro K hK; go_big_quiet_op; refine hK _ ?_; clear hK K
                              (with_reducible refine Stab.one ?_ ?_ ?_ ?_); rfl; rfl; rfl
                              apply Exists.intro
                              refine ⟨fun w1 hw1 => ?_, fun K hK => ?_⟩
                              · go_simp
                                go_at_call 9; exact f2 _
                              go_simp
                              refine hK _ ?_
                              clear hK K
                              (with_reducible refine Stab.quiet ?_ ?_ ?_ ?_); rfl; rfl; rfl; intro K hK; go_big_quiet_op; refine hK _ ?_; clear hK K
                              (with_reducible refine Stab.quiet ?_ ?_ ?_ ?_); rfl; rfl; rfl; intro K hK; go_big_quiet_op; refine hK _ ?_; clear hK K
                              refine Stab.nil fun w' hw' _ => ?_
                              clear hcx
                              go_wp2_with fail
                              go_meet
                              case rel => exact ⟨rfl, hw'⟩
                          · have g2 : (qd == 2) = false := by simpa using e2
                            clear hlook hfar e2
                            refine Stab.keep_region (fun _ _ _ => True) (fun _ => false) (fun k => k == 14 || k == 21) Stab.pre_none (by kernel_rfl) (by kernel_rfl) fun hcx => ?_
                            (with_reducible refine Stab.quiet ?_ ?_ ?_ ?_); rfl; rfl; rfl; intro K hK; go_big_quiet_op; refine hK _ ?_; clear hK K
                            (with_reducible refine Stab.quiet ?_ ?_ ?_ ?_); rfl; rfl; rfl; intro K hK; go_big_quiet_op; refine hK _ ?_; clear hK K
                            (with_reducible refine Stab.quiet ?_ ?_ ?_ ?_); rfl; rfl; rfl; intro K hK; go_big_quiet_op; refine hK _ ?_; clear hK K
                            (with_reducible refine Stab.quiet ?_ ?_ ?_ ?_); rfl; rfl; rfl; intro K hK; go_big_quiet_op; refine hK _ ?_; clear hK K
                            (with_reducible refine Stab.skip ?_ ?_); rfl; intro K hK; go_simp; refine hK _ ?_; clear hK K
                            (with_reducible refine Stab.skip ?_ ?_); rfl; intro K hK; go_simp; refine hK _ ?_; clear hK K
                            (with_reducible refine Stab.quiet ?_ ?_ ?_ ?_); rfl; rfl; rfl; intro K hK; go_big_quiet_op; refine hK _ ?_; clear hK K
                            (with_reducible refine Stab.quiet ?_ ?_ ?_ ?_); rfl; rfl; rfl; intro K hK; go_big_quiet_op; refine hK _ ?_; clear hK K
                            (with_reducible refine Stab.skip ?_ ?_); rfl; intro K hK; go_simp; refine hK _ ?_; clear hK K
                            (with_reducible refine Stab.skip ?_ ?_); rfl; intro K hK; go_simp; refine hK _ ?_; clear hK K
                            (with_reducible refine Stab.skip ?_ ?_); rfl; intro K hK; go_simp; refine hK _ ?_; clear hK K
                            (with_reducible refine Stab.skip ?_ ?_); rfl; intro K hK; go_simp; refine hK _ ?_; clear hK K
                            (with_reducible refine Stab.skip ?_ ?_); rfl; intro K hK; go_simp; refine hK _ ?_; clear hK K
                            (with_reducible refine Stab.skip ?_ ?_); rfl; intro K hK; go_simp; refine hK _ ?_; clear hK K
                            (with_reducible refine Stab.skip ?_ ?_); rfl; intro K hK; go_simp; refine hK _ ?_; clear hK K
                            (with_reducible refine Stab.skip ?_ ?_); rfl; intro K hK; go_simp; refine hK _ ?_; clear hK K
                            (with_reducible refine Stab.skip ?_ ?_); rfl; intro K hK; go_simp; refine hK _ ?_; clear hK K
                            (with_reducible refine Stab.skip ?_ ?_); rfl; intro K hK; go_simp; refine hK _ ?_; clear hK K
                            (with_reducible refine Stab.skip ?_ ?_); rfl; intro K hK; go_simp; refine hK _ ?_; clear hK K
                            (with_reducible refine Stab.skip ?_ ?_); rfl; intro K hK; go_simp; refine hK _ ?_; clear hK K
                            (with_reducible refine Stab.skip ?_ ?_); rfl; intro K hK; go_simp; refine hK _ ?_; clear hK K
                            (with_reducible refine Stab.skip ?_ ?_); rfl; intro K hK; go_simp; refine hK _ ?_; clear hK K
                            (with_reducible refine Stab.skip ?_ ?_); rfl; intro K hK; go_simp; refine hK _ ?_; clear hK K
                            (with_reducible refine Stab.quiet ?_ ?_ ?_ ?_); rfl; rfl; rfl; intro K hK; go_big_quiet_op; refine hK _ ?_; clear hK K
                            refine Stab.nil fun w' hw' _ => ?_
                            clear hcx
                            go_wp2_with fail
                            go_meet
                            case rel => exact ⟨rfl, hw'⟩
                        case rest =>
                          obtain ⟨w4, rfl⟩ : ∃ w4 : World, w4 = wc := ⟨_, rfl⟩
                          obtain ⟨rfl, hk4⟩ := hcut
                          have hM4 := hM3.keep hk4
                          have hB14 := hB1.keep hk4
                          have hB24 := hB2.keep hk4
                          have hBq4 := hBq3.keep hk4
                          have ho14 := ho1.keep hk4
                          have ho24 := ho2.keep hk4
                          have hk64 := Stab.Keeps.trans hk63 hk4
                          have hlook4 : ∀ s ∈ L, ∀ w' : World, Stab.Keeps w4 w' → (Instr.lookup 36 (.map (some w6.heap.size)) (.int .i64 s.id) false).run Tryd.prog w' = .ok s.box.val w' := fun s hs w' hk' => hlook s hs w' (Stab.Keeps.trans hk4 hk')
                          have HLK := Lib.hid hlook4
                          have HFA := Lib.hid hfar
                          clear hM3 hB1 hB2 hBq3 ho1 ho2 hk63 hlook hlook4 hfar u0 u1 u3 u4 u5 u6_ u7 u8_ u9 v0 v1 v3 v4 v5 v6 v7 v8 v9 y0 y1 y2 y3 y4 lp1 lp2 lq nl bxn bxg hk4
                          have hmm : ∀ w : World, (Instr.makeMap 41 none).run Tryd.prog w = .ok (.map (some w.heap.size)) (w.alloc (.map #[] 0)) := fun w => run_makeMap 41 w
                          have u0 := hB14.cell (i := 0) rfl
                          have lp1 := hB14.lt
                          have hlen12 : ids1.length = ids2.length := HSP.out.length_eq
                          have HLE := Lib.hid hlen12
                          clear hlen12
                          go_upto_region 36 with (fail)
                          have hMo := MI.made (P := Tryd.prog) (k := 3) w4
                          rw [← cI_nil] at hMo
                          have hk45 : Stab.Keeps w4 (w4.alloc (.map #[] 0)) := by repeat (first | (with_reducible exact Stab.Keeps.refl _) | (with_reducible assumption) | (with_reducible refine Stab.Keeps.alloc ?_ _) | (with_reducible refine Stab.Keeps.drew ?_) | (with_reducible refine Stab.Keeps.drewN ?_ _) | ((with_reducible refine Stab.Keeps.setCell ?_ ?_ _); focus (first | (simp; done) | (simp; omega))) | (with_reducible refine Stab.Keeps.trans ?_ (by with_reducible assumption)))
                          generalize w4.alloc (.map #[] 0) = W5 at hMo hk45 ⊢
                          clear hmm u0 lp1
                          have u0 := (hB14.keep hk45).cell (i := 0) rfl
                          have lp1 := (hB14.keep hk45).lt
                          go_wp2_with fail
                          obtain ⟨wo, rfl⟩ : ∃ wo : World, wo = wr := ⟨_, rfl⟩
                          go_loopg [207] ids1.length (fun gj iv wr5 => ∃ j : Nat, j ≤ ids1.length ∧ gj = ids1.length - j ∧ iv = .int .i64 j ∧ Stab.Keeps w4 wr5 ∧ MI Tryd.prog 3 wr5 w4.heap.size (2 * j) (cI (ids1.take j) (ids2.take j)))
                          case atStart => exact ⟨0, by omega, rfl, rfl, hk45, by simpa using hMo⟩
                          case round =>
                            clear hMo hk45 u0 lp1
                            obtain ⟨j, j2, hgj, rfl, hk5, hMo⟩ := hrel
                            have HGJ := Lib.hid hgj
                            clear hgj
                            by_cases hjl : j < ids1.length
                            · have hjl2 : j < ids2.length := by have := HLE.out; omega
                              obtain ⟨g1, hx1, hg1, hc1⟩ := ok_cells ho14 (by show 0 < ids1.length; omega)
                              obtain ⟨g2, hx2, hg2, hc2⟩ := ok_cells ho24 (by show 0 < ids2.length; omega)
                              simp only at hx1 hx2
                              subst hx1
                              subst hx2
                              have d1 : w4.cell? ⟨g1, j, none⟩ = some (.int .i64 ids1[j]) := hc1 j hjl
                              have d2 : w4.cell? ⟨g2, j, none⟩ = some (.int .i64 ids2[j]) := hc2 j hjl2
                              have HT1 := Lib.hid (List.take_succ_eq_append_getElem hjl)
                              have HT2 := Lib.hid (List.take_succ_eq_append_getElem hjl2)
                              have m1 : ids1[j] ∈ ids1 := List.getElem_mem _
                              have m2 : ids2[j] ∈ ids1 := HSP.out.mem_iff.2 (List.getElem_mem _)
                              obtain ⟨z1, hz1, hz1e⟩ := HSB.out _ m1
                              obtain ⟨z2, hz2, hz2e⟩ := HSB.out _ m2
                              have wf1 := hid z1 hz1
                              have wf2 := hid z2 hz2
                              rw [hz1e] at wf1
                              rw [hz2e] at wf2
                              have HPR := Lib.hid (fun h => HSR.out h j hjl hjl2)
                              have k1a := List.count_le_length (a := ids1[j]) (l := ids1.take j)
                              have k1b := List.count_le_length (a := ids1[j]) (l := ids2.take j)
                              have k2a := List.count_le_length (a := ids2[j]) (l := ids1.take (j + 1))
                              have k2b := List.count_le_length (a := ids2[j]) (l := ids2.take j)
                              rw [List.length_take] at k1a k1b k2a k2b
                              have gl1 := cI_get (ids1.take j) (ids2.take j) ids1[j]
                              have HI1 := Lib.hid (cI_inc (ids1.take j) (ids2.take j) ids1[j])
                              have gl2 := cI_get (ids1.take (j + 1)) (ids2.take j) ids2[j]
                              have HI2 := Lib.hid (cI_dec (ids1.take (j + 1)) (ids2.take j) ids2[j])
                              have hn400' : ids1.length ≤ 400 := by have := hgood.1; omega
                              generalize hi1 : ids1[j] = i1 at *
                              generalize hi2 : ids2[j] = i2 at *
                              have HE1 := Lib.hid hi1
                              have HE2 := Lib.hid hi2
                              clear hi1 hi2 hc1 hc2 m1 m2 hz1e hz2e
                              have e1 : wr.cell? ⟨g1, j, none⟩ = some (.int .i64 i1) := by rw [(Stab.own_cell hk5 g1 hg1).1]; exact d1
                              have eg1 : g1 < wr.heap.size := Nat.lt_of_lt_of_le hg1 hk5.size
                              have hlk1 := hMo.look Tryd.underlying41 Tryd.underlying3 (zeroIntV wr) i1 wf1
                              rw [gl1] at hlk1
                              generalize hc1 : ((ids1.take j).count i1 : Int) - (ids2.take j).count i1 = c1 at *
                              have b1 : -401 ≤ c1 ∧ c1 ≤ 401 := by omega
                              have q1 : IntKind.i64.wrap (c1 + 1) = c1 + 1 := IntWalk.i64_in _ (by omega)
                              clear hc1 gl1 k1a k1b
                              generalize hc2 : ((ids1.take (j + 1)).count i2 : Int) - (ids2.take j).count i2 = c2 at *
                              have b2 : -402 ≤ c2 ∧ c2 ≤ 402 := by omega
                              clear hc2 k2a k2b
                              go_wp2_with ((with_reducible_and_instances refine MI.put rfl _ _ _ 41 rfl Tryd.underlying41 Tryd.underlying3 rfl hMo ?c1 i1 wf1 rfl (.int .i64 (c1 + 1)) rfl ?_))
                              case c1 => unfold maxLen; omega
                              intro w6' hMo1 hgr1
                              have hk6' : Stab.Keeps w4 w6' := Below.grown hk5 hgr1 hk5.size (fun g hg => by cases hg; exact Nat.le_refl _)
                              rw [HT1.out, ← HI1.out] at gl2
                              rw [HT1.out, ← HI1.out] at HI2
                              have hlk2 := hMo1.look Tryd.underlying41 Tryd.underlying3 (zeroIntV w6') i2 wf2
                              rw [gl2] at hlk2
                              have q2 : IntKind.i64.wrap (c2 - 1) = c2 - 1 := IntWalk.i64_in _ (by omega)
                              have v0 := (hB24.keep hk6').cell (i := 0) rfl
                              have lp2 := (hB24.keep hk6').lt
                              have e2 : w6'.cell? ⟨g2, j, none⟩ = some (.int .i64 i2) := by rw [(Stab.own_cell hk6' g2 hg2).1]; exact d2
                              have eg2 : g2 < w6'.heap.size := Nat.lt_of_lt_of_le hg2 hk6'.size
                              clear hlk1 q1 b1 gl2 e1 eg1 hMo hgr1 hk5
                              go_wp2_with ((with_reducible_and_instances refine MI.put rfl _ _ _ 41 rfl Tryd.underlying41 Tryd.underlying3 rfl hMo1 ?c1 i2 wf2 rfl (.int .i64 (c2 - 1)) rfl ?_))
                              case c1 => unfold maxLen; omega
                              intro w7 hMo2 hgr2
                              have hk7 : Stab.Keeps w4 w7 := Below.grown hk6' hgr2 hk6'.size (fun g hg => by cases hg; exact Nat.le_refl _)
                              have hMo3 : MI Tryd.prog 3 w7 w4.heap.size (2 * (j + 1)) (cI (ids1.take (j + 1)) (ids2.take (j + 1))) := by
                                have h1 := HT1.out
                                have h2 := HT2.out
                                have h3 := HI2.out
                                rw [HI1.out] at h3 hMo2
                                rw [h1, h2, ← h3]
                                exact hMo2
                              clear hlk2 q2 b2 v0 lp2 e2 eg2 hMo1 hgr2 hMo2 hk6' HI1 HI2 HT1 HT2
                              go_wp2_with fail
                              have hB17 := hB14.keep hk7
                              have hB27 := hB24.keep hk7
                              have hBq7 := hBq4.keep hk7
                              have v0 := hB27.cell (i := 0) rfl
                              have lp2 := hB27.lt
                              have y0 := hBq7.cell (i := 0) rfl
                              have y1 := hBq7.cell (i := 1) rfl
                              have y2 := hBq7.cell (i := 2) rfl
                              have y3 := hBq7.cell (i := 3) rfl
                              have y4 := hBq7.cell (i := 4) rfl
                              have lq := hBq7.lt
                              have e2 : w7.cell? ⟨g2, j, none⟩ = some (.int .i64 i2) := by rw [(Stab.own_cell hk7 g2 hg2).1]; exact d2
                              have eg2 : g2 < w7.heap.size := Nat.lt_of_lt_of_le hg2 hk7.size
                              have o1 : (0 : Int) ≤ (j : Int) := by omega
                              have o2 : (j : Int) < (ids2.length : Int) := by omega
                              have o3 : ((j : Int)).toNat = j := by omega
                              go_upto_region 41 with (fail)
                              go_cut [245] from 224 to 245 (fun v wc => v = .bool false ∧ Stab.Keeps w7 wc)
                              case first =>
                                clear hB17 hB27 hBq7 d1 d2 hMo3
                                by_cases e1 : qd = 1
                                · have g2' : (qd == 1) = true := by simpa using e1
                                  obtain ⟨s1, m1, s2, m2, n1, n2, hfe⟩ := HPR.out e1
                                  have l1 := fun (x : Stab.Ext Stab.Keeps w7) => HLK.out s1 m1 x.w (Stab.Keeps.trans hk7 x.h)
                                  have l2 := fun (x : Stab.Ext Stab.Keeps w7) => HLK.out s2 m2 x.w (Stab.Keeps.trans hk7 x.h)
                                  have f1 := HFA.out s1 m1
                                  have f2 := HFA.out s2 m2
                                  rw [n1] at l1
                                  rw [n2] at l2
                                  rw [← hfe] at f2
                                  clear e1 n1 n2 hfe
                                  simp only [B4.val] at l1 l2 f1 f2
                                  refine Stab.keep_region (fun _ _ _ => True) (fun _ => false) (fun k => k == 9 || k == 19) Stab.pre_none (by kernel_rfl) (by kernel_rfl) fun hcx => ?_
                                  (with_reducible refine Stab.quiet ?_ ?_ ?_ ?_); rfl; rfl; rfl; intro K hK; go_big_quiet_op; refine hK _ ?_; clear hK K
                                  (with_reducible refine Stab.quiet ?_ ?_ ?_ ?_); rfl; rfl; rfl; intro K hK; go_big_quiet_op; refine hK _ ?_; clear hK K
                                  (with_reducible refine Stab.quiet ?_ ?_ ?_ ?_); rfl; rfl; rfl; intro K hK; go_big_quiet_op; refine hK _ ?_; clear hK K
                                  (with_reducible refine Stab.quiet ?_ ?_ ?_ ?_); rfl; rfl; rfl; intro K hK; go_big_quiet_op; refine hK _ ?_; clear hK K
                                  (with_reducible refine Stab.quiet ?_ ?_ ?_ ?_); rfl; rfl; rfl; intro K hK; go_big_quiet_op; refine hK _ ?_; clear hK K
                                  (with_reducible refine Stab.quiet ?_ ?_ ?_ ?_); rfl; rfl; rfl; intro K hK; go_big_quiet_op; refine hK _ ?_; clear hK K
                                  (with_reducible refine Stab.quiet ?_ ?_ ?_ ?_); rfl; rfl; rfl; intro K hK; go_big_quiet_op; refine hK _ ?_; clear hK K
                                  (with_reducible refine Stab.quiet ?_ ?_ ?_ ?_); rfl; rfl; rfl; intro K hK; go_big_quiet_op; refine hK _ ?_; clear hK K
                                  (with_reducible refine Stab.quiet ?_ ?_ ?_ ?_); rfl; rfl; rfl; intro K hK; go_big_quiet_op; refine hK _ ?_; clear hK K
                                  (with_reducible refine Stab.one ?_ ?_ ?_ ?_); rfl; rfl; rfl
                                  apply Exists.intro
                                  refine ⟨fun w1 hw1 => ?_, fun K hK => ?_⟩
                                  · go_simp
                                    go_at_call 9; exact f1 _
                                  go_simp
                                  refine hK _ ?_
                                  clear hK K
                                  (with_reducible refine Stab.quiet ?_ ?_ ?_ ?_); rfl; rfl; rfl; intro K hK; go_big_quiet_op; refine hK _ ?_; clear hK K
                                  (with_reducible refine Stab.quiet ?_ ?_ ?_ ?_); rfl; rfl; rfl; intro K hK; go_big_quiet_op; refine hK _ ?_; clear hK K
                                  (with_reducible refine Stab.quiet ?_ ?_ ?_ ?_); rfl; rfl; rfl; intro K hK; go_big_quiet_op; refine hK _ ?_; clear hK K
                                  (with_reducible refine Stab.quiet ?_ ?_ ?_ ?_); rfl; rfl; rfl; intro K hK; go_big_quiet_op; refine hK _ ?_; clear hK K
                                  (with_reducible refine Stab.quiet ?_ ?_ ?_ ?_); rfl; rfl; rfl; intro K hK; go_big_quiet_op; refine hK _ ?_; clear hK K
                                  (with_reducible refine Stab.quiet ?_ ?_ ?_ ?_); rfl; rfl; rfl; intro K hK; go_big_quiet_op; refine hK _ ?_; clear hK K
                                  (with_reducible refine Stab.quiet ?_ ?_ ?_ ?_); rfl; rfl; rfl; intro K hK; go_big_quiet_op; refine hK _ ?_; clear hK K
                                  (with_reducible refine Stab.quiet ?_ ?_ ?_ ?_); rfl; rfl; rfl; intro K hK; go_big_quiet_op; refine hK _ ?_; clear hK K
                                  (with_reducible refine Stab.quiet ?_ ?_ ?_ ?_); rfl; rfl; rfl; intro K hK; go_big_quiet_op; refine hK _ ?_; clear hK K
                                  (with_reducible refine Stab.one ?_ ?_ ?_ ?_); rfl; rfl; rfl
                                  apply Exists.intro
                                  refine ⟨fun w1 hw1 => ?_, fun K hK => ?_⟩
                                  · go_simp
                                    go_at_call 9; exact f2 _
                                  go_simp
                                  refine hK _ ?_
                                  clear hK K
                                  (with_reducible refine Stab.quiet ?_ ?_ ?_ ?_); rfl; rfl; rfl; intro K hK; go_big_quiet_op; refine hK _ ?_; clear hK K
                                  (with_reducible refine Stab.quiet ?_ ?_ ?_ ?_); rfl; rfl; rfl; intro K hK; go_big_quiet_op; refine hK _ ?_; clear hK K
                                  refine Stab.nil fun w' hw' _ => ?_
                                  clear hcx
                                  go_wp2_with fail
                                  go_meet
                                  case rel => exact ⟨rfl, hw'⟩
                                · have g2' : (qd == 1) = false := by simpa using e1
                                  clear e1
                                  refine Stab.keep_region (fun _ _ _ => True) (fun _ => false) (fun k => k == 9 || k == 19) Stab.pre_none (by kernel_rfl) (by kernel_rfl) fun hcx => ?_
                                  (with_reducible refine Stab.quiet ?_ ?_ ?_ ?_); rfl; rfl; rfl; intro K hK; go_big_quiet_op; refine hK _ ?_; clear hK K
                                  (with_reducible refine Stab.quiet ?_ ?_ ?_ ?_); rfl; rfl; rfl; intro K hK; go_big_quiet_op; refine hK _ ?_; clear hK K
                                  (with_reducible refine Stab.quiet ?_ ?_ ?_ ?_); rfl; rfl; rfl; intro K hK; go_big_quiet_op; refine hK _ ?_; clear hK K
                                  (with_reducible refine Stab.quiet ?_ ?_ ?_ ?_); rfl; rfl; rfl; intro K hK; go_big_quiet_op; refine hK _ ?_; clear hK K
                                  (with_reducible refine Stab.skip ?_ ?_); rfl; intro K hK; go_simp; refine hK _ ?_; clear hK K
                                  (with_reducible refine Stab.skip ?_ ?_); rfl; intro K hK; go_simp; refine hK _ ?_; clear hK K
                                  (with_reducible refine Stab.skip ?_ ?_); rfl; intro K hK; go_simp; refine hK _ ?_; clear hK K
                                  (with_reducible refine Stab.skip ?_ ?_); rfl; intro K hK; go_simp; refine hK _ ?_; clear hK K
                                  (with_reducible refine Stab.skip ?_ ?_); rfl; intro K hK; go_simp; refine hK _ ?_; clear hK K
                                  (with_reducible refine Stab.skip ?_ ?_); rfl; intro K hK; go_simp; refine hK _ ?_; clear hK K
                                  (with_reducible refine Stab.skip ?_ ?_); rfl; intro K hK; go_simp; refine hK _ ?_; clear hK K
                                  (with_reducible refine Stab.skip ?_ ?_); rfl; intro K hK; go_simp; refine hK _ ?_; clear hK K
                                  (with_reducible refine Stab.skip ?_ ?_); rfl; intro K hK; go_simp; refine hK _ ?_; clear hK K
                                  (with_reducible refine Stab.skip ?_ ?_); rfl; intro K hK; go_simp; refine hK _ ?_; clear hK K
                                  (with_reducible refine Stab.skip ?_ ?_); rfl; intro K hK; go_simp; refine hK _ ?_; clear hK K
                                  (with_reducible refine Stab.skip ?_ ?_); rfl; intro K hK; go_simp; refine hK _ ?_; clear hK K
                                  (with_reducible refine Stab.skip ?_ ?_); rfl; intro K hK; go_simp; refine hK _ ?_; clear hK K
                                  (with_reducible refine Stab.skip ?_ ?_); rfl; intro K hK; go_simp; refine hK _ ?_; clear hK K
                                  (with_reducible refine Stab.skip ?_ ?_); rfl; intro K hK; go_simp; refine hK _ ?_; clear hK K
                                  (with_reducible refine Stab.skip ?_ ?_); rfl; intro K hK; go_simp; refine hK _ ?_; clear hK K
                                  (with_reducible refine Stab.skip ?_ ?_); rfl; intro K hK; go_simp; refine hK _ ?_; clear hK K
                                  (with_reducible refine Stab.quiet ?_ ?_ ?_ ?_); rfl; rfl; rfl; intro K hK; go_big_quiet_op; refine hK _ ?_; clear hK K
                                  refine Stab.nil fun w' hw' _ => ?_
                                  clear hcx
                                  go_wp2_with fail
                                  go_meet
                                  case rel => exact ⟨rfl, hw'⟩
                              case rest =>
                                obtain ⟨w8, rfl⟩ : ∃ w8 : World, w8 = wc := ⟨_, rfl⟩
                                obtain ⟨rfl, hk8⟩ := hcut
                                have hMo4 := hMo3.keep hk8
                                have hkf8 := Stab.Keeps.trans hk7 hk8
                                clear hMo3 hB17 hB27 hBq7 v0 lp2 y0 y1 y2 y3 y4 lq e2 eg2 d1 d2 hk7 hk8
                                go_wp2_with fail
                                go_roundg (ids1.length - (j + 1))
                                case measure => have := HGJ.out; omega
                                case rel => exact ⟨j + 1, by omega, rfl, by go_num, hkf8, hMo4⟩
                            · obtain rfl : j = ids1.length := by omega
                              have hMe : MI Tryd.prog 3 wr w4.heap.size (2 * ids1.length) (cI ids1 ids2) := by
                                have h1 : ids1.take ids1.length = ids1 := List.take_length
                                have h2 : ids2.take ids1.length = ids2 := by rw [HLE.out]; exact List.take_length
                                rw [h1, h2] at hMo
                                exact hMo
                              clear hMo
                              go_wp2_with (first | ((with_reducible_and_instances refine MI.range rfl _ 41 rfl Tryd.underlying41 Tryd.underlying3 rfl hMe ?_)) | fail)
                              intro w9 cnt hR hgr9 hsz9
                              have hk9 : Stab.Keeps w4 w9 := Below.grown hk5 hgr9 hk5.size (fun g hg => by cases hg)
                              have HPM := Lib.hid HSP.out
                              obtain ⟨wn, rfl⟩ : ∃ wn : World, wn = wr := ⟨_, rfl⟩
                              have hrl : w4.heap.size < wn.heap.size := hMe.lt
                              clear hMe hgr9 hsz9 hk5
                              go_wp2_with fail
                              go_loopg [] cnt (fun gc wr => ∃ left, MR Tryd.prog 3 wr w4.heap.size wn.heap.size (2 * ids1.length) gc (cI ids1 ids2) left ∧ Stab.Keeps w4 wr)
                              case atStart => exact ⟨_, hR, hk9⟩
                              case round =>
                                clear hR hk9
                                obtain ⟨left, hR, hk9⟩ := hrel
                                go_wp2_with (first | (at_next; refine MR.next rfl _ rfl Tryd.underlying3 rfl hR ?_ ?_) | fail)
                                · intro _
                                  have hkF := Stab.Keeps.trans hk64 hk9
                                  have hMF := hM4.keep hk9
                                  clear hR hk9
                                  go_wp2_with fail
                                  go_roundg (m - (k + 1))
                                  case measure => have := HGK.out; omega
                                  case rel => exact ⟨k + 1, by omega, rfl, by go_num, hkF, hMF⟩
                                · intro x v w10 cnt' hwx hlx hMx hR' hlt' hg10 hs10 hen
                                  have hv : v = .int .i64 0 := cI_perm HPM.out hMx
                                  subst hv
                                  have hk10 : Stab.Keeps w4 w10 := Below.grown hk9 hg10 hk9.size (fun g hg => by cases hg; omega)
                                  clear hR hk9 hg10 hs10 hMx
                                  go_wp2_with fail
                                  go_roundg cnt'
                                  case measure => exact hlt'
                                  case rel => exact ⟨_, hR', hk10⟩
                    · obtain rfl : m = k := by omega
                      go_wp2_with fail
                      go_ret
                      exact ⟨rfl, Stab.Keeps.trans hkf hk6⟩
end Go.Proofs.YtokofimfinhnbaaDoor
