/-
  FnFlatBack returns true at every input: the walk of the law. No condition.
-/
import Derived.Test.YtkpbapemeiigbaaRows7
import Derived.Test.YtkpbapemeiigbaaOpRows
import Derived.Test.YtkpbapemeiigbaaFwl
set_option linter.unusedVariables false
set_option linter.unusedSimpArgs false
namespace Go.Proofs.Ytkpbapemeiigbaa
open Go.RowKit Go.Fl Go.Sl
theorem fin_fi {n : Int} (h0 : -1048576 ≤ n) (h1 : n ≤ 1048576) : fin (fi n) = true := (Go.Fw.is_fi (by omega) (by omega)).fin
theorem eq_fin {c : Nat} (h : fin c = true) : eq c c = true := by
  obtain ⟨s, m, e, hd⟩ := fin_read h
  simp [eq, FloatKind.format, Ieee.Format.order, hd, Ieee.Datum.order]
theorem infoPt : (Try.prog.info? 28).map (fun i => (i.zero, i.size, i.bytes)) = some (some (.agg #[.int .i64 0, .int .i64 0]), 2, 16) := by kernel_rfl
theorem add_none (b off j : Nat) : ((⟨b, off, none⟩ : Addr).add j) = ⟨b, off + j, none⟩ := by
  simp only [Addr.add]
  by_cases hj : j = 0
  · subst hj; rfl
  · simp [hj]
/-- the way back -/
def back (l : List (Int × Int)) : List (Int × Int) := (l.take (l.length - 1)).reverse
theorem back_len (l : List (Int × Int)) : (back l).length = l.length - 1 := by simp [back]
theorem back_get (l : List (Int × Int)) (k : Nat) (h : k < l.length - 1) : (back l)[k]? = some (l[l.length - 2 - k]'(by omega)) := by
  unfold back
  rw [List.getElem?_reverse (by simp; omega), List.getElem?_take]
  simp only [List.length_take]
  rw [if_pos (by omega), List.getElem?_eq_getElem (by omega)]
  congr 2
  omega
theorem eq_ (l : List (Int × Int)) (hx : l.all (inB 1048576) = true) : ∀ p ∈ l.map fp, eq p.1 p.1 = true ∧ eq p.2 p.2 = true := by
  intro p hp
  rw [List.mem_map] at hp
  obtain ⟨q, hq, rfl⟩ := hp
  obtain ⟨h1, h2, h3, h4⟩ := inB_spec (List.all_eq_true.1 hx q hq)
  exact ⟨eq_fin (fin_fi h1 h2), eq_fin (fin_fi h3 h4)⟩
theorem he_ (l : List (Int × Int)) (n : Nat) (hn : l.length = n) (h2 : 2 ≤ n) (hx : l.all (inB 1048576) = true) (p q : Nat × Nat) (hp : ((l ++ back l).map fp)[n - 1 - 1]? = some p) (hq : ((l ++ back l).map fp)[n - 1 + 1]? = some q) :
    (eq p.1 q.1 && eq p.2 q.2) = true := by
  have hb := back_get l 0 (by omega)
  rw [List.map_append, List.getElem?_append_left (by simp; omega), List.getElem?_map, List.getElem?_eq_getElem (by omega)] at hp
  rw [List.map_append, List.getElem?_append_right (by simp; omega), List.getElem?_map, show n - 1 + 1 - (l.map fp).length = 0 by simp; omega, hb] at hq
  have e : p = q := by
    simp only [Option.map_some, Option.some.injEq] at hp hq
    rw [← hp, ← hq]
    congr 2
    omega
  subst e
  have := eq_ l hx p (by
    simp only [Option.map_some, Option.some.injEq] at hp
    rw [← hp]; exact List.mem_map_of_mem (List.getElem_mem _))
  simp [this.1, this.2]
def LawPost (w : World) (e : Ending) (w' : World) : Prop := e = .returned (.bool true) ∧ Stab.Keeps w w'
set_option maxRecDepth 100000 in
set_option maxHeartbeats 1000000 in
theorem flatBack_ (a : Option Addr) (n cap : Nat) (l : List (Int × Int)) (w : World) (hn : l.length = n) (hle : n ≤ cap) (hm : cap ≤ maxLen) (h : 0 < n → Sl w a n cap 2 (encP l)) :
    Calls Try.prog 4 #[.slice a n cap] w (LawPost w) := by
  obtain ⟨i0, hi, hz0, hz1, hz2⟩ := info_parts infoPt
  unfold maxLen at hm
  by_cases c1 : (2147483647 : Int) < n
  · go_enter Try.func4, Try.ntmps4
    go_wp2_with fail
    go_ret
    refine ⟨rfl, ?_⟩
    repeat (first | (with_reducible exact Stab.Keeps.refl _) | (with_reducible assumption) | (with_reducible refine Stab.Keeps.alloc ?_ _) | (with_reducible refine Stab.Keeps.drew ?_) | (with_reducible refine Stab.Keeps.drewN ?_ _) | ((with_reducible refine Stab.Keeps.setCell ?_ ?_ _); focus (first | (simp; done) | (simp; omega))) | (with_reducible refine Stab.Keeps.trans ?_ (by with_reducible assumption)))
  by_cases c2 : (n : Int) < 2
  · go_enter Try.func4, Try.ntmps4
    go_wp2_with fail
    go_ret
    refine ⟨rfl, ?_⟩
    repeat (first | (with_reducible exact Stab.Keeps.refl _) | (with_reducible assumption) | (with_reducible refine Stab.Keeps.alloc ?_ _) | (with_reducible refine Stab.Keeps.drew ?_) | (with_reducible refine Stab.Keeps.drewN ?_ _) | ((with_reducible refine Stab.Keeps.setCell ?_ ?_ _); focus (first | (simp; done) | (simp; omega))) | (with_reducible refine Stab.Keeps.trans ?_ (by with_reducible assumption)))
  have c2' : (2 : Int) ≤ n := by omega
  by_cases c3 : (100 : Int) < n
  · go_enter Try.func4, Try.ntmps4
    go_wp2_with fail
    go_ret
    refine ⟨rfl, ?_⟩
    repeat (first | (with_reducible exact Stab.Keeps.refl _) | (with_reducible assumption) | (with_reducible refine Stab.Keeps.alloc ?_ _) | (with_reducible refine Stab.Keeps.drew ?_) | (with_reducible refine Stab.Keeps.drewN ?_ _) | ((with_reducible refine Stab.Keeps.setCell ?_ ?_ _); focus (first | (simp; done) | (simp; omega))) | (with_reducible refine Stab.Keeps.trans ?_ (by with_reducible assumption)))
  replace h := h (by omega)
  have hL := fun w' (hk : Stab.Keeps w w') => lined_ a n cap l 1048576 w' hn (by omega) (h.keep hk) (by omega) (by omega)
  go_enter Try.func4, Try.ntmps4
  go_wp2_with fail
  refine (hL _ (by repeat (first | (with_reducible exact Stab.Keeps.refl _) | (with_reducible assumption) | (with_reducible refine Stab.Keeps.alloc ?_ _) | (with_reducible refine Stab.Keeps.drew ?_) | (with_reducible refine Stab.Keeps.drewN ?_ _) | ((with_reducible refine Stab.Keeps.setCell ?_ ?_ _); focus (first | (simp; done) | (simp; omega))) | (with_reducible refine Stab.Keeps.trans ?_ (by with_reducible assumption))))).mono ?_
  rintro e w2 ⟨rfl, hk⟩
  clear hL
  rw [show decide (n ≤ 200) = true by simp; omega, Bool.true_and]
  cases hx : l.all (inB 1048576) with
  | false =>
    go_wp2
    go_ret
    refine ⟨rfl, ?_⟩
    repeat (first | (with_reducible exact Stab.Keeps.refl _) | (with_reducible assumption) | (with_reducible refine Stab.Keeps.alloc ?_ _) | (with_reducible refine Stab.Keeps.drew ?_) | (with_reducible refine Stab.Keeps.drewN ?_ _) | ((with_reducible refine Stab.Keeps.setCell ?_ ?_ _); focus (first | (simp; done) | (simp; omega))) | (with_reducible refine Stab.Keeps.trans ?_ (by with_reducible assumption)))
  | true =>
    have hk2 : Stab.Keeps w w2 := by repeat (first | (with_reducible exact Stab.Keeps.refl _) | (with_reducible assumption) | (with_reducible refine Stab.Keeps.alloc ?_ _) | (with_reducible refine Stab.Keeps.drew ?_) | (with_reducible refine Stab.Keeps.drewN ?_ _) | ((with_reducible refine Stab.Keeps.setCell ?_ ?_ _); focus (first | (simp; done) | (simp; omega))) | (with_reducible refine Stab.Keeps.trans ?_ (by with_reducible assumption)))
    clear hk
    have h2 := h.keep hk2
    obtain ⟨b, off, ha, hb, hc⟩ := h2.elem (i := 0) (by omega)
    obtain ⟨b', off', hb1, hb2, hb3⟩ := h2.at_ _ ha
    cases hb1
    clear hc
    subst ha
    have hown0 : (w2.alloc (.cells #[] 28)).ownsRow w.heap.size 28 2 (.slice (some ⟨w2.heap.size, 0, none⟩) 0 0) 0 [] :=
      ⟨rfl, .inr ⟨w2.heap.size, 0, #[], rfl, hk2.size, heap_alloc_new _ _, Nat.le_refl _, Nat.zero_le _, rfl, rfl⟩⟩
    have hsz := hk2.size
    go_wp2_with (at_builtin; (refine Sl.append_own (w0 := w) rfl _ _ 25 rfl w.heap.size 28 i0 _ 2 16 Try.underlying25 hi hz0 hz1 hz2 rfl (by decide) _ 0 _ rfl hown0 ⟨b, off, none⟩ n cap (encP l) rfl ?c1 ?c2 ?c3 ?c4 ?c5 ?c6 ?c7 ?_))
    case c1 => exact h2.len
    case c2 => exact fun j u hu => by rw [add_none]; exact (Below.cell (p := ⟨b, off + j, none⟩) (Stab.Keeps.alloc (Stab.Keeps.refl w2) _ : Below w2.heap.size w2 _) hb2).trans (hb3 j u hu)
    case c3 => intro u hu; simp [encP] at hu; obtain ⟨x, y, _, hu⟩ := hu; rcases hu with rfl | rfl <;> rfl
    case c4 => unfold maxLen; omega
    case c5 => omega
    case c6 => simp; omega
    case c7 => exact hk2.alloc _
    intro al cp w3 hown hk3 _ _
    go_wp2
    go_loopw [3, 4] (fun v i wr => ∃ k : Nat, k ≤ n - 1 ∧ i = .int .i64 ((n : Int) - 2 - k) ∧ Stab.Keeps w wr ∧ ∃ al c, v = .slice al (n + k) c ∧ wr.ownsRow w.heap.size 28 2 (.slice al (n + k) c) (n + k) (encP (l ++ (back l).take k))) (fun _ i _ => (intOf i + 1).toNat)
    case atStart => exact ⟨0, Nat.zero_le _, by go_num, hk3, al, cp, rfl, by simpa using hown⟩
    case round =>
      obtain ⟨k, hk, rfl, hK, al, c, rfl, hown⟩ := hrel
      by_cases hlt : k < n - 1
      · have hS := h.keep hK
        obtain ⟨b', off', ha, hb, hc⟩ := hS.elem (i := n - 2 - k) (by omega)
        cases ha
        have c0 : wr.cell? ⟨b, off + (n - 2 - k) * 2, none⟩ = some (.int .i64 (l[n - 2 - k]).1) := hc 0 _ (by omega) (encP_get0 l _ (by omega))
        have c1 : wr.cell? ⟨b, off + (n - 2 - k) * 2 + 1, none⟩ = some (.int .i64 (l[n - 2 - k]).2) := hc 1 _ (by omega) (encP_get1 l _ (by omega))
        have hsz := hK.size
        clear hc hS
        have x1 : ((n : Int) - 2 - k).toNat = n - 2 - k := by omega
        go_wp2_with (at_builtin; (refine Sl.append_own (w0 := w) rfl _ _ 25 rfl w.heap.size 28 i0 _ 2 16 Try.underlying25 hi hz0 hz1 hz2 rfl (by decide) _ (n + k) _ rfl (hown.alloc _) ⟨wr.heap.size, 0, none⟩ 1 1 [.int .i64 l[n - 2 - k].1, .int .i64 l[n - 2 - k].2] rfl rfl ?c1 ?c2 ?c3 ?c4 ?c5 ?c6 ?_))
        case c1 => exact new_cells _ _ _ _ (by simp)
        case c2 => intro u hu; simp at hu; rcases hu with rfl | rfl <;> rfl
        case c3 => unfold maxLen; omega
        case c4 => omega
        case c5 => simp; omega
        case c6 => exact hK.alloc _
        intro al' cap' w1 hown' hk1 hsz1 _
        go_wp2
        go_roundw
        case rel =>
          refine ⟨k + 1, by omega, by go_num, hk1, al', cap', rfl, ?_⟩
          rw [List.take_add_one, back_get l k (by omega), ← List.append_assoc, encP_append]
          subst hn
          exact hown'
        case measure => simp [intOf]; omega
      · have hkn : k = n - 1 := by omega
        subst hkn
        obtain ⟨al', c', he, hs', _, hfr⟩ := of_owns hown
        cases he
        clear hown hown0
        rw [show (back l).take (n - 1) = back l from List.take_of_length_le (by rw [back_len]; omega)] at hs'
        go_wp2_with fail
        refine (row_ al (n + (n - 1)) c (l ++ back l) wr (by simp [back_len]; omega) (by omega) hs').mono ?_
        rintro e w4 ⟨a4, cap4, rfl, hk4, hS4, _⟩
        clear hs' hfr
        go_wp2_with fail
        have hF := flatHull_ a4 (n - 1) cap4 ((l ++ back l).map fp) w4 (by simp [back_len]; omega) (by omega) (by omega) (by rw [show 2 * (n - 1) + 1 = n + (n - 1) by omega]; exact hS4) (he_ l n hn (by omega) hx)
        rw [show 2 * (n - 1) + 1 = n + (n - 1) by omega, show n - 1 + 1 = n by omega, show ((l ++ back l).map fp).take n = l.map fp by rw [List.map_append, List.take_append_of_le_length (by simp; omega), List.take_of_length_le (by simp; omega)]] at hF
        refine hF.mono ?_
        clear hF
        rintro e w5 ⟨a5, cap5, rfl, hk5, hS5⟩
        have hk6 : Stab.Keeps w w5 := by repeat (first | (with_reducible exact Stab.Keeps.refl _) | (with_reducible assumption) | (with_reducible refine Stab.Keeps.alloc ?_ _) | (with_reducible refine Stab.Keeps.drew ?_) | (with_reducible refine Stab.Keeps.drewN ?_ _) | ((with_reducible refine Stab.Keeps.setCell ?_ ?_ _); focus (first | (simp; done) | (simp; omega))) | (with_reducible refine Stab.Keeps.trans ?_ (by with_reducible assumption)))
        have h6 := h.keep hk6
        have hR := fun w' (hk : Stab.Keeps w5 w') => row_ (some ⟨b, off, none⟩) n cap l w' hn (by omega) (h6.keep hk)
        have hQ := fun a2 cap2 w' (hk : Stab.Keeps w5 w') h2 => sameRow_ a5 a2 n cap5 cap2 (l.map fp) w' (by simp; omega) (by omega) (hS5.keep hk) h2 (eq_ l hx)
        clear hS4 hS5 h h2 h6 hb3 hi hz0 hz1 hz2 hx hk2 hk3 hk4 hK hk5
        go_wp2_with fail
        refine (hR _ (by with_reducible exact Stab.Keeps.refl _)).mono ?_
        clear hR
        rintro e w6 ⟨a6, cap6, rfl, hk6', hS6, _⟩
        go_wp2_with fail
        refine (hQ a6 cap6 _ (by repeat (first | (with_reducible exact Stab.Keeps.refl _) | (with_reducible assumption) | (with_reducible refine Stab.Keeps.alloc ?_ _) | (with_reducible refine Stab.Keeps.drew ?_) | (with_reducible refine Stab.Keeps.drewN ?_ _) | ((with_reducible refine Stab.Keeps.setCell ?_ ?_ _); focus (first | (simp; done) | (simp; omega))) | (with_reducible refine Stab.Keeps.trans ?_ (by with_reducible assumption)))) hS6).mono ?_
        clear hQ hS6
        rintro e w7 ⟨rfl, hk7⟩
        go_wp2_with fail
        go_ret
        refine ⟨rfl, ?_⟩
        repeat (first | (with_reducible exact Stab.Keeps.refl _) | (with_reducible assumption) | (with_reducible refine Stab.Keeps.alloc ?_ _) | (with_reducible refine Stab.Keeps.drew ?_) | (with_reducible refine Stab.Keeps.drewN ?_ _) | ((with_reducible refine Stab.Keeps.setCell ?_ ?_ _); focus (first | (simp; done) | (simp; omega))) | (with_reducible refine Stab.Keeps.trans ?_ (by with_reducible assumption)))
namespace fnFlatBack
open Go.ChangeShapes Go.WideShapes Go.ChangeAt Go.Op2
theorem open_pts {H : Type} {enc : TypeId × Value → H} {W : World} {base b2 : Nat} {sp : Nat → Bool} {hd : Bool} {r : Reach} {v : Value} {d : DataW H} {p : List MemPlace}
    (o : Value.okWide Try.prog W r base 25 v) (h : DataW.Trod enc Try.prog W b2 sp hd 25 v d p) :
    ∃ a n cap, v = .slice a n cap ∧ n ≤ cap ∧ cap ≤ maxLen ∧ ∃ l : List (Int × Int), l.length = n ∧ (0 < n → Sl W a n cap 2 (encP l)) := by
  have cPt : Try.prog.cellsOf 28 = 2 := by kernel_rfl
  have cI : Try.prog.cellsOf 3 = 1 := by kernel_rfl
  obtain ⟨a, n, cap, rfl, hle, hm, xs, hx, hS, m, hm2⟩ := open_rows (r := r) (b0 := base) (by decide) Try.underlying25 cPt h (okWide_slice Try.underlying25 o)
  obtain ⟨l, h1, h2⟩ := chunks (α := Int × Int) (fun p => [.int .i64 p.1, .int .i64 p.2]) 2 (fun _ => rfl) n xs hx (fun i hi => by
    obtain ⟨y, hy⟩ := hm2 i hi
    obtain ⟨hl, m', hf⟩ := trod_struct' Try.underlying28 cPt hy
    obtain ⟨u0, u1, hc⟩ := list2 hl
    rw [hc] at hf
    obtain ⟨z0, g0⟩ := hf 0 _ rfl
    obtain ⟨z1, g1⟩ := hf 1 _ rfl
    simp [cI] at g0 g1
    obtain ⟨x, e0, _⟩ := trod_int' Try.underlying3 g0
    obtain ⟨y, e1, _⟩ := trod_int' Try.underlying3 g1
    injection e0 with e0; injection e1 with e1
    subst e0 e1
    exact ⟨(x, y), hc⟩)
  exact ⟨a, n, cap, rfl, hle, hm, l, h1, fun hn => by have := hS hn; rw [h2] at this; exact this⟩
theorem walkT {H : Type} (enc : TypeId × Value → H) (W : World) (base : Nat) {v0 : Value} {d0 : DataW H} {p0 : List MemPlace}
    (o0 : Value.okWide Try.prog W .any base 25 v0) (h0 : DataW.Trod enc Try.prog W 0 (fun _ => true) true 25 v0 d0 p0) :
    Calls Try.prog 4 #[v0] W (LawPost W) := by
  obtain ⟨a, n, cap, rfl, hle, hm, l, hn, h⟩ := open_pts o0 h0
  exact flatBack_ a n cap l W hn hle hm h
end fnFlatBack
end Go.Proofs.Ytkpbapemeiigbaa
