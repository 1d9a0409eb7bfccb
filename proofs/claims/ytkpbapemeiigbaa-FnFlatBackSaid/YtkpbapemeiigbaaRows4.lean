/-
  FlatHull at a row that goes there and back. No condition.
-/
import Derived.Test.YtkpbapemeiigbaaRows3
import Derived.Deep.RegionWith
set_option linter.unusedVariables false
set_option linter.unusedSimpArgs false
namespace Go.Proofs.Ytkpbapemeiigbaa
open Go.RowKit Go.Fl Go.Sl
def FlatPost (w : World) (n : Nat) (xs : List Value) (e : Ending) (w' : World) : Prop := ∃ a cap, e = .returned (.tuple #[.slice a n cap, .bool true, .bool true]) ∧ Stab.Keeps w w' ∧ Sl w' a n cap 2 xs
def FlatF (n : Nat) (xs : List Value) (k : Nat) (v : Value) (w : World) : Prop := k = 1 → ∃ a cap, v = .slice a n cap ∧ Sl w a n cap 2 xs
theorem flatPre (n : Nat) (xs : List Value) : Stab.Pre Stab.Keeps (FlatF n xs) :=
  ⟨Stab.Keeps.refl, Stab.Keeps.trans, fun k v w w' hk hF e => by obtain ⟨a, cap, h1, h2⟩ := hF e; exact ⟨a, cap, h1, h2.keep hk⟩⟩
theorem sl_take {w : World} {a : Option Addr} {n cap k : Nat} {xs : List Value} (h : Sl w a n cap k xs) (m : Nat) (hm : m ≤ n) : Sl w a m cap k (xs.take (m * k)) :=
  ⟨by rw [List.length_take, h.len, Nat.min_eq_left (Nat.mul_le_mul_right _ hm)], Nat.le_trans hm h.le, h.max, h.nil, fun x hx => by
    obtain ⟨b, off, e, hb, hc⟩ := h.at_ x hx
    exact ⟨b, off, e, hb, fun j u hu => hc j u (by rw [List.getElem?_take] at hu; split at hu <;> simp_all)⟩⟩
theorem encF_take (l : List (Nat × Nat)) (m : Nat) : (encF l).take (m * 2) = encF (l.take m) := by
  induction m generalizing l with
  | zero => simp [encF]
  | succ m ih =>
    cases l with
    | nil => simp [encF]
    | cons p l =>
      have := ih l
      simp only [encF] at this
      simp [encF, Nat.add_mul, this]
set_option maxRecDepth 100000 in
set_option maxHeartbeats 1000000 in
theorem flatHull_ (a : Option Addr) (m cap : Nat) (l : List (Nat × Nat)) (w : World) (hn : l.length = 2 * m + 1) (h1 : 1 ≤ m) (hs : m ≤ 400000) (h : Sl w a (2 * m + 1) cap 2 (encF l))
    (he : ∀ (p q : Nat × Nat), l[m - 1]? = some p → l[m + 1]? = some q → (eq p.1 q.1 && eq p.2 q.2) = true) :
    Calls Try.prog 10 #[.slice a (2 * m + 1) cap] w (FlatPost w (m + 1) (encF (l.take (m + 1)))) := by
  have hmf : ∀ (fn : Fn) (first cap : Array Value) (w : World), (Instr.makeFunc fn first cap).run Try.prog w = .ok (.func fn first cap) w := fun _ _ _ _ => rfl
  go_enter_defers Try.func10, Try.ntmps10
  go_wp2_with fail
  refine (xys_ a (2 * m + 1) cap l _ hn (by omega) ?_).mono ?_
  · exact h.keep (show Stab.Keeps w _ by repeat (first | (with_reducible exact Stab.Keeps.refl _) | (with_reducible assumption) | (with_reducible refine Stab.Keeps.alloc ?_ _) | (with_reducible refine Stab.Keeps.drew ?_) | (with_reducible refine Stab.Keeps.drewN ?_ _) | ((with_reducible refine Stab.Keeps.setCell ?_ ?_ _); focus (first | (simp; done) | (simp; omega))) | (with_reducible refine Stab.Keeps.trans ?_ (by with_reducible assumption))))
  rintro e w2 ⟨a2, cap2, rfl, hk2, hS2, hfr2⟩
  go_wp2_with fail
  refine (doorLinear_ a2 m cap2 l _ hn h1 (by omega) hS2 he).mono ?_
  rintro e w3 ⟨rfl, nq, rfl⟩
  obtain ⟨hc0, hf0⟩ := Stab.own_cell hk2 w.heap.size (by first | (simp; done) | (simp; omega))
  obtain ⟨hc1, hf1⟩ := Stab.own_cell hk2 (w.heap.size + 1) (by first | (simp; done) | (simp; omega))
  obtain ⟨hc2, hf2⟩ := Stab.own_cell hk2 (w.heap.size + 1 + 1) (by first | (simp; done) | (simp; omega))
  have m0 : w2.cell? ⟨w.heap.size, 0, none⟩ = some (.slice none 0 0) := by rw [hc0]; go_simp
  have m1 : w2.cell? ⟨w.heap.size + 1, 0, none⟩ = some (.bool false) := by rw [hc1]; go_simp
  have m2 : w2.cell? ⟨w.heap.size + 1 + 1, 0, none⟩ = some (.bool false) := by rw [hc2]; go_simp
  clear hc0 hc1 hc2 hmf h he
  go_wp2_with fail
  have hl0 := Stab.cell_lt m0
  have hl1 := Stab.cell_lt m1
  have hl2 := Stab.cell_lt m2
  simp only at hl0 hl1 hl2
  have n0 : ((w2.drewN nq).setCell ⟨w.heap.size + 1, 0, none⟩ (.bool true)).cell? ⟨w.heap.size, 0, none⟩ = some (.slice none 0 0) := by go_simp
  have n1 : ((w2.drewN nq).setCell ⟨w.heap.size + 1, 0, none⟩ (.bool true)).cell? ⟨w.heap.size + 1, 0, none⟩ = some (.bool true) := by go_simp
  have n2 : ((w2.drewN nq).setCell ⟨w.heap.size + 1, 0, none⟩ (.bool true)).cell? ⟨w.heap.size + 1 + 1, 0, none⟩ = some (.bool false) := by go_simp
  have g0 : ∀ j, ((w2.drewN nq).setCell ⟨w.heap.size + 1, 0, none⟩ (.bool true)).frozen? ⟨w.heap.size, j, none⟩ = false := fun j => by go_simp
  have g1 : ∀ j, ((w2.drewN nq).setCell ⟨w.heap.size + 1, 0, none⟩ (.bool true)).frozen? ⟨w.heap.size + 1, j, none⟩ = false := fun j => by go_simp
  have g2 : ∀ j, ((w2.drewN nq).setCell ⟨w.heap.size + 1, 0, none⟩ (.bool true)).frozen? ⟨w.heap.size + 1 + 1, j, none⟩ = false := fun j => by go_simp
  have hkk : Stab.Keeps w ((w2.drewN nq).setCell ⟨w.heap.size + 1, 0, none⟩ (.bool true)) := by
    refine Stab.Keeps.setCell (by simp) (Stab.Keeps.drewN ?_ _) _
    repeat (first | (with_reducible exact Stab.Keeps.refl _) | (with_reducible assumption) | (with_reducible refine Stab.Keeps.alloc ?_ _) | (with_reducible refine Stab.Keeps.drew ?_) | (with_reducible refine Stab.Keeps.drewN ?_ _) | ((with_reducible refine Stab.Keeps.setCell ?_ ?_ _); focus (first | (simp; done) | (simp; omega))) | (with_reducible refine Stab.Keeps.trans ?_ (by with_reducible assumption)))
  have hS4 : Sl ((w2.drewN nq).setCell ⟨w.heap.size + 1, 0, none⟩ (.bool true)) a2 (2 * m + 1) cap2 2 (encF l) := by
    refine ⟨hS2.len, hS2.le, hS2.max, hS2.nil, fun x hx => ?_⟩
    obtain ⟨b, off, e, hb, hc⟩ := hS2.at_ x hx
    have hfr := hfr2 x hx
    subst e
    refine ⟨b, off, rfl, by simpa using hb, fun j u hu => ?_⟩
    rw [World.cell?_setCell_other _ _ _ _ (fun he => by injection he with he; simp at hfr; omega)]
    exact hc j u hu
  generalize ((w2.drewN nq).setCell ⟨w.heap.size + 1, 0, none⟩ (.bool true)) = W at *
  clear m0 m1 m2 hf0 hf1 hf2 hk2 hS2
  have hs0 := Stab.cell_lt n0
  have hs1 := Stab.cell_lt n1
  have hs2 := Stab.cell_lt n2
  simp only at hs0 hs1 hs2
  have hP := fun w' (hk : Stab.Keeps W w') => plainXYs_ a2 (m + 1) cap2 (l.take (m + 1)) w' (by simp; omega) (by omega) (by rw [← encF_take]; exact sl_take (hS4.keep hk) (m + 1) (by omega))
  first | go_region_with ((go_at_call 27; refine (hP _ (by with_reducible first | exact Stab.Keeps.refl _ | exact Stab.Keeps.drew (Stab.Keeps.refl _))).mono ?_; rintro e w5 ⟨a5, cap5, rfl, hk5, hS5, hfr5⟩; obtain ⟨hc0, hf0⟩ := Stab.own_cell hk5 w.heap.size (by simp; omega); obtain ⟨hc1, hf1⟩ := Stab.own_cell hk5 (w.heap.size + 1) (by simp; omega); obtain ⟨hc2, hf2⟩ := Stab.own_cell hk5 (w.heap.size + 1 + 1) (by simp; omega); simp only [World.cell?_drew, World.frozen?_drew, n0, n1, n2] at hc0 hc1 hc2 hf0 hf1 hf2)) | fail
  all_goals
    go_wp2
    refine leaves_cons (f := 24) (args := #[.pointer (some ⟨w.heap.size, 0, none⟩), .pointer (some ⟨w.heap.size + 1, 0, none⟩), .pointer (some ⟨w.heap.size + 1 + 1, 0, none⟩)]) (by simp) (by simp [go_sem]) ?_
    refine (catch_flat _ _ _ _).mono ?_
    rintro e u' w'' ⟨rfl, rfl, rfl⟩
    have p0 : w5.cell? ⟨w.heap.size, 0, none⟩ = some (.slice none 0 0) := by rw [hc0]; exact n0
    have p1 : w5.cell? ⟨w.heap.size + 1, 0, none⟩ = some (.bool true) := by rw [hc1]; exact n1
    have p2 : w5.cell? ⟨w.heap.size + 1 + 1, 0, none⟩ = some (.bool false) := by rw [hc2]; exact n2
    refine ⟨.tuple #[.slice a5 (m + 1) cap5, .bool true, .bool true], by simp [results, Try.results10, go_sem, p0, p1, p2], a5, cap5, rfl, ?_, ?_⟩
    · have hk6 : Stab.Keeps w w5 := by
        refine Stab.Keeps.trans hkk (Stab.Keeps.trans ?_ hk5)
        first | exact Stab.Keeps.refl _ | exact Stab.Keeps.drew (Stab.Keeps.refl _)
      refine Stab.Keeps.setCell (by simp; omega) (Stab.Keeps.setCell (by simp) (Stab.Keeps.setCell (by simp) hk6 _) _) _
    · refine ⟨hS5.len, hS5.le, hS5.max, hS5.nil, fun x hx => ?_⟩
      obtain ⟨b, off, e, hb, hc⟩ := hS5.at_ x hx
      have hfr := hfr5 x hx
      subst e
      simp at hfr
      refine ⟨b, off, rfl, by simpa using hb, fun j u hu => ?_⟩
      rw [World.cell?_setCell_other _ _ _ _ (fun he => by injection he with he; omega), World.cell?_setCell_other _ _ _ _ (fun he => by injection he with he; omega), World.cell?_setCell_other _ _ _ _ (fun he => by injection he with he; omega)]
      exact hc j u hu
end Go.Proofs.Ytkpbapemeiigbaa
