/-
  The tree of boxes: the closures of the partition, walked. No condition.
-/
import Derived.Test.YtokofimfinhnbaaDoorTr1
import Derived.Test.YtokofimfinhnbaaDoorSz
set_option linter.unusedVariables false
set_option linter.unusedSimpArgs false
namespace Go.Proofs.YtokofimfinhnbaaDoor
open Go.RowKit Go.Fl Go.Sl Go.Ch

def enc (L : List It) : List Value := L.flatMap It.cells
theorem enc_len (L : List It) : (enc L).length = L.length * 5 := flat_len It.cells 5 It.cells_len L
theorem enc_get (L : List It) (i j : Nat) (hi : i < L.length) (hj : j < 5) : (enc L)[i * 5 + j]? = (It.cells L[i])[j]? := flat_get It.cells 5 It.cells_len L i j hi hj
/-- one item's cells written anew -/
theorem enc_set (L : List It) (i : Nat) (hi : i < L.length) (t : It) :
    (((((enc L).set (i * 5) (.float .f64 t.box.a)).set (i * 5 + 1) (.float .f64 t.box.b)).set (i * 5 + 2) (.float .f64 t.box.c)).set (i * 5 + 3) (.float .f64 t.box.d)).set (i * 5 + 4) (.int .i64 t.id) = enc (L.set i t) := by
  apply List.ext_getElem?
  intro k
  obtain ⟨q, r, hr, rfl⟩ : ∃ q r, r < 5 ∧ k = q * 5 + r := ⟨k / 5, k % 5, Nat.mod_lt _ (by omega), by omega⟩
  by_cases hq : q < L.length
  · rw [enc_get _ _ _ (by simpa using hq) hr]
    simp only [List.getElem?_set, List.length_set, enc_len]
    by_cases he : i = q
    · subst he
      simp only [List.getElem_set_self]
      have : r = 0 ∨ r = 1 ∨ r = 2 ∨ r = 3 ∨ r = 4 := by omega
      rcases this with rfl | rfl | rfl | rfl | rfl <;> simp [It.cells] <;> omega
    · rw [List.getElem_set_ne he]
      rw [if_neg (by omega), if_neg (by omega), if_neg (by omega), if_neg (by omega), if_neg (by omega), enc_get _ _ _ hq hr]
  · rw [List.getElem?_eq_none (by simp [enc_len]; omega), List.getElem?_eq_none (by simp [enc_len]; omega)]
/-- the items in their block, told by what a slice of them sees -/
structure Row (w : World) (B o5 n : Nat) (L : List It) : Prop where
  blk : Blk w B 59 (enc L)
  off : ∃ off, o5 = off * 5 ∧ off + n ≤ L.length
theorem Row.cell {w : World} {B o5 n : Nat} {L : List It} (h : Row w B o5 n L) {i : Nat} (hi : i < n) : ∃ t, L[o5 / 5 + i]? = some t ∧ w.cell? ⟨B, o5 + i * 5, none⟩ = some (.float .f64 t.box.a) ∧ w.cell? ⟨B, o5 + i * 5 + 1, none⟩ = some (.float .f64 t.box.b) ∧
    w.cell? ⟨B, o5 + i * 5 + 2, none⟩ = some (.float .f64 t.box.c) ∧ w.cell? ⟨B, o5 + i * 5 + 3, none⟩ = some (.float .f64 t.box.d) ∧ w.cell? ⟨B, o5 + i * 5 + 4, none⟩ = some (.int .i64 t.id) := by
  obtain ⟨off, e, hl⟩ := h.off
  have e2 : o5 / 5 = off := by omega
  have hlt : off + i < L.length := by omega
  have k := fun j hj => enc_get L (off + i) j hlt hj
  rw [e2]
  refine ⟨L[off + i], List.getElem?_eq_getElem hlt, ?_, ?_, ?_, ?_, ?_⟩
  · exact h.blk.cell (by rw [show o5 + i * 5 = (off + i) * 5 + 0 by omega, k 0 (by omega)]; rfl)
  · exact h.blk.cell (by rw [show o5 + i * 5 + 1 = (off + i) * 5 + 1 by omega, k 1 (by omega)]; rfl)
  · exact h.blk.cell (by rw [show o5 + i * 5 + 2 = (off + i) * 5 + 2 by omega, k 2 (by omega)]; rfl)
  · exact h.blk.cell (by rw [show o5 + i * 5 + 3 = (off + i) * 5 + 3 by omega, k 3 (by omega)]; rfl)
  · exact h.blk.cell (by rw [show o5 + i * 5 + 4 = (off + i) * 5 + 4 by omega, k 4 (by omega)]; rfl)
/-- some bool, and what was there is kept -/
def SomeB (w : World) (e : Ending) (w' : World) : Prop := ∃ t, e = .returned (.bool t) ∧ Stab.Keeps w w'
set_option maxRecDepth 100000 in
set_option maxHeartbeats 1000000 in
theorem less_ (B o5 n cap p q i j : Nat) (hz : Bool) (L : List It) (w : World) (h : Row w B o5 n L) (hc : n ≤ cap) (hm : cap ≤ maxLen) (hp : Blk w p 55 [.slice (some ⟨B, o5, none⟩) n cap]) (hq : Blk w q 4 [.bool hz]) (hi : i < n) (hj : j < n) :
    Calls Tryd.prog 47 #[.int .i64 i, .int .i64 j, .pointer (some ⟨p, 0, none⟩), .pointer (some ⟨q, 0, none⟩)] w (SomeB w) := by
  obtain ⟨t, _, c0, c1, c2, c3, _⟩ := h.cell hi
  obtain ⟨u, _, d0, d1, d2, d3, _⟩ := h.cell hj
  have hB := h.blk.lt
  have p0 : w.cell? ⟨p, 0, none⟩ = some (.slice (some ⟨B, o5, none⟩) n cap) := hp.cell rfl
  have q0 : w.cell? ⟨q, 0, none⟩ = some (.bool hz) := hq.cell rfl
  have hpl := hp.lt
  have hql := hq.lt
  unfold maxLen at hm
  clear h hp hq
  cases hz
  all_goals
    go_enter Tryd.func47, Tryd.ntmps47
    go_wp2
    go_ret
    refine ⟨_, rfl, ?_⟩
    repeat (first | (with_reducible exact Stab.Keeps.refl _) | (with_reducible assumption) | (with_reducible refine Stab.Keeps.alloc ?_ _) | (with_reducible refine Stab.Keeps.drew ?_) | (with_reducible refine Stab.Keeps.drewN ?_ _) | ((with_reducible refine Stab.Keeps.setCell ?_ ?_ _); focus (first | (simp; done) | (simp; omega))) | (with_reducible refine Stab.Keeps.trans ?_ (by with_reducible assumption)))
end Go.Proofs.YtokofimfinhnbaaDoor
