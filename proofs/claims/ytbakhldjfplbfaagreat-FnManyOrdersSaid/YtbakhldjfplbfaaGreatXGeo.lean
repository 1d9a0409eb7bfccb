/-
  Geometries as the program's data have them: their cells, and what lies behind them. No condition.
-/
import Derived.Test.YtbakhldjfplbfaaGreatProg
import Derived.Test.YtbakhldjfplbfaaGreatXFl
import Derived.Test.YtbakhldjfplbfaaGreatXStab
import Derived.Test.YtbakhldjfplbfaaGreatXSz
import Derived.WalkKit
import Derived.WalkSpells
import Derived.WalkLawsBesides
import Derived.Lib.Hide
import Derived.BigQuiet
set_option linter.unusedVariables false
set_option linter.unusedSimpArgs false
namespace Go.Proofs.YtbakhldjfplbfaaGreat
open Go.RowKit Go.Fl Go.Sl
/-- a callee that returns v and keeps what was there -/
def One (w : World) (v : Value) (e : Ending) (w' : World) : Prop := e = .returned v ∧ Stab.Keeps w w'
/-- a callee that returns a slice of its own -/
def New (w : World) (n k : Nat) (xs : List Value) (e : Ending) (w' : World) : Prop := ∃ a cap, e = .returned (.slice a n cap) ∧ Stab.Keeps w w' ∧ Sl w' a n cap k xs ∧ ∀ x, a = some x → w.heap.size ≤ x.block
/-- a geometry's four cells -/
structure Gm where
  kind : Int
  dim : Int
  na : Option Addr
  nn : Nat
  nc : Nat
  ka : Option Addr
  kn : Nat
  kc : Nat
def Gm.cells (g : Gm) : List Value := [.int .i64 g.kind, .int .i64 g.dim, .slice g.na g.nn g.nc, .slice g.ka g.kn g.kc]
def Gm.val (g : Gm) : Value := .agg #[.int .i64 g.kind, .int .i64 g.dim, .slice g.na g.nn g.nc, .slice g.ka g.kn g.kc]
def encN (l : List Nat) : List Value := l.map (.float .f64)
inductive GT where
  | node (hd : Gm) (nums : List Nat) (kids : List GT)
def GT.hd : GT → Gm | .node h _ _ => h
def GT.kids : GT → List GT | .node _ _ k => k
def GT.cells (t : GT) : List Value := t.hd.cells
theorem GT.cells_len (t : GT) : t.cells.length = 4 := rfl
inductive GT.At (w : World) : GT → Prop where
  | mk (h : Gm) (nums : List Nat) (kids : List GT) (hn : nums.length = h.nn) (hk : kids.length = h.kn) (h1 : Sz w h.na h.nn h.nc 1 (encN nums)) (h2 : Sz w h.ka h.kn h.kc 4 (kids.flatMap GT.cells)) (h3 : ∀ t ∈ kids, GT.At w t) : GT.At w (.node h nums kids)
theorem GT.At.keep {w w' : World} (hk : Stab.Keeps w w') {t : GT} (h : GT.At w t) : GT.At w' t := by
  induction h with
  | mk h nums kids hn hk' h1 h2 _ ih => exact .mk h nums kids hn hk' (h1.keep hk) (h2.keep hk) ih
/-- no number of it or its parts is NaN -/
inductive GT.Real : GT → Prop where
  | mk (h : Gm) (nums : List Nat) (kids : List GT) (h1 : ∀ x ∈ nums, isNaN x = false) (h3 : ∀ t ∈ kids, GT.Real t) : GT.Real (.node h nums kids)
theorem encN_get (l : List Nat) (i : Nat) (hi : i < l.length) : (encN l)[i * 1 + 0]? = some (.float .f64 l[i]) := map_get _ l i hi
/-- a callee that tells true only where p -/
def Tells (w : World) (p : Prop) (e : Ending) (w' : World) : Prop := (∃ b : Bool, e = .returned (.bool b) ∧ (b = true → p)) ∧ Stab.Keeps w w'
set_option maxRecDepth 100000 in
set_option maxHeartbeats 2000000 in
theorem kNumbers_ (w0 : World) (t : GT) (h : GT.At w0 t) : ∀ w, Stab.Keeps w0 w → Calls Tryz.prog 54 #[t.hd.val, .bool false] w (Tells w t.Real) := by
  induction h with
  | mk hd nums kids hn hkn h1 h2 h3 ih =>
  intro w hK0
  have s1 := h1.keep hK0
  have s2 := h2.keep hK0
  clear h1 h2 h3
  obtain ⟨kind, dim, na, nn, nc, ka, kn, kc⟩ := hd
  simp only at hn hkn s1 s2
  have hle := s1.le
  have hm := s1.max
  have hle2 := s2.le
  have hm2 := s2.max
  unfold maxLen at hm hm2
  have hnan : ∀ x w, (binOp .neq 45 (.float .f64 x) (.float .f64 x)).run Tryz.prog w = .ok (.bool (isNaN x)) w := fun x w => by
    simp [go_sem, Tryz.underlying45, isNaN_neq]
  simp only [GT.hd, Gm.val]
  go_enter Tryz.func54, Tryz.ntmps54
  go_wp2
  have e0 : (w.alloc (.cells #[.int .i64 kind, .int .i64 dim, .slice na nn nc, .slice ka kn kc] 25)).cell? ⟨w.heap.size, 3, none⟩ = some (.slice ka kn kc) := by go_simp
  have hlt0 : w.heap.size < (w.alloc (.cells #[.int .i64 kind, .int .i64 dim, .slice na nn nc, .slice ka kn kc] 25)).heap.size := by simp
  have hkp : Stab.Keeps w (w.alloc (.cells #[.int .i64 kind, .int .i64 dim, .slice na nn nc, .slice ka kn kc] 25)) := by with_reducible (repeat first | exact Kx.r _ | assumption | refine Kx.a ?_ _ | refine Kx.d ?_ | refine Kx.e ?_ _ | refine Kx.s (by simp <;> omega) ?_ _ | refine Kx.t ?_ (by assumption))
  generalize (w.alloc (.cells #[.int .i64 kind, .int .i64 dim, .slice na nn nc, .slice ka kn kc] 25)) = w1 at *
  go_loopw [12] (fun i wr => ∃ k : Nat, k ≤ nn ∧ i = .int .i64 k ∧ Stab.Keeps w1 wr ∧ ∀ j (hj : j < nums.length), j < k → isNaN nums[j] = false) (fun i _ => nn - (intOf i).toNat)
  case atStart => exact ⟨0, Nat.zero_le _, rfl, by with_reducible (repeat first | exact Kx.r _ | assumption | refine Kx.a ?_ _ | refine Kx.d ?_ | refine Kx.e ?_ _ | refine Kx.s (by simp <;> omega) ?_ _ | refine Kx.t ?_ (by assumption)), fun j _ hj => by omega⟩
  case round =>
    obtain ⟨k, hk, rfl, hK, hA⟩ := hrel
    have hK2 : Stab.Keeps w wr := Stab.Keeps.trans hkp hK
    by_cases hlt : k < nn
    · obtain ⟨b, off, ha, hb, hc⟩ := (s1.keep hK2).elem hlt
      subst ha
      have c0 : wr.cell? ⟨b, off + k, none⟩ = some (.float .f64 nums[k]) := by have := hc 0 _ (by omega) (encN_get nums k (by omega)); simpa using this
      have hs : ∀ x, x = nums[k] → ∀ j (hj : j < nums.length), isNaN x = false → j < k + 1 → isNaN nums[j] = false := fun x hx j hj h hl => by
        subst hx
        rcases Nat.lt_or_ge j k with h1 | h1
        · exact hA j hj h1
        · have : j = k := by omega
          subst this; exact h
      clear hc
      replace hs := hs _ rfl
      generalize nums[k] = x at c0 hs
      go_wp2_with fail
      · rename_i ho
        refine ⟨⟨k + 1, by omega, by go_num, hK, fun j hj hl => hs j hj ?_ hl⟩, by simp [intOf]; omega⟩
        rw [← isNaN_neq, ho]; rfl
      · go_ret
        exact ⟨⟨false, rfl, fun h => by cases h⟩, hK2⟩
    · have hkn : k = nn := by omega
      subst hkn
      obtain ⟨hc0, hf0⟩ := Stab.own_cell hK w.heap.size hlt0
      have m0 : wr.cell? ⟨w.heap.size, 3, none⟩ = some (.slice ka kn kc) := by rw [hc0]; exact e0
      clear hc0 e0
      go_wp2
      go_loopw [32] (fun i wq => ∃ k : Nat, k ≤ kn ∧ i = .int .i64 k ∧ Stab.Keeps w wq ∧ ∀ j (hj : j < kids.length), j < k → kids[j].Real) (fun i _ => kn - (intOf i).toNat)
      case atStart => exact ⟨0, Nat.zero_le _, rfl, hK2, fun j _ hj => by omega⟩
      case round =>
        obtain ⟨k, hk, rfl, hK, hB⟩ := hrel
        by_cases hlt : k < kn
        · obtain ⟨b, off, ha, hb, hc⟩ := (s2.keep hK).elem hlt
          subst ha
          have hki : k < kids.length := by omega
          have c0 : wr.cell? ⟨b, off + k * 4, none⟩ = some (.int .i64 kids[k].hd.kind) := hc 0 _ (by omega) (by rw [flat_get GT.cells 4 GT.cells_len kids k 0 hki (by omega)]; rfl)
          have c1 : wr.cell? ⟨b, off + k * 4 + 1, none⟩ = some (.int .i64 kids[k].hd.dim) := hc 1 _ (by omega) (by rw [flat_get GT.cells 4 GT.cells_len kids k 1 hki (by omega)]; rfl)
          have c2 : wr.cell? ⟨b, off + k * 4 + 2, none⟩ = some (.slice kids[k].hd.na kids[k].hd.nn kids[k].hd.nc) := hc 2 _ (by omega) (by rw [flat_get GT.cells 4 GT.cells_len kids k 2 hki (by omega)]; rfl)
          have c3 : wr.cell? ⟨b, off + k * 4 + 3, none⟩ = some (.slice kids[k].hd.ka kids[k].hd.kn kids[k].hd.kc) := hc 3 _ (by omega) (by rw [flat_get GT.cells 4 GT.cells_len kids k 3 hki (by omega)]; rfl)
          have hs : ∀ j (hj : j < kids.length), kids[k].Real → j < k + 1 → kids[j].Real := fun j hj h hl => by
            rcases Nat.lt_or_ge j k with h1 | h1
            · exact hB j hj h1
            · have : j = k := by omega
              subst this; exact h
          have hI := fun w' => ih kids[k] (List.getElem_mem _) w'
          clear hc
          generalize kids[k] = x at *
          go_wp2_with fail
          refine (hI _ ?_).mono ?_
          · with_reducible (repeat first | exact Kx.r _ | assumption | refine Kx.a ?_ _ | refine Kx.d ?_ | refine Kx.e ?_ _ | refine Kx.s (by simp <;> omega) ?_ _ | refine Kx.t ?_ (by assumption))
          rintro e w3 ⟨⟨r, rfl, hr⟩, hk3⟩
          clear hI
          cases r with
          | false =>
            go_wp2_with fail
            go_ret
            refine ⟨⟨false, rfl, fun h => by cases h⟩, ?_⟩
            with_reducible (repeat first | exact Kx.r _ | assumption | refine Kx.a ?_ _ | refine Kx.d ?_ | refine Kx.e ?_ _ | refine Kx.s (by simp <;> omega) ?_ _ | refine Kx.t ?_ (by assumption))
          | true =>
            go_wp2_with fail
            refine ⟨⟨k + 1, by omega, by go_num, ?_, fun j hj hl => hs j hj (hr (by simp)) hl⟩, by simp [intOf]; omega⟩
            with_reducible (repeat first | exact Kx.r _ | assumption | refine Kx.a ?_ _ | refine Kx.d ?_ | refine Kx.e ?_ _ | refine Kx.s (by simp <;> omega) ?_ _ | refine Kx.t ?_ (by assumption))
        · have hkn2 : k = kn := by omega
          subst hkn2
          go_wp2
          go_ret
          refine ⟨⟨true, rfl, fun _ => .mk _ _ _ (fun x hx => ?_) (fun t ht => ?_)⟩, hK⟩
          · obtain ⟨j, hj, rfl⟩ := List.getElem_of_mem hx
            exact hA j hj (by omega)
          · obtain ⟨j, hj, rfl⟩ := List.getElem_of_mem ht
            exact hB j hj (by omega)
end Go.Proofs.YtbakhldjfplbfaaGreat
