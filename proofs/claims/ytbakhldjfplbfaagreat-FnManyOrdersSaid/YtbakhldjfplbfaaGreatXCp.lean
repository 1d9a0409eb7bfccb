/-
  copy of a whole slice into a new one of its length, elements of any size. No condition.
-/
import Derived.Test.YtbakhldjfplbfaaGreatXKf
import Derived.Laws.CopyOwn
set_option linter.unusedVariables false
set_option linter.unusedSimpArgs false
namespace Go.Kf
open Go.RowKit Go.Sl Go.Ch
theorem run_copy_all {P : Program} (w : World) (dT sT ty elem : TypeId) (k g n : Nat) (sp : Option Addr) (sCap : Nat) (cur : Array Value) (t : TypeId) (xs : List Value)
    (hu : P.underlying dT = some (.slice elem)) (hs : (P.info? elem).map (·.size) = some k)
    (hg : w.heap[g]? = some (.cells cur t (0, 0))) (hc : cur.size = n * k) (hS : Sz w sp n sCap k xs) (h1 : ∀ v ∈ xs, v.oneCell' = true) :
    (Builtin.copy_ #[dT, sT] ty #[.slice (some ⟨g, 0, none⟩) n n, .slice sp n sCap]).run P w = .ok (goInt n) (w.setRow g xs.toArray) := by
  have hxl := hS.len
  have hst := run_storeCells_at P g 0 t xs 0 cur w hg (by simp; omega) h1
  have hrow : (cur.toList.take (0 + 0) ++ xs ++ cur.toList.drop (0 + 0 + xs.length)).toArray = xs.toArray := by
    rw [List.drop_of_length_le (by simp; omega)]; simp
  rw [hrow] at hst
  cases hq : P.info? elem with
  | none => simp [hq] at hs
  | some i =>
    have hi : i.size = k := by simpa [hq] using hs
    cases sp with
    | some ad =>
      have hsrc : ∀ j v, xs[j]? = some v → w.cell? (ad.add j) = some v := fun j v hj => by
        rcases Nat.eq_zero_or_pos n with h0 | h0
        · subst h0
          have : xs = [] := List.eq_nil_of_length_eq_zero (by simpa using hxl)
          subst this; simp at hj
        · obtain ⟨b, off, e, _, hcc⟩ := (hS.some_ h0).at_ ad rfl
          subst e
          rw [add_none]
          exact hcc j v hj
      have hl := run_loadCells_list (P := P) w ad xs hsrc
      simp [Builtin.copy_, run_underlying hu, Builtin.lenOf, Builtin.firstCells, sizeOf, typeInfo, hq, hi, ← hxl, hl, hst]
    | none =>
      have hn0 : n = 0 := by
        rcases Nat.eq_zero_or_pos n with h0 | h0
        · exact h0
        · have h2 := hS.some_ h0
          have h3 := h2.nil rfl
          have h4 := h2.le
          omega
      subst hn0
      have : xs = [] := List.eq_nil_of_length_eq_zero (by simpa using hxl)
      subst this
      have hcur : cur = #[] := Array.eq_empty_of_size_eq_zero (by simpa using hc)
      subst hcur
      simp [Builtin.copy_, run_underlying hu, Builtin.lenOf, Builtin.firstCells, sizeOf, typeInfo, hq, hi, storeCells]
      exact (setRow_self w g #[] t (0, 0) hg).symm
theorem wpList_copy_all {P : Program} {w : World} {ops : Array Oper} {rest : List Oper} {o : Oper} {a : Act} {Q : Exit → Act → World → Prop} (hgd : o.guard = none) (d s : Operand) (dT sT : TypeId)
    (ho : o.op = .call { callee := .builtin .copy, args := #[d, s], argTypes := #[dT, sT] }) (elem : TypeId) (k : Nat) (hu : P.underlying dT = some (.slice elem)) (hs : (P.info? elem).map (·.size) = some k)
    (g n : Nat) (sp : Option Addr) (sCap : Nat) (hd : a.eval d = .slice (some ⟨g, 0, none⟩) n n) (hsv : a.eval s = .slice sp n sCap) (cur : Array Value) (t : TypeId) (xs : List Value)
    (hg : w.heap[g]? = some (.cells cur t (0, 0))) (hc : cur.size = n * k) (hS : Sz w sp n sCap k xs) (h1 : ∀ v ∈ xs, v.oneCell' = true) (B : Nat) (w0 : World) (hb : Below B w0 w) (hBg : B ≤ g)
    (h : ∀ w', Hid (w'.heap[g]? = some (.cells xs.toArray t (0, 0))) → Below B w0 w' → w.heap.size = w'.heap.size → wpList P ops Q rest (a.put o.dst (goInt n)) w') : wpList P ops Q (o :: rest) a w := by
  refine wpList_plain hgd fun K hK => ?_
  have hrun := run_copy_all (P := P) w dT sT o.type elem k g n sp sCap cur t xs hu hs hg hc hS h1
  unfold Oper.wp
  simp [execOp, ho, resolve, invoke, builtin, hd, hsv, hrun, Result.andThen]
  exact hK _ _ (h _ (show _ = _ from setRow_heap w g cur _ t _ hg) (below_setRow hb hBg _) (by simp [World.setRow]))
end Go.Kf
