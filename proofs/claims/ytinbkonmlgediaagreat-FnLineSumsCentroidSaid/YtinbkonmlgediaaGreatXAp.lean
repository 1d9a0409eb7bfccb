/-
  Appends of a slice that may be empty or nil; the rest of a slice. No condition.
-/
import Derived.Test.YtinbkonmlgediaaGreatXSz
set_option linter.unusedVariables false
set_option linter.unusedSimpArgs false
namespace Go.Sl
open Go.RowKit
theorem run_append_nil0 {P : Program} (w : World) (base : Nat) (t ty e : TypeId) (i : TypeInfo) (size : Nat) (ht : P.underlying t = some (.slice e)) (hi : P.info? e = some i)
    (v : Value) (n : Nat) (xs : List Value) (hown : w.ownsRow base e size v n xs) (c : Nat) : (Builtin.append_ #[t, t] ty #[v, .slice none 0 c]).run P w = .ok v w := by
  rcases hown.2 with ⟨rfl, rfl⟩ | ⟨g, cap, cur, rfl, _, _, hnc, _⟩
  · simp [Builtin.append_, run_underlying ht, sizeOf, typeInfo, hi, Builtin.lenOf, Builtin.firstCells]
  · simp [Builtin.append_, run_underlying ht, sizeOf, typeInfo, hi, Builtin.lenOf, Builtin.firstCells, hnc, storeCells]
/-- append of a slice that came from anywhere -/
theorem append_sz {P : Program} {w w0 : World} {ops : Array Oper} {rest : List Oper} {o : Oper} {a : Act} {Q : Exit → Act → World → Prop} (hgd : o.guard = none) (s x : Operand) (t : TypeId)
    (ho : o.op = .call { callee := .builtin .append, args := #[s, x], argTypes := #[t, t] })
    (base : Nat) (e : TypeId) (i : TypeInfo) (z : Value) (size bytes : Nat) (ht : P.underlying t = some (.slice e)) (hi : P.info? e = some i) (hz : i.zero = some z)
    (hsize : i.size = size) (hby : i.bytes = bytes) (hzs : z.cells.size = size) (hsz : 0 < size)
    (v : Value) (n : Nat) (xs : List Value) (hs : a.eval s = v) (hown : w.ownsRow base e size v n xs)
    (A : Option Addr) (m c : Nat) (news : List Value) (hx : a.eval x = .slice A m c) (hr : Sz w A m c size news) (h1 : ∀ u ∈ news, u.oneCell' = true)
    (h63 : n + m ≤ maxLen) (hbytes : (n + m) * bytes ≤ 140737488355328) (hbase : base ≤ w.heap.size) (hk : Below base w0 w)
    (h : ∀ al cap w', w'.ownsRow base e size (.slice al (n + m) cap) (n + m) (xs ++ news) → Below base w0 w' → w.heap.size ≤ w'.heap.size → w.grownBy w' v.ownBlock → wpList P ops Q rest (a.put o.dst (.slice al (n + m) cap)) w') : wpList P ops Q (o :: rest) a w := by
  cases A with
  | some ad =>
    refine append_own hgd s x t ho base e i z size bytes ht hi hz hsize hby hzs hsz v n xs hs hown ad m c news hx hr.len (fun j u hj => ?_) h1 h63 hbytes hbase hk h
    rcases Nat.eq_zero_or_pos m with h0 | h0
    · subst h0
      have hn : news = [] := List.eq_nil_of_length_eq_zero (by simpa using hr.len)
      subst hn
      simp at hj
    · obtain ⟨b, off, e, _, hc⟩ := (hr.some_ h0).at_ ad rfl
      subst e
      rw [add_none]
      exact hc j u hj
  | none =>
    have hm : m = 0 := by
      rcases Nat.eq_zero_or_pos m with h0 | h0
      · exact h0
      · have h2 := hr.some_ h0
        have h3 := h2.nil rfl
        have h4 := h2.le
        omega
    subst hm
    have hn : news = [] := List.eq_nil_of_length_eq_zero (by simpa using hr.len)
    subst hn
    obtain ⟨al, cap, rfl, _, _, _⟩ := of_owns hown
    refine wpList_plain hgd fun K hK => ?_
    unfold Oper.wp execOp
    have hrun := run_append_nil0 (P := P) w base t o.type e i size ht hi _ n xs hown c
    simp only [ho, resolve, invoke, builtin, Sem.run_bind, Sem.run_pure, Result.andThen_ok, List.map_toArray, List.map_cons, List.map_nil, hs, hx, hrun]
    exact hK _ _ (h al cap w (by simpa using hown) hk (Nat.le_refl _) (World.grownBy.refl w _))
end Go.Sl
