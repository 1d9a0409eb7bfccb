/-
  The writer of binary forms: its methods append bytes to its own row. No condition.
-/
import Derived.Test.YtinbkonmlgediaaGreatXB1
import Derived.Test.YtinbkonmlgediaaGreatXAp
import Derived.Deep.RegionLaw
import Derived.BigQuiet
import Derived.Lib.Hide
set_option linter.unusedVariables false
set_option linter.unusedSimpArgs false
namespace Go.Proofs.YtinbkonmlgediaaGreat
open Go.RowKit Go.Fl Go.Sl Go.Pg Go.Ch Go.Kf Go.By
theorem run_append_szat {P : Program} (w : World) (base : Nat) (t ty e : TypeId) (i : TypeInfo) (z : Value) (size bytes : Nat) (ht : P.underlying t = some (.slice e)) (hi : P.info? e = some i) (hz : i.zero = some z)
    (hsize : i.size = size) (hby : i.bytes = bytes) (hzs : z.cells.size = size) (hsz : 0 < size)
    (v : Value) (n : Nat) (xs : List Value) (hown : w.ownsRow base e size v n xs)
    (A : Option Addr) (m c : Nat) (news : List Value) (hr : Sz w A m c size news) (h1 : ∀ u ∈ news, u.oneCell' = true)
    (h63 : n + m ≤ maxLen) (hbytes : (n + m) * bytes ≤ 140737488355328) (hbase : base ≤ w.heap.size) :
    ∃ al cap w', (Builtin.append_ #[t, t] ty #[v, .slice A m c]).run P w = .ok (.slice al (n + m) cap) w' ∧ w'.ownsRow base e size (.slice al (n + m) cap) (n + m) (xs ++ news) ∧ w.grownBy w' v.ownBlock ∧
      ((Value.slice al (n + m) cap).ownBlock = v.ownBlock ∨ (Value.slice al (n + m) cap).ownBlock = some w.heap.size) := by
  cases A with
  | some ad =>
    obtain ⟨v', w', hr, h2, h3, _, hat⟩ := run_append_own_at (P := P) w base t ty e i z size bytes ht hi hz hsize hby hzs hsz v n xs hown ad m c news hr.len (fun j u hj => by
      rcases Nat.eq_zero_or_pos m with h0 | h0
      · subst h0
        have hn : news = [] := List.eq_nil_of_length_eq_zero (by simpa using hr.len)
        subst hn
        simp at hj
      · obtain ⟨b, off, e, _, hc⟩ := (hr.some_ h0).at_ ad rfl
        subst e
        rw [add_none]
        exact hc j u hj) h1 h63 hbytes hbase
    obtain ⟨al, cap, rfl, _, _, _⟩ := of_owns h2
    exact ⟨al, cap, w', hr, h2, h3, hat⟩
  | none =>
    have hm : m = 0 := by
      rcases Nat.eq_zero_or_pos m with h0 | h0
      · exact h0
      · have h2 := hr.some_ h0
        have h3 := h2.nil rfl
        have h4 := h2.le
        omega
    subst hm
    have hn : news = [] := List.eq_nil_of_length_eq_zero (by simpa using hr.len)
    subst hn
    obtain ⟨al, cap, rfl, _, _, _⟩ := of_owns hown
    exact ⟨al, cap, w, run_append_nil0 w base t ty e i size ht hi _ n xs hown c, by simpa using hown, World.grownBy.refl w _, .inl rfl⟩
theorem step_append_sz {P : Program} {ops : Array Oper} {o : Oper} {a : Act} {w : World} {K : Act → World → Prop} {Q : Exit → Act → World → Prop} {E : Prop}
    (hg : o.guard = none) (s x : Operand) (t : TypeId) (hop : o.op = Op.call { callee := Callee.builtin Builtin.append, args := #[s, x], argTypes := #[t, t] })
    (base : Nat) (e : TypeId) (i : TypeInfo) (z : Value) (size bytes : Nat) (h1 : P.underlying t = some (.slice e)) (h2 : P.info? e = some i) (h3 : i.zero = some z) (h4 : i.size = size) (h5 : i.bytes = bytes) (h6 : z.cells.size = size) (h7 : 0 < size)
    (v : Value) (n : Nat) (xs : List Value) (hs : a.eval s = v) (hown : w.ownsRow base e size v n xs)
    (ad : Option Addr) (m c : Nat) (news : List Value) (hx : a.eval x = .slice ad m c) (hr : Sz w ad m c size news) (h1c : ∀ u ∈ news, u.oneCell' = true)
    (b1 : n + m ≤ maxLen) (b2 : (n + m) * bytes ≤ 140737488355328) (hbase : base ≤ w.heap.size)
    (hK : ∀ al cap w', w'.ownsRow base e size (.slice al (n + m) cap) (n + m) (xs ++ news) → w.grownBy w' v.ownBlock → ((Value.slice al (n + m) cap).ownBlock = v.ownBlock ∨ (Value.slice al (n + m) cap).ownBlock = some w.heap.size) → K (a.put o.dst (.slice al (n + m) cap)) w') :
    if Region.wanted o (yielded ops a.tmps) = true then Oper.wp P o a w K Q else E := by
  have hw : Region.wanted o (yielded ops a.tmps) = true := by simp [Region.wanted, hg]
  rw [if_pos hw]
  obtain ⟨al, cap, w', hrun, r1, r2, r3⟩ := run_append_szat (P := P) w base t o.type e i z size bytes h1 h2 h3 h4 h5 h6 h7 v n xs hown ad m c news hr h1c b1 b2 hbase
  unfold Oper.wp
  simp [execOp, hop, resolve, invoke, builtin, hs, hx, hrun, Result.andThen]
  exact hK al cap w' r1 r2 r3
end Go.Proofs.YtinbkonmlgediaaGreat
