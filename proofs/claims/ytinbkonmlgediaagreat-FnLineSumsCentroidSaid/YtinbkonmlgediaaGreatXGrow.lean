/-
  An own slice that grows thing by thing. No condition.
-/
import Derived.Test.YtinbkonmlgediaaGreatXFill
import Derived.Maps.AppendAt
set_option linter.unusedVariables false
set_option linter.unusedSimpArgs false
namespace Go.Kf
open Go.RowKit Go.Sl Go.Ch
/-- the slice v of m things, made since w: what they are lies outside it -/
def Grow (w wr : World) {α : Type} (R : World → (Nat → Prop) → List Value → α → Prop) (T : TypeId) (kc m : Nat) (v : Value) (ys : List α) : Prop :=
  ∃ (G : Nat → Prop) (css : List (List Value)) (al : Option Addr) (c : Nat), v = .slice al m c ∧ Stab.Keeps w wr ∧ wr.ownsRow w.heap.size T kc v m css.flatten ∧ css.length = m ∧ ys.length = m ∧ (∀ c ∈ css, c.length = kc) ∧ (∀ i (h1 : i < css.length) (h2 : i < ys.length), R wr G css[i] ys[i]) ∧ (∀ b, G b → w.heap.size ≤ b ∧ b < wr.heap.size) ∧ ∀ x, al = some x → ¬ G x.block
variable {α : Type} {R : World → (Nat → Prop) → List Value → α → Prop} {w wr w4 : World} {T : TypeId} {kc m : Nat} {v : Value} {ys : List α}
theorem Grow.nil (w wr : World) (R : World → (Nat → Prop) → List Value → α → Prop) (T : TypeId) (kc : Nat) (hk : Stab.Keeps w wr) : Grow w wr R T kc 0 (.slice none 0 0) [] :=
  ⟨fun _ => False, [], none, 0, rfl, hk, World.ownsRow_nil _ _ _ _, rfl, rfl, fun c hc => by simp at hc, fun i h1 => by simp at h1, fun b hb => hb.elim, fun x hx => by cases hx⟩
theorem Grow.keeps (h : Grow w wr R T kc m v ys) : Stab.Keeps w wr := by obtain ⟨_, _, _, _, _, h, _⟩ := h; exact h
theorem Grow.len (h : Grow w wr R T kc m v ys) : ys.length = m := by obtain ⟨_, _, _, _, _, _, _, _, h, _⟩ := h; exact h
theorem Grow.shape (h : Grow w wr R T kc m v ys) : ∃ al c, v = .slice al m c ∧ m ≤ c ∧ c ≤ maxLen := by
  obtain ⟨_, _, al, c, rfl, _, ho, _⟩ := h
  obtain ⟨a, c', e, hs, _⟩ := of_owns ho
  cases e
  exact ⟨al, c, rfl, hs.le, hs.max⟩
theorem Grow.own (h : Grow w wr R T kc m v ys) {g : Nat} (hg : v.ownBlock = some g) : w.heap.size ≤ g ∧ g < wr.heap.size := by
  obtain ⟨_, _, al, c, rfl, _, ho, _⟩ := h
  exact ho.lt g hg
theorem Grow.keep (S : Stable R) (h : Grow w wr R T kc m v ys) (hk : Stab.Keeps wr w4) : Grow w w4 R T kc m v ys := by
  obtain ⟨G, css, al, c, h1, h2, h3, h4, h5, h6, h7, h8, h9⟩ := h
  exact ⟨G, css, al, c, h1, Stab.Keeps.trans h2 hk, owns_keep h3 hk, h4, h5, h6, fun i a b => S.kf (h7 i a b) (KF.keeps hk), fun b hb => ⟨(h8 b hb).1, Nat.lt_of_lt_of_le (h8 b hb).2 hk.size⟩, h9⟩
/-- as a slice of things -/
theorem Grow.toRows (S : Stable R) {al : Option Addr} {c : Nat} (h : Grow w wr R T kc m (.slice al m c) ys) : ∃ css, Rows wr (fun b => w.heap.size ≤ b) R al m c kc css ys := by
  obtain ⟨G, css, al', c', h1, h2, h3, h4, h5, h6, h7, h8, h9⟩ := h
  cases h1
  exact ⟨css, h4, h5, h6, SzF.of_owns h3 fun b hb => hb, fun i a b => S.mono (h7 i a b) fun b _ hb => (h8 b hb).1⟩
/-- one more is appended -/
theorem append_grow {P : Program} {w0 : World} {ops : Array Oper} {rest : List Oper} {o : Oper} {a : Act} {Q : Exit → Act → World → Prop} (S : Stable R) (hgd : o.guard = none) (s x : Operand) (t : TypeId)
    (ho : o.op = .call { callee := .builtin .append, args := #[s, x], argTypes := #[t, t] })
    (e : TypeId) (i : TypeInfo) (z : Value) (size bytes : Nat) (ht : P.underlying t = some (.slice e)) (hi : P.info? e = some i) (hz : i.zero = some z)
    (hsize : i.size = size) (hby : i.bytes = bytes) (hzs : z.cells.size = size) (hsz : 0 < size)
    (v : Value) (m : Nat) (ys : List α) (hs : a.eval s = v) (hG : Grow w0 w R e size m v ys)
    (ad : Addr) (c : Nat) (news : List Value) (hx : a.eval x = .slice (some ad) 1 c) (hl : news.length = size) (hnews : ∀ j u, news[j]? = some u → w.cell? (ad.add j) = some u) (h1 : ∀ u ∈ news, u.oneCell' = true)
    (h63 : m + 1 ≤ maxLen) (hbytes : (m + 1) * bytes ≤ 140737488355328)
    (y : α) (G2 : Nat → Prop) (hy : R w G2 news y) (hg2 : ∀ b, G2 b → w0.heap.size ≤ b ∧ b < w.heap.size) (hg3 : ∀ g, v.ownBlock = some g → ¬ G2 g)
    (h : ∀ al cap w', Grow w0 w' R e size (m + 1) (.slice al (m + 1) cap) (ys ++ [y]) → w.heap.size ≤ w'.heap.size → wpList P ops Q rest (a.put o.dst (.slice al (m + 1) cap)) w') : wpList P ops Q (o :: rest) a w := by
  obtain ⟨G, css, al, c0, hv, hk, hown, g4, g5, g6, g7, g8, g9⟩ := hG
  refine wpList_append_own_at w hgd s x t ho w0.heap.size e i z size bytes ht hi hz hsize hby hzs hsz v m css.flatten hs hown ad 1 c news hx (by omega) hnews h1 h63 hbytes hk.size fun v' w' h2 h3 _ hat => ?_
  obtain ⟨al', cap', rfl, _, _, _⟩ := of_owns h2
  have hk' : Stab.Keeps w0 w' := Below.grown hk h3 hk.size fun k hk' => (hown.lt k hk').1
  have hsw := h3.size
  refine h al' cap' w' ⟨fun b => G b ∨ G2 b, css ++ [news], al', cap', rfl, hk', by rw [List.flatten_append]; simpa using h2, by simp [g4], by simp [g5], fun d hd => ?_, fun j a1 a2 => ?_, fun b hb => ?_, fun q hq hb => ?_⟩ hsw
  · rcases List.mem_append.1 hd with hd | hd
    · exact g6 d hd
    · simp at hd; rw [hd]; exact hl
  · have hK : KF (fun b => G b ∨ G2 b) w w' := (KF.refl _ _).grown h3 fun k hk2 hb => by
      rcases hb with hb | hb
      · subst hv
        cases al with
        | none => cases hk2
        | some q => cases hk2; exact g9 q rfl hb
      · exact hg3 k hk2 hb
    rcases Nat.lt_or_ge j css.length with hj | hj
    · rw [List.getElem_append_left hj, List.getElem_append_left (by omega)]
      exact S.kf (S.mono (g7 j hj (by omega)) fun b _ hb => .inl hb) hK
    · have hjm : j = m := by simp at a1; omega
      subst hjm
      have e1 : (css ++ [news])[j] = news := by rw [List.getElem_append_right hj]; simp [g4]
      have e2 : (ys ++ [y])[j] = y := by rw [List.getElem_append_right (by omega)]; simp [g5]
      rw [e1, e2]
      exact S.kf (S.mono hy fun b _ hb => .inr hb) hK
  · rcases hb with hb | hb
    · exact ⟨(g8 b hb).1, Nat.lt_of_lt_of_le (g8 b hb).2 hsw⟩
    · exact ⟨(hg2 b hb).1, Nat.lt_of_lt_of_le (hg2 b hb).2 hsw⟩
  · subst hq
    rcases hat with hat | hat
    · rcases hb with hb | hb
      · subst hv
        cases al with
        | none => cases hat
        | some r => simp only [Value.ownBlock, Option.some.injEq] at hat; rw [hat] at hb; exact g9 r rfl hb
      · exact hg3 _ hat.symm hb
    · simp only [Value.ownBlock, Option.some.injEq] at hat
      rw [hat] at hb
      rcases hb with hb | hb
      · have := (g8 _ hb).2; omega
      · have := (hg2 _ hb).2; omega
end Go.Kf
