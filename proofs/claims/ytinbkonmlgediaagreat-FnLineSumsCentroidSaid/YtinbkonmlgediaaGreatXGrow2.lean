/-
  An own slice that grows thing by thing, above a bound. No condition.
-/
import Derived.Test.YtinbkonmlgediaaGreatXGrow
import Derived.RegionTactic
set_option linter.unusedVariables false
set_option linter.unusedSimpArgs false
namespace Go.Kf
open Go.RowKit Go.Sl Go.Ch
/-- the slice v of m things, made above B: what they are lies outside it -/
def GrowB (B : Nat) (wr : World) {α : Type} (R : World → (Nat → Prop) → List Value → α → Prop) (T : TypeId) (kc m : Nat) (v : Value) (ys : List α) : Prop :=
  ∃ (G : Nat → Prop) (css : List (List Value)) (al : Option Addr) (c : Nat), v = .slice al m c ∧ B ≤ wr.heap.size ∧ wr.ownsRow B T kc v m css.flatten ∧ css.length = m ∧ ys.length = m ∧ (∀ c ∈ css, c.length = kc) ∧ (∀ i (h1 : i < css.length) (h2 : i < ys.length), R wr G css[i] ys[i]) ∧ (∀ b, G b → B ≤ b ∧ b < wr.heap.size) ∧ ∀ x, al = some x → ¬ G x.block
variable {α : Type} {R : World → (Nat → Prop) → List Value → α → Prop} {w wr w4 : World} {B : Nat} {T : TypeId} {kc m : Nat} {v : Value} {ys : List α}
theorem GrowB.nil (B : Nat) (wr : World) (R : World → (Nat → Prop) → List Value → α → Prop) (T : TypeId) (kc : Nat) (hB : B ≤ wr.heap.size) : GrowB B wr R T kc 0 (.slice none 0 0) [] :=
  ⟨fun _ => False, [], none, 0, rfl, hB, World.ownsRow_nil _ _ _ _, rfl, rfl, fun c hc => by simp at hc, fun i h1 => by simp at h1, fun b hb => hb.elim, fun x hx => by cases hx⟩
theorem GrowB.size (h : GrowB B wr R T kc m v ys) : B ≤ wr.heap.size := by obtain ⟨_, _, _, _, _, h, _⟩ := h; exact h
theorem GrowB.shape (h : GrowB B wr R T kc m v ys) : ∃ al c, v = .slice al m c ∧ m ≤ c ∧ c ≤ maxLen := by
  obtain ⟨_, _, al, c, rfl, _, ho, _⟩ := h
  obtain ⟨a, c', e, hs, _⟩ := of_owns ho
  cases e
  exact ⟨al, c, rfl, hs.le, hs.max⟩
theorem GrowB.own (h : GrowB B wr R T kc m v ys) {g : Nat} (hg : v.ownBlock = some g) : B ≤ g ∧ g < wr.heap.size := by
  obtain ⟨_, _, al, c, rfl, _, ho, _⟩ := h
  exact ho.lt g hg
theorem GrowB.kf (S : Stable R) (h : GrowB B wr R T kc m v ys) (hk : KF (fun b => B ≤ b) wr w4) : GrowB B w4 R T kc m v ys := by
  obtain ⟨G, css, al, c, h1, h2, h3, h4, h5, h6, h7, h8, h9⟩ := h
  refine ⟨G, css, al, c, h1, Nat.le_trans h2 hk.size, ?_, h4, h5, h6, fun i a b => S.kf (h7 i a b) (hk.mono fun b hb => (h8 b hb).1), fun b hb => ⟨(h8 b hb).1, Nat.lt_of_lt_of_le (h8 b hb).2 hk.size⟩, h9⟩
  refine ⟨h3.1, ?_⟩
  rcases h3.2 with hn | ⟨g, cap, cur, hv, hb, hg, rest⟩
  · exact .inl hn
  · have hlt : g < wr.heap.size := by
      rcases Nat.lt_or_ge g wr.heap.size with h | h
      · exact h
      · rw [Array.getElem?_eq_none h] at hg; cases hg
    exact .inr ⟨g, cap, cur, hv, hb, by rw [hk.block g hlt hb]; exact hg, rest⟩
theorem GrowB.keep (S : Stable R) (h : GrowB B wr R T kc m v ys) (hk : Stab.Keeps wr w4) : GrowB B w4 R T kc m v ys := h.kf S (KF.keeps hk)
/-- as a slice of things -/
theorem GrowB.toRows (S : Stable R) {al : Option Addr} {c : Nat} (h : GrowB B wr R T kc m (.slice al m c) ys) : ∃ css, Rows wr (fun b => B ≤ b) R al m c kc css ys := by
  obtain ⟨G, css, al', c', h1, h2, h3, h4, h5, h6, h7, h8, h9⟩ := h
  cases h1
  exact ⟨css, h4, h5, h6, SzF.of_owns h3 fun b hb => hb, fun i a b => S.mono (h7 i a b) fun b _ hb => (h8 b hb).1⟩
/-- the run of an append -/
theorem run_append_growB {P : Program} (S : Stable R) (t ty e : TypeId) (i : TypeInfo) (z : Value) (size bytes : Nat) (ht : P.underlying t = some (.slice e)) (hi : P.info? e = some i) (hz : i.zero = some z)
    (hsize : i.size = size) (hby : i.bytes = bytes) (hzs : z.cells.size = size) (hsz : 0 < size)
    (v : Value) (m : Nat) (ys : List α) (hG : GrowB B w R e size m v ys)
    (ad : Addr) (c : Nat) (news : List Value) (hl : news.length = size) (hnews : ∀ j u, news[j]? = some u → w.cell? (ad.add j) = some u) (h1 : ∀ u ∈ news, u.oneCell' = true)
    (h63 : m + 1 ≤ maxLen) (hbytes : (m + 1) * bytes ≤ 140737488355328)
    (y : α) (G2 : Nat → Prop) (hy : R w G2 news y) (hg2 : ∀ b, G2 b → B ≤ b ∧ b < w.heap.size) (hg3 : ∀ g, v.ownBlock = some g → ¬ G2 g) :
    ∃ al cap w', (Builtin.append_ #[t, t] ty #[v, .slice (some ad) 1 c]).run P w = .ok (.slice al (m + 1) cap) w' ∧ GrowB B w' R e size (m + 1) (.slice al (m + 1) cap) (ys ++ [y]) ∧ Below B w w' ∧ w.grownBy w' v.ownBlock := by
  obtain ⟨G, css, al, c0, hv, hk, hown, g4, g5, g6, g7, g8, g9⟩ := hG
  obtain ⟨v', w', hr, h2, h3, _, hat⟩ := run_append_own_at (P := P) w B t ty e i z size bytes ht hi hz hsize hby hzs hsz v m css.flatten hown ad 1 c news (by omega) hnews h1 h63 hbytes hk
  obtain ⟨al', cap', rfl, _, _, _⟩ := of_owns h2
  have hsw := h3.size
  have hbel : Below B w w' := Below.grown (Below.refl _ _) h3 hk fun k hk' => (hown.lt k hk').1
  refine ⟨al', cap', w', hr, ⟨fun b => G b ∨ G2 b, css ++ [news], al', cap', rfl, Nat.le_trans hk hsw, by rw [List.flatten_append]; simpa using h2, by simp [g4], by simp [g5], fun d hd => ?_, fun j a1 a2 => ?_, fun b hb => ?_, fun q hq hb => ?_⟩, hbel, h3⟩
  · rcases List.mem_append.1 hd with hd | hd
    · exact g6 d hd
    · simp at hd; rw [hd]; exact hl
  · have hK : KF (fun b => G b ∨ G2 b) w w' := (KF.refl _ _).grown h3 fun k hk2 hb => by
      rcases hb with hb | hb
      · subst hv
        cases al with
        | none => cases hk2
        | some q => cases hk2; exact g9 q rfl hb
      · exact hg3 k hk2 hb
    rcases Nat.lt_or_ge j css.length with hj | hj
    · rw [List.getElem_append_left hj, List.getElem_append_left (by omega)]
      exact S.kf (S.mono (g7 j hj (by omega)) fun b _ hb => .inl hb) hK
    · have hjm : j = m := by simp at a1; omega
      subst hjm
      have e1 : (css ++ [news])[j] = news := by rw [List.getElem_append_right hj]; simp [g4]
      have e2 : (ys ++ [y])[j] = y := by rw [List.getElem_append_right (by omega)]; simp [g5]
      rw [e1, e2]
      exact S.kf (S.mono hy fun b _ hb => .inr hb) hK
  · rcases hb with hb | hb
    · exact ⟨(g8 b hb).1, Nat.lt_of_lt_of_le (g8 b hb).2 hsw⟩
    · exact ⟨(hg2 b hb).1, Nat.lt_of_lt_of_le (hg2 b hb).2 hsw⟩
  · subst hq
    rcases hat with hat | hat
    · rcases hb with hb | hb
      · subst hv
        cases al with
        | none => cases hat
        | some r => simp only [Value.ownBlock, Option.some.injEq] at hat; rw [hat] at hb; exact g9 r rfl hb
      · exact hg3 _ hat.symm hb
    · simp only [Value.ownBlock, Option.some.injEq] at hat
      rw [hat] at hb
      rcases hb with hb | hb
      · have := (g8 _ hb).2; omega
      · have := (hg2 _ hb).2; omega
/-- in a plain region -/
theorem append_growB {P : Program} {ops : Array Oper} {rest : List Oper} {o : Oper} {a : Act} {Q : Exit → Act → World → Prop} (S : Stable R) (hgd : o.guard = none) (s x : Operand) (t : TypeId)
    (ho : o.op = .call { callee := .builtin .append, args := #[s, x], argTypes := #[t, t] })
    (e : TypeId) (i : TypeInfo) (z : Value) (size bytes : Nat) (ht : P.underlying t = some (.slice e)) (hi : P.info? e = some i) (hz : i.zero = some z)
    (hsize : i.size = size) (hby : i.bytes = bytes) (hzs : z.cells.size = size) (hsz : 0 < size)
    (v : Value) (m : Nat) (ys : List α) (hs : a.eval s = v) (hG : GrowB B w R e size m v ys)
    (ad : Addr) (c : Nat) (news : List Value) (hx : a.eval x = .slice (some ad) 1 c) (hl : news.length = size) (hnews : ∀ j u, news[j]? = some u → w.cell? (ad.add j) = some u) (h1 : ∀ u ∈ news, u.oneCell' = true)
    (h63 : m + 1 ≤ maxLen) (hbytes : (m + 1) * bytes ≤ 140737488355328)
    (y : α) (G2 : Nat → Prop) (hy : R w G2 news y) (hg2 : ∀ b, G2 b → B ≤ b ∧ b < w.heap.size) (hg3 : ∀ g, v.ownBlock = some g → ¬ G2 g)
    (h : ∀ al cap w', GrowB B w' R e size (m + 1) (.slice al (m + 1) cap) (ys ++ [y]) → Below B w w' → w.grownBy w' v.ownBlock → wpList P ops Q rest (a.put o.dst (.slice al (m + 1) cap)) w') : wpList P ops Q (o :: rest) a w := by
  refine wpList_plain hgd fun K hK => ?_
  obtain ⟨al, cap, w', hr, h2, h3, h4⟩ := run_append_growB (P := P) S t o.type e i z size bytes ht hi hz hsize hby hzs hsz v m ys hG ad c news hl hnews h1 h63 hbytes y G2 hy hg2 hg3
  unfold Oper.wp execOp
  simp only [ho, resolve, invoke, builtin, Sem.run_bind, Sem.run_pure, Result.andThen_ok, List.map_toArray, List.map_cons, List.map_nil, hs, hx, hr]
  exact hK _ _ (h al cap w' h2 h3 h4)
/-- at a step of a region that draws its order -/
theorem step_append_growB {P : Program} {ops : Array Oper} {o : Oper} {a : Act} {K : Act → World → Prop} {Q : Exit → Act → World → Prop} {E : Prop} (S : Stable R) (hgd : o.guard = none) (s x : Operand) (t : TypeId)
    (ho : o.op = .call { callee := .builtin .append, args := #[s, x], argTypes := #[t, t] })
    (e : TypeId) (i : TypeInfo) (z : Value) (size bytes : Nat) (ht : P.underlying t = some (.slice e)) (hi : P.info? e = some i) (hz : i.zero = some z)
    (hsize : i.size = size) (hby : i.bytes = bytes) (hzs : z.cells.size = size) (hsz : 0 < size)
    (v : Value) (m : Nat) (ys : List α) (hs : a.eval s = v) (hG : GrowB B w R e size m v ys)
    (ad : Addr) (c : Nat) (news : List Value) (hx : a.eval x = .slice (some ad) 1 c) (hl : news.length = size) (hnews : ∀ j u, news[j]? = some u → w.cell? (ad.add j) = some u) (h1 : ∀ u ∈ news, u.oneCell' = true)
    (h63 : m + 1 ≤ maxLen) (hbytes : (m + 1) * bytes ≤ 140737488355328)
    (y : α) (G2 : Nat → Prop) (hy : R w G2 news y) (hg2 : ∀ b, G2 b → B ≤ b ∧ b < w.heap.size) (hg3 : ∀ g, v.ownBlock = some g → ¬ G2 g)
    (h : ∀ al cap w', GrowB B w' R e size (m + 1) (.slice al (m + 1) cap) (ys ++ [y]) → Below B w w' → K (a.put o.dst (.slice al (m + 1) cap)) w') : if Region.wanted o (yielded ops a.tmps) = true then Oper.wp P o a w K Q else E := by
  have hw : Region.wanted o (yielded ops a.tmps) = true := by simp [Region.wanted, hgd]
  rw [if_pos hw]
  obtain ⟨al, cap, w', hr, h2, h3, _⟩ := run_append_growB (P := P) S t o.type e i z size bytes ht hi hz hsize hby hzs hsz v m ys hG ad c news hl hnews h1 h63 hbytes y G2 hy hg2 hg3
  unfold Oper.wp execOp
  simp only [ho, resolve, invoke, builtin, Sem.run_bind, Sem.run_pure, Result.andThen_ok, List.map_toArray, List.map_cons, List.map_nil, hs, hx, hr]
  exact h al cap w' h2 h3
end Go.Kf
