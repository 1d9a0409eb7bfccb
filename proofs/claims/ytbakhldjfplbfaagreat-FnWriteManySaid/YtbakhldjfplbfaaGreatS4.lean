/-
  The reference's geometries made of plain data: leaves. No condition.
-/
import Derived.Test.YtbakhldjfplbfaaGreatS3
set_option linter.unusedVariables false
set_option linter.unusedSimpArgs false
namespace Go.Proofs.YtbakhldjfplbfaaGreat
open Go.RowKit Go.Fl Go.Sl Go.Pg Go.Ch Go.Kf
theorem forceP_ok (d : Nat) (hd : d < 4) : ∀ {p : Pg}, PgOk p → PgOk (forceP d p) := by
  intro p h
  induction h with
  | mk k d0 ps kids hd0 h1 h2 h3 h4 ih =>
    rw [forceP_eq]
    refine .mk _ _ _ _ hd (fun q hq => ?_) (by simpa using h2) (by simpa using h3) (fun c hc => ?_)
    · obtain ⟨r, _, rfl⟩ := List.mem_map.1 hq
      exact force_norm d r
    · obtain ⟨r, hr, rfl⟩ := List.mem_map.1 hc
      exact ih r hr
theorem newP_ok : ∀ t : GT, t.Small → PgOk (newP t) := GT.ind fun h nums kids ih hs => by
  have h1 := hs.nums
  have h2 := hs.few
  have h3 := hs.kid
  have hlen : (placesOf (dim4 h.dim) nums).length ≤ 1000 := by rw [placesOf_len]; exact Nat.le_trans (Nat.div_le_self _ _) h1
  rw [newP]
  split
  · refine .mk _ _ _ _ (dim4_lt _) (fun q hq => placesOf_norm _ _ q (List.mem_of_mem_take hq)) ?_ (by simp) (by simp)
    rw [List.length_take]; omega
  · split
    · exact .mk _ _ _ _ (dim4_lt _) (fun q hq => placesOf_norm _ _ q hq) hlen (by simp) (by simp)
    · rw [newPs_eq]
      have hl : ((kids.map newP).filter (takes (kindN h.kind))).length ≤ 1000 := Nat.le_trans (List.length_filter_le _ _) (by simpa using h2)
      have hm : ∀ c ∈ (kids.map newP).filter (takes (kindN h.kind)), PgOk c := fun c hc => by
        obtain ⟨r, hr, rfl⟩ := List.mem_map.1 (List.mem_filter.1 hc).1
        exact ih r hr (h3 r hr)
      unfold wholeP
      split
      · exact .mk _ _ _ _ (dim4_lt _) (by simp) (by simp) (by simp) (by simp)
      · refine .mk _ _ _ _ (andD_lt _) (by simp) (by simp) (by simpa using hl) (fun c hc => ?_)
        obtain ⟨r, hr, rfl⟩ := List.mem_map.1 hc
        exact forceP_ok _ (andD_lt _) (hm r hr)
/-- an append of any slice to nothing -/
theorem step_append_nil {P : Program} {w : World} {ops : Array Oper} {o : Oper} {a : Act} {K : Act → World → Prop} {Q : Exit → Act → World → Prop} {E : Prop} (hgd : o.guard = none) (s x : Operand) (t : TypeId)
    (ho : o.op = .call { callee := .builtin .append, args := #[s, x], argTypes := #[t, t] })
    (e : TypeId) (i : TypeInfo) (z : Value) (size bytes : Nat) (ht : P.underlying t = some (.slice e)) (hi : P.info? e = some i) (hz : i.zero = some z)
    (hsize : i.size = size) (hby : i.bytes = bytes) (hzs : z.cells.size = size) (hsz : 0 < size)
    (hs : a.eval s = .slice none 0 0)
    (A : Option Addr) (m c : Nat) (news : List Value) (hx : a.eval x = .slice A m c) (hr : Sz w A m c size news) (h1 : ∀ u ∈ news, u.oneCell' = true)
    (hbytes : m * bytes ≤ 140737488355328)
    (h : ∀ al cap w', SzF w' (fun b => w.heap.size ≤ b) al m cap size news → Stab.Keeps w w' → K (a.put o.dst (.slice al m cap)) w') : if Region.wanted o (yielded ops a.tmps) = true then Oper.wp P o a w K Q else E := by
  have hw : Region.wanted o (yielded ops a.tmps) = true := by simp [Region.wanted, hgd]
  have hown : w.ownsRow w.heap.size e size (.slice none 0 0) 0 [] := ⟨by simp, .inl ⟨rfl, rfl⟩⟩
  have hmx : m ≤ maxLen := Nat.le_trans hr.le hr.max
  rw [if_pos hw]
  cases A with
  | some ad =>
    have hn : ∀ j u, news[j]? = some u → w.cell? (ad.add j) = some u := fun j u hj => by
      rcases Nat.eq_zero_or_pos m with h0 | h0
      · subst h0
        have hn : news = [] := List.eq_nil_of_length_eq_zero (by simpa using hr.len)
        subst hn
        simp at hj
      · obtain ⟨b, off, e, _, hc⟩ := (hr.some_ h0).at_ ad rfl
        subst e
        rw [add_none]
        exact hc j u hj
    obtain ⟨v', w', hrun, h2, h3, _, _⟩ := run_append_own_at (P := P) w w.heap.size t o.type e i z size bytes ht hi hz hsize hby hzs hsz (.slice none 0 0) 0 [] hown ad m c news hr.len hn h1 (by omega) (by rw [Nat.zero_add]; exact hbytes) (Nat.le_refl _)
    obtain ⟨al, cap, rfl, _, _, _⟩ := of_owns h2
    have hk : Stab.Keeps w w' := (Below.refl w.heap.size w).grown h3 (Nat.le_refl _) (fun k hk' => by cases hk')
    unfold Oper.wp execOp
    simp only [ho, resolve, invoke, builtin, Sem.run_bind, Sem.run_pure, Result.andThen_ok, List.map_toArray, List.map_cons, List.map_nil, hs, hx, hrun]
    have h4 := SzF.of_owns (F := fun b => w.heap.size ≤ b) h2 (fun b hb => hb)
    simp only [Nat.zero_add, List.nil_append] at h4 ⊢
    exact h al cap w' h4 hk
  | none =>
    have hm : m = 0 := by
      rcases Nat.eq_zero_or_pos m with h0 | h0
      · exact h0
      · have h2 := hr.some_ h0
        have h3 := h2.nil rfl
        have h4 := h2.le
        omega
    subst hm
    have hn : news = [] := List.eq_nil_of_length_eq_zero (by simpa using hr.len)
    subst hn
    have hrun := run_append_nil0 (P := P) w w.heap.size t o.type e i size ht hi _ 0 [] hown c
    unfold Oper.wp execOp
    simp only [ho, resolve, invoke, builtin, Sem.run_bind, Sem.run_pure, Result.andThen_ok, List.map_toArray, List.map_cons, List.map_nil, hs, hx, hrun]
    exact h none 0 w (SzF.nil w _ size) (Stab.Keeps.refl w)
end Go.Proofs.YtbakhldjfplbfaaGreat
