/-
  The search by distance: container/heap's Pop, walked. No condition.
  errors.Is over what stops a search: the error that stops, one that wraps it, another one, one that wraps that, walked. No condition.
  The search by distance: a node's entries put into the queue, walked. No condition.
  The search by distance in plain words: what has been gone through, what stands in the queue. No condition.
  The search by distance, walked, over whatever callback. No condition.
-/
import Derived.Test.YtokofimfinhnbaaDoorGe
import Derived.Stop.Asserts
import Derived.Deep.LoopGhost
import Derived.Stop.IfaceNil
set_option linter.unusedVariables false
set_option linter.unusedSimpArgs false
namespace Go.Proofs.YtokofimfinhnbaaDoor
open Go.RowKit Go.Fl Go.Sl Go.Ch Go.Fr Go.Mb Go.Hp
set_option maxRecDepth 100000 in
set_option maxHeartbeats 1000000 in
theorem hpop_ (base q : Nat) (l : List QE) (y : B4) (yq : Q4) (w : World) (h : HQ w base q l y) (h0 : 0 < l.length) (hy : ZB y yq) (hyo : yq.ok) (hB : base ≤ w.heap.size) (hq : base ≤ q) (ha : ∀ x ∈ l, x.At w base yq) (hl : l.length < 1000000) :
    Calls Tryd.prog 32 #[.iface 91 (.pointer (some ⟨q, 0, none⟩))] w (fun e' w' => ∃ (e : QE) (l' : List QE), e' = .returned (.iface 92 e.ptr) ∧ (e :: l').Perm l ∧ (∀ x ∈ l, e.d ≤ x.d) ∧ HQ w' base q l' y ∧ Kq base q w w') := by
  obtain ⟨hQ, hH⟩ := h
  obtain ⟨n, hn⟩ : ∃ n, l.length = n + 1 := ⟨l.length - 1, by omega⟩
  have hlen := qlen_ base q l y w hQ
  rw [hn] at hlen
  have ms := m_swap q
  have mn := m_len q
  have mp := m_pop q
  have hS := QP.swap (⟨List.Perm.refl _, hQ, Kq.refl _ _ _⟩ : QP base q y l w w l) hB hq 0 n 0 n rfl rfl (by omega) (by omega)
  go_enter Tryd.func32, Tryd.ntmps32
  go_wp2_with fail
  refine hlen.mono ?_
  rintro e' w2 ⟨rfl, rfl⟩
  clear hlen
  go_wp2_with fail
  refine hS.mono ?_
  rintro e' w3 ⟨rfl, hp3, hQ3, hk3⟩
  clear hS
  have hB3 := Nat.le_trans hB hk3.ch.size
  have hl3 := hp3.length_eq
  have hdn := down_ base q n (qsw l 0 n) y yq w3 hQ3 hy hyo hB3 hq (fun x hx => (ha x (hp3.mem_iff.1 hx)).below hk3.bel) (by omega) (by omega) (by rw [keys_qsw (by omega) (by omega)]; exact DnI.start (by rw [← hn]; exact hH))
  go_wp2_with fail
  refine hdn.mono ?_
  clear hdn
  rintro e' w4 ⟨⟨b, rfl⟩, l4, ⟨⟨hp4, hQ4, hk4⟩, hO4⟩, hH4⟩
  have hl4 := hp4.length_eq
  have hB4 := Nat.le_trans hB3 hk4.ch.size
  have e1 : l4[n]? = some (l[0]'(by omega)) := by
    rw [hO4 n (Nat.le_refl _), ← qsw_eq (by omega) (by omega)]
    rw [List.getElem?_set_self (by simp; omega)]
  have e2 : l4 = l4.take n ++ [l[0]'(by omega)] := by
    have h5 : n < l4.length := by omega
    rw [List.getElem?_eq_getElem h5, Option.some.injEq] at e1
    rw [← e1, ← List.take_succ_eq_append_getElem h5, List.take_of_length_le (by omega)]
  have hmin : ∀ x ∈ l, (l[0]'(by omega)).d ≤ x.d := fun x hx => by
    obtain ⟨i, hi, rfl⟩ := List.mem_iff_getElem.1 hx
    have := hH.root i hi
    rw [keys_get (by omega), keys_get hi] at this
    exact this
  have hperm : (l[0]'(by omega) :: l4.take n).Perm l := by
    refine List.Perm.trans ?_ (hp4.trans hp3)
    rw [List.perm_comm]
    conv => lhs; rw [e2]
    exact List.perm_append_singleton _ _
  have hH5 : HpI (keys (l4.take n)) n := by
    intro i i0 hi
    have := hH4 i i0 hi
    rw [e2, keys_left (by simp; omega), keys_left (by simp; omega)] at this
    exact this
  generalize l[0] = e at *
  rw [e2] at hQ4
  have hpp := qpop_ base q (l4.take n) e y w4 hQ4 hB4 hq (by simp; omega)
  simp only [QE.ptr] at hpp
  have hln : (l4.take n).length = n := by simp; omega
  generalize l4.take n = l5 at *
  have HMIN := Lib.hid hmin
  have HPERM := Lib.hid hperm
  have HH5 := Lib.hid hH5
  clear e1 e2 hH4 hO4 hp4 hQ4 hmin hperm hH hp3 hQ3 hH5
  go_wp2_with fail
  refine hpp.mono ?_
  clear hpp
  rintro e' w5 ⟨rfl, hQ5, hk5⟩
  go_wp2_with fail
  go_ret
  exact ⟨e, l5, rfl, HPERM.out, HMIN.out, ⟨hQ5, by rw [hln]; exact HH5.out⟩, (hk3.trans hk4).trans hk5⟩
end Go.Proofs.YtokofimfinhnbaaDoor
set_option linter.unusedVariables false
set_option linter.unusedSimpArgs false
namespace Go.Proofs.YtokofimfinhnbaaDoor
open Go.RowKit Go.Fl Go.Sl Go.Ch Go.Fr Go.Mb Go.Hp Go.Extern Go.Stop Go.Extern.Stop
theorem c_typeOf (v : Value) (w : World) : (callFunc 37 #[.iface 132 v]).run Tryd.prog w = .ok (.value (.iface 116 (.agg #[.pointer (some ⟨1, 132, none⟩)]))) w := by
  rw [@run_callFunc_extern Tryd.prog 37 _ Extern.ReflectliteType.typeOf Tryd.func37 (by kernel_rfl) (by kernel_rfl) (by kernel_rfl) (by kernel_rfl)]
  kernel_rfl
theorem c_comparable (w : World) : (callFunc 77 #[.agg #[.pointer (some ⟨1, 132, none⟩)]]).run Tryd.prog w = .ok (.value (.bool true)) w := by
  rw [@run_callFunc_extern Tryd.prog 77 _ (Extern.ReflectliteType.method fun t => do Extern.Rtype.noPackHeld "Comparable" t; pure (.bool (← typeInfo t).comparable)) Tryd.func77 (by kernel_rfl) (by kernel_rfl) (by kernel_rfl) (by kernel_rfl)]
  kernel_rfl
theorem is_mcomp (v : Value) (w : World) : (Go.method 269 116 v "Comparable").run Tryd.prog w = .ok (77, v) w := by kernel_rfl
theorem is_comp : (Tryd.prog.info? 132).map (·.comparable) = some true := by kernel_rfl
theorem is_size : (Tryd.prog.info? 157).map (·.size) = some 1 := by kernel_rfl
theorem noIsW (v : Value) (xT : TypeId) (w : World) : (Instr.typeAssert (.iface 64 v) xT 118 true).run Tryd.prog w = .ok (.tuple #[.nilIface, .bool false]) w := run_typeAssert_lacksB Tryd.underlying118 (by kernel_rfl) (by kernel_rfl) v xT w
theorem noIsO (v : Value) (xT : TypeId) (w : World) : (Instr.typeAssert (.iface 66 v) xT 118 true).run Tryd.prog w = .ok (.tuple #[.nilIface, .bool false]) w := run_typeAssert_lacksB Tryd.underlying118 (by kernel_rfl) (by kernel_rfl) v xT w
theorem noUnwrapO (v : Value) (xT : TypeId) (w : World) : (Instr.typeAssert (.iface 66 v) xT 121 true).run Tryd.prog w = .ok (.tuple #[.nilIface, .bool false]) w := run_typeAssert_lacksB Tryd.underlying121 (by kernel_rfl) (by kernel_rfl) v xT w
theorem noUnwrapsO (v : Value) (xT : TypeId) (w : World) : (Instr.typeAssert (.iface 66 v) xT 123 true).run Tryd.prog w = .ok (.tuple #[.nilIface, .bool false]) w := run_typeAssert_lacksB Tryd.underlying123 (by kernel_rfl) (by kernel_rfl) v xT w
theorem hasUnwrapW (v : Value) (xT : TypeId) (w : World) : (Instr.typeAssert (.iface 64 v) xT 121 true).run Tryd.prog w = .ok (.tuple #[.iface 64 v, .bool true]) w := run_typeAssert_hasB Tryd.underlying121 (by kernel_rfl) v xT w
theorem mUnwrap (v : Value) (w : World) : (Go.method 269 64 v "Unwrap").run Tryd.prog w = .ok (66, v) w := by kernel_rfl
/-- what the callback may end a search with -/
def errV (a : Addr) : Int → Value
  | 0 => .iface 132 (.pointer (some a))
  | 1 => .iface 64 (.agg #[.iface 132 (.pointer (some a))])
  | 2 => .iface 66 (.agg #[])
  | _ => .iface 64 (.agg #[.iface 66 (.agg #[])])
theorem is_same (a : Addr) (w : World) : Calls Tryd.prog 29 #[.iface 132 (.pointer (some a)), .iface 132 (.pointer (some a))] w fun e w' => e = .returned (.bool true) ∧ w = w' := by
  obtain ⟨i, hi, hcmp⟩ := Option.map_eq_some_iff.1 is_comp
  obtain ⟨j, hj, hjs⟩ := Option.map_eq_some_iff.1 is_size
  have h8 := c_typeOf
  have h32 := c_comparable
  have mR := is_mcomp
  have heq := run_eql_iface_ptr_same (P := Tryd.prog) w a Tryd.underlying62 Tryd.underlying132 hi hcmp hj
  go_enter Tryd.func29, Tryd.ntmps29
  go_wp2
  refine wp_loop_rounds 1 ?_
  rw [rounds_succ]
  go_wp2
  go_ret
  exact ⟨rfl, rfl⟩
theorem is_wsame (a : Addr) (w : World) : Calls Tryd.prog 29 #[.iface 64 (.agg #[.iface 132 (.pointer (some a))]), .iface 132 (.pointer (some a))] w fun e w' => e = .returned (.bool true) ∧ Stab.Keeps w w' := by
  obtain ⟨i, hi, hcmp⟩ := Option.map_eq_some_iff.1 is_comp
  obtain ⟨j, hj, hjs⟩ := Option.map_eq_some_iff.1 is_size
  have h8 := c_typeOf
  have h32 := c_comparable
  have mR := is_mcomp
  have nW := noIsW
  have uW := hasUnwrapW
  have mU := mUnwrap
  have heq := fun w => run_eql_iface_ptr_same (P := Tryd.prog) w a Tryd.underlying62 Tryd.underlying132 hi hcmp hj
  have hty := fun w => run_eql_iface_types (P := Tryd.prog) 64 132 (.agg #[.iface 132 (.pointer (some a))]) (.pointer (some a)) Tryd.underlying62 (by decide) w
  go_enter Tryd.func29, Tryd.ntmps29
  go_wp2
  refine wp_loop_rounds 2 ?_
  rw [rounds_succ]
  go_wp2
  rw [rounds_succ]
  go_wp2
  go_ret
  refine ⟨rfl, ?_⟩
  repeat (first | (with_reducible exact Stab.Keeps.refl _) | (with_reducible assumption) | (with_reducible refine Stab.Keeps.alloc ?_ _) | (with_reducible refine Stab.Keeps.drew ?_) | (with_reducible refine Stab.Keeps.drewN ?_ _) | ((with_reducible refine Stab.Keeps.setCell ?_ ?_ _); focus (first | (simp; done) | (simp; omega))) | (with_reducible refine Stab.Keeps.trans ?_ (by with_reducible assumption)))
theorem is_own (a : Addr) (w : World) : Calls Tryd.prog 29 #[.iface 66 (.agg #[]), .iface 132 (.pointer (some a))] w fun e w' => e = .returned (.bool false) ∧ w = w' := by
  have h8 := c_typeOf
  have h32 := c_comparable
  have mR := is_mcomp
  have nW := noIsO
  have uW := noUnwrapO
  have vW := noUnwrapsO
  have hty := fun w => run_eql_iface_types (P := Tryd.prog) 66 132 (.agg #[]) (.pointer (some a)) Tryd.underlying62 (by decide) w
  go_enter Tryd.func29, Tryd.ntmps29
  go_wp2
  refine wp_loop_rounds 1 ?_
  rw [rounds_succ]
  go_wp2
  go_ret
  exact ⟨rfl, rfl⟩
theorem is_wown (a : Addr) (w : World) : Calls Tryd.prog 29 #[.iface 64 (.agg #[.iface 66 (.agg #[])]), .iface 132 (.pointer (some a))] w fun e w' => e = .returned (.bool false) ∧ Stab.Keeps w w' := by
  have h8 := c_typeOf
  have h32 := c_comparable
  have mR := is_mcomp
  have nW := noIsW
  have uW := hasUnwrapW
  have nO := noIsO
  have uO := noUnwrapO
  have vO := noUnwrapsO
  have mU := mUnwrap
  have hty := fun w => run_eql_iface_types (P := Tryd.prog) 64 132 (.agg #[.iface 66 (.agg #[])]) (.pointer (some a)) Tryd.underlying62 (by decide) w
  have hto := fun w => run_eql_iface_types (P := Tryd.prog) 66 132 (.agg #[]) (.pointer (some a)) Tryd.underlying62 (by decide) w
  go_enter Tryd.func29, Tryd.ntmps29
  go_wp2
  refine wp_loop_rounds 2 ?_
  rw [rounds_succ]
  go_wp2
  rw [rounds_succ]
  go_wp2
  go_ret
  refine ⟨rfl, ?_⟩
  repeat (first | (with_reducible exact Stab.Keeps.refl _) | (with_reducible assumption) | (with_reducible refine Stab.Keeps.alloc ?_ _) | (with_reducible refine Stab.Keeps.drew ?_) | (with_reducible refine Stab.Keeps.drewN ?_ _) | ((with_reducible refine Stab.Keeps.setCell ?_ ?_ _); focus (first | (simp; done) | (simp; omega))) | (with_reducible refine Stab.Keeps.trans ?_ (by with_reducible assumption)))
/-- errors.Is of what the callback ends a search with, and the error that stops -/
theorem is_err (a : Addr) (h : Int) (w : World) : Calls Tryd.prog 29 #[errV a h, .iface 132 (.pointer (some a))] w (One w (.bool (decide (h = 0 ∨ h = 1)))) := by
  by_cases h0 : h = 0
  · subst h0
    exact (is_same a w).mono fun e w' ⟨h1, h2⟩ => ⟨h1, by subst h2; repeat (first | (with_reducible exact Stab.Keeps.refl _) | (with_reducible assumption) | (with_reducible refine Stab.Keeps.alloc ?_ _) | (with_reducible refine Stab.Keeps.drew ?_) | (with_reducible refine Stab.Keeps.drewN ?_ _) | ((with_reducible refine Stab.Keeps.setCell ?_ ?_ _); focus (first | (simp; done) | (simp; omega))) | (with_reducible refine Stab.Keeps.trans ?_ (by with_reducible assumption)))⟩
  by_cases h1 : h = 1
  · subst h1
    exact (is_wsame a w).mono fun e w' h => h
  have hd : decide (h = 0 ∨ h = 1) = false := by simp [h0, h1]
  rw [hd]
  by_cases h2 : h = 2
  · subst h2
    exact (is_own a w).mono fun e w' ⟨h1, h2⟩ => ⟨h1, by subst h2; repeat (first | (with_reducible exact Stab.Keeps.refl _) | (with_reducible assumption) | (with_reducible refine Stab.Keeps.alloc ?_ _) | (with_reducible refine Stab.Keeps.drew ?_) | (with_reducible refine Stab.Keeps.drewN ?_ _) | ((with_reducible refine Stab.Keeps.setCell ?_ ?_ _); focus (first | (simp; done) | (simp; omega))) | (with_reducible refine Stab.Keeps.trans ?_ (by with_reducible assumption)))⟩
  · have e : errV a h = .iface 64 (.agg #[.iface 66 (.agg #[])]) := by
      unfold errV
      split <;> first | contradiction | rfl
    rw [e]
    exact (is_wown a w).mono fun e w' h => h
end Go.Proofs.YtokofimfinhnbaaDoor
set_option linter.unusedVariables false
set_option linter.unusedSimpArgs false
namespace Go.Proofs.YtokofimfinhnbaaDoor
open Go.RowKit Go.Fl Go.Sl Go.Ch Go.Fr Go.Mb Go.Hp
open Classical in
/-- the whole ends of a box -/
noncomputable def qof (x : B4) : Q4 := if h : ∃ q, ZB x q then h.choose else ⟨0, 0, 0, 0⟩
theorem qof_eq {x : B4} {q : Q4} (h : ZB x q) : qof x = q := by
  unfold qof
  rw [dif_pos ⟨q, h⟩]
  exact (Exists.choose_spec (⟨q, h⟩ : ∃ q, ZB x q)).inj h
/-- the entry at number i of the node at p, as it stands in the queue -/
noncomputable def qe (yq : Q4) (p i : Nat) (e : Ent) : QE := ⟨p, i * 6, e.box, e.child, e.id, far (qof e.box) yq⟩
noncomputable def qes (yq : Q4) (p : Nat) (es : List Ent) : List QE := es.mapIdx fun i e => qe yq p i e
theorem qes_len (yq : Q4) (p : Nat) (es : List Ent) : (qes yq p es).length = es.length := by simp [qes]
theorem qes_get (yq : Q4) (p : Nat) (es : List Ent) (i : Nat) (h : i < es.length) : (qes yq p es)[i]'(by rw [qes_len]; exact h) = qe yq p i es[i] := by simp [qes]
theorem qe_at {w : World} {base p : Nat} {yq : Q4} {es : List Ent} {n : Nat} (h : Blk w p 84 (nodeC es n)) (h4 : es.length ≤ 4) (hp : p < base) (hz : ∀ e ∈ es, ∃ r, ZB e.box r ∧ r.ok) {i : Nat} (hi : i < es.length) : (qe yq p i es[i]).At w base yq := by
  obtain ⟨c0, c1, c2, c3, c4, c5⟩ := ent_cells h h4 hi
  obtain ⟨r, hr, hk⟩ := hz _ (List.getElem_mem hi)
  exact ⟨hp, c0, c1, c2, c3, c4, c5, r, hr, hk, by simp [qe, qof_eq hr]⟩
theorem qes_at {w : World} {base p : Nat} {yq : Q4} {es : List Ent} {n : Nat} (h : Blk w p 84 (nodeC es n)) (h4 : es.length ≤ 4) (hp : p < base) (hz : ∀ e ∈ es, ∃ r, ZB e.box r ∧ r.ok) : ∀ x ∈ qes yq p es, x.At w base yq := by
  intro x hx
  obtain ⟨i, hi, rfl⟩ := List.mem_iff_getElem.1 hx
  rw [qes_get yq p es i (by simpa [qes_len] using hi)]
  exact qe_at h h4 hp hz _
def EnqPost (base q : Nat) (y : B4) (l m : List QE) (w : World) (e : Ending) (w' : World) : Prop := e = .returned (.tuple #[]) ∧ ∃ l', l'.Perm (l ++ m) ∧ HQ w' base q l' y ∧ Kq base q w w'
set_option maxRecDepth 100000 in
set_option maxHeartbeats 1000000 in
theorem enq_ (base q p : Nat) (es : List Ent) (l : List QE) (y : B4) (yq : Q4) (w : World) (hN : Blk w p 84 (nodeC es es.length)) (h4 : es.length ≤ 4) (hp : p < base) (hz : ∀ e ∈ es, ∃ r, ZB e.box r ∧ r.ok)
    (h : HQ w base q l y) (hy : ZB y yq) (hyo : yq.ok) (hB : base ≤ w.heap.size) (hq : base ≤ q) (ha : ∀ x ∈ l, x.At w base yq) (hl : l.length < 900000) :
    Calls Tryd.prog 30 #[.pointer (some ⟨p, 0, none⟩), .pointer (some ⟨q, 0, none⟩)] w (EnqPost base q y l (qes yq p es) w) := by
  have hpl := hN.lt
  have c24 := hN.cell (nodeC_num es es.length h4)
  have hE := qes_at (yq := yq) hN h4 hp hz
  have hEl := qes_len yq p es
  have HG : Hid (∀ i (h : i < es.length), (qes yq p es)[i]? = some (qe yq p i es[i])) := Lib.hid (fun i h => by rw [List.getElem?_eq_getElem (by rw [qes_len]; exact h), qes_get yq p es i h])
  generalize qes yq p es = E at *
  have h0 : ∃ l', l'.Perm (l ++ E.take 0) ∧ HQ w base q l' y ∧ Kq base q w w := ⟨l, by simp, h, Kq.refl _ _ _⟩
  have hql := h.1.lt
  clear h
  have HE := Lib.hid hEl
  clear hEl
  go_enter Tryd.func30, Tryd.ntmps30
  go_wp2_with fail
  go_loopw [3] (fun iv wr => ∃ k : Nat, k ≤ es.length ∧ iv = .int .i64 k ∧ ∃ l', l'.Perm (l ++ E.take k) ∧ HQ wr base q l' y ∧ Kq base q w wr) (fun iv _ => es.length - (intOf iv).toNat)
  case atStart => exact ⟨0, by omega, rfl, h0⟩
  case round =>
    clear h0
    obtain ⟨k, hk, rfl, l', hperm, hQ, hK⟩ := hrel
    have hNr := hN.below hK.bel hp
    have c24r := hNr.cell (nodeC_num es es.length h4)
    have hplr := hNr.lt
    have hBr := Nat.le_trans hB hK.ch.size
    by_cases hlt : k < es.length
    · have hkE : k < E.length := by rw [HE.out]; exact hlt
      have hcut : E.take (k + 1) = E.take k ++ [E[k]] := List.take_succ_eq_append_getElem hkE
      have hek : E[k] = qe yq p k es[k] := by have := HG.out k hlt; rw [List.getElem?_eq_getElem hkE] at this; exact Option.some.inj this
      have hall : ∀ x ∈ l' ++ [E[k]], x.At wr base yq := fun x hx => by
        rcases List.mem_append.1 hx with hx | hx
        · rcases List.mem_append.1 (hperm.mem_iff.1 hx) with hx | hx
          · exact (ha x hx).below hK.bel
          · exact (hE x (List.mem_of_mem_take hx)).below hK.bel
        · simp at hx; subst hx
          exact (hE _ (List.getElem_mem _)).below hK.bel
      have hlen' : l'.length < 1000000 := by
        have := hperm.length_eq
        rw [List.length_append, List.length_take] at this
        omega
      have hP := hpush_ base q E[k] l' y yq wr hQ hy hyo hBr hq hall hlen'
      have HC := Lib.hid hcut
      have HP := Lib.hid hperm
      rw [hek] at hP
      simp only [qe, QE.ptr] at hP
      have HK := Lib.hid hek
      clear hcut hperm hek hall
      go_wp2_with fail
      refine hP.mono ?_
      rintro e w2 ⟨rfl, l2, hp2, hQ2, hK2⟩
      clear hP
      go_wp2_with fail
      go_roundw
      case rel =>
        refine ⟨k + 1, by omega, by go_num, l2, ?_, hQ2, hK.trans hK2⟩
        rw [HC.out, HK.out]
        refine hp2.trans ?_
        rw [← List.append_assoc]
        exact List.Perm.append_right _ HP.out
      case measure => simp [intOf]; omega
    · have hkn : k = es.length := by omega
      subst hkn
      rw [List.take_of_length_le (by rw [HE.out]; exact Nat.le_refl _)] at hperm
      go_wp2_with fail
      go_end0
      exact ⟨rfl, l', hperm, hQ, hK⟩
end Go.Proofs.YtokofimfinhnbaaDoor
set_option linter.unusedVariables false
set_option linter.unusedSimpArgs false
namespace Go.Proofs.YtokofimfinhnbaaDoor
open Go.RowKit Go.Fl Go.Sl Go.Ch Go.Fr Go.Mb Go.Hp
theorem gap_mono {a c a' c' u v : Int} (h1 : a' ≤ a) (h2 : c ≤ c') : gap a' c' u v ≤ gap a c u v := by unfold gap; omega
theorem gap_nn (a c u v : Int) : 0 ≤ gap a c u v := by unfold gap; omega
theorem sq_mono {x y : Int} (h0 : 0 ≤ x) (h : x ≤ y) : x * x ≤ y * y := Int.mul_le_mul h h h0 (by omega)
/-- a box within another one is no nearer -/
theorem far_mono {p r : Q4} (y : Q4) (h : p.within r) : far r y ≤ far p y := by
  have h1 := sq_mono (gap_nn r.a r.c y.a y.c) (gap_mono (u := y.a) (v := y.c) h.a h.c)
  have h2 := sq_mono (gap_nn r.b r.d y.b y.d) (gap_mono (u := y.b) (v := y.d) h.b h.d)
  unfold far
  omega
theorem join_ok {p q : Q4} (hp : p.ok) (hq : q.ok) : (p.join q).ok := by
  have := hp.ac; have := hp.bd; have := hp.a0; have := hp.b0; have := hp.c1; have := hp.d1
  have := hq.ac; have := hq.bd; have := hq.a0; have := hq.b0; have := hq.c1; have := hq.d1
  constructor <;> simp only [Q4.join] <;> omega
theorem fold_ok : ∀ (l : List B4) (x : B4), (∃ p, ZB x p ∧ p.ok) → (∀ y ∈ l, ∃ q, ZB y q ∧ q.ok) → ∃ r, ZB (l.foldl cmb x) r ∧ r.ok
  | [], x, hx, _ => hx
  | z :: l, x, hx, h => by
    obtain ⟨p, hx, hp⟩ := hx
    obtain ⟨q, hz, hq⟩ := h z (by simp)
    exact fold_ok l (cmb x z) ⟨_, cmb_Z hx hz, join_ok hp hq⟩ (fun y hy => h y (by simp [hy]))
theorem bnd_ok {l : List B4} (h0 : 0 < l.length) (h : ∀ y ∈ l, ∃ q, ZB y q ∧ q.ok) : ∃ r, ZB (bnd l) r ∧ r.ok := by
  cases l with
  | nil => simp at h0
  | cons x l => exact fold_ok l x (h x (by simp)) (fun y hy => h y (by simp [hy]))
theorem box_ok : ∀ (t : RT), t.full → (∀ i ∈ t.items, boxB i.box = true) → ∃ r, ZB t.box r ∧ r.ok
  | .leaf l, hf, hg => bnd_ok (by simpa [RT.full] using hf) (fun y hy => by
      simp only [List.mem_map] at hy
      obtain ⟨i, hi, rfl⟩ := hy
      exact boxB_spec (hg i hi))
  | .two a b, hf, hg => by
    simp only [RT.items, List.mem_append] at hg
    refine bnd_ok (by simp) (fun y hy => ?_)
    simp at hy
    rcases hy with rfl | rfl
    · exact box_ok a hf.1 (fun i hi => hg i (.inl hi))
    · exact box_ok b hf.2 (fun i hi => hg i (.inr hi))
  | .four a b c d, hf, hg => by
    simp only [RT.items, List.mem_append] at hg
    refine bnd_ok (by simp) (fun y hy => ?_)
    simp at hy
    rcases hy with rfl | rfl | rfl | rfl
    · exact box_ok a hf.1 (fun i hi => hg i (.inl hi))
    · exact box_ok b hf.2.1 (fun i hi => hg i (.inr (.inl hi)))
    · exact box_ok c hf.2.2.1 (fun i hi => hg i (.inr (.inr (.inl hi))))
    · exact box_ok d hf.2.2.2 (fun i hi => hg i (.inr (.inr (.inr hi))))
def RT.wt : RT → Nat
  | .leaf l => 1 + l.length
  | .two a b => 1 + (a.wt + b.wt)
  | .four a b c d => 1 + (a.wt + (b.wt + (c.wt + d.wt)))
def kitems (x : B4) (id : Int) : Option RT → List It
  | none => [⟨x, id⟩]
  | some t => t.items
def kwt : Option RT → Nat
  | none => 1
  | some t => t.wt
def KidOk (w : World) (lo : Nat) (x : B4) (child : Option Nat) : Option RT → Prop
  | none => child = none
  | some t => ∃ c, child = some c ∧ NodeAt w lo c t ∧ x = t.box
/-- what a search through a box finds at an entry -/
def rk (y : B4) (x : B4) (id : Int) (o : Option RT) : List Int := if ovl x y then (match o with | none => [id] | some t => rs y t) else []
/-- what lies in a node -/
structure Kids (w : World) (lo p : Nat) (t : RT) (K : List (Ent × Option RT)) : Prop where
  blk : Blk w p 84 (nodeC (K.map (·.1)) (K.map (·.1)).length)
  len : (K.map (·.1)).length ≤ 4
  pos : 0 < K.length
  ok : ∀ k ∈ K, KidOk w lo k.1.box k.1.child k.2
  items : K.flatMap (fun k => kitems k.1.box k.1.id k.2) = t.items
  bnd : bnd (K.map fun k => k.1.box) = t.box
  wt : (K.map fun k => kwt k.2).sum + 1 = t.wt
  rs : ∀ y, K.flatMap (fun k => rk y k.1.box k.1.id k.2) = Go.Proofs.YtokofimfinhnbaaDoor.rs y t
theorem flat_rk (y : B4) : ∀ l : List It, l.flatMap (fun t => rk y t.box t.id none) = rs y (.leaf l)
  | [] => rfl
  | t :: l => by
    rw [List.flatMap_cons, flat_rk y l]
    simp only [rs, rk, List.filter_cons]
    cases ovl t.box y <;> simp
theorem NodeAt.kids {w : World} {lo : Nat} : ∀ {t : RT} {p : Nat}, NodeAt w lo p t → ∃ K, Kids w lo p t K
  | .leaf l, p, h => by
    obtain ⟨_, h1, h2, h3⟩ := h
    refine ⟨l.map fun t => (⟨t.box, none, t.id⟩, none), ⟨?_, by simpa using h2, by simpa using h1, fun k hk => ?_, ?_, ?_, ?_, fun y => ?_⟩⟩
    · simpa [leafE, Function.comp_def] using h3
    · simp only [List.mem_map] at hk
      obtain ⟨t, _, rfl⟩ := hk
      rfl
    · simp [kitems, RT.items, List.flatMap_map, List.flatMap_singleton']
    · simp [RT.box, Function.comp_def]
    · simp only [List.map_map, Function.comp_def, kwt, List.map_const', List.sum_replicate_nat, RT.wt]; omega
    · rw [List.flatMap_map]; exact flat_rk y l
  | .two a b, p, h => by
    obtain ⟨_, pa, pb, h1, ha, hb⟩ := h
    refine ⟨[(⟨a.box, some pa, 0⟩, some a), (⟨b.box, some pb, 0⟩, some b)], ⟨h1, by simp, by simp, fun k hk => ?_, by simp [kitems, RT.items], rfl, by simp [kwt, RT.wt]; omega, fun y => by simp [rk, rs]⟩⟩
    simp at hk
    rcases hk with rfl | rfl
    · exact ⟨pa, rfl, ha, rfl⟩
    · exact ⟨pb, rfl, hb, rfl⟩
  | .four a b c d, p, h => by
    obtain ⟨_, pa, pb, pc, pd, h1, ha, hb, hc, hd⟩ := h
    refine ⟨[(⟨a.box, some pa, 0⟩, some a), (⟨b.box, some pb, 0⟩, some b), (⟨c.box, some pc, 0⟩, some c), (⟨d.box, some pd, 0⟩, some d)], ⟨h1, by simp, by simp, fun k hk => ?_, by simp [kitems, RT.items], rfl, by simp [kwt, RT.wt]; omega, fun y => by simp [rk, rs]⟩⟩
    simp at hk
    rcases hk with rfl | rfl | rfl | rfl
    · exact ⟨pa, rfl, ha, rfl⟩
    · exact ⟨pb, rfl, hb, rfl⟩
    · exact ⟨pc, rfl, hc, rfl⟩
    · exact ⟨pd, rfl, hd, rfl⟩
/-- an entry of the queue is one of a node's -/
def QN (w : World) (B : Nat) (yq : Q4) (x : QE) : Prop := ∃ (p : Nat) (es : List Ent) (i : Nat) (h : i < es.length), Blk w p 84 (nodeC es es.length) ∧ es.length ≤ 4 ∧ p < B ∧ (∃ r, ZB es[i].box r ∧ r.ok) ∧ x = qe yq p i es[i]
theorem QN.at_ {w : World} {B : Nat} {yq : Q4} {x : QE} (h : QN w B yq x) : x.At w B yq := by
  obtain ⟨p, es, i, hi, hb, h4, hp, ⟨r, hr, hk⟩, rfl⟩ := h
  obtain ⟨c0, c1, c2, c3, c4, c5⟩ := ent_cells hb h4 hi
  exact ⟨hp, c0, c1, c2, c3, c4, c5, r, hr, hk, by simp [qe, qof_eq hr]⟩
theorem QN.d {w : World} {B : Nat} {yq : Q4} {x : QE} (h : QN w B yq x) : x.d = far (qof x.box) yq := by
  obtain ⟨p, es, i, hi, hb, h4, hp, _, rfl⟩ := h
  rfl
theorem QN.of {w w' : World} {B : Nat} {yq : Q4} {x : QE} (hk : ∀ b vs, Blk w b 84 vs → Blk w' b 84 vs) (h : QN w B yq x) : QN w' B yq x := by
  obtain ⟨p, es, i, hi, hb, r⟩ := h
  exact ⟨p, es, i, hi, hk _ _ hb, r⟩
theorem KidOk.of {w w' : World} {lo : Nat} {x : B4} {child : Option Nat} {o : Option RT} (hk : ∀ b vs, Blk w b 84 vs → Blk w' b 84 vs) (h : KidOk w lo x child o) : KidOk w' lo x child o := by
  cases o with
  | none => exact h
  | some t =>
    obtain ⟨c, h1, h2, h3⟩ := h
    exact ⟨c, h1, NodeAt.of (Nat.le_refl _) (fun b vs _ hb => hk b vs hb) h2, h3⟩
/-- how far an item is -/
noncomputable def far1 (yq : Q4) (i : It) : Int := far (qof i.box) yq
/-- what has been gone through (S), what stands in the queue (P) -/
structure PI (w : World) (lo B : Nat) (yq : Q4) (all S : List It) (P : List (QE × Option RT)) : Prop where
  qn : ∀ x ∈ P, QN w B yq x.1
  kid : ∀ x ∈ P, KidOk w lo x.1.box x.1.child x.2
  perm : (S ++ P.flatMap fun x => kitems x.1.box x.1.id x.2).Perm all
  sorted : S.Pairwise fun a b => far1 yq a ≤ far1 yq b
  le : ∀ s ∈ S, ∀ x ∈ P, far1 yq s ≤ x.1.d
def pwt (P : List (QE × Option RT)) : Nat := (P.map fun x => kwt x.2).sum
theorem pwt_perm {P P' : List (QE × Option RT)} (h : P.Perm P') : pwt P = pwt P' := (h.map _).sum_nat
theorem PI.of_perm {w : World} {lo B : Nat} {yq : Q4} {all S : List It} {P P' : List (QE × Option RT)} (hp : P.Perm P') (h : PI w lo B yq all S P) : PI w lo B yq all S P' := by
  have h3 : (S ++ P'.flatMap fun x => kitems x.1.box x.1.id x.2).Perm (S ++ P.flatMap fun x => kitems x.1.box x.1.id x.2) := List.Perm.append_left S (List.Perm.flatMap_right _ hp.symm)
  constructor
  · exact fun x hx => h.qn x (hp.mem_iff.2 hx)
  · exact fun x hx => h.kid x (hp.mem_iff.2 hx)
  · exact h3.trans h.perm
  · exact h.sorted
  · exact fun s hs x hx => h.le s hs x (hp.mem_iff.2 hx)
theorem PI.of {w w' : World} {lo B : Nat} {yq : Q4} {all S : List It} {P : List (QE × Option RT)} (hk : ∀ b vs, Blk w b 84 vs → Blk w' b 84 vs) (h : PI w lo B yq all S P) : PI w' lo B yq all S P := by
  obtain ⟨h1, h2, h3, h4, h5⟩ := h
  have k1 : ∀ x ∈ P, QN w' B yq x.1 := fun x hx => QN.of hk (h1 x hx)
  have k2 : ∀ x ∈ P, KidOk w' lo x.1.box x.1.child x.2 := fun x hx => KidOk.of hk (h2 x hx)
  exact ⟨k1, k2, h3, h4, h5⟩
/-- one is taken out of the queue -/
theorem take_one {P : List (QE × Option RT)} {e : QE} {l : List QE} (h : (P.map Prod.fst).Perm (e :: l)) : ∃ o P', P.Perm ((e, o) :: P') ∧ (P'.map Prod.fst).Perm l := by
  have hm : e ∈ P.map Prod.fst := h.mem_iff.2 (by simp)
  obtain ⟨⟨e', o⟩, hx, rfl⟩ := List.mem_map.1 hm
  obtain ⟨A, B, rfl⟩ := List.append_of_mem hx
  refine ⟨o, A ++ B, List.perm_middle, ?_⟩
  have h2 : ((((e', o) :: (A ++ B)).map Prod.fst)).Perm (e' :: l) := ((List.perm_middle (a := (e', o)) (l₁ := A) (l₂ := B)).symm.map Prod.fst).trans h
  exact h2.cons_inv
theorem PI.leaf {w : World} {lo B : Nat} {yq : Q4} {all S : List It} {P : List (QE × Option RT)} {e : QE} (h : PI w lo B yq all S ((e, none) :: P)) (hm : ∀ x ∈ P, e.d ≤ x.1.d) : PI w lo B yq all (S ++ [⟨e.box, e.id⟩]) P := by
  have hd : far1 yq ⟨e.box, e.id⟩ = e.d := ((h.qn (e, none) (by simp)).d).symm
  refine ⟨fun x hx => h.qn x (by simp [hx]), fun x hx => h.kid x (by simp [hx]), ?_, ?_, fun s hs x hx => ?_⟩
  · have := h.perm
    simpa [kitems] using this
  · rw [List.pairwise_append]
    refine ⟨h.sorted, by simp, fun a ha b hb => ?_⟩
    simp at hb; subst hb
    rw [hd]
    exact h.le a ha (e, none) (by simp)
  · rcases List.mem_append.1 hs with hs | hs
    · exact h.le s hs x (by simp [hx])
    · simp at hs; subst hs
      rw [hd]
      exact hm x hx
noncomputable def newP (yq : Q4) (p : Nat) (K : List (Ent × Option RT)) : List (QE × Option RT) := K.mapIdx fun i k => (qe yq p i k.1, k.2)
theorem newP_fst (yq : Q4) (p : Nat) (K : List (Ent × Option RT)) : (newP yq p K).map Prod.fst = qes yq p (K.map (·.1)) := by
  unfold newP qes
  apply List.ext_getElem?
  intro i
  simp [List.getElem?_mapIdx, List.getElem?_map, Option.map_map, Function.comp_def]
theorem newP_mem {yq : Q4} {p : Nat} {K : List (Ent × Option RT)} {x : QE × Option RT} (hx : x ∈ newP yq p K) : ∃ i, ∃ h : i < K.length, x = (qe yq p i K[i].1, K[i].2) := by
  obtain ⟨i, hi, rfl⟩ := List.mem_iff_getElem.1 hx
  have hi' : i < K.length := by simpa [newP] using hi
  exact ⟨i, hi', by simp [newP]⟩
theorem mapIdx_flat {α β : Type} (f : Nat → α → β × List It) (g : α → List It) (h : ∀ i a, (f i a).2 = g a) : ∀ (K : List α), (K.mapIdx f).flatMap Prod.snd = K.flatMap g := by
  intro K
  have : (K.mapIdx f).map Prod.snd = K.map g := by
    apply List.ext_getElem?
    intro i
    simp only [List.getElem?_map, List.getElem?_mapIdx, Option.map_map]
    cases K[i]? <;> simp [h]
  rw [List.flatMap_def, List.flatMap_def, this]
theorem newP_items (yq : Q4) (p : Nat) (K : List (Ent × Option RT)) : (newP yq p K).flatMap (fun x => kitems x.1.box x.1.id x.2) = K.flatMap (fun k => kitems k.1.box k.1.id k.2) := by
  have : (newP yq p K).map (fun x => kitems x.1.box x.1.id x.2) = K.map (fun k => kitems k.1.box k.1.id k.2) := by
    unfold newP
    apply List.ext_getElem?
    intro i
    simp only [List.getElem?_map, List.getElem?_mapIdx, Option.map_map]
    cases K[i]? <;> simp [qe]
  rw [List.flatMap_def, List.flatMap_def, this]
theorem newP_wt (yq : Q4) (p : Nat) (K : List (Ent × Option RT)) : pwt (newP yq p K) = (K.map fun k => kwt k.2).sum := by
  have : (newP yq p K).map (fun x => kwt x.2) = K.map (fun k => kwt k.2) := by
    unfold newP
    apply List.ext_getElem?
    intro i
    simp only [List.getElem?_map, List.getElem?_mapIdx, Option.map_map]
    cases K[i]? <;> simp
  unfold pwt
  rw [this]
theorem mem_flat {K : List (Ent × Option RT)} {k : Ent × Option RT} {i : It} (hk : k ∈ K) (hi : i ∈ kitems k.1.box k.1.id k.2) : i ∈ K.flatMap (fun k => kitems k.1.box k.1.id k.2) := List.mem_flatMap.2 ⟨k, hk, hi⟩
/-- the boxes of what lies in a node are good, and within the node's box -/
theorem Kids.boxes {w : World} {lo p : Nat} {t : RT} {K : List (Ent × Option RT)} (h : Kids w lo p t K) (hg : ∀ i ∈ t.items, boxB i.box = true) : (∀ k ∈ K, ∃ r, ZB k.1.box r ∧ r.ok) ∧ ∃ r, ZB t.box r ∧ ∀ k ∈ K, ∃ q, ZB k.1.box q ∧ q.within r := by
  have h1 : ∀ k ∈ K, ∃ r, ZB k.1.box r ∧ r.ok := fun k hk => by
    have hki := h.ok k hk
    obtain ⟨e, o⟩ := k
    cases o with
    | none => exact boxB_spec (hg ⟨e.box, e.id⟩ (by rw [← h.items]; exact mem_flat hk (by simp [kitems])))
    | some t' =>
      obtain ⟨c, hc, hn, hb⟩ := hki
      simp only at hb ⊢
      rw [hb]
      exact box_ok t' hn.full (fun i hi => hg i (by rw [← h.items]; exact mem_flat hk hi))
  refine ⟨h1, ?_⟩
  obtain ⟨r, h2, h3⟩ := bnd_Z (l := K.map fun k => k.1.box) (by simpa using h.pos) (fun y hy => by
    obtain ⟨k, hk, rfl⟩ := List.mem_map.1 hy
    obtain ⟨r, hr, _⟩ := h1 k hk
    exact ⟨r, hr⟩)
  rw [h.bnd] at h2
  exact ⟨r, h2, fun k hk => h3 _ (List.mem_map_of_mem hk)⟩
theorem Kids.new {w : World} {lo p B : Nat} {t : RT} {K : List (Ent × Option RT)} (yq : Q4) (h : Kids w lo p t K) (hg : ∀ i ∈ t.items, boxB i.box = true) (hp : p < B) :
    (∀ x ∈ newP yq p K, QN w B yq x.1) ∧ (∀ x ∈ newP yq p K, KidOk w lo x.1.box x.1.child x.2) ∧ ∀ x ∈ newP yq p K, far (qof t.box) yq ≤ x.1.d := by
  obtain ⟨h1, r, hr, hw⟩ := h.boxes hg
  refine ⟨fun x hx => ?_, fun x hx => ?_, fun x hx => ?_⟩
  · obtain ⟨i, hi, rfl⟩ := newP_mem hx
    exact ⟨p, K.map (·.1), i, by simpa using hi, h.blk, h.len, hp, by simpa using h1 _ (List.getElem_mem hi), by simp⟩
  · obtain ⟨i, hi, rfl⟩ := newP_mem hx
    exact h.ok _ (List.getElem_mem hi)
  · obtain ⟨i, hi, rfl⟩ := newP_mem hx
    obtain ⟨q, hq, hqr⟩ := hw _ (List.getElem_mem hi)
    rw [qof_eq hr]
    show far r yq ≤ far (qof K[i].1.box) yq
    rw [qof_eq hq]
    exact far_mono yq hqr
theorem PI.start {w : World} {lo B p : Nat} {yq : Q4} {t : RT} {K : List (Ent × Option RT)} (h : Kids w lo p t K) (hg : ∀ i ∈ t.items, boxB i.box = true) (hp : p < B) : PI w lo B yq t.items [] (newP yq p K) := by
  obtain ⟨h1, h2, _⟩ := h.new yq hg hp
  exact ⟨h1, h2, by rw [newP_items, h.items]; simp, List.Pairwise.nil, fun s hs => by simp at hs⟩
theorem PI.node {w : World} {lo B p : Nat} {yq : Q4} {all S : List It} {P : List (QE × Option RT)} {e : QE} {t : RT} {K : List (Ent × Option RT)} (h : PI w lo B yq all S ((e, some t) :: P)) (hg : ∀ i ∈ all, boxB i.box = true) (hK : Kids w lo p t K) (hp : p < B) (hb : e.box = t.box) : PI w lo B yq all S (P ++ newP yq p K) := by
  have hall : ∀ i ∈ t.items, i ∈ all := fun i hi => h.perm.mem_iff.1 (by simp [kitems, hi])
  obtain ⟨h1, h2, h3⟩ := hK.new yq (fun i hi => hg i (hall i hi)) hp
  have hd : e.d = far (qof t.box) yq := by rw [← hb]; exact (h.qn (e, some t) (by simp)).d
  refine ⟨fun x hx => ?_, fun x hx => ?_, ?_, h.sorted, fun s hs x hx => ?_⟩
  · rcases List.mem_append.1 hx with hx | hx
    · exact h.qn x (by simp [hx])
    · exact h1 x hx
  · rcases List.mem_append.1 hx with hx | hx
    · exact h.kid x (by simp [hx])
    · exact h2 x hx
  · refine List.Perm.trans (List.Perm.append_left S ?_) h.perm
    rw [List.flatMap_append, newP_items, hK.items, List.flatMap_cons]
    exact List.perm_append_comm
  · rcases List.mem_append.1 hx with hx | hx
    · exact h.le s hs x (by simp [hx])
    · have := h.le s hs (e, some t) (by simp)
      have := h3 x hx
      simp only at *
      omega
theorem PI.len {w : World} {lo B : Nat} {yq : Q4} {all S : List It} {P : List (QE × Option RT)} (h : PI w lo B yq all S P) : S.length + P.length ≤ all.length := by
  rw [← h.perm.length_eq, List.length_append]
  have : ∀ (P : List (QE × Option RT)), (∀ x ∈ P, KidOk w lo x.1.box x.1.child x.2) → P.length ≤ (P.flatMap fun x => kitems x.1.box x.1.id x.2).length := by
    intro P
    induction P with
    | nil => intro _; simp
    | cons x P ih =>
      intro hk
      have h1 := ih (fun y hy => hk y (by simp [hy]))
      have h2 : 0 < (kitems x.1.box x.1.id x.2).length := by
        have := hk x (by simp)
        obtain ⟨e, o⟩ := x
        cases o with
        | none => simp [kitems]
        | some t =>
          obtain ⟨c, _, hn, _⟩ := this
          simp only [kitems]
          have : ∀ t : RT, t.full → 0 < t.items.length := by
            intro t
            induction t with
            | leaf l => exact fun h => h
            | two a b iha ihb => intro h; have := iha h.1; simp [RT.items]; omega
            | four a b c d iha _ _ _ => intro h; have := iha h.1; simp [RT.items]; omega
          exact this t hn.full
      simp only [List.flatMap_cons, List.length_append, List.length_cons]
      omega
  have := this P h.kid
  omega
end Go.Proofs.YtokofimfinhnbaaDoor
set_option linter.unusedVariables false
set_option linter.unusedSimpArgs false
namespace Go.Proofs.YtokofimfinhnbaaDoor
open Go.RowKit Go.Fl Go.Sl Go.Ch Go.Fr Go.Mb Go.Hp
/-- what package-level Stop holds -/
def StopE (st : Addr) (w : World) : Prop := w.cell? ⟨0, 0, none⟩ = some (.iface 132 (.pointer (some st)))
theorem StopE.below {st : Addr} {w w' : World} {B : Nat} (h : StopE st w) (hk : Below B w w') (hB : 0 < B) : StopE st w' := (hk.cell (p := ⟨0, 0, none⟩) hB).trans h
/-- what a callback may change: rows of numbers, some blocks of its maker's -/
structure Kc (X : Nat → Prop) (base : Nat) (w w' : World) : Prop where
  ch : Ch (· = 3) X w w'
  bel : Below base w w'
  node : ∀ b vs, Blk w b 84 vs → Blk w' b 84 vs
theorem Kc.refl (X : Nat → Prop) (base : Nat) (w : World) : Kc X base w w := ⟨Ch.refl _ _ _, Below.refl _ _, fun _ _ h => h⟩
theorem Kc.trans {X : Nat → Prop} {base : Nat} {a b c : World} (h : Kc X base a b) (k : Kc X base b c) : Kc X base a c := ⟨h.ch.trans k.ch, h.bel.trans k.bel, fun _ _ e => k.node _ _ (h.node _ _ e)⟩
theorem Kc.of_keeps {X : Nat → Prop} {base : Nat} {a b : World} (h : Stab.Keeps a b) (hb : base ≤ a.heap.size) : Kc X base a b := ⟨Ch.of_keeps h, Below.mono h hb, fun _ _ e => e.keep h⟩
/-- the queue's own changes do not show in the world ahead of it -/
theorem Kc.below {X : Nat → Prop} {base : Nat} {w a b : World} (h : Kc X base w a) (hb : base ≤ w.heap.size) (k : Below w.heap.size a b) : Kc X base w b :=
  ⟨⟨k.os.trans h.ch.os, k.tape.trans h.ch.tape, k.output.trans h.ch.output, Nat.le_trans h.ch.size k.size, fun i hi hx ht => by rw [← h.ch.block i hi hx ht]; exact k.block i hi⟩, h.bel.trans (k.mono hb), fun i vs e => (h.node i vs e).below k e.lt⟩
theorem owns_ch {T X : Nat → Prop} {w w' : World} {base k n : Nat} {e : TypeId} {v : Value} {xs : List Value} (h : w.ownsRow base e k v n xs) (hk : Ch T X w w') (ht : ¬ T e) (hx : ∀ b, X b → b < base) : w'.ownsRow base e k v n xs := by
  obtain ⟨h1, h2⟩ := h
  refine ⟨h1, ?_⟩
  rcases h2 with h2 | ⟨g, cap, cur, hv, hg, hc, r⟩
  · exact .inl h2
  · refine .inr ⟨g, cap, cur, hv, hg, ?_, r⟩
    rw [hk.block g (lt_of_block hc) (fun h => by have := hx g h; omega) (fun c e' z he => by rw [hc] at he; injection he with he; injection he with _ he; rw [← he]; exact ht)]
    exact hc
theorem HQ.cb {X : Nat → Prop} {base B q : Nat} {l : List QE} {y : B4} {w w' : World} (h : HQ w B q l y) (hk : Kc X base w w') (hx : ∀ b, X b → b < B) (hq : B ≤ q) : HQ w' B q l y := by
  obtain ⟨⟨a, cap, h1, h2⟩, h3⟩ := h
  exact ⟨⟨a, cap, hk.ch.blk h1 (fun e => by have := hx q e; omega) (by decide), owns_ch h2 hk.ch (by decide) hx⟩, h3⟩
def CbPost (st : Addr) (X : Nat → Prop) (base : Nat) (I : List Int → World → Prop) (J : List Int → Int → World → Prop) (ids : List Int) (w : World) (e : Ending) (w' : World) : Prop :=
  Kc X base w w' ∧ ((e = .returned .nilIface ∧ I ids w') ∨ ∃ h, e = .returned (errV st h) ∧ J ids h w')
/-- a callback with two captured variables: I: what holds while it is called again and again; J: what holds when it has ended the search -/
structure CbS (st : Addr) (F c1 c2 : Nat) (X : Nat → Prop) (base B : Nat) (I : List Int → World → Prop) (J : List Int → Int → World → Prop) : Prop where
  enter : ∀ args w, (callFunc F args).run Tryd.prog w = .ok (.enter F args) w
  keep : ∀ ids w w', Stab.Keeps w w' → I ids w → I ids w'
  keepJ : ∀ ids h w w', Stab.Keeps w w' → J ids h w → J ids h w'
  kq : ∀ ids q us w w', B ≤ q → Blk w q 89 us → Kq B q w w' → I ids w → I ids w'
  call : ∀ ids id w, I ids w → StopE st w → ids.length < 1000000 → Calls Tryd.prog F #[.int .i64 id, .pointer (some ⟨c1, 0, none⟩), .pointer (some ⟨c2, 0, none⟩)] w (CbPost st X base I J (ids ++ [id]) w)
/-- S has been gone through: in order, none of the others nearer -/
structure Seg (yq : Q4) (all S R : List It) : Prop where
  perm : (S ++ R).Perm all
  sorted : S.Pairwise fun a b => far1 yq a ≤ far1 yq b
  le : ∀ s ∈ S, ∀ r ∈ R, far1 yq s ≤ far1 yq r
def PrPost (st : Addr) (X : Nat → Prop) (base : Nat) (I : List Int → World → Prop) (J : List Int → Int → World → Prop) (yq : Q4) (all : List It) (w : World) (e : Ending) (w' : World) : Prop :=
  Kc X base w w' ∧ ∃ S R, Seg yq all S R ∧ ((e = .returned .nilIface ∧ R = [] ∧ I (S.map It.id) w') ∨ (S ≠ [] ∧ ∃ h, e = .returned (if h = 0 ∨ h = 1 then .nilIface else errV st h) ∧ J (S.map It.id) h w'))
theorem errV_iface (a : Addr) (h : Int) : ∃ t v, errV a h = .iface t v := by
  unfold errV
  split <;> exact ⟨_, _, rfl⟩
/-- items in the queue are no nearer than their entry -/
theorem PI.far {w : World} {lo B : Nat} {yq : Q4} {all S : List It} {P : List (QE × Option RT)} (h : PI w lo B yq all S P) (hg : ∀ i ∈ all, boxB i.box = true) : ∀ x ∈ P, ∀ i ∈ kitems x.1.box x.1.id x.2, x.1.d ≤ far1 yq i := by
  intro x hx i hi
  have hk := h.kid x hx
  have hd := (h.qn x hx).d
  have hall : ∀ i ∈ kitems x.1.box x.1.id x.2, boxB i.box = true := fun i hi => hg i (h.perm.mem_iff.1 (List.mem_append.2 (.inr (List.mem_flatMap.2 ⟨x, hx, hi⟩))))
  obtain ⟨e, o⟩ := x
  cases o with
  | none =>
    simp [kitems] at hi
    subst hi
    simp only at hd ⊢
    rw [hd]
    exact Int.le_refl _
  | some t =>
    obtain ⟨c, _, hn, hb⟩ := hk
    simp only [kitems] at hi hall
    simp only at hd hb ⊢
    obtain ⟨r, h1, h2⟩ := box_Z t hn.full hall
    obtain ⟨p, h3, h4⟩ := h2 i hi
    rw [hd, hb]
    unfold far1
    rw [qof_eq h1, qof_eq h3]
    exact far_mono yq h4
theorem PI.seg {w : World} {lo B : Nat} {yq : Q4} {all S : List It} {P : List (QE × Option RT)} (h : PI w lo B yq all S P) (hg : ∀ i ∈ all, boxB i.box = true) : Seg yq all S (P.flatMap fun x => kitems x.1.box x.1.id x.2) :=
  ⟨h.perm, h.sorted, fun s hs r hr => by
    obtain ⟨x, hx, hi⟩ := List.mem_flatMap.1 hr
    exact Int.le_trans (h.le s hs x hx) (h.far hg x hx r hi)⟩
/-- what holds at the loop's head -/
def PrI (lo base q : Nat) (X : Nat → Prop) (I : List Int → World → Prop) (y : B4) (yq : Q4) (all : List It) (w : World) (k : Nat) (wr : World) : Prop :=
  ∃ l S P, HQ wr w.heap.size q l y ∧ (P.map Prod.fst).Perm l ∧ PI w lo w.heap.size yq all S P ∧ pwt P ≤ k ∧ I (S.map It.id) wr ∧ Kc X base w wr ∧ w.heap.size ≤ wr.heap.size
set_option maxRecDepth 100000 in
set_option maxHeartbeats 2000000 in
theorem prio_ (st : Addr) (F c1 c2 : Nat) (X : Nat → Prop) (base lo p n : Nat) (I : List Int → World → Prop) (J : List Int → Int → World → Prop) (y : B4) (yq : Q4) (tr : Option RT) (w : World)
    (hC : CbS st F c1 c2 X base w.heap.size I J) (hT : TreeAt w lo p n tr) (hg : ∀ i ∈ itemsO tr, boxB i.box = true) (hn : (itemsO tr).length < 800000) (hy : ZB y yq) (hyo : yq.ok) (hS : StopE st w) (hI : I [] w) (hb0 : 0 < base) (hbw : base ≤ w.heap.size) (hX : ∀ b, X b → b < w.heap.size) :
    Calls Tryd.prog 22 #[.pointer (some ⟨p, 0, none⟩), y.val, .func (.func F) #[] #[.pointer (some ⟨c1, 0, none⟩), .pointer (some ⟨c2, 0, none⟩)]] w (PrPost st X base I J yq (itemsO tr) w) := by
  have hmf : ∀ (fn : Fn) (first cap : Array Value) (w : World), (Instr.makeFunc fn first cap).run Tryd.prog w = .ok (.func fn first cap) w := fun _ _ _ _ => rfl
  obtain ⟨y0, y1, y2, y3⟩ := y
  simp only [B4.val]
  cases tr with
  | none =>
    obtain ⟨_, _, hp⟩ := hT
    have p0 := hp.cell (i := 0) rfl
    have hpl := hp.lt
    go_enter Tryd.func22, Tryd.ntmps22
    go_wp2
    go_ret
    have hk : Stab.Keeps w (w.alloc (.cells #[.float .f64 y0, .float .f64 y1, .float .f64 y2, .float .f64 y3] 56)) := by repeat (first | (with_reducible exact Stab.Keeps.refl _) | (with_reducible assumption) | (with_reducible refine Stab.Keeps.alloc ?_ _) | (with_reducible refine Stab.Keeps.drew ?_) | (with_reducible refine Stab.Keeps.drewN ?_ _) | ((with_reducible refine Stab.Keeps.setCell ?_ ?_ _); focus (first | (simp; done) | (simp; omega))) | (with_reducible refine Stab.Keeps.trans ?_ (by with_reducible assumption)))
    exact ⟨Kc.of_keeps hk hbw, [], [], ⟨List.Perm.refl _, List.Pairwise.nil, fun s hs => by simp at hs⟩, .inl ⟨rfl, rfl, hC.keep _ _ _ hk hI⟩⟩
  | some t =>
    obtain ⟨_, rt, hp, hN⟩ := hT
    have p0 := hp.cell (i := 0) rfl
    have hpl := hp.lt
    simp only [itemsO] at hg hn ⊢
    obtain ⟨K, hK⟩ := hN.kids
    have hrl : rt < w.heap.size := hK.blk.lt
    have hz : ∀ e ∈ K.map (·.1), ∃ r, ZB e.box r ∧ r.ok := fun e he => by
      obtain ⟨k, hk, rfl⟩ := List.mem_map.1 he
      exact (hK.boxes hg).1 k hk
    have hst := PI.start (yq := yq) hK hg hrl
    go_enter Tryd.func22, Tryd.ntmps22
    go_wp2_with fail
    have hkW : Stab.Keeps w ((w.alloc (.cells #[.float .f64 y0, .float .f64 y1, .float .f64 y2, .float .f64 y3] 56)).alloc (.cells #[.slice none 0 0, .float .f64 y0, .float .f64 y1, .float .f64 y2, .float .f64 y3] 89)) := by repeat (first | (with_reducible exact Stab.Keeps.refl _) | (with_reducible assumption) | (with_reducible refine Stab.Keeps.alloc ?_ _) | (with_reducible refine Stab.Keeps.drew ?_) | (with_reducible refine Stab.Keeps.drewN ?_ _) | ((with_reducible refine Stab.Keeps.setCell ?_ ?_ _); focus (first | (simp; done) | (simp; omega))) | (with_reducible refine Stab.Keeps.trans ?_ (by with_reducible assumption)))
    have hQ0 : HQ ((w.alloc (.cells #[.float .f64 y0, .float .f64 y1, .float .f64 y2, .float .f64 y3] 56)).alloc (.cells #[.slice none 0 0, .float .f64 y0, .float .f64 y1, .float .f64 y2, .float .f64 y3] 89)) w.heap.size (w.heap.size + 1) [] ⟨y0, y1, y2, y3⟩ :=
      ⟨⟨none, 0, Blk.new _ [_, _, _, _, _] _ _ (by simp), World.ownsRow_nil _ _ _ _⟩, fun i h0 hi => by simp at hi⟩
    have hsW : ((w.alloc (.cells #[.float .f64 y0, .float .f64 y1, .float .f64 y2, .float .f64 y3] 56)).alloc (.cells #[.slice none 0 0, .float .f64 y0, .float .f64 y1, .float .f64 y2, .float .f64 y3] 89)).heap.size = w.heap.size + 2 := by simp
    generalize ((w.alloc (.cells #[.float .f64 y0, .float .f64 y1, .float .f64 y2, .float .f64 y3] 56)).alloc (.cells #[.slice none 0 0, .float .f64 y0, .float .f64 y1, .float .f64 y2, .float .f64 y3] 89)) = W at hkW hQ0 hsW ⊢
    have hE := enq_ w.heap.size (w.heap.size + 1) rt (K.map (·.1)) [] ⟨y0, y1, y2, y3⟩ yq W (hK.blk.keep hkW) hK.len hrl hz hQ0 hy hyo (by omega) (by omega) (fun x hx => by simp at hx) (by simp)
    have hWs : w.heap.size + 2 ≤ W.heap.size := by omega
    clear hsW p0
    refine hE.mono ?_
    clear hE
    rintro e w1 ⟨rfl, l1, hp1, hQ1, hk1⟩
    have hI1 : PrI lo base (w.heap.size + 1) X I ⟨y0, y1, y2, y3⟩ yq t.items w t.wt w1 := by
      refine ⟨l1, [], newP yq rt K, hQ1, ?_, hst, ?_, ?_, ?_, ?_⟩
      · rw [newP_fst]; exact (by simpa using hp1.symm)
      · rw [newP_wt]; have := hK.wt; omega
      · obtain ⟨a, cap, hb, _⟩ := hQ0.1
        exact hC.kq [] _ _ W w1 (by omega) hb hk1 (hC.keep _ _ _ hkW hI)
      · exact (Kc.of_keeps hkW hbw).below hbw hk1.bel
      · exact Nat.le_trans (by omega) hk1.ch.size
    obtain ⟨q, hq, hqe⟩ : ∃ q, w.heap.size < q ∧ q = w.heap.size + 1 := ⟨_, by omega, rfl⟩
    rw [← hqe] at hI1 ⊢
    clear hQ0 hk1 hp1 hQ1 hst hz hK hp hkW hWs hpl hqe hrl hmf
    go_wp2_with fail
    go_loopg [] t.wt (fun k wr => PrI lo base q X I ⟨y0, y1, y2, y3⟩ yq t.items w k wr)
    case atStart => exact hI1
    case round =>
      clear hI1
      obtain ⟨l, S, P, hQ, hPl, hPI, hwt, hIS, hKc, hsz⟩ := hrel
      obtain ⟨a, cap, hbQ, hoQ⟩ := hQ.1
      have q0 := hbQ.cell (i := 0) rfl
      have hql := hbQ.lt
      by_cases hl0 : l = []
      · subst hl0
        have hP0 : P = [] := by have := hPl.length_eq; simpa using this
        subst hP0
        have hseg := hPI.seg hg
        simp only [List.length_nil] at q0
        clear hPI hPl hoQ hbQ hQ
        go_wp2_with fail
        go_ret
        exact ⟨hKc, S, [], hseg, .inl ⟨rfl, rfl, hIS⟩⟩
      have hlp : 0 < l.length := List.length_pos_iff.2 hl0
      have hPlen := hPI.len
      have hPll : P.length = l.length := by have := hPl.length_eq; simpa using this
      have hPr := hPI.of hKc.node
      have hpop := hpop_ w.heap.size q l ⟨y0, y1, y2, y3⟩ yq wr hQ hlp hy hyo hsz (by omega) (fun x hx => by
        obtain ⟨u, hu, rfl⟩ := List.mem_map.1 (hPl.mem_iff.2 hx)
        exact (hPr.qn u hu).at_) (by omega)
      have hlp' : (0 : Int) < l.length := by omega
      have hSr : StopE st wr := hS.below hKc.bel hb0
      have HPI := Lib.hid hPI
      have HPl := Lib.hid hPl
      clear hl0 hPr hPI hPl hoQ hQ hPll hPlen
      have ta := assert_e
      go_wp2_with fail
      refine hpop.mono ?_
      clear hpop
      rintro e' w2 ⟨⟨ep, eo, eb, ech, eid, ed⟩, l', rfl, hperm, hmin, hQ2, hk2⟩
      have hPI := HPI.out
      obtain ⟨o, P', hPp, hPl'⟩ := take_one (HPl.out.trans hperm.symm)
      have hPI2 := hPI.of_perm hPp
      have hwt2 : kwt o + pwt P' ≤ gk := by have := pwt_perm hPp; simp only [pwt, List.map_cons, List.sum_cons] at this hwt ⊢; omega
      have hnd2 : ∀ b vs, Blk wr b 84 vs → Blk w2 b 84 vs := fun b vs hb => hk2.ch.blk hb (hb.ne hbQ (by decide)) (by decide)
      have hPI3 : PI w2 lo w.heap.size yq t.items S ((⟨ep, eo, eb, ech, eid, ed⟩, o) :: P') := (hPI2.of hKc.node).of hnd2
      have hAt := (hPI3.qn (⟨ep, eo, eb, ech, eid, ed⟩, o) (by simp)).at_
      have hkid := hPI2.kid (⟨ep, eo, eb, ech, eid, ed⟩, o) (by simp)
      have hI2 := hC.kq _ q _ wr w2 (by omega) hbQ hk2 hIS
      have hS2 : StopE st w2 := hSr.below hk2.bel (by omega)
      have hKc2 : Kc X base w w2 := hKc.below hbw hk2.bel
      have hsz2 := Nat.le_trans hsz hk2.ch.size
      obtain ⟨hlt, c0, c1', c2', c3, c4, c5, _⟩ := hAt
      have hepl : ep < w2.heap.size := by simp only at hlt; omega
      simp only at c4 c5 hlt
      have hmP : ∀ x ∈ P', ed ≤ x.1.d := fun x hx => hmin x.1 (hperm.mem_iff.1 (List.mem_cons_of_mem _ (hPl'.mem_iff.1 (List.mem_map_of_mem hx))))
      have hlen' : (S ++ [(⟨eb, eid⟩ : It)]).length + P'.length ≤ t.items.length := by
        have := hPI2.len
        simp only [List.length_append, List.length_cons, List.length_nil] at this ⊢
        omega
      have hPlen : P'.length = l'.length := by have := hPl'.length_eq; simpa using this
      have HK := Lib.hid hkid
      have HPI2 := Lib.hid hPI2
      have HPI3 := Lib.hid hPI3
      have HPl' := Lib.hid hPl'
      clear q0 hql hbQ c0 c1' c2' c3 hkid hPI hPI2 hPI3 hPl' hPp hperm hmin hnd2 HPl HPI hSr hKc hwt hIS hk2 hsz
      cases o with
      | none =>
        have hch : ech = none := HK.out
        subst hch
        simp only [Option.map_none] at c4
        have hcb := hC.call (S.map It.id) eid w2 hI2 hS2 (by rw [List.length_map]; simp only [List.length_append, List.length_cons, List.length_nil] at hlen'; omega)
        have hSeg := HPI2.out.leaf hmP
        have HSeg := Lib.hid hSeg
        have hent := hC.enter
        clear hSeg hmP HK
        simp only [QE.ptr]
        go_wp2_with fail
        refine hcb.mono ?_
        clear hcb ta
        rintro e' w3 ⟨hk3, ⟨rfl, hI3⟩ | ⟨h, rfl, hJ3⟩⟩
        · go_wp2_with fail
          go_roundg (pwt P')
          case measure => simp only [kwt] at hwt2; omega
          case rel =>
            refine ⟨l', S ++ [⟨eb, eid⟩], P', hQ2.cb hk3 hX (by omega), HPl'.out, HSeg.out, Nat.le_refl _, by simpa using hI3, hKc2.trans hk3, Nat.le_trans hsz2 hk3.ch.size⟩
        · obtain ⟨tt, tv, htv⟩ := errV_iface st h
          have hIs := is_err st h w3
          have hS3 : StopE st w3 := hS2.below hk3.bel hb0
          have hfin := HSeg.out.seg hg
          unfold StopE at hS3
          have HTV := Lib.hid htv
          rw [htv] at hIs
          simp only [htv]
          have h0l := Stab.cell_lt hS3
          simp only at h0l
          clear htv
          go_wp2_with fail
          refine hIs.mono ?_
          clear hIs
          rintro e' w4 ⟨rfl, hk4⟩
          by_cases hh : h = 0 ∨ h = 1
          · have hd := decide_eq_true hh
            have HH := Lib.hid hh
            clear hh
            go_wp2_with fail
            go_ret
            refine ⟨(hKc2.trans hk3).below hbw (Below.mono hk4 (Nat.le_trans hsz2 hk3.ch.size)), S ++ [⟨eb, eid⟩], _, hfin, .inr ⟨by simp, h, by rw [if_pos HH.out]; rfl, hC.keepJ _ _ _ _ hk4 (by simpa using hJ3)⟩⟩
          · have hd := decide_eq_false hh
            have HH := Lib.hid hh
            clear hh
            go_wp2_with fail
            go_ret
            refine ⟨(hKc2.trans hk3).below hbw (Below.mono hk4 (Nat.le_trans hsz2 hk3.ch.size)), S ++ [⟨eb, eid⟩], _, hfin, .inr ⟨by simp, h, by rw [if_neg HH.out, HTV.out]; rfl, hC.keepJ _ _ _ _ hk4 (by simpa using hJ3)⟩⟩
      | some t' =>
        obtain ⟨c, hce, hNc, hbe⟩ := HK.out
        subst hce
        simp only [Option.map_some] at c4
        obtain ⟨K2, hK2⟩ := hNc.kids
        have hcl : c < w.heap.size := hK2.blk.lt
        have hg2 : ∀ i ∈ t'.items, boxB i.box = true := fun i hi => hg i (HPI2.out.perm.mem_iff.1 (List.mem_append.2 (.inr (by simp [kitems, hi]))))
        have hnew := HPI2.out.node hg hK2 hcl hbe
        have hlen2 : l'.length < 900000 := by omega
        have hE := enq_ w.heap.size q c (K2.map (·.1)) l' ⟨y0, y1, y2, y3⟩ yq w2 (hKc2.node _ _ hK2.blk) hK2.len hcl (fun e he => by
          obtain ⟨k, hk, rfl⟩ := List.mem_map.1 he
          exact (hK2.boxes hg2).1 k hk) hQ2 hy hyo hsz2 (by omega) (fun x hx => by
          obtain ⟨u, hu, rfl⟩ := List.mem_map.1 (HPl'.out.mem_iff.2 hx)
          exact (HPI3.out.qn u (by simp [hu])).at_) hlen2
        have hbQ2 : ∃ us, Blk w2 q 89 us := by obtain ⟨a, cap, hb, _⟩ := hQ2.1; exact ⟨_, hb⟩
        have HN := Lib.hid hnew
        have HW := Lib.hid hK2.wt
        have HF := Lib.hid (newP_fst yq c K2)
        have HQW := Lib.hid (newP_wt yq c K2)
        clear hnew hmP HK hK2 hNc hbe hg2 hlen' hlen2
        simp only [QE.ptr]
        go_wp2_with fail
        refine hE.mono ?_
        clear hE
        rintro e' w3 ⟨rfl, l3, hp3, hQ3, hk3⟩
        obtain ⟨us, hbQ2⟩ := hbQ2
        have hI3 := hC.kq _ q us w2 w3 (by omega) hbQ2 hk3 hI2
        clear hbQ2 ta
        go_wp2_with fail
        go_roundg (pwt (P' ++ newP yq c K2))
        case measure =>
          have h1 := HQW.out
          have h2 := HW.out
          simp only [kwt] at hwt2
          simp only [pwt, List.map_append, List.sum_append] at h1 hwt2 ⊢
          omega
        case rel =>
          refine ⟨l3, S, P' ++ newP yq c K2, hQ3, ?_, HN.out, Nat.le_refl _, hI3, hKc2.below hbw hk3.bel, Nat.le_trans hsz2 hk3.ch.size⟩
          rw [List.map_append, HF.out]
          exact (List.Perm.append_right _ HPl'.out).trans hp3.symm
end Go.Proofs.YtokofimfinhnbaaDoor
