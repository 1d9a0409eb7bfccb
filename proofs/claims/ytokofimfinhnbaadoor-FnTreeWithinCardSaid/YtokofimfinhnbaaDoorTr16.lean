/-
  The tree of boxes: the search through a box, never stopped, down the tree. No condition.
-/
import Derived.Test.YtokofimfinhnbaaDoorTr15
import Derived.Laws.EntriesVeiled
set_option linter.unusedVariables false
set_option linter.unusedSimpArgs false
namespace Go.Proofs.YtokofimfinhnbaaDoor
open Go.RowKit Go.Fl Go.Sl Go.Ch
theorem rs_leaf (y : B4) : ∀ l : List It, (l.map fun t => ((⟨t.box, none, t.id⟩ : Ent), if ovl t.box y then [t.id] else [])).flatMap (·.2) = rs y (.leaf l)
  | [] => rfl
  | t :: l => by
    have ih := rs_leaf y l
    simp only [rs] at ih
    simp only [List.map_cons, List.flatMap_cons, rs, ih]
    cases h : ovl t.box y <;> simp [h]
theorem rs_le (y : B4) : ∀ t : RT, (rs y t).length ≤ t.items.length
  | .leaf l => by simp only [rs, RT.items, List.length_map]; exact List.length_filter_le _ _
  | .two a b => by
    have h1 := rs_le y a
    have h2 := rs_le y b
    simp only [rs, RT.items, List.length_append]
    split <;> split <;> simp <;> omega
  | .four a b c d => by
    have h1 := rs_le y a
    have h2 := rs_le y b
    have h3 := rs_le y c
    have h4 := rs_le y d
    simp only [rs, RT.items, List.length_append]
    split <;> split <;> split <;> split <;> simp <;> omega
theorem NodeAt.kp {base o lo : Nat} {w w' : World} (hk : Kp base o w w') (ho : ∃ us, Blk w o 39 us) {t : RT} {p : Nat} (h : NodeAt w lo p t) : NodeAt w' lo p t :=
  NodeAt.of (Nat.le_refl _) (fun b vs _ hb => hk.blk hb ho (by decide) (by decide)) h
def REnt (y : B4) (x : Nat × RT) : Ent × List Int := (⟨x.2.box, some x.1, 0⟩, if ovl x.2.box y then rs y x.2 else [])
def RngC (base bx cb rc o ask lo : Nat) (y : B4) (q : Ask) (r : Rest) (t : RT) : Prop := ∀ (p : Nat) (ids : List Int) (w : World), NodeAt w lo p t → RE w bx cb rc o ask y q → OutAt w base o ids r →
    base ≤ w.heap.size → ids.length + (rs y t).length < 1000000 →
    Calls Tryd.prog 27 #[.pointer (some ⟨p, 0, none⟩), .pointer (some ⟨bx, 0, none⟩), .pointer (some ⟨cb, 0, none⟩), .pointer (some ⟨rc, 0, none⟩)] w (RPost w base o (ids ++ rs y t) r)
theorem kid_ {base bx cb rc o ask lo : Nat} {y : B4} {q : Ask} {r : Rest} {w : World} {ids : List Int} (hO : OutAt w base o ids r) (hbw : base ≤ w.heap.size) {p : Nat} {t : RT} (ih : RngC base bx cb rc o ask lo y q r t) (ha : NodeAt w lo p t) :
    (ovl (REnt y (p, t)).1.box y = false → (REnt y (p, t)).2 = []) ∧ (ovl (REnt y (p, t)).1.box y = true → ((REnt y (p, t)).1.child = none ∧ (REnt y (p, t)).2 = [(REnt y (p, t)).1.id]) ∨ ∃ p', (REnt y (p, t)).1.child = some p' ∧
      ∀ w' ids', Kp base o w w' → RE w' bx cb rc o ask y q → OutAt w' base o ids' r → ids'.length + (REnt y (p, t)).2.length < 1000000 → Calls Tryd.prog 27 #[.pointer (some ⟨p', 0, none⟩), .pointer (some ⟨bx, 0, none⟩), .pointer (some ⟨cb, 0, none⟩), .pointer (some ⟨rc, 0, none⟩)] w' (RPost w' base o (ids' ++ (REnt y (p, t)).2) r)) := by
  refine ⟨fun h => by simp only [REnt] at h ⊢; rw [h]; rfl, fun h => .inr ⟨p, rfl, fun w' ids' hk hE' hO' hl' => ?_⟩⟩
  have h2 : (REnt y (p, t)).2 = rs y t := by simp only [REnt] at h ⊢; rw [h]; rfl
  rw [h2] at hl' ⊢
  exact ih p ids' w' (ha.kp hk hO.blk) hE' hO' (Nat.le_trans hbw hk.ch.size) hl'
theorem range_ (base bx cb rc o ask lo : Nat) (y : B4) (q : Ask) (r : Rest) (hs : q.stop ≤ 0) (hb0 : 0 < base) (hb : base ≤ o) : ∀ (t : RT), RngC base bx cb rc o ask lo y q r t := by
  intro t
  induction t with
  | leaf l =>
    intro p ids w hN hE hO hbw hl
    obtain ⟨_, l1, l4, hB⟩ := hN
    rw [← rs_leaf y l] at hl ⊢
    refine rloop_ base bx cb rc o ask p y q r ids _ w (by simpa using l1) (by simpa using l4) ?_ hE hO hs hb0 hb hbw hl ?_
    · simpa [leafE, Function.comp_def] using hB
    · intro x hx
      simp only [List.mem_map] at hx
      obtain ⟨t, ht, rfl⟩ := hx
      refine ⟨fun h => by simp only at h ⊢; rw [h]; rfl, fun h => .inl ⟨rfl, by simp only at h ⊢; rw [h]; rfl⟩⟩
  | two a b iha ihb =>
    intro p ids w hN hE hO hbw hl
    obtain ⟨_, pa, pb, hB, ha, hb'⟩ := hN
    have e : rs y (.two a b) = [REnt y (pa, a), REnt y (pb, b)].flatMap (·.2) := by simp [rs, REnt]
    rw [e] at hl ⊢
    refine rloop_ base bx cb rc o ask p y q r ids _ w (by simp) (by simp) hB hE hO hs hb0 hb hbw hl ?_
    intro x hx
    simp only [List.mem_cons, List.not_mem_nil, or_false] at hx
    rcases hx with rfl | rfl
    · exact kid_ hO hbw iha ha
    · exact kid_ hO hbw ihb hb'
  | four a b c d iha ihb ihc ihd =>
    intro p ids w hN hE hO hbw hl
    obtain ⟨_, pa, pb, pc, pd, hB, ha, hb', hc, hd⟩ := hN
    have e : rs y (.four a b c d) = [REnt y (pa, a), REnt y (pb, b), REnt y (pc, c), REnt y (pd, d)].flatMap (·.2) := by simp [rs, REnt]
    rw [e] at hl ⊢
    refine rloop_ base bx cb rc o ask p y q r ids _ w (by simp) (by simp) hB hE hO hs hb0 hb hbw hl ?_
    intro x hx
    simp only [List.mem_cons, List.not_mem_nil, or_false] at hx
    rcases hx with rfl | rfl | rfl | rfl
    · exact kid_ hO hbw iha ha
    · exact kid_ hO hbw ihb hb'
    · exact kid_ hO hbw ihc hc
    · exact kid_ hO hbw ihd hd
def rsO (y : B4) : Option RT → List Int
  | none => []
  | some t => rs y t
set_option maxRecDepth 100000 in
set_option maxHeartbeats 1000000 in
theorem search0_ (base o ask lo p n : Nat) (y : B4) (q : Ask) (r : Rest) (tr : Option RT) (ids : List Int) (w : World) (hT : TreeAt w lo p n tr) (hO : OutAt w base o ids r) (hq : Blk w ask 30 q.cells) (hstop : ∃ t a, w.cell? ⟨0, 0, none⟩ = some (.iface t (.pointer (some a))))
    (hs : q.stop ≤ 0) (hb0 : 0 < base) (hb : base ≤ o) (hl : ids.length + (rsO y tr).length < 1000000) :
    Calls Tryd.prog 21 #[.pointer (some ⟨p, 0, none⟩), y.val, .func (.func 20) #[] #[.pointer (some ⟨o, 0, none⟩), .pointer (some ⟨ask, 0, none⟩)]] w (RPost w base o (ids ++ rsO y tr) r) := by
  have hmf : ∀ (fn : Fn) (first cap : Array Value) (w : World), (Instr.makeFunc fn first cap).run Tryd.prog w = .ok (.func fn first cap) w := fun _ _ _ _ => rfl
  obtain ⟨y0, y1, y2, y3⟩ := y
  simp only [B4.val]
  obtain ⟨us, hob⟩ := hO.blk
  have hbw : base ≤ w.heap.size := Nat.le_trans hb (Nat.le_of_lt hob.lt)
  cases tr with
  | none =>
    obtain ⟨_, _, hp⟩ := hT
    have p0 := hp.cell (i := 0) rfl
    have hpl := hp.lt
    go_enter Tryd.func21, Tryd.ntmps21
    go_wp2
    go_ret
    have hk : Stab.Keeps w ((w.alloc (.cells #[.float .f64 y0, .float .f64 y1, .float .f64 y2, .float .f64 y3] 56)).alloc (.cells #[.func (.func 20) #[] #[.pointer (some ⟨o, 0, none⟩), .pointer (some ⟨ask, 0, none⟩)]] 67)) := by repeat (first | (with_reducible exact Stab.Keeps.refl _) | (with_reducible assumption) | (with_reducible refine Stab.Keeps.alloc ?_ _) | (with_reducible refine Stab.Keeps.drew ?_) | (with_reducible refine Stab.Keeps.drewN ?_ _) | ((with_reducible refine Stab.Keeps.setCell ?_ ?_ _); focus (first | (simp; done) | (simp; omega))) | (with_reducible refine Stab.Keeps.trans ?_ (by with_reducible assumption)))
    exact ⟨rfl, by simpa [rsO] using hO.keep hk, Kp.of_keeps hk hbw⟩
  | some t =>
    obtain ⟨_, rt, hp, hN⟩ := hT
    have p0 := hp.cell (i := 0) rfl
    have hpl := hp.lt
    go_enter Tryd.func21, Tryd.ntmps21
    go_wp2_with fail
    have hk : Stab.Keeps w (((w.alloc (.cells #[.float .f64 y0, .float .f64 y1, .float .f64 y2, .float .f64 y3] 56)).alloc (.cells #[.func (.func 20) #[] #[.pointer (some ⟨o, 0, none⟩), .pointer (some ⟨ask, 0, none⟩)]] 67)).alloc (.cells #[.func (.func 27) #[] #[.pointer (some ⟨w.heap.size, 0, none⟩), .pointer (some ⟨w.heap.size + 1, 0, none⟩), .pointer (some ⟨w.heap.size + 1 + 1, 0, none⟩)]] 79)) := by repeat (first | (with_reducible exact Stab.Keeps.refl _) | (with_reducible assumption) | (with_reducible refine Stab.Keeps.alloc ?_ _) | (with_reducible refine Stab.Keeps.drew ?_) | (with_reducible refine Stab.Keeps.drewN ?_ _) | ((with_reducible refine Stab.Keeps.setCell ?_ ?_ _); focus (first | (simp; done) | (simp; omega))) | (with_reducible refine Stab.Keeps.trans ?_ (by with_reducible assumption)))
    have hE : RE (((w.alloc (.cells #[.float .f64 y0, .float .f64 y1, .float .f64 y2, .float .f64 y3] 56)).alloc (.cells #[.func (.func 20) #[] #[.pointer (some ⟨o, 0, none⟩), .pointer (some ⟨ask, 0, none⟩)]] 67)).alloc (.cells #[.func (.func 27) #[] #[.pointer (some ⟨w.heap.size, 0, none⟩), .pointer (some ⟨w.heap.size + 1, 0, none⟩), .pointer (some ⟨w.heap.size + 1 + 1, 0, none⟩)]] 79)) w.heap.size (w.heap.size + 1) (w.heap.size + 1 + 1) o ask ⟨y0, y1, y2, y3⟩ q := by
      obtain ⟨st, sa, s0⟩ := hstop
      refine ⟨((Blk.new w [_, _, _, _] _ _ rfl).alloc _).alloc _, (Blk.new _ [_] _ _ (by simp)).alloc _, Blk.new _ [_] _ _ (by simp), ((hq.alloc _).alloc _).alloc _, st, sa, ?_⟩
      rw [(Stab.own_cell hk 0 (Stab.cell_lt s0)).1]; exact s0
    generalize (((w.alloc (.cells #[.float .f64 y0, .float .f64 y1, .float .f64 y2, .float .f64 y3] 56)).alloc (.cells #[.func (.func 20) #[] #[.pointer (some ⟨o, 0, none⟩), .pointer (some ⟨ask, 0, none⟩)]] 67)).alloc (.cells #[.func (.func 27) #[] #[.pointer (some ⟨w.heap.size, 0, none⟩), .pointer (some ⟨w.heap.size + 1, 0, none⟩), .pointer (some ⟨w.heap.size + 1 + 1, 0, none⟩)]] 79)) = W at *
    have e0 := hE.hrc.cell (i := 0) rfl
    have hel := hE.hrc.lt
    have p0' := (hp.keep hk).cell (i := 0) rfl
    have hpl' := (hp.keep hk).lt
    have hsz := hk.size
    have hR := fun w' (hk' : Stab.Keeps W w') => range_ base w.heap.size (w.heap.size + 1) (w.heap.size + 1 + 1) o ask lo ⟨y0, y1, y2, y3⟩ q r hs hb0 hb t rt ids w' (hN.keep (Stab.Keeps.trans hk hk')) (hE.kp (Kp.of_keeps hk' (Nat.le_trans hbw hsz)) (hO.keep hk).blk hb0) (hO.keep (Stab.Keeps.trans hk hk')) (Nat.le_trans hbw (Nat.le_trans hsz hk'.size)) hl
    clear hmf
    refine Stab.keep_tail 5 (fun _ _ _ => True) (fun _ => false) (fun k => false) Stab.pre_none (by kernel_rfl) (by kernel_rfl) fun hcx => ?_
    simp only [List.take_succ_cons, List.take_zero, List.drop_succ_cons, List.drop_zero]
    repeat (first
      | (refine Stab.quiet rfl rfl rfl (fun K hK => ?_); go_big_quiet_op; refine hK _ ?_; clear hK K)
      | (refine Stab.one rfl rfl rfl ?_
         apply Exists.intro
         refine ⟨fun w1 hw1 => ?_, fun K hK => ?_⟩
         · go_simp
           first | fail
         go_simp
         refine hK _ ?_
         clear hK K)
      | (refine Stab.skip rfl (fun K hK => ?_); go_simp; refine hK _ ?_; clear hK K))
    refine Stab.nil fun w' hw' _ => ?_
    clear hcx
    go_wp2_with fail
    refine (hR w' hw').mono ?_
    rintro e w3 ⟨rfl, hO3, hK3⟩
    clear hR
    go_wp2_with fail
    go_ret
    exact ⟨rfl, hO3, (Kp.of_keeps (Stab.Keeps.trans hk hw') hbw).trans hK3⟩
end Go.Proofs.YtokofimfinhnbaaDoor
