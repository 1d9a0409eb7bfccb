/-
  A row that goes there and back is flat: its half is the way there. No condition.
-/
import Derived.Test.YtkpbapemeiigbaaRows2
import Derived.Defers
import Derived.Recover
set_option linter.unusedVariables false
set_option linter.unusedSimpArgs false
namespace Go.Proofs.Ytkpbapemeiigbaa
open Go.RowKit Go.Fl Go.Sl
theorem eqXY' (a b c d : Nat) (w : World) :
  (binOp .neq 62 (.agg #[.float .f64 a, .float .f64 b]) (.agg #[.float .f64 c, .float .f64 d])).run Try.prog w = .ok (.bool (!(eq a c && eq b d))) w := by
  rw [run_neq_struct, run_equalIn_struct (d := 9999) _ _ _ _ (by kernel_rfl) (by kernel_rfl)]
  simp [go_sem, Try.underlying38]
  by_cases h1 : FloatKind.f64.format.order a c = some .eq <;> by_cases h2 : FloatKind.f64.format.order b d = some .eq <;> simp [eq, h1, h2]
theorem guardGXY : Try.prog.eqGuardType Try.prog.depth 62 = false := by kernel_rfl
def Ret2 (w : World) (v : Value) (e : Ending) (w' : World) : Prop := e = .returned v ∧ ∃ n, w' = w.drewN n
set_option maxRecDepth 100000 in
set_option maxHeartbeats 1000000 in
theorem linear_ (a : Option Addr) (m cap : Nat) (l : List (Nat × Nat)) (w : World) (hn : l.length = 2 * m + 1) (h1 : 1 ≤ m) (hs : m ≤ 1000000) (h : Sl w a (2 * m + 1) cap 2 (encF l))
    (he : ∀ (p q : Nat × Nat), l[m - 1]? = some p → l[m + 1]? = some q → (eq p.1 q.1 && eq p.2 q.2) = true) :
    Calls Try.prog 41 #[.slice a (2 * m + 1) cap] w (Ret2 w (.tuple #[.slice a (m + 1) cap, .bool true])) := by
  have hle := h.le
  have hm := h.max
  unfold maxLen at hm
  obtain ⟨b, off, ha, hb, hc⟩ := h.elem (i := m - 1) (by omega)
  obtain ⟨b', off', ha', hb', hc'⟩ := h.elem (i := m + 1) (by omega)
  subst ha
  cases ha'
  have c0 : w.cell? ⟨b, off + (m - 1) * 2, none⟩ = some (.float .f64 (l[m - 1]).1) := hc 0 _ (by omega) (encF_get0 l (m - 1) (by omega))
  have c1 : w.cell? ⟨b, off + (m - 1) * 2 + 1, none⟩ = some (.float .f64 (l[m - 1]).2) := hc 1 _ (by omega) (encF_get1 l (m - 1) (by omega))
  have c2 : w.cell? ⟨b, off + (m + 1) * 2, none⟩ = some (.float .f64 (l[m + 1]).1) := hc' 0 _ (by omega) (encF_get0 l (m + 1) (by omega))
  have c3 : w.cell? ⟨b, off + (m + 1) * 2 + 1, none⟩ = some (.float .f64 (l[m + 1]).2) := hc' 1 _ (by omega) (encF_get1 l (m + 1) (by omega))
  have hq := he _ _ (List.getElem?_eq_getElem (by omega)) (List.getElem?_eq_getElem (by omega))
  clear hc hc' he h
  generalize l[m - 1] = p at *
  generalize l[m + 1] = q at *
  obtain ⟨p0, p1⟩ := p
  obtain ⟨q0, q1⟩ := q
  simp only at hq c0 c1 c2 c3
  have hne := eqXY'
  have hg := guardGXY
  have hr : ((2 * (m : Int) + 1) % 2 == 0) = false := by first | (simp; done) | (simp; omega)
  have hd : (2 * (m : Int) + 1) / 2 = m := by omega
  go_enter Try.func41, Try.ntmps41
  go_wp2
  simp only [hd]
  have w1 : IntKind.i64.wrap ((m : Int) - 1) = (m : Int) - 1 := IntWalk.i64_in _ (by omega)
  have w2 : IntKind.i64.wrap ((m : Int) + 1) = (m : Int) + 1 := IntWalk.i64_in _ (by omega)
  have b1 : (0 : Int) ≤ (m : Int) - 1 := by omega
  have b2 : ((m : Int) - 1).toNat = m - 1 := by omega
  have b3 : (0 : Int) ≤ (m : Int) + 1 := by omega
  have b4 : ((m : Int) + 1).toNat = m + 1 := by omega
  have b5 : (m : Int) - 1 < 2 * (m : Int) + 1 := by omega
  have b6 : (m : Int) + 1 < 2 * (m : Int) + 1 := by omega
  go_quiet (fail)
  clear w1 w2 b1 b2 b3 b4 b5 b6
  have hle' : (m : Int) + 1 ≤ cap := by omega
  have hle2 : m + 1 ≤ cap := by omega
  go_wp2
  go_ret2
  exact ⟨rfl, _, rfl⟩
theorem doorLinear_ (a : Option Addr) (m cap : Nat) (l : List (Nat × Nat)) (w : World) (hn : l.length = 2 * m + 1) (h1 : 1 ≤ m) (hs : m ≤ 1000000) (h : Sl w a (2 * m + 1) cap 2 (encF l))
    (he : ∀ (p q : Nat × Nat), l[m - 1]? = some p → l[m + 1]? = some q → (eq p.1 q.1 && eq p.2 q.2) = true) :
    Calls Try.prog 25 #[.slice a (2 * m + 1) cap] w (Ret2 w (.tuple #[.slice a (m + 1) cap, .bool true])) := by
  have hL := linear_ a m cap l w hn h1 hs h he
  go_enter Try.func25, Try.ntmps25
  go_wp2_with fail
  refine hL.mono ?_
  clear hL he h
  rintro e w2 ⟨rfl, nq, rfl⟩
  go_wp2_with fail
  go_ret2
  exact ⟨rfl, _, rfl⟩
theorem catch_flat (p q r : Value) (w : World) :
    CallsD Try.prog 24 #[p, q, r] .returning w fun e u' w' => e = .returned (.tuple #[]) ∧ u' = .returning ∧ w' = w := by
  refine callsD_of_wpS Try.func24 rfl fun c₀ cs hu => ?_
  apply wpS_seq
  apply wpS_region
  simp [wpOpsS, go_sem, recoverD, hu, Try.ntmps24, Exit.thenS]
  refine wpS_cond (t := false) (by simp [Act.eval, Array.replicate]) ?_
  simp only [Bool.false_eq_true, if_false]
  refine wpS_of_wp (wp_skip ?_)
  cases c₀
  simp_all [bodyPostS, results, Try.results24]
end Go.Proofs.Ytkpbapemeiigbaa
