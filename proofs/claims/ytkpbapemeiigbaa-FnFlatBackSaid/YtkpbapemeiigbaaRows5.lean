/-
  Two rows of one list of places are the same. No condition.
-/
import Derived.Test.YtkpbapemeiigbaaRows4
set_option linter.unusedVariables false
set_option linter.unusedSimpArgs false
namespace Go.Proofs.Ytkpbapemeiigbaa
open Go.RowKit Go.Fl Go.Sl
theorem eqIXY (a b c d : Nat) (w : World) :
  (binOp .neq 47 (.agg #[.float .f64 a, .float .f64 b]) (.agg #[.float .f64 c, .float .f64 d])).run Try.prog w = .ok (.bool (!(eq a c && eq b d))) w := by
  rw [run_neq_struct, run_equalIn_struct (d := 9999) _ _ _ _ (by kernel_rfl) (by kernel_rfl)]
  simp [go_sem, Try.underlying38]
  by_cases h1 : FloatKind.f64.format.order a c = some .eq <;> by_cases h2 : FloatKind.f64.format.order b d = some .eq <;> simp [eq, h1, h2]
theorem guardIXY : Try.prog.eqGuardType Try.prog.depth 47 = false := by kernel_rfl
set_option maxRecDepth 100000 in
set_option maxHeartbeats 1000000 in
theorem sameRow_ (a a2 : Option Addr) (n cap cap2 : Nat) (l : List (Nat × Nat)) (w : World) (hn : l.length = n) (hs : n ≤ 1000000) (h : Sl w a n cap 2 (encF l)) (h2 : Sl w a2 n cap2 2 (encF l))
    (he : ∀ p ∈ l, eq p.1 p.1 = true ∧ eq p.2 p.2 = true) :
    Calls Try.prog 12 #[.slice a n cap, .slice a2 n cap2] w (OneV w (.bool true)) := by
  have hle := h.le
  have hm := h.max
  unfold maxLen at hm
  have hne := eqIXY
  have hg := guardIXY
  go_enter Try.func12, Try.ntmps12
  go_wp2
  go_loopw [14] (fun i wr => ∃ k : Nat, k ≤ n ∧ i = .int .i64 k ∧ Stab.Keeps w wr) (fun i _ => n - (intOf i).toNat)
  case atStart => exact ⟨0, Nat.zero_le _, rfl, by repeat (first | (with_reducible exact Stab.Keeps.refl _) | (with_reducible assumption) | (with_reducible refine Stab.Keeps.alloc ?_ _) | (with_reducible refine Stab.Keeps.drew ?_) | (with_reducible refine Stab.Keeps.drewN ?_ _) | ((with_reducible refine Stab.Keeps.setCell ?_ ?_ _); focus (first | (simp; done) | (simp; omega))) | (with_reducible refine Stab.Keeps.trans ?_ (by with_reducible assumption)))⟩
  case round =>
    obtain ⟨k, hk, rfl, hK⟩ := hrel
    by_cases hlt : k < n
    · have hS := h.keep hK
      obtain ⟨b, off, ha, hb, hc⟩ := hS.elem hlt
      have hS2 := h2.keep hK
      obtain ⟨b2, off2, ha2, hb2, hc2⟩ := hS2.elem hlt
      subst ha
      subst ha2
      have c0 : wr.cell? ⟨b, off + k * 2, none⟩ = some (.float .f64 (l[k]).1) := hc 0 _ (by omega) (encF_get0 l k (by omega))
      have c1 : wr.cell? ⟨b, off + k * 2 + 1, none⟩ = some (.float .f64 (l[k]).2) := hc 1 _ (by omega) (encF_get1 l k (by omega))
      have d0 : wr.cell? ⟨b2, off2 + k * 2, none⟩ = some (.float .f64 (l[k]).1) := hc2 0 _ (by omega) (encF_get0 l k (by omega))
      have d1 : wr.cell? ⟨b2, off2 + k * 2 + 1, none⟩ = some (.float .f64 (l[k]).2) := hc2 1 _ (by omega) (encF_get1 l k (by omega))
      have hq := he l[k] (List.getElem_mem _)
      obtain ⟨q1, q2⟩ := hq
      generalize l[k] = p at *
      obtain ⟨p0, p1⟩ := p
      simp only at q1 q2 c0 c1 d0 d1
      clear hc hS hc2 hS2 h h2 he
      have hb2' : b2 < wr.heap.size + 1 := by omega
      go_wp2_with fail
      have x1 : (k : Int) < (n : Int) := by omega
      have x2 : (0 : Int) ≤ (k : Int) := by omega
      go_quiet (fail)
      go_wp2
      go_roundw
      case rel =>
        refine ⟨k + 1, by omega, by go_num, ?_⟩
        repeat (first | (with_reducible exact Stab.Keeps.refl _) | (with_reducible assumption) | (with_reducible refine Stab.Keeps.alloc ?_ _) | (with_reducible refine Stab.Keeps.drew ?_) | (with_reducible refine Stab.Keeps.drewN ?_ _) | ((with_reducible refine Stab.Keeps.setCell ?_ ?_ _); focus (first | (simp; done) | (simp; omega))) | (with_reducible refine Stab.Keeps.trans ?_ (by with_reducible assumption)))
      case measure => simp [intOf]; omega
    · have hkn : k = n := by omega
      subst hkn
      go_wp2
      go_ret
      exact ⟨rfl, hK⟩
end Go.Proofs.Ytkpbapemeiigbaa
