/-
  FnEnvIs returns true at every input: the walk of the law, out of what its functions return. No condition.
-/
import Derived.Test.YtkpbapemeiigbaaEnvIs
import Derived.Test.YtkpbapemeiigbaaOp
import Derived.ProofKit
import Derived.OpenShut
set_option linter.unusedVariables false
set_option linter.unusedSimpArgs false
namespace Go.Proofs.Ytkpbapemeiigbaa
open Go.RowKit Go.Fl
theorem eq_fin {c : Nat} (h : fin c = true) : eq c c = true := by
  obtain ⟨s, m, e, hd⟩ := fin_read h
  simp [eq, FloatKind.format, Ieee.Format.order, hd, Ieee.Datum.order]
theorem fin_nan {c : Nat} (h : fin c = true) : isNaN c = false := by
  obtain ⟨s, m, e, hd⟩ := fin_read h
  simp [isNaN, hd, Ieee.Datum.isNaN]
theorem eqmm {a c : Nat} (ha : fin a = true) (hc : fin c = true) (h : (lt a c || eq a c) = true) : eq (mn a c) (mx a c) = eq a c := by
  have hn := fin_nan ha
  cases hl : lt a c with
  | true =>
    have hg : gt a c = false := by
      unfold lt at hl; unfold gt
      rw [beq_iff_eq.1 hl]; rfl
    simp [mn, mx, hn, hl, hg]
  | false =>
    rw [hl, Bool.false_or] at h
    have hg : gt a c = false := by
      unfold eq at h; unfold gt
      rw [beq_iff_eq.1 h]; rfl
    simp [mn, mx, hn, hl, hg, h, eq_fin hc]
def Law (w : World) (e : Ending) (w' : World) : Prop := e = .returned (.bool true) ∧ Below w.heap.size w w'
set_option maxRecDepth 100000 in
set_option maxHeartbeats 2000000 in
theorem lawEnv (f : Bool) (a b c d : Nat) (w : World) : Calls Try.prog 6 #[.agg #[.bool f, .float .f64 a, .float .f64 b, .float .f64 c, .float .f64 d]] w (Law w) := by
  have hK := fun w' => kenv a b c d f w'
  have hI := fun w' => envIs_ f a b c d w'
  go_enter Try.func6, Try.ntmps6
  go_wp2_with fail
  refine (hK _).mono ?_
  clear hK
  rintro e w2 ⟨t, rfl, ht, hk2⟩
  cases t
  · clear ht hI
    go_wp2_with fail
    go_ret
    refine ⟨rfl, ?_⟩
    show Stab.Keeps w _
    repeat (first | (with_reducible exact Stab.Keeps.refl _) | (with_reducible assumption) | (with_reducible refine Stab.Keeps.alloc ?_ _) | (with_reducible refine Stab.Keeps.drew ?_) | (with_reducible refine Stab.Keeps.drewN ?_ _) | ((with_reducible refine Stab.Keeps.setCell ?_ ?_ _); focus (first | (simp; done) | (simp; omega))) | (with_reducible refine Stab.Keeps.trans ?_ (by with_reducible assumption)))
  · obtain ⟨ha, hb, hc, hd, hx, hy⟩ := ht rfl
    rw [eqmm ha hc hx, eqmm hb hd hy] at hI
    obtain ⟨hcE, hfE⟩ := Stab.own_cell hk2 (w.heap.size) (by first | (simp; done) | (simp; omega))
    clear ht ha hb hc hd hx hy
    have m0 : w2.cell? ⟨w.heap.size, 0, none⟩ = some (.bool f) := by rw [hcE]; go_simp
    have m1 : w2.cell? ⟨w.heap.size, 1, none⟩ = some (.float .f64 a) := by rw [hcE]; go_simp
    have m2 : w2.cell? ⟨w.heap.size, 2, none⟩ = some (.float .f64 b) := by rw [hcE]; go_simp
    have m3 : w2.cell? ⟨w.heap.size, 3, none⟩ = some (.float .f64 c) := by rw [hcE]; go_simp
    have m4 : w2.cell? ⟨w.heap.size, 4, none⟩ = some (.float .f64 d) := by rw [hcE]; go_simp
    clear hcE
    go_wp2_with fail
    refine (hI _).mono ?_
    clear hI
    rintro e w3 ⟨rfl, hk3⟩
    obtain ⟨hcF, _⟩ := Stab.own_cell hk3 (w.heap.size) (Stab.cell_lt m0)
    have n0 : w3.cell? ⟨w.heap.size, 0, none⟩ = some (.bool f) := by rw [hcF]; exact m0
    have n1 : w3.cell? ⟨w.heap.size, 1, none⟩ = some (.float .f64 a) := by rw [hcF]; exact m1
    have n2 : w3.cell? ⟨w.heap.size, 2, none⟩ = some (.float .f64 b) := by rw [hcF]; exact m2
    have n3 : w3.cell? ⟨w.heap.size, 3, none⟩ = some (.float .f64 c) := by rw [hcF]; exact m3
    have n4 : w3.cell? ⟨w.heap.size, 4, none⟩ = some (.float .f64 d) := by rw [hcF]; exact m4
    clear hcF m0 m1 m2 m3 m4
    go_wp2_with fail
    go_quiet (fail)
    go_wp2
    all_goals
      go_ret
      refine ⟨?_, ?_⟩
      · have hx : eq a c = (FloatKind.f64.format.order a c == some Ordering.eq) := rfl
        have hy : eq b d = (FloatKind.f64.format.order b d == some Ordering.eq) := rfl
        clear hk2 hk3
        cases p : (FloatKind.f64.format.order a c == some Ordering.eq) <;> cases q : (FloatKind.f64.format.order b d == some Ordering.eq) <;> simp_all
      · show Stab.Keeps w _
        repeat (first | (with_reducible exact Stab.Keeps.refl _) | (with_reducible assumption) | (with_reducible refine Stab.Keeps.alloc ?_ _) | (with_reducible refine Stab.Keeps.drew ?_) | (with_reducible refine Stab.Keeps.drewN ?_ _) | ((with_reducible refine Stab.Keeps.setCell ?_ ?_ _); focus (first | (simp; done) | (simp; omega))) | (with_reducible refine Stab.Keeps.trans ?_ (by with_reducible assumption)))
namespace fnEnvIs
open Go.ChangeShapes Go.WideShapes Go.ChangeAt Go.Op2
theorem cellsEnv : Try.prog.cellsOf 42 = 5 := by kernel_rfl
theorem cellsBox : Try.prog.cellsOf 40 = 4 := by kernel_rfl
theorem cellsB : Try.prog.cellsOf 4 = 1 := by kernel_rfl
theorem cellsF : Try.prog.cellsOf 38 = 1 := by kernel_rfl
theorem walkT {H : Type} (enc : TypeId × Value → H) (W : World) (base : Nat) {v0 : Value} {d0 : DataW H} {p0 : List MemPlace}
    (o0 : Value.okWide Try.prog W .any base 42 v0) (h0 : DataW.Trod enc Try.prog W 0 (fun _ => true) true 42 v0 d0 p0) :
    Calls Try.prog 6 #[v0] W (Law W) := by
  obtain ⟨cs, rfl, hl, m, hf⟩ := open_struct Try.underlying42 cellsEnv o0 h0
  obtain ⟨c0, c1, c2, c3, c4, rfl⟩ := list5 hl
  obtain ⟨y0, g0⟩ := hf 0 _ rfl
  obtain ⟨y1, g1⟩ := hf 1 _ rfl
  simp [cellsB] at g0
  obtain ⟨f, e0⟩ := trod_bool' Try.underlying4 g0
  simp [cellsBox] at g1
  obtain ⟨_, m', hf'⟩ := trod_struct' Try.underlying40 cellsBox g1
  obtain ⟨z0, k0⟩ := hf' 0 _ rfl
  obtain ⟨z1, k1⟩ := hf' 1 _ rfl
  obtain ⟨z2, k2⟩ := hf' 2 _ rfl
  obtain ⟨z3, k3⟩ := hf' 3 _ rfl
  simp [cellsF] at k0 k1 k2 k3
  obtain ⟨a, e1, _⟩ := trod_float Try.underlying38 k0
  obtain ⟨b, e2, _⟩ := trod_float Try.underlying38 k1
  obtain ⟨c, e3, _⟩ := trod_float Try.underlying38 k2
  obtain ⟨d, e4, _⟩ := trod_float Try.underlying38 k3
  injection e0 with e0; injection e1 with e1; injection e2 with e2; injection e3 with e3; injection e4 with e4
  subst e0 e1 e2 e3 e4
  exact lawEnv f a b c d W
end fnEnvIs
end Go.Proofs.Ytkpbapemeiigbaa
