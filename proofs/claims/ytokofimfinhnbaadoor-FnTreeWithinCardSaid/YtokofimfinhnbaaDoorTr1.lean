/-
  The tree of boxes: small functions, walked. No condition.
-/
import Derived.Test.YtokofimfinhnbaaDoorProg
import Derived.Test.YtokofimfinhnbaaDoorFl
import Derived.Test.YtokofimfinhnbaaDoorStab
import Derived.Test.YtokofimfinhnbaaDoorSl
import Derived.Test.YtokofimfinhnbaaDoorCh
import Derived.WalkKit
import Derived.WalkSpells
import Derived.WalkLawsBesides
import Derived.Lib.Hide
import Derived.BigQuiet
set_option linter.unusedVariables false
set_option linter.unusedSimpArgs false
namespace Go.Proofs.YtokofimfinhnbaaDoor
open Go.RowKit Go.Fl Go.Sl Go.Ch

def One (w : World) (v : Value) (e : Ending) (w' : World) : Prop := e = .returned v ∧ Stab.Keeps w w'
/-- a box: its four ends -/
structure B4 where
  a : Nat
  b : Nat
  c : Nat
  d : Nat
def B4.cells (x : B4) : List Value := [.float .f64 x.a, .float .f64 x.b, .float .f64 x.c, .float .f64 x.d]
def B4.val (x : B4) : Value := .agg #[.float .f64 x.a, .float .f64 x.b, .float .f64 x.c, .float .f64 x.d]
/-- an item: a box and a number -/
structure It where
  box : B4
  id : Int
def It.cells (t : It) : List Value := [.float .f64 t.box.a, .float .f64 t.box.b, .float .f64 t.box.c, .float .f64 t.box.d, .int .i64 t.id]
def It.val (t : It) : Value := .agg #[.float .f64 t.box.a, .float .f64 t.box.b, .float .f64 t.box.c, .float .f64 t.box.d, .int .i64 t.id]
theorem It.cells_len (t : It) : t.cells.length = 5 := rfl
def fmn (x y : Nat) : Nat := if lt x y then x else y
def fmx (x y : Nat) : Nat := if gt x y then x else y
def cmb (x y : B4) : B4 := ⟨fmn x.a y.a, fmn x.b y.b, fmx x.c y.c, fmx x.d y.d⟩
theorem fmin_ (x y : Nat) (w : World) : Calls Tryd.prog 44 #[.float .f64 x, .float .f64 y] w fun e w' => e = .returned (.float .f64 (fmn x y)) ∧ w = w' := by
  go_enter Tryd.func44, Tryd.ntmps44
  go_wp2
  all_goals
    go_ret
    refine ⟨?_, rfl⟩
    simp_all [fmn, lt]
theorem fmax_ (x y : Nat) (w : World) : Calls Tryd.prog 45 #[.float .f64 x, .float .f64 y] w fun e w' => e = .returned (.float .f64 (fmx x y)) ∧ w = w' := by
  go_enter Tryd.func45, Tryd.ntmps45
  go_wp2
  all_goals
    go_ret
    refine ⟨?_, rfl⟩
    simp_all [fmx, gt]
theorem box_ (x : B4) (w : World) : Calls Tryd.prog 18 #[x.val] w (One w x.val) := by
  obtain ⟨a, b, c, d⟩ := x
  unfold B4.val
  go_enter Tryd.func18, Tryd.ntmps18
  go_wp2
  refine bodyPost_ret (v := .agg #[.float .f64 a, .float .f64 b, .float .f64 c, .float .f64 d]) (by simp [results, Tryd.results18, go_sem]) rfl ⟨rfl, ?_⟩
  repeat (first | (with_reducible exact Stab.Keeps.refl _) | (with_reducible assumption) | (with_reducible refine Stab.Keeps.alloc ?_ _) | (with_reducible refine Stab.Keeps.drew ?_) | (with_reducible refine Stab.Keeps.drewN ?_ _) | ((with_reducible refine Stab.Keeps.setCell ?_ ?_ _); focus (first | (simp; done) | (simp; omega))) | (with_reducible refine Stab.Keeps.trans ?_ (by with_reducible assumption)))
set_option maxRecDepth 100000 in
set_option maxHeartbeats 1000000 in
theorem combine_ (x y : B4) (w : World) : Calls Tryd.prog 41 #[x.val, y.val] w (One w (cmb x y).val) := by
  obtain ⟨a, b, c, d⟩ := x
  obtain ⟨a', b', c', d'⟩ := y
  unfold cmb B4.val
  go_enter Tryd.func41, Tryd.ntmps41
  go_wp2
  refine Stab.keep_tail 21 (fun _ _ _ => True) (fun _ => false) (fun k => k == 4 || k == 9 || k == 14 || k == 19) Stab.pre_none (by kernel_rfl) (by kernel_rfl) fun hcx => ?_
  simp only [List.take_succ_cons, List.take_zero, List.drop_succ_cons, List.drop_zero]
  repeat (first
    | (refine Stab.quiet rfl rfl rfl (fun K hK => ?_); go_big_quiet_op; refine hK _ ?_; clear hK K)
    | (refine Stab.one rfl rfl rfl ?_
       apply Exists.intro
       refine ⟨fun w1 hw1 => ?_, fun K hK => ?_⟩
       · go_simp
         first | (go_at_call 44; exact Stab.upon_same (fmin_ _ _ _)) | (go_at_call 45; exact Stab.upon_same (fmax_ _ _ _))
       go_simp
       refine hK _ ?_
       clear hK K)
    | (refine Stab.skip rfl (fun K hK => ?_); go_simp; refine hK _ ?_; clear hK K))
  refine Stab.nil fun w' hw' _ => ?_
  clear hcx
  obtain ⟨mc_, mf_⟩ := Stab.own_cell hw' (w.heap.size + 1 + 1) (by first | (simp; done) | (simp; omega) | omega | (apply Stab.cell_lt (a := ⟨w.heap.size + 1 + 1, 0, none⟩); assumption))
  have m0 : w'.cell? ⟨w.heap.size + 1 + 1, 0, none⟩ = some (.float .f64 0) := by rw [mc_]; first | assumption | (go_simp; done)
  have m1 : w'.cell? ⟨w.heap.size + 1 + 1, 1, none⟩ = some (.float .f64 0) := by rw [mc_]; first | assumption | (go_simp; done)
  have m2 : w'.cell? ⟨w.heap.size + 1 + 1, 2, none⟩ = some (.float .f64 0) := by rw [mc_]; first | assumption | (go_simp; done)
  have m3 : w'.cell? ⟨w.heap.size + 1 + 1, 3, none⟩ = some (.float .f64 0) := by rw [mc_]; first | assumption | (go_simp; done)
  have mf : ∀ j, w'.frozen? ⟨w.heap.size + 1 + 1, j, none⟩ = false := fun j => by rw [mf_]; first | (go_simp; done) | (apply_assumption)
  clear mc_ mf_
  go_wp2_with fail
  refine bodyPost_ret (v := .agg #[.float .f64 (fmn a a'), .float .f64 (fmn b b'), .float .f64 (fmx c c'), .float .f64 (fmx d d')]) (by simp [results, Tryd.results41, go_sem, *]) rfl ⟨rfl, ?_⟩
  repeat (first | (with_reducible exact Stab.Keeps.refl _) | (with_reducible assumption) | (with_reducible refine Stab.Keeps.alloc ?_ _) | (with_reducible refine Stab.Keeps.drew ?_) | (with_reducible refine Stab.Keeps.drewN ?_ _) | ((with_reducible refine Stab.Keeps.setCell ?_ ?_ _); focus (first | (simp; done) | (simp; omega))) | (with_reducible refine Stab.Keeps.trans ?_ (by with_reducible assumption)))
end Go.Proofs.YtokofimfinhnbaaDoor
