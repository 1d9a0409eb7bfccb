/-
  The tree of boxes: questions asked one behind another. No condition.
-/
import Derived.Test.YtokofimfinhnbaaDoorTr17
import Derived.Defers
import Derived.Recover
set_option linter.unusedVariables false
set_option linter.unusedSimpArgs false
namespace Go.Proofs.YtokofimfinhnbaaDoor
open Go.RowKit Go.Fl Go.Sl Go.Ch
theorem catch_play (p q : Value) (w : World) :
    CallsD Tryd.prog 13 #[p, q] .returning w fun e u' w' => e = .returned (.tuple #[]) ∧ u' = .returning ∧ w' = w := by
  refine callsD_of_wpS Tryd.func13 rfl fun c₀ cs hu => ?_
  apply wpS_seq
  apply wpS_region
  simp [wpOpsS, go_sem, recoverD, hu, Tryd.ntmps13, Exit.thenS]
  refine wpS_cond (t := false) (by simp [Act.eval, Array.replicate]) ?_
  simp only [Bool.false_eq_true, if_false]
  refine wpS_of_wp (wp_skip ?_)
  cases c₀
  simp_all [bodyPostS, results, Tryd.results13]
theorem Ask.cells_len (q : Ask) : q.cells.length = 7 := rfl
/-- an answer as it lies in memory -/
structure Ans where
  a : Option Addr
  cap : Nat
  ids : List Int
  r : Rest
def Ans.cells (x : Ans) : List Value := .slice x.a x.ids.length x.cap :: x.r.cells
theorem Ans.cells_len (x : Ans) : x.cells.length = 10 := rfl
def Ans.ok (w : World) (x : Ans) : Prop := w.ownsRow 0 3 1 (.slice x.a x.ids.length x.cap) x.ids.length (encI x.ids)
theorem infoTold : (Tryd.prog.info? 39).map (fun i => (i.zero, i.size, i.bytes)) = some (some (.agg #[.slice none 0 0, .bool false, .bool false, .bool false, .int .i64 0, .float .f64 0, .float .f64 0, .float .f64 0, .float .f64 0, .int .i64 0]), 10, 80) := by kernel_rfl
end Go.Proofs.YtokofimfinhnbaaDoor
