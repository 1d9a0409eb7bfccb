/-
  Geometries as the program's data have them: their cells, and what lies behind them. No condition.
-/
import Derived.Test.YtinbkonmlgediaaGreatProg
import Derived.Test.YtinbkonmlgediaaGreatXFl
import Derived.Test.YtinbkonmlgediaaGreatXStab
import Derived.Test.YtinbkonmlgediaaGreatXSz
import Derived.WalkKit
import Derived.WalkSpells
import Derived.WalkLawsBesides
import Derived.Lib.Hide
import Derived.BigQuiet
set_option linter.unusedVariables false
set_option linter.unusedSimpArgs false
namespace Go.Proofs.YtinbkonmlgediaaGreat
open Go.RowKit Go.Fl Go.Sl
/-- a callee that returns v and keeps what was there -/
def One (w : World) (v : Value) (e : Ending) (w' : World) : Prop := e = .returned v ∧ Stab.Keeps w w'
/-- a geometry's four cells -/
structure Gm where
  kind : Int
  dim : Int
  na : Option Addr
  nn : Nat
  nc : Nat
  ka : Option Addr
  kn : Nat
  kc : Nat
def Gm.cells (g : Gm) : List Value := [.int .i64 g.kind, .int .i64 g.dim, .slice g.na g.nn g.nc, .slice g.ka g.kn g.kc]
def Gm.val (g : Gm) : Value := .agg #[.int .i64 g.kind, .int .i64 g.dim, .slice g.na g.nn g.nc, .slice g.ka g.kn g.kc]
def encN (l : List Nat) : List Value := l.map (.float .f64)
inductive GT where
  | node (hd : Gm) (nums : List Nat) (kids : List GT)
def GT.hd : GT → Gm | .node h _ _ => h
def GT.kids : GT → List GT | .node _ _ k => k
def GT.cells (t : GT) : List Value := t.hd.cells
theorem GT.cells_len (t : GT) : t.cells.length = 4 := rfl
inductive GT.At (w : World) : GT → Prop where
  | mk (h : Gm) (nums : List Nat) (kids : List GT) (hn : nums.length = h.nn) (hk : kids.length = h.kn) (h1 : Sz w h.na h.nn h.nc 1 (encN nums)) (h2 : Sz w h.ka h.kn h.kc 4 (kids.flatMap GT.cells)) (h3 : ∀ t ∈ kids, GT.At w t) : GT.At w (.node h nums kids)
theorem GT.At.keep {w w' : World} (hk : Stab.Keeps w w') {t : GT} (h : GT.At w t) : GT.At w' t := by
  induction h with
  | mk h nums kids hn hk' h1 h2 _ ih => exact .mk h nums kids hn hk' (h1.keep hk) (h2.keep hk) ih
/-- a callee that tells true only where p -/
def Tells (w : World) (p : Prop) (e : Ending) (w' : World) : Prop := (∃ b : Bool, e = .returned (.bool b) ∧ (b = true → p)) ∧ Stab.Keeps w w'
end Go.Proofs.YtinbkonmlgediaaGreat
