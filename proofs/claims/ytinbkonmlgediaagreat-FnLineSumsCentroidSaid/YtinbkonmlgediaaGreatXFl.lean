/-
  Floats as the walk meets them: each operation's value and draws as plain functions of the bits; NaN and finite; x - x. No condition.
-/
import Derived.Laws.FloatArith
import Derived.Deep.Draws
import Derived.Laws.NewFold
import Derived.Laws.Entries
import Derived.Below
import Derived.Laws.StructEq
set_option linter.unusedVariables false
set_option linter.unusedSimpArgs false
namespace Go.Fl
open Ieee Go.RowKit

/-- the bits that stand for no number -/
def isNaN (b : Nat) : Bool := (double.read b).isNaN
/-- a number (no infinity, no NaN) -/
def fin (b : Nat) : Bool := match double.read b with | .number .. => true | _ => false

def nanV (x y : Nat) (w : World) : Nat := (Question.nanBits .f64 x y).cut (w.tape w.drawn (.nanBits .f64 x y))
def opV (op : BinOp) (x y : Nat) (w : World) : Nat := (floatBits op .f64 x y).getD (nanV x y w)
def opN (op : BinOp) (x y : Nat) : Nat := if (floatBits op .f64 x y).isSome then 0 else 1

theorem run_op {P : Program} (op : BinOp) (hop : op = .add ∨ op = .sub ∨ op = .mul ∨ op = .quo) (t : TypeId) (x y : Nat) (w : World) :
    (binOp op t (.float .f64 x) (.float .f64 y)).run P w = .ok (.float .f64 (opV op x y w)) (w.drewN (opN op x y)) := by
  cases h : floatBits op .f64 x y with
  | some r => simp [run_float_arith w op t .f64 x y r h, opV, opN, h, World.drewN_zero]
  | none =>
    unfold floatBits at h
    rcases hop with rfl | rfl | rfl | rfl <;>
      simp [binOp, Op.floatArith, h, opV, opN, nanV, floatBits, Question.forced, World.drew_is_drewN]
@[go_sem] theorem run_add {P : Program} (t : TypeId) (x y : Nat) (w : World) : (binOp .add t (.float .f64 x) (.float .f64 y)).run P w = .ok (.float .f64 (opV .add x y w)) (w.drewN (opN .add x y)) := run_op _ (by simp) ..
@[go_sem] theorem run_sub {P : Program} (t : TypeId) (x y : Nat) (w : World) : (binOp .sub t (.float .f64 x) (.float .f64 y)).run P w = .ok (.float .f64 (opV .sub x y w)) (w.drewN (opN .sub x y)) := run_op _ (by simp) ..
@[go_sem] theorem run_mul {P : Program} (t : TypeId) (x y : Nat) (w : World) : (binOp .mul t (.float .f64 x) (.float .f64 y)).run P w = .ok (.float .f64 (opV .mul x y w)) (w.drewN (opN .mul x y)) := run_op _ (by simp) ..
@[go_sem] theorem run_quo {P : Program} (t : TypeId) (x y : Nat) (w : World) : (binOp .quo t (.float .f64 x) (.float .f64 y)).run P w = .ok (.float .f64 (opV .quo x y w)) (w.drewN (opN .quo x y)) := run_op _ (by simp) ..

@[go_sem] theorem run_store_float {P : Program} {w : World} {a : Addr} {m : Mode} (k : FloatKind) (b : Nat) : (store a (.float k b) m).run P w = stored P w a (.float k b) m := run_store P w a _ m rfl

theorem nanV_nan (x y : Nat) (w : World) : isNaN (nanV x y w) = true := by
  unfold nanV Question.cut isNaN
  generalize w.tape w.drawn (.nanBits .f64 x y) = t
  simp only
  have h1 : double.signWeight = 9223372036854775808 := by decide
  have h2 : double.binade = 4503599627370496 := by decide
  have h3 : double.infRung = 9218868437227405312 := by decide
  unfold Format.read
  rw [h1, h2, h3]
  have ha : (t / 2) % (2 ^ 52 - 1) < 4503599627370495 := by omega
  generalize (t / 2) % (2 ^ 52 - 1) = r at ha
  have hb : (t % 2 * 2 ^ 63 + 9218868437227405312 + 1 + r) % 9223372036854775808 = 9218868437227405313 + r := by omega
  simp only [hb]
  rw [if_neg (by omega), if_neg (by omega), if_neg (by omega)]
  rfl

theorem opV_some {op : BinOp} {x y r : Nat} (h : floatBits op .f64 x y = some r) (w : World) : opV op x y w = r := by simp [opV, h]
theorem opN_some {op : BinOp} {x y r : Nat} (h : floatBits op .f64 x y = some r) : opN op x y = 0 := by simp [opN, h]
theorem opV_none {op : BinOp} {x y : Nat} (h : floatBits op .f64 x y = none) (w : World) : isNaN (opV op x y w) = true := by simp [opV, h, nanV_nan]

theorem nan_read {b : Nat} (h : isNaN b = true) : ∃ s t, double.read b = .nan s t := by
  unfold isNaN at h
  cases hd : double.read b <;> simp [hd, Datum.isNaN] at h
  exact ⟨_, _, rfl⟩
theorem fin_read {b : Nat} (h : fin b = true) : ∃ s m e, double.read b = .number s m e := by
  unfold fin at h
  cases hd : double.read b <;> simp [hd] at h
  exact ⟨_, _, _, rfl⟩

theorem opV_nan_l (op : BinOp) (x y : Nat) (w : World) (h : isNaN x = true) : isNaN (opV op x y w) = true := by
  obtain ⟨s, t, hd⟩ := nan_read h
  refine opV_none ?_ w
  unfold floatBits
  cases op <;> simp [Format.add, Format.sub, Format.mul, Format.div, FloatKind.format, hd, Datum.sum, Datum.product, Datum.quotient]
theorem opV_nan_r (op : BinOp) (x y : Nat) (w : World) (h : isNaN y = true) : isNaN (opV op x y w) = true := by
  obtain ⟨s, t, hd⟩ := nan_read h
  refine opV_none ?_ w
  unfold floatBits
  cases op <;> cases hx : double.read x <;> simp [Format.add, Format.sub, Format.mul, Format.div, FloatKind.format, hd, hx, Datum.sum, Datum.product, Datum.quotient, Datum.opposite]

theorem sub_self {x : Nat} (h : fin x = true) : floatBits .sub .f64 x x = some 0 := by
  obtain ⟨s, m, e, hd⟩ := fin_read h
  have hz : signed s m 0 + signed (!s) m 0 = 0 := by
    unfold signed; cases s <;> simp <;> omega
  simp [floatBits, Format.sub, FloatKind.format, hd, Datum.opposite, Datum.sum, hz, Format.write, Format.nearest, Format.word]
theorem sub_self_nan {x : Nat} (h : fin x = false) (w : World) : isNaN (opV .sub x x w) = true := by
  cases hd : double.read x with
  | number s m e => simp [fin, hd] at h
  | infinity s => exact opV_none (by simp [floatBits, Format.sub, FloatKind.format, hd, Datum.opposite, Datum.sum]) w
  | nan s t => exact opV_nan_l _ _ _ _ (by simp [isNaN, hd, Datum.isNaN])
theorem add_zero_zero : floatBits .add .f64 0 0 = some 0 := by decide +kernel

theorem order_nan_l {x y : Nat} (h : isNaN x = true) : double.order x y = none := by
  obtain ⟨s, t, hd⟩ := nan_read h
  simp [Format.order, hd, Datum.order]
theorem order_nan_r {x y : Nat} (h : isNaN y = true) : double.order x y = none := by
  obtain ⟨s, t, hd⟩ := nan_read h
  cases hx : double.read x <;> simp [Format.order, hd, hx, Datum.order]
theorem order_zero : double.order 0 0 = some .eq := by decide +kernel
theorem below_drewN {B : Nat} {a w : World} (h : Below B a w) (n : Nat) : Below B a (w.drewN n) := ⟨h.os, h.tape, h.output, h.size, h.block⟩
theorem isNaN_neq (x : Nat) : (FloatKind.f64.format.order x x != some .eq) = isNaN x := by
  cases hd : double.read x with
  | number s m e => simp [FloatKind.format, Format.order, hd, Datum.order, isNaN, Datum.isNaN]
  | infinity s => cases s <;> simp [FloatKind.format, Format.order, hd, Datum.order, isNaN, Datum.isNaN]
  | nan s t => simp [FloatKind.format, Format.order, hd, Datum.order, isNaN, Datum.isNaN]
@[go_sem] theorem run_equalIn_float {P : Program} (w : World) (d : Nat) (t : TypeId) (k k' : FloatKind) (a b : Nat) (h : P.underlying t = some (.float k')) : (Op.equalIn (d + 1) t (.float k a) (.float k b)).run P w = .ok (k.format.order a b == some .eq) w := by
  simp [Op.equalIn, run_underlying h, Op.floatEq]
/-- '<', '==', '>' of two floats -/
def lt (x y : Nat) : Bool := FloatKind.f64.format.order x y == some Ordering.lt
def eq (x y : Nat) : Bool := FloatKind.f64.format.order x y == some Ordering.eq
def gt (x y : Nat) : Bool := FloatKind.f64.format.order x y == some Ordering.gt
end Go.Fl
