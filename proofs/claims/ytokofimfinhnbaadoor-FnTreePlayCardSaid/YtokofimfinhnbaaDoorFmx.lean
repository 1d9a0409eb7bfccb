/-
  The builtins min and max of doubles, and a double's opposite. No condition.
-/
import Derived.Test.YtokofimfinhnbaaDoorFr4
set_option linter.unusedVariables false
set_option linter.unusedSimpArgs false
namespace Go.Fr
open Ieee Go.Fl Go.Fw

theorem read_neg (b : Nat) : double.read (Op.negFloat .f64 b) = (double.read b).opposite := by
  have e : Op.negFloat .f64 b = b ^^^ 2 ^ 63 := rfl
  have h1 : (b ^^^ 2 ^ 63) % 9223372036854775808 = b % 9223372036854775808 := by
    have := Nat.xor_mod_two_pow (a := b) (b := 2 ^ 63) (n := 63)
    simpa using this
  have h2 : ((b ^^^ 2 ^ 63) / 9223372036854775808 % 2 == 1) = !(b / 9223372036854775808 % 2 == 1) := by
    have t1 : ∀ x : Nat, (x / 9223372036854775808 % 2 == 1) = x.testBit 63 := fun x => by
      rw [Nat.testBit_eq_decide_div_mod_eq, show (9223372036854775808 : Nat) = 2 ^ 63 by decide]
      by_cases h : x / 2 ^ 63 % 2 = 1 <;> simp [h]
    rw [t1, t1, Nat.testBit_xor, Nat.testBit_two_pow_self]
    simp
  have h1' : (b ^^^ 2 ^ 63) % double.signWeight = b % double.signWeight := h1
  have h2' : ((b ^^^ 2 ^ 63) / double.signWeight % 2 == 1) = !(b / double.signWeight % 2 == 1) := h2
  rw [e]
  unfold Format.read
  simp only [h1', h2']
  by_cases c1 : b % double.signWeight < double.binade
  · rw [if_pos c1, if_pos c1]; rfl
  · rw [if_neg c1, if_neg c1]
    by_cases c2 : b % double.signWeight < double.infRung
    · rw [if_pos c2, if_pos c2]; rfl
    · rw [if_neg c2, if_neg c2]
      by_cases c3 : b % double.signWeight = double.infRung
      · rw [if_pos c3, if_pos c3]; rfl
      · rw [if_neg c3, if_neg c3]; rfl
theorem R_neg (b : Nat) : R (Op.negFloat .f64 b) = -R b := by
  unfold R
  rw [read_neg]
  cases double.read b with
  | number s m e => simp only [Datum.opposite, valD, opp]; grind
  | infinity s => simp [Datum.opposite, valD]
  | nan s t => simp [Datum.opposite, valD]
theorem fin_neg (b : Nat) : fin (Op.negFloat .f64 b) = fin b := by
  unfold fin
  rw [read_neg]
  cases double.read b <;> rfl
theorem Z.neg {b : Nat} {n : Int} (h : Z b n) : Z (Op.negFloat .f64 b) (-n) := ⟨by rw [fin_neg]; exact h.1, by rw [R_neg, h.2]; simp⟩
@[go_sem] theorem unary_neg_float (k : FloatKind) (b : Nat) : Op.unary .neg (.float k b) = pure (.float k (Op.negFloat k b)) := rfl

/-- the greater, the less of two numbers, as the builtins choose it -/
def mx2 (x y : Nat) : Nat := if R x < R y then y else if R x = R y then (if (double.read x).neg then y else x) else x
def mn2 (x y : Nat) : Nat := if R x < R y then x else if R x = R y then (if (double.read x).neg then x else y) else y
theorem run_max2 {P : Program} {x y : Nat} (hx : fin x = true) (hy : fin y = true) (w : World) : (Builtin.max2 (.float .f64 x) (.float .f64 y)).run P w = .ok (.float .f64 (mx2 x y)) w := by
  unfold mx2
  change (match double.order x y with
    | none => do pure (.float .f64 (← choose (.nanMinMax .f64 true x y)))
    | some .lt => pure (.float .f64 y)
    | some .gt => pure (.float .f64 x)
    | some .eq => pure (.float .f64 (if (double.read x).neg then y else x)) : Sem Value).run P w = _
  rw [order_val hx hy]
  by_cases h : R x < R y
  · simp [h]
  · by_cases h2 : R x = R y
    · have : ¬ R y < R y := by grind
      simp [h2, this]
    · simp [h, h2]
theorem mx2_fin {x y : Nat} (hx : fin x = true) (hy : fin y = true) : fin (mx2 x y) = true := by unfold mx2; split; exact hy; split; split; exact hy; exact hx; exact hx
theorem mx2_R (x y : Nat) : (R (mx2 x y) = R x ∨ R (mx2 x y) = R y) ∧ R x ≤ R (mx2 x y) ∧ R y ≤ R (mx2 x y) := by
  unfold mx2
  split
  · exact ⟨.inr rfl, by grind, by grind⟩
  · split
    · split <;> exact ⟨by first | exact .inl rfl | exact .inr rfl, by grind, by grind⟩
    · exact ⟨.inl rfl, by grind, by grind⟩
theorem mx2_Z {x y : Nat} {a b : Int} (hx : Z x a) (hy : Z y b) : Z (mx2 x y) (max a b) := by
  refine ⟨mx2_fin hx.1 hy.1, ?_⟩
  unfold mx2
  rw [hx.2, hy.2]
  simp only [Rat.intCast_lt_intCast, Rat.intCast_inj]
  rcases Int.lt_trichotomy a b with h | h | h
  · rw [if_pos h, hy.2, Int.max_eq_right (by omega)]
  · subst h; rw [if_neg (by omega), if_pos rfl]
    split
    · rw [hy.2, Int.max_self]
    · rw [hx.2, Int.max_self]
  · rw [if_neg (by omega), if_neg (by omega), hx.2, Int.max_eq_left (by omega)]
theorem run_min2 {P : Program} {x y : Nat} (hx : fin x = true) (hy : fin y = true) (w : World) : (Builtin.min2 (.float .f64 x) (.float .f64 y)).run P w = .ok (.float .f64 (mn2 x y)) w := by
  unfold mn2
  change (match double.order x y with
    | none => do pure (.float .f64 (← choose (.nanMinMax .f64 false x y)))
    | some .lt => pure (.float .f64 x)
    | some .gt => pure (.float .f64 y)
    | some .eq => pure (.float .f64 (if (double.read x).neg then x else y)) : Sem Value).run P w = _
  rw [order_val hx hy]
  by_cases h : R x < R y
  · simp [h]
  · by_cases h2 : R x = R y
    · have : ¬ R y < R y := by grind
      simp [h2, this]
    · simp [h, h2]
theorem mn2_Z {x y : Nat} {a b : Int} (hx : Z x a) (hy : Z y b) : Z (mn2 x y) (min a b) := by
  have hf : fin (mn2 x y) = true := by unfold mn2; split; exact hx.1; split; split; exact hx.1; exact hy.1; exact hy.1
  refine ⟨hf, ?_⟩
  unfold mn2
  rw [hx.2, hy.2]
  simp only [Rat.intCast_lt_intCast, Rat.intCast_inj]
  rcases Int.lt_trichotomy a b with h | h | h
  · rw [if_pos h, hx.2, Int.min_eq_left (by omega)]
  · subst h; rw [if_neg (by omega), if_pos rfl]
    split
    · rw [hx.2, Int.min_self]
    · rw [hy.2, Int.min_self]
  · rw [if_neg (by omega), if_neg (by omega), hy.2, Int.min_eq_right (by omega)]
theorem run_max_2 {P : Program} (ts : Array TypeId) (t : TypeId) {x y : Nat} (hx : fin x = true) (hy : fin y = true) (w : World) :
    (Builtin.max_ ts t #[.float .f64 x, .float .f64 y]).run P w = .ok (.float .f64 (mx2 x y)) w := by
  have h1 := run_max2 (P := P) hx hy w
  simp [Builtin.max_, List.foldlM, h1]
theorem run_min_2 {P : Program} (ts : Array TypeId) (t : TypeId) {x y : Nat} (hx : fin x = true) (hy : fin y = true) (w : World) :
    (Builtin.min_ ts t #[.float .f64 x, .float .f64 y]).run P w = .ok (.float .f64 (mn2 x y)) w := by
  have h1 := run_min2 (P := P) hx hy w
  simp [Builtin.min_, List.foldlM, h1]
theorem run_max_3 {P : Program} (ts : Array TypeId) (t : TypeId) {x y z : Nat} (hx : fin x = true) (hy : fin y = true) (hz : fin z = true) (w : World) :
    (Builtin.max_ ts t #[.float .f64 x, .float .f64 y, .float .f64 z]).run P w = .ok (.float .f64 (mx2 (mx2 x y) z)) w := by
  have h1 := run_max2 (P := P) hx hy w
  have h2 := run_max2 (P := P) (mx2_fin hx hy) hz w
  simp [Builtin.max_, List.foldlM, h1, h2]
end Go.Fr
