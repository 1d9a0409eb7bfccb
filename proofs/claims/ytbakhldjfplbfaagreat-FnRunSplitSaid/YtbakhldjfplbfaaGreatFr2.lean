/-
  The operations of doubles, told of as rational numbers. No condition.
-/
import Derived.Test.YtbakhldjfplbfaaGreatFr
set_option linter.unusedVariables false
set_option linter.unusedSimpArgs false
namespace Go.Fr
open Ieee Go.Fl Go.Fw

def ab (v : Rat) : Rat := if 0 ≤ v then v else -v
theorem ab_cases (v : Rat) : (0 ≤ v ∧ ab v = v) ∨ (v < 0 ∧ ab v = -v) := by
  unfold ab; split
  · exact .inl ⟨by assumption, rfl⟩
  · exact .inr ⟨by grind, rfl⟩
theorem ab_nonneg (v : Rat) : 0 ≤ ab v := by rcases ab_cases v with h | h <;> grind
/-- r is v, nearly -/
def Near (v r : Rat) : Prop := r ≤ v + (ab v * two (-52) + two (-1074)) ∧ v ≤ r + (ab v * two (-52) + two (-1074))

theorem sgR (neg : Bool) (m : Nat) : ((sg neg m : Int) : Rat) = if neg then -(m : Rat) else m := by
  cases neg <;> simp [sg, Rat.intCast_natCast]
theorem R_num {b : Nat} {s : Bool} {m : Nat} {e : Int} (h : double.read b = .number s m e) : R b = (sg s m : Int) * two e := by unfold R; rw [h]; rfl
theorem fin_num {b : Nat} {s : Bool} {m : Nat} {e : Int} (h : double.read b = .number s m e) : fin b = true := by unfold fin; rw [h]
theorem mul_nn {a b : Rat} (h : 0 ≤ a) (h' : 0 ≤ b) : 0 ≤ a * b := Rat.mul_nonneg h h'
theorem nat_nn (n : Nat) : (0 : Rat) ≤ n := nle (Nat.zero_le n)

theorem sgn_mul {neg : Bool} {m : Nat} {x v : Rat} (hx : 0 ≤ x) (h : ((sg neg m : Int) : Rat) * x = v) : ab v = m * x ∧ (v = m * x ∨ (neg = true ∧ v = -(m * x))) := by
  have hn := mul_nn (nat_nn m) hx
  rw [sgR] at h
  cases neg
  · simp only [Bool.false_eq_true, if_false] at h
    subst h
    refine ⟨?_, .inl rfl⟩
    unfold ab; rw [if_pos hn]
  · simp only [if_true] at h
    have h' : v = -(m * x) := by grind
    subst h'
    refine ⟨?_, .inr ⟨rfl, rfl⟩⟩
    rcases ab_cases (-(↑m * x)) with h | h <;> grind

/-- what is written is nearly the number, to half a unit -/
theorem write_half (neg : Bool) (mag : Nat) (place : Int) (v : Rat) (hv : ((sg neg mag : Int) : Rat) * two place = v) (hb : ab v < two 1023) :
    fin (double.nearest neg mag place) = true ∧ R (double.nearest neg mag place) ≤ v + (ab v * two (-53) + two (-1075)) ∧ v ≤ R (double.nearest neg mag place) + (ab v * two (-53) + two (-1075)) ∧ (neg = false → 0 ≤ R (double.nearest neg mag place)) := by
  obtain ⟨h1, h2⟩ := sgn_mul (Rat.le_of_lt (two_pos place)) hv
  rw [h1] at hb
  obtain ⟨X, e, g1, g2, g3, g4⟩ := nearest_err neg mag place hb
  refine ⟨fin_num g1, ?_⟩
  rw [R_num g1, h1, sgR]
  have hX := mul_nn (nat_nn X) (Rat.le_of_lt (two_pos e))
  rw [sgR] at hv
  generalize (mag : Rat) * two place * two (-53) = E at *
  cases neg
  · simp only [Bool.false_eq_true, if_false] at hv ⊢
    subst hv
    exact ⟨g3, g4, fun _ => hX⟩
  · simp only [if_true] at hv ⊢
    subst hv
    refine ⟨?_, ?_, fun h => by cases h⟩ <;> grind
theorem t53 : two (-52) = 2 * two (-53) := by
  have := two_add (-53) 1
  have h2 : two 1 = 2 := by unfold two; simp
  rw [h2] at this
  rw [show (-52 : Int) = -53 + 1 by omega, this]; grind
theorem t1075 : two (-1074) = 2 * two (-1075) := by
  have := two_add (-1075) 1
  have h2 : two 1 = 2 := by unfold two; simp
  rw [h2] at this
  rw [show (-1074 : Int) = -1075 + 1 by omega, this]; grind
theorem t54 : two (-53) = 2 * two (-54) := by
  have := two_add (-54) 1
  have h2 : two 1 = 2 := by unfold two; simp
  rw [h2] at this
  rw [show (-53 : Int) = -54 + 1 by omega, this]; grind
theorem write_near (neg : Bool) (mag : Nat) (place : Int) (v : Rat) (hv : ((sg neg mag : Int) : Rat) * two place = v) (hb : ab v < two 1023) :
    fin (double.nearest neg mag place) = true ∧ Near v (R (double.nearest neg mag place)) := by
  obtain ⟨h1, h2, h3, _⟩ := write_half neg mag place v hv hb
  refine ⟨h1, ?_⟩
  have a1 := mul_nn (ab_nonneg v) (Rat.le_of_lt (two_pos (-53)))
  have a2 := two_pos (-1075)
  unfold Near
  rw [t53, t1075]
  generalize R (double.nearest neg mag place) = r at *
  generalize two (-53) = u at *
  generalize two (-1075) = t at *
  have : ab v * (2 * u) = 2 * (ab v * u) := by grind
  rw [this]
  generalize ab v * u = z at *
  constructor <;> grind

theorem R_zero (neg : Bool) (place : Int) : fin (double.nearest neg 0 place) = true ∧ R (double.nearest neg 0 place) = 0 := by
  rw [nearest_zero]
  have := read_zero neg
  refine ⟨fin_num this, ?_⟩
  rw [R_num this, sgR]; cases neg <;> simp

/-- what a sum stands for -/
theorem sum_val (s t : Bool) (m n : Nat) (i j : Int) : ∃ neg mag place, (Datum.number s m i).sum (.number t n j) = some (.number neg mag place) ∧
    ((sg neg mag : Int) : Rat) * two place = ((sg s m : Int) : Rat) * two i + ((sg t n : Int) : Rat) * two j := by
  obtain ⟨b, hb⟩ : ∃ b, b = min i j := ⟨_, rfl⟩
  obtain ⟨p, hp⟩ : ∃ p : Nat, i = b + p := ⟨(i - b).toNat, by omega⟩
  obtain ⟨q, hq⟩ : ∃ q : Nat, j = b + q := ⟨(j - b).toNat, by omega⟩
  refine ⟨_, _, _, rfl, ?_⟩
  rw [← hb]
  simp only [signed_eq]
  rw [show (i - b).toNat = p by omega, show (j - b).toNat = q by omega]
  have e1 : two i = two b * ((2 ^ p : Nat) : Rat) := by rw [hp, two_add, two_nat]
  have e2 : two j = two b * ((2 ^ q : Nat) : Rat) := by rw [hq, two_add, two_nat]
  rw [e1, e2]
  generalize sg s m = A
  generalize sg t n = C
  obtain ⟨T, hT⟩ : ∃ T : Int, T = A * 2 ^ p + C * 2 ^ q := ⟨_, rfl⟩
  rw [← hT]
  have h1 : sg (if T = 0 then s && t else decide (T < 0)) T.natAbs = T := by
    unfold sg
    by_cases h : T = 0
    · subst h; simp
    · rw [if_neg h]
      by_cases h2 : T < 0
      · simp [h2]; omega
      · simp [h2]; omega
  rw [h1]
  have : (T : Rat) = A * ((2 ^ p : Nat) : Rat) + C * ((2 ^ q : Nat) : Rat) := by
    rw [hT]
    simp [Rat.intCast_add, Rat.intCast_mul, Rat.intCast_pow, Rat.natCast_pow]
  rw [this]
  grind

theorem opp (s : Bool) (m : Nat) : ((sg (!s) m : Int) : Rat) = -((sg s m : Int) : Rat) := by
  cases s <;> simp [sg]

theorem add_near {x y : Nat} (hx : fin x = true) (hy : fin y = true) (hb : ab (R x + R y) < two 1023) : ∃ r, floatBits .add .f64 x y = some r ∧ fin r = true ∧ Near (R x + R y) (R r) := by
  obtain ⟨s, m, i, h1⟩ := fin_read hx
  obtain ⟨t, n, j, h2⟩ := fin_read hy
  rw [R_num h1, R_num h2] at *
  obtain ⟨neg, mag, place, h3, h4⟩ := sum_val s t m n i j
  refine ⟨double.nearest neg mag place, ?_, write_near _ _ _ _ h4 hb⟩
  simp [floatBits, Format.add, FloatKind.format, h1, h2, h3, Format.write]
theorem sub_near {x y : Nat} (hx : fin x = true) (hy : fin y = true) (hb : ab (R x - R y) < two 1023) : ∃ r, floatBits .sub .f64 x y = some r ∧ fin r = true ∧ Near (R x - R y) (R r) := by
  obtain ⟨s, m, i, h1⟩ := fin_read hx
  obtain ⟨t, n, j, h2⟩ := fin_read hy
  rw [R_num h1, R_num h2] at *
  obtain ⟨neg, mag, place, h3, h4⟩ := sum_val s (!t) m n i j
  rw [opp] at h4
  have h5 : ((sg neg mag : Int) : Rat) * two place = ((sg s m : Int) : Rat) * two i - ((sg t n : Int) : Rat) * two j := by grind
  refine ⟨double.nearest neg mag place, ?_, write_near _ _ _ _ h5 hb⟩
  simp [floatBits, Format.sub, FloatKind.format, h1, h2, h3, Format.write, Datum.opposite]
theorem sg_mul (s t : Bool) (m n : Nat) : sg (s ^^ t) (m * n) = sg s m * sg t n := by
  cases s <;> cases t <;> simp [sg, Int.neg_mul, Int.mul_neg]
theorem mul_near {x y : Nat} (hx : fin x = true) (hy : fin y = true) (hb : ab (R x * R y) < two 1023) : ∃ r, floatBits .mul .f64 x y = some r ∧ fin r = true ∧ Near (R x * R y) (R r) := by
  obtain ⟨s, m, i, h1⟩ := fin_read hx
  obtain ⟨t, n, j, h2⟩ := fin_read hy
  rw [R_num h1, R_num h2] at *
  have h5 : ((sg (s ^^ t) (m * n) : Int) : Rat) * two (i + j) = ((sg s m : Int) : Rat) * two i * (((sg t n : Int) : Rat) * two j) := by
    rw [sg_mul, two_add, Rat.intCast_mul]; grind
  refine ⟨double.nearest (s ^^ t) (m * n) (i + j), ?_, write_near _ _ _ _ h5 hb⟩
  simp [floatBits, Format.mul, FloatKind.format, h1, h2, Datum.product, Format.write]

/-- where the number is a whole one that a double holds -/
theorem write_int (neg : Bool) (mag : Nat) (place : Int) (n : Int) (hv : ((sg neg mag : Int) : Rat) * two place = n) (hn : n.natAbs < 9007199254740992) :
    fin (double.nearest neg mag place) = true ∧ R (double.nearest neg mag place) = n := by
  obtain ⟨K, hK⟩ : ∃ K : Nat, 0 ≤ place + K := ⟨(-place).toNat, by omega⟩
  have hi : sg neg mag * 2 ^ (place + K).toNat = n * 2 ^ K := by
    have e1 : ((sg neg mag : Int) : Rat) * two (place + K) = n * two K := by rw [two_add, ← hv]; grind
    rw [show place + (K : Int) = ((place + K).toNat : Nat) by omega, two_nat, two_nat] at e1
    have : (((sg neg mag * 2 ^ (place + K).toNat : Int)) : Rat) = ((n * 2 ^ K : Int) : Rat) := by
      simp only [Rat.intCast_mul, Rat.intCast_pow]
      simp only [Rat.natCast_pow] at e1
      exact_mod_cast e1
    exact Rat.intCast_inj.1 this
  obtain ⟨s, m, e, K', h1, h2, h3, h4⟩ := is_write neg mag place n K hn hK hi
  refine ⟨fin_num h1, ?_⟩
  rw [R_num h1]
  have e2 : ((sg s m : Int) : Rat) * two (e + K') = n * two K' := by
    rw [show e + (K' : Int) = ((e + K').toNat : Nat) by omega, two_nat, two_nat]
    have := congrArg (fun z : Int => (z : Rat)) h4
    simp only [Rat.intCast_mul, Rat.intCast_pow] at this
    simp only [Rat.natCast_pow]
    exact_mod_cast this
  rw [two_add] at e2
  have hp := two_neg K'
  have : ((sg s m : Int) : Rat) * two e * (two K' * two (-K')) = n * (two K' * two (-K')) := by grind
  rw [hp] at this
  grind

/-- a double that is the whole number n -/
def Z (b : Nat) (n : Int) : Prop := fin b = true ∧ R b = n
theorem Z.add {x y : Nat} {a b : Int} (hx : Z x a) (hy : Z y b) (hb : (a + b).natAbs < 9007199254740992) : ∃ r, floatBits .add .f64 x y = some r ∧ Z r (a + b) := by
  obtain ⟨s, m, i, h1⟩ := fin_read hx.1
  obtain ⟨t, n, j, h2⟩ := fin_read hy.1
  have e1 := hx.2
  have e2 := hy.2
  rw [R_num h1] at e1
  rw [R_num h2] at e2
  obtain ⟨neg, mag, place, h3, h4⟩ := sum_val s t m n i j
  rw [e1, e2, ← Rat.intCast_add] at h4
  refine ⟨double.nearest neg mag place, ?_, write_int _ _ _ _ h4 hb⟩
  simp [floatBits, Format.add, FloatKind.format, h1, h2, h3, Format.write]
theorem Z.sub {x y : Nat} {a b : Int} (hx : Z x a) (hy : Z y b) (hb : (a - b).natAbs < 9007199254740992) : ∃ r, floatBits .sub .f64 x y = some r ∧ Z r (a - b) := by
  obtain ⟨s, m, i, h1⟩ := fin_read hx.1
  obtain ⟨t, n, j, h2⟩ := fin_read hy.1
  have e1 := hx.2
  have e2 := hy.2
  rw [R_num h1] at e1
  rw [R_num h2] at e2
  obtain ⟨neg, mag, place, h3, h4⟩ := sum_val s (!t) m n i j
  rw [opp] at h4
  have h5 : ((sg neg mag : Int) : Rat) * two place = ((a - b : Int) : Rat) := by rw [h4, Rat.intCast_sub, ← e1, ← e2]; grind
  refine ⟨double.nearest neg mag place, ?_, write_int _ _ _ _ h5 hb⟩
  simp [floatBits, Format.sub, FloatKind.format, h1, h2, h3, Format.write, Datum.opposite]
theorem Z.mul {x y : Nat} {a b : Int} (hx : Z x a) (hy : Z y b) (hb : (a * b).natAbs < 9007199254740992) : ∃ r, floatBits .mul .f64 x y = some r ∧ Z r (a * b) := by
  obtain ⟨s, m, i, h1⟩ := fin_read hx.1
  obtain ⟨t, n, j, h2⟩ := fin_read hy.1
  have e1 := hx.2
  have e2 := hy.2
  rw [R_num h1] at e1
  rw [R_num h2] at e2
  have h5 : ((sg (s ^^ t) (m * n) : Int) : Rat) * two (i + j) = ((a * b : Int) : Rat) := by
    rw [sg_mul, two_add, Rat.intCast_mul, Rat.intCast_mul, ← e1, ← e2]; grind
  refine ⟨double.nearest (s ^^ t) (m * n) (i + j), ?_, write_int _ _ _ _ h5 hb⟩
  simp [floatBits, Format.mul, FloatKind.format, h1, h2, Datum.product, Format.write]
theorem Z.ofInt (n : Int) (h : n.natAbs < 9007199254740992) : Z (floatOfInt .f64 n) n := by
  unfold Z floatOfInt
  refine write_int _ _ 0 n ?_ h
  rw [two_zero]
  have : sg (decide (n < 0)) n.natAbs = n := by
    unfold sg
    by_cases h2 : n < 0
    · simp [h2]; omega
    · simp [h2]; omega
  rw [this]; grind

/-- how two doubles stand -/
theorem order_val {x y : Nat} (hx : fin x = true) (hy : fin y = true) : double.order x y = some (if R x < R y then .lt else if R x = R y then .eq else .gt) := by
  obtain ⟨s, m, i, h1⟩ := fin_read hx
  obtain ⟨t, n, j, h2⟩ := fin_read hy
  rw [R_num h1, R_num h2]
  unfold Format.order
  rw [h1, h2]
  simp only [Datum.order, signed_eq]
  obtain ⟨b, hb⟩ : ∃ b, b = min i j := ⟨_, rfl⟩
  rw [← hb]
  obtain ⟨p, hp⟩ : ∃ p : Nat, i = b + p := ⟨(i - b).toNat, by omega⟩
  obtain ⟨q, hq⟩ : ∃ q : Nat, j = b + q := ⟨(j - b).toNat, by omega⟩
  rw [show (i - b).toNat = p by omega, show (j - b).toNat = q by omega]
  have e1 : two i = ((2 ^ p : Nat) : Rat) * two b := by rw [hp, two_add, two_nat]; grind
  have e2 : two j = ((2 ^ q : Nat) : Rat) * two b := by rw [hq, two_add, two_nat]; grind
  rw [e1, e2]
  have f1 : ((sg s m : Int) : Rat) * (((2 ^ p : Nat) : Rat) * two b) = ((sg s m * 2 ^ p : Int) : Rat) * two b := by
    rw [Rat.intCast_mul, Rat.intCast_pow, Rat.natCast_pow, Rat.mul_assoc]; rfl
  have f2 : ((sg t n : Int) : Rat) * (((2 ^ q : Nat) : Rat) * two b) = ((sg t n * 2 ^ q : Int) : Rat) * two b := by
    rw [Rat.intCast_mul, Rat.intCast_pow, Rat.natCast_pow, Rat.mul_assoc]; rfl
  rw [f1, f2]
  generalize sg s m * 2 ^ p = A
  generalize sg t n * 2 ^ q = C
  have hpos := two_pos b
  have g1 : (A : Rat) * two b < C * two b ↔ A < C := by
    constructor
    · intro h
      rcases Int.lt_or_le A C with h' | h'
      · exact h'
      · have := Rat.mul_le_mul_of_nonneg_right (Rat.intCast_le_intCast.2 h') (Rat.le_of_lt hpos)
        grind
    · intro h
      exact Rat.mul_lt_mul_of_pos_right (Rat.intCast_lt_intCast.2 h) hpos
  have g2 : (A : Rat) * two b = C * two b ↔ A = C := by
    constructor
    · intro h
      rcases Int.lt_trichotomy A C with h' | h' | h'
      · have := Rat.mul_lt_mul_of_pos_right (Rat.intCast_lt_intCast.2 h') hpos
        grind
      · exact h'
      · have := Rat.mul_lt_mul_of_pos_right (Rat.intCast_lt_intCast.2 h') hpos
        grind
    · rintro rfl; rfl
  simp only [g1, g2]
  rcases Int.lt_trichotomy A C with h | h | h
  · rw [if_pos h]; simp [Int.compare_eq_lt, h]
  · subst h; simp
  · rw [if_neg (by omega), if_neg (by omega)]; simp [Int.compare_eq_gt, h]
theorem lt_val {x y : Nat} (hx : fin x = true) (hy : fin y = true) : lt x y = decide (R x < R y) := by
  unfold lt
  rw [show FloatKind.f64.format = double from rfl, order_val hx hy]
  by_cases h : R x < R y
  · simp [h]
  · by_cases h2 : R x = R y <;> simp [h, h2]
theorem eq_val {x y : Nat} (hx : fin x = true) (hy : fin y = true) : eq x y = decide (R x = R y) := by
  unfold eq
  rw [show FloatKind.f64.format = double from rfl, order_val hx hy]
  by_cases h : R x < R y
  · have : R x ≠ R y := by grind
    simp [h, this]
  · by_cases h2 : R x = R y <;> simp [h, h2]
theorem gt_val {x y : Nat} (hx : fin x = true) (hy : fin y = true) : gt x y = decide (R y < R x) := by
  unfold gt
  rw [show FloatKind.f64.format = double from rfl, order_val hx hy]
  by_cases h : R x < R y
  · have : ¬ R y < R x := by grind
    simp [h, this]
  · by_cases h2 : R x = R y
    · rw [h2]; simp
    · have : R y < R x := by grind
      simp [h, h2, this]
end Go.Fr
