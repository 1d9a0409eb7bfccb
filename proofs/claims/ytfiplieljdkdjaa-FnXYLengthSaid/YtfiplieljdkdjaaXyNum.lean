/-
  Lengths and unit vectors of whole vectors, in doubles: how near they are. No condition.
-/
import Derived.Test.YtfiplieljdkdjaaFmx
set_option linter.unusedVariables false
set_option linter.unusedSimpArgs false
namespace Go.Fr
open Ieee Go.Fl Go.Fw

theorem ab_le {v c : Rat} : ab v ≤ c ↔ v ≤ c ∧ -v ≤ c := by
  rcases ab_cases v with ⟨h, e⟩ | ⟨h, e⟩ <;> rw [e] <;> constructor <;> (try rintro ⟨a, b⟩) <;> (try intro a) <;> (try constructor) <;> grind
theorem ab_mul (a b : Rat) : ab (a * b) = ab a * ab b := by
  rcases ab_cases a with ⟨h, e⟩ | ⟨h, e⟩ <;> rcases ab_cases b with ⟨g, f⟩ | ⟨g, f⟩ <;> rw [e, f]
  · have := mul_nn h g
    unfold ab; rw [if_pos this]
  · have := mul_nn h (show 0 ≤ -b by grind)
    rcases ab_cases (a * b) with ⟨i, j⟩ | ⟨i, j⟩ <;> rw [j] <;> grind
  · have := mul_nn (show 0 ≤ -a by grind) g
    rcases ab_cases (a * b) with ⟨i, j⟩ | ⟨i, j⟩ <;> rw [j] <;> grind
  · have := mul_nn (show 0 ≤ -a by grind) (show 0 ≤ -b by grind)
    rcases ab_cases (a * b) with ⟨i, j⟩ | ⟨i, j⟩ <;> rw [j] <;> grind
theorem ab_add (a b : Rat) : ab (a + b) ≤ ab a + ab b := by
  rcases ab_cases a with ⟨h, e⟩ | ⟨h, e⟩ <;> rcases ab_cases b with ⟨g, f⟩ | ⟨g, f⟩ <;> rw [e, f] <;> refine ab_le.2 ⟨?_, ?_⟩ <;> grind
theorem ab_neg (a : Rat) : ab (-a) = ab a := by
  rcases ab_cases a with ⟨h, e⟩ | ⟨h, e⟩ <;> rcases ab_cases (-a) with ⟨g, f⟩ | ⟨g, f⟩ <;> rw [e, f] <;> grind
theorem ab_pos {a : Rat} (h : 0 ≤ a) : ab a = a := by unfold ab; rw [if_pos h]
theorem near_ab {v r : Rat} (h : Near v r) : ab (r - v) ≤ ab v * two (-52) + two (-1074) := by
  unfold Near at h
  exact ab_le.2 ⟨by grind, by grind⟩
theorem q52 : two (-52) = 1 / 4503599627370496 := by decide +kernel
theorem q49 : two (-49) = 1 / 562949953421312 := by decide +kernel
theorem q41 : two (-41) = 1 / 2199023255552 := by decide +kernel
theorem tiny : two (-1074) ≤ 1 / 1267650600228229401496703205376 := by
  have h : two (-1074) ≤ two (-100) := two_mono (by decide)
  have e : two (-100) = 1 / 1267650600228229401496703205376 := by decide +kernel
  grind
/-- |xy - ab| for x near a and y near b -/
theorem mul_close {x y a b e f A B : Rat} (h1 : ab (x - a) ≤ e) (h2 : ab (y - b) ≤ f) (h3 : ab a ≤ A) (h4 : ab b ≤ B) : ab (x * y - a * b) ≤ e * B + A * f + e * f := by
  have e1 : x * y - a * b = (x - a) * b + a * (y - b) + (x - a) * (y - b) := by grind
  rw [e1]
  have t1 := ab_add ((x - a) * b + a * (y - b)) ((x - a) * (y - b))
  have t2 := ab_add ((x - a) * b) (a * (y - b))
  rw [ab_mul, ab_mul] at t2
  rw [ab_mul] at t1
  have p1 := ab_nonneg (x - a)
  have p2 := ab_nonneg (y - b)
  have p3 := ab_nonneg a
  have p4 := ab_nonneg b
  have m1 := Rat.mul_le_mul_of_nonneg_right h1 p4
  have m1' := Rat.mul_le_mul_of_nonneg_left h4 (show 0 ≤ e by grind)
  have m2 := Rat.mul_le_mul_of_nonneg_right h3 p2
  have m2' := Rat.mul_le_mul_of_nonneg_left h2 (show 0 ≤ A by grind)
  have m3 := Rat.mul_le_mul_of_nonneg_right h1 p2
  have m3' := Rat.mul_le_mul_of_nonneg_left h2 (show 0 ≤ e by grind)
  grind
theorem lt_two {v : Rat} (h : v < 1267650600228229401496703205376) : v < two 1000 := by
  have e : two 100 = 1267650600228229401496703205376 := by decide +kernel
  have h : two 100 ≤ two 1000 := two_mono (by decide)
  grind
theorem lt_two' {v : Rat} (h : v < 1267650600228229401496703205376) {k : Int} (hk : 1000 ≤ k) : v < two k := by
  have := two_mono hk
  have := lt_two h
  grind
theorem R_one : fin 4607182418800017408 = true ∧ R 4607182418800017408 = 1 := by
  have : double.read 4607182418800017408 = .number false 4503599627370496 (-52) := by decide +kernel
  refine ⟨fin_num this, ?_⟩
  rw [R_num this]; decide +kernel

structure Nums (x y p q s l ll t v ux uy rx ry uu vv z : Nat) (n1 n2 : Int) : Prop where
  e1 : floatBits .mul .f64 x x = some p
  e2 : floatBits .mul .f64 y y = some q
  e3 : floatBits .add .f64 p q = some s
  e4 : double.sqrt s = some l
  e5 : floatBits .mul .f64 l l = some ll
  e6 : floatBits .quo .f64 ll s = some t
  e7 : floatBits .quo .f64 4607182418800017408 l = some v
  e8 : floatBits .mul .f64 x v = some ux
  e9 : floatBits .mul .f64 y v = some uy
  e10 : floatBits .mul .f64 ux l = some rx
  e11 : floatBits .mul .f64 uy l = some ry
  e12 : floatBits .mul .f64 ux ux = some uu
  e13 : floatBits .mul .f64 uy uy = some vv
  e14 : floatBits .add .f64 uu vv = some z
  zs : Z s (n1 * n1 + n2 * n2)
  fl : fin l = true
  pl : 0 < R l
  ft : fin t = true
  ct : ab (R t - 1) ≤ two (-41)
  frx : fin rx = true
  crx : ab (R rx - R x) ≤ two (-41) * (if ab (R x) ≤ 1 then 1 else ab (R x))
  fry : fin ry = true
  cry : ab (R ry - R y) ≤ two (-41) * (if ab (R y) ≤ 1 then 1 else ab (R y))
  fz : fin z = true
  cz : ab (R z - 1) ≤ two (-41)

/-- one coordinate of the unit vector -/
theorem coord {x l v : Nat} {X L V : Rat} (hx : fin x = true) (hl : fin l = true) (hv : fin v = true) (eX : R x = X) (eL : R l = L) (eV : R v = V) (hX : ab X ≤ 1048576) (hL0 : 0 < L) (hL : L ≤ 2097152) (hV0 : 0 ≤ V) (hV : V ≤ 2)
    (hk : ab (V * L - 1) ≤ 1 / 1125899906842624) (hXV : ab (X * V) ≤ 2) :
    ∃ ux rx uu, floatBits .mul .f64 x v = some ux ∧ floatBits .mul .f64 ux l = some rx ∧ floatBits .mul .f64 ux ux = some uu ∧ fin rx = true ∧ fin uu = true ∧ ab (R rx - X) ≤ two (-41) * (if ab X ≤ 1 then 1 else ab X) ∧ ab (R uu - X * V * (X * V)) ≤ 1 / 70368744177664 ∧ fin ux = true := by
  have tn := tiny
  obtain ⟨ux, h1, h2, h3⟩ := mul_near hx hv (by rw [eX, eV]; exact lt_two' (by grind) (by decide))
  have a1 := near_ab h3
  rw [eX, eV, q52] at a1
  obtain ⟨U, hU⟩ : ∃ U, U = R ux := ⟨_, rfl⟩
  rw [← hU] at a1
  have aU : ab U ≤ 3 := by
    have := ab_add (U - X * V) (X * V)
    rw [show U - X * V + X * V = U by grind] at this
    grind
  have hL1 : ab L = L := ab_pos (by grind)
  have aUL : ab (U * L) ≤ 3 * 2097152 := by
    rw [ab_mul, hL1]
    have m1 := Rat.mul_le_mul_of_nonneg_right aU (show 0 ≤ L by grind)
    grind
  obtain ⟨rx, g1, g2, g3⟩ := mul_near h2 hl (by rw [← hU, eL]; exact lt_two' (by grind) (by decide))
  have aUU : ab (U * U) ≤ 9 := by
    rw [ab_mul]
    have m1 := Rat.mul_le_mul_of_nonneg_right aU (ab_nonneg U)
    grind
  obtain ⟨uu, k1, k2, k3⟩ := mul_near h2 h2 (by rw [← hU]; exact lt_two' (by grind) (by decide))
  refine ⟨ux, rx, uu, h1, g1, k1, g2, k2, ?_, ?_, h2⟩
  · have b1 := near_ab g3
    rw [← hU, eL, q52] at b1
    rw [q41]
    -- U L = X V L + (U - X V) L
    have c1 : ab (U * L - X * V * L) ≤ (ab (X * V) * (1 / 4503599627370496) + two (-1074)) * L := by
      have : U * L - X * V * L = (U - X * V) * L := by grind
      rw [this, ab_mul, hL1]
      exact Rat.mul_le_mul_of_nonneg_right a1 (by grind)
    have c2 : ab (X * V * L - X) ≤ ab X * (1 / 1125899906842624) := by
      have : X * V * L - X = X * (V * L - 1) := by grind
      rw [this, ab_mul]
      exact Rat.mul_le_mul_of_nonneg_left hk (ab_nonneg X)
    have c3 : ab (X * V) * L ≤ ab X * 2 := by
      have hVL : V * L ≤ 2 := by have := (ab_le.1 hk).1; grind
      rw [ab_mul, ab_pos hV0, Rat.mul_assoc]
      exact Rat.mul_le_mul_of_nonneg_left hVL (ab_nonneg X)
    have c4 : two (-1074) * L ≤ two (-1074) * 2097152 := Rat.mul_le_mul_of_nonneg_left hL (Rat.le_of_lt (two_pos _))
    have c5 := ab_add (R rx - U * L) (U * L - X)
    rw [show R rx - U * L + (U * L - X) = R rx - X by grind] at c5
    have c6 := ab_add (U * L - X * V * L) (X * V * L - X)
    rw [show U * L - X * V * L + (X * V * L - X) = U * L - X by grind] at c6
    have c7 := ab_add (U * L - X) X
    rw [show U * L - X + X = U * L by grind] at c7
    have hp := two_pos (-1074)
    have hax := ab_nonneg X
    have haxv := ab_nonneg (X * V)
    have c1' : ab (U * L - X * V * L) ≤ ab (X * V) * L * (1 / 4503599627370496) + two (-1074) * L := by
      have : (ab (X * V) * (1 / 4503599627370496) + two (-1074)) * L = ab (X * V) * L * (1 / 4503599627370496) + two (-1074) * L := by grind
      rw [← this]; exact c1
    clear c1 hU g3 k3 h3 a1 aUU aUL
    generalize ab (U * L - X * V * L) = d1 at *
    generalize ab (X * V * L - X) = d2 at *
    generalize ab (X * V) * L = d3 at *
    generalize two (-1074) * L = d4 at *
    generalize ab (R rx - U * L) = d5 at *
    generalize ab (U * L - X) = d6 at *
    generalize ab (U * L) = d7 at *
    generalize two (-1074) = tt at *
    generalize ab (R rx - X) = d8 at *
    generalize ab X = ax at *
    split <;> grind
  · have b1 := near_ab k3
    rw [← hU, q52] at b1
    have c1 := mul_close a1 a1 (Rat.le_refl (a := ab (X * V))) (Rat.le_refl (a := ab (X * V)))
    have c2 := ab_add (R uu - U * U) (U * U - X * V * (X * V))
    rw [show R uu - U * U + (U * U - X * V * (X * V)) = R uu - X * V * (X * V) by grind] at c2
    have hp := two_pos (-1074)
    have hax := ab_nonneg (X * V)
    obtain ⟨E, hE⟩ : ∃ E, E = ab (X * V) * (1 / 4503599627370496) + two (-1074) := ⟨_, rfl⟩
    rw [← hE] at c1
    have hE1 : E ≤ 1 / 2000000000000000 := by grind
    have hE0 : 0 ≤ E := by grind
    have d1 := Rat.mul_le_mul_of_nonneg_left hXV hE0
    have d2 := Rat.mul_le_mul_of_nonneg_left hE1 hE0
    have d3 : ab (X * V) * E = E * ab (X * V) := Rat.mul_comm ..
    rw [d3] at c1
    clear hE a1 aUL g3 k3 h3 hU
    generalize E * ab (X * V) = z1 at *
    generalize E * E = z2 at *
    grind

theorem sq_int {n : Int} (h1 : -1048576 ≤ n) (h2 : n ≤ 1048576) : 0 ≤ n * n ∧ n * n ≤ 1099511627776 := by
  have h := Int.natAbs_mul_self' n
  have h3 : n.natAbs ≤ 1048576 := by omega
  have h4 : n.natAbs * n.natAbs ≤ 1048576 * 1048576 := Nat.mul_le_mul h3 h3
  omega
theorem num_le {n c : Int} (h : n ≤ c) {q : Rat} (hq : (c : Rat) = q) : (n : Rat) ≤ q := hq ▸ Rat.intCast_le_intCast.2 h
theorem le_num {n c : Int} (h : c ≤ n) {q : Rat} (hq : (c : Rat) = q) : q ≤ (n : Rat) := hq ▸ Rat.intCast_le_intCast.2 h
theorem nums {x y : Nat} {n1 n2 : Int} (hx : Z x n1) (hy : Z y n2) (a1 : -1048576 ≤ n1) (a2 : n1 ≤ 1048576) (b1 : -1048576 ≤ n2) (b2 : n2 ≤ 1048576) (hS : n1 * n1 + n2 * n2 ≠ 0) :
    ∃ p q s l ll t v ux uy rx ry uu vv z, Nums x y p q s l ll t v ux uy rx ry uu vv z n1 n2 := by
  have tn := tiny
  have hp0 := two_pos (-1074)
  obtain ⟨s1, s2⟩ := sq_int a1 a2
  obtain ⟨s3, s4⟩ := sq_int b1 b2
  obtain ⟨p, e1, zp⟩ := hx.mul hx (by omega)
  obtain ⟨q, e2, zq⟩ := hy.mul hy (by omega)
  obtain ⟨s, e3, zs⟩ := zp.add zq (by omega)
  obtain ⟨S, hSd⟩ : ∃ S : Rat, S = ((n1 * n1 + n2 * n2 : Int) : Rat) := ⟨_, rfl⟩
  have hS1 : 1 ≤ S := by
    rw [hSd]
    exact le_num (c := 1) (by omega) (by decide +kernel)
  have hS2 : S ≤ 2199023255552 := by
    rw [hSd]
    exact num_le (c := 2199023255552) (by omega) (by decide +kernel)
  have eS : R s = S := by rw [zs.2, hSd]
  obtain ⟨l, e4, fl, pl, g1, g2⟩ := sqrt_near zs.1 (by rw [eS]; grind) (by rw [eS]; exact lt_two' (by grind) (by decide))
  rw [eS, q49] at g1 g2
  obtain ⟨L, eL⟩ : ∃ L, R l = L := ⟨_, rfl⟩
  rw [eL] at pl g1 g2
  -- how long it is
  have hL1 : 1 / 2 ≤ L := by
    by_cases h : 1 / 2 ≤ L
    · exact h
    · have := sq_le (show 0 ≤ L by grind) (show L ≤ 1 / 2 by grind)
      grind
  have hL2 : L ≤ 2097152 := by
    by_cases h : L ≤ 2097152
    · exact h
    · have := sq_le (show (0 : Rat) ≤ 2097152 by decide) (show 2097152 ≤ L by grind)
      grind
  have aL : ab L = L := ab_pos (by grind)
  have hLL0 : 0 ≤ L * L := mul_nn (by grind) (by grind)
  have hLL : L * L ≤ 4398046511104 := by have := sq_le (show 0 ≤ L by grind) hL2; grind
  -- l * l / sum
  obtain ⟨ll, e5, fll, cll⟩ := mul_near fl fl (by rw [eL, ab_pos hLL0]; exact lt_two' (by grind) (by decide))
  have b5 := near_ab cll
  rw [eL, ab_pos hLL0, q52] at b5
  have hSn : S ≠ 0 := by grind
  obtain ⟨T, hT⟩ : ∃ T, T * S = R ll := ⟨R ll / S, by rw [Rat.div_def, Rat.mul_assoc, Rat.inv_mul_cancel _ hSn, Rat.mul_one]⟩
  have hTS : ab (T - 1) * S ≤ S * (1 / 140737488355328) := by
    have : ab (T - 1) * S = ab (R ll - S) := by
      rw [← hT, ← ab_pos (show 0 ≤ S by grind), ← ab_mul, ab_pos (show 0 ≤ S by grind)]
      congr 1; grind
    rw [this]
    have c1 := ab_add (R ll - L * L) (L * L - S)
    rw [show R ll - L * L + (L * L - S) = R ll - S by grind] at c1
    have c2 : ab (L * L - S) ≤ S * (1 / 562949953421312) * 2 := ab_le.2 ⟨by grind, by grind⟩
    grind
  have hT1 : ab (T - 1) ≤ 1 / 140737488355328 := by
    by_cases h : ab (T - 1) ≤ 1 / 140737488355328
    · exact h
    · have := Rat.mul_lt_mul_of_pos_right (show 1 / 140737488355328 < ab (T - 1) by grind) (show 0 < S by grind)
      grind
  have hTa : ab T ≤ 2 := by
    have := ab_add (T - 1) 1
    rw [show T - 1 + 1 = T by grind, ab_pos (show (0 : Rat) ≤ 1 by decide)] at this
    grind
  obtain ⟨t, e6, ft, ct⟩ := div_near fll zs.1 (by rw [eS]; exact hSn) T (by rw [eS]; exact hT) (lt_two' (by grind) (by decide))
  have b6 := near_ab ct
  rw [q52] at b6
  have ct' : ab (R t - 1) ≤ two (-41) := by
    have := ab_add (R t - T) (T - 1)
    rw [show R t - T + (T - 1) = R t - 1 by grind] at this
    rw [q41]
    grind
  -- one over the length
  have hLn : L ≠ 0 := by grind
  obtain ⟨W, hW⟩ : ∃ W, W * L = 1 := ⟨L⁻¹, Rat.inv_mul_cancel _ hLn⟩
  have hW0 : 0 ≤ W := by
    by_cases h : 0 ≤ W
    · exact h
    · have := Rat.mul_lt_mul_of_pos_right (show W < 0 by grind) pl
      grind
  have hW2 : W ≤ 2 := by
    by_cases h : W ≤ 2
    · exact h
    · have := Rat.mul_le_mul_of_nonneg_left hL1 hW0
      grind
  have hW3 : 1 / 2097152 ≤ W := by
    by_cases h : 1 / 2097152 ≤ W
    · exact h
    · have := Rat.mul_le_mul_of_nonneg_left hL2 hW0
      grind
  obtain ⟨v, e7, fv, cv⟩ := div_near R_one.1 fl (by rw [eL]; exact hLn) W (by rw [eL, hW, R_one.2]) (by rw [ab_pos hW0]; exact lt_two' (by grind) (by decide))
  have b7 := near_ab cv
  rw [q52, ab_pos hW0] at b7
  obtain ⟨V, eV⟩ : ∃ V, R v = V := ⟨_, rfl⟩
  rw [eV] at b7
  have b7' := ab_le.1 b7
  have hV0 : 0 ≤ V := by grind
  have hV2 : V ≤ 3 := by grind
  have hk : ab (V * L - 1) ≤ 1 / 1125899906842624 := by
    have : V * L - 1 = (V - W) * L := by grind
    rw [this, ab_mul, aL]
    have m1 := Rat.mul_le_mul_of_nonneg_right b7 (show 0 ≤ L by grind)
    have m2 : two (-1074) * L ≤ two (-1074) * 2097152 := Rat.mul_le_mul_of_nonneg_left hL2 (Rat.le_of_lt hp0)
    have m3 : (W * (1 / 4503599627370496) + two (-1074)) * L = W * L * (1 / 4503599627370496) + two (-1074) * L := by grind
    rw [m3, hW] at m1
    grind
  have hk' := ab_le.1 hk
  -- the coordinates
  obtain ⟨A, eA⟩ : ∃ A : Rat, R x = A := ⟨_, rfl⟩
  obtain ⟨B, eB⟩ : ∃ B : Rat, R y = B := ⟨_, rfl⟩
  have hA := hx.2
  have hB := hy.2
  rw [eA] at hA
  rw [eB] at hB
  have hAB : A * A + B * B = S := by rw [hSd, hA, hB]; simp [Rat.intCast_add, Rat.intCast_mul]
  have hAb : ab A ≤ 1048576 := by
    rw [hA]
    refine ab_le.2 ⟨?_, ?_⟩
    · exact num_le a2 (by decide +kernel)
    · have := le_num (c := -1048576) (n := n1) (by omega) (q := -1048576) (by decide +kernel)
      grind
  have hBb : ab B ≤ 1048576 := by
    rw [hB]
    refine ab_le.2 ⟨?_, ?_⟩
    · exact num_le b2 (by decide +kernel)
    · have := le_num (c := -1048576) (n := n2) (by omega) (q := -1048576) (by decide +kernel)
      grind
  have hAA : 0 ≤ A * A := by have := mul_nn (ab_nonneg A) (ab_nonneg A); rw [← ab_mul] at this; rcases ab_cases A with ⟨h, e⟩ | ⟨h, e⟩ <;> rw [ab_mul, e] at this <;> grind
  have hBB : 0 ≤ B * B := by have := mul_nn (ab_nonneg B) (ab_nonneg B); rw [← ab_mul] at this; rcases ab_cases B with ⟨h, e⟩ | ⟨h, e⟩ <;> rw [ab_mul, e] at this <;> grind
  -- what the squares of the unit vector are
  have hVV0 : 0 ≤ V * V := mul_nn hV0 hV0
  have hVL : V * L * (V * L) ≤ 1 + 1 / 281474976710656 := by
    have := sq_le (show 0 ≤ V * L from mul_nn hV0 (by grind)) (show V * L ≤ 1 + 1 / 1125899906842624 by grind)
    grind
  have hVL' : 1 - 1 / 281474976710656 ≤ V * L * (V * L) := by
    have := sq_le (show (0 : Rat) ≤ 1 - 1 / 1125899906842624 by decide +kernel) (show 1 - 1 / 1125899906842624 ≤ V * L by grind)
    grind
  have hSV : S * (V * V) ≤ 1 + 1 / 70368744177664 := by
    have := Rat.mul_le_mul_of_nonneg_right g2 hVV0
    have e : L * L * (1 + 1 / 562949953421312) * (V * V) = V * L * (V * L) * (1 + 1 / 562949953421312) := by grind
    rw [e] at this
    grind
  have hSV' : 1 - 1 / 70368744177664 ≤ S * (V * V) := by
    have := Rat.mul_le_mul_of_nonneg_right g1 hVV0
    have e : L * L * (V * V) = V * L * (V * L) := by grind
    rw [e] at this
    grind
  have small : ∀ C : Rat, C * C ≤ S → ab (C * V) ≤ 2 := by
    intro C hC
    by_cases h : ab (C * V) ≤ 2
    · exact h
    · have h4 := sq_le (show (0 : Rat) ≤ 2 by decide) (show 2 ≤ ab (C * V) by grind)
      rw [← ab_mul] at h4
      have e : C * V * (C * V) = C * C * (V * V) := by grind
      rw [e] at h4
      have hCC : 0 ≤ C * C := by have := mul_nn (ab_nonneg C) (ab_nonneg C); rcases ab_cases C with ⟨h, e⟩ | ⟨h, e⟩ <;> rw [e] at this <;> grind
      rw [ab_pos (mul_nn hCC hVV0)] at h4
      have := Rat.mul_le_mul_of_nonneg_right hC hVV0
      grind
  have hV2' : V ≤ 2 := by
    have := b7'.1
    by_cases h : V ≤ 2
    · exact h
    · -- W > 1.9.., so L is about 1/2, but L ≥ 1 - small
      have hL3 : 3 / 4 ≤ L := by
        by_cases h : 3 / 4 ≤ L
        · exact h
        · have := sq_le (show 0 ≤ L by grind) (show L ≤ 3 / 4 by grind)
          grind
      have := Rat.mul_le_mul_of_nonneg_left hL3 hV0
      grind
  obtain ⟨ux, rx, uu, e8, e10, e12, frx, fuu, crx, cuu, fux⟩ := coord hx.1 fl fv eA eL eV hAb pl hL2 hV0 hV2' hk (small A (by grind))
  obtain ⟨uy, ry, vv, e9, e11, e13, fry, fvv, cry, cvv, fuy⟩ := coord hy.1 fl fv eB eL eV hBb pl hL2 hV0 hV2' hk (small B (by grind))
  have hab : A * V * (A * V) + B * V * (B * V) = S * (V * V) := by rw [← hAB]; grind
  have cs : ab (R uu + R vv - 1) ≤ 1 / 17592186044416 := by
    have c1 := ab_add (R uu - A * V * (A * V)) (R vv - B * V * (B * V))
    have c2 := ab_add (R uu - A * V * (A * V) + (R vv - B * V * (B * V))) (S * (V * V) - 1)
    rw [show R uu - A * V * (A * V) + (R vv - B * V * (B * V)) + (S * (V * V) - 1) = R uu + R vv - 1 by rw [← hab]; grind] at c2
    have c3 : ab (S * (V * V) - 1) ≤ 1 / 70368744177664 := ab_le.2 ⟨by grind, by grind⟩
    grind
  have cs' : ab (R uu + R vv) ≤ 2 := by
    have := ab_add (R uu + R vv - 1) 1
    rw [show R uu + R vv - 1 + 1 = R uu + R vv by grind, ab_pos (show (0 : Rat) ≤ 1 by decide)] at this
    grind
  obtain ⟨z, e14, fz, cz⟩ := add_near fuu fvv (lt_two' (by grind) (by decide))
  have b14 := near_ab cz
  rw [q52] at b14
  refine ⟨p, q, s, l, ll, t, v, ux, uy, rx, ry, uu, vv, z, ⟨e1, e2, e3, e4, e5, e6, e7, e8, e9, e10, e11, e12, e13, e14, zs, fl, by rw [eL]; exact pl, ft, ct', frx, by rw [eA]; exact crx, fry, by rw [eB]; exact cry, fz, ?_⟩⟩
  have := ab_add (R z - (R uu + R vv)) (R uu + R vv - 1)
  rw [show R z - (R uu + R vv) + (R uu + R vv - 1) = R z - 1 by grind] at this
  rw [q41]
  grind

/-- the law's own test of nearness does not part the two -/
theorem off_false {x y : Nat} (hx : fin x = true) (hy : fin y = true) (hb : ab (R y) ≤ 1048576) (h : ab (R x - R y) ≤ two (-41) * (if ab (R y) ≤ 1 then 1 else ab (R y))) :
    ∃ nm d1 d2, floatBits .mul .f64 4427486594234968593 (mx2 (mx2 4607182418800017408 y) (Op.negFloat .f64 y)) = some nm ∧ floatBits .sub .f64 x y = some d1 ∧ floatBits .sub .f64 y x = some d2 ∧ gt d1 nm = false ∧ gt d2 nm = false := by
  have tn := tiny
  have hp0 := two_pos (-1074)
  rw [q41] at h
  have fn : fin (Op.negFloat .f64 y) = true := by rw [fin_neg]; exact hy
  have fm := mx2_fin (mx2_fin R_one.1 hy) fn
  obtain ⟨M, hM⟩ : ∃ M, R (mx2 (mx2 4607182418800017408 y) (Op.negFloat .f64 y)) = M := ⟨_, rfl⟩
  obtain ⟨m1, m2, m3⟩ := mx2_R (mx2 4607182418800017408 y) (Op.negFloat .f64 y)
  obtain ⟨k1, k2, k3⟩ := mx2_R 4607182418800017408 y
  rw [hM, R_neg] at m1 m3
  rw [hM] at m2
  rw [R_one.2] at k1 k2
  generalize mx2 (mx2 4607182418800017408 y) (Op.negFloat .f64 y) = m at *
  generalize R (mx2 4607182418800017408 y) = K at *
  have hM1 : 1 ≤ M := by grind
  have hMy : ab (R y) ≤ M := ab_le.2 ⟨by grind, by grind⟩
  have hM2 : M ≤ 1048576 := by have := ab_le.1 hb; grind
  have fc : fin 4427486594234968593 = true := by decide +kernel
  obtain ⟨C, hC⟩ : ∃ C, R 4427486594234968593 = C := ⟨_, rfl⟩
  have hC1 : 99 / 100000000000000 ≤ C := by rw [← hC]; decide +kernel
  have hC2 : C ≤ 101 / 100000000000000 := by rw [← hC]; decide +kernel
  have hCM := Rat.mul_le_mul_of_nonneg_right hC1 (show 0 ≤ M by grind)
  have hCM2 := Rat.mul_le_mul_of_nonneg_right hC2 (show 0 ≤ M by grind)
  have aCM : ab (C * M) = C * M := ab_pos (mul_nn (by grind) (by grind))
  obtain ⟨nm, e1, f1, c1⟩ := mul_near fc fm (by rw [hC, hM, aCM]; exact lt_two' (by grind) (by decide))
  have a1 := near_ab c1
  rw [hC, hM, aCM, q52] at a1
  have a1' := ab_le.1 a1
  have hle : (if ab (R y) ≤ 1 then 1 else ab (R y)) ≤ M := by split <;> assumption
  generalize (if ab (R y) ≤ 1 then 1 else ab (R y)) = M' at *
  have hd : ab (R y - R x) = ab (R x - R y) := by rw [← ab_neg (R x - R y)]; congr 1; grind
  obtain ⟨d1, e2, f2, c2⟩ := sub_near hx hy (lt_two' (by grind) (by decide))
  obtain ⟨d2, e3, f3, c3⟩ := sub_near hy hx (by rw [hd]; exact lt_two' (by grind) (by decide))
  have a2 := near_ab c2
  have a3 := near_ab c3
  rw [q52] at a2 a3
  rw [hd] at a3
  have h2 := ab_le.1 h
  have a2' := ab_le.1 a2
  have a3' := ab_le.1 a3
  refine ⟨nm, d1, d2, e1, e2, e3, ?_, ?_⟩
  · rw [gt_val f2 f1]
    have : ¬ R nm < R d1 := by grind
    simp [this]
  · rw [gt_val f3 f1]
    have : ¬ R nm < R d2 := by grind
    simp [this]

theorem read_null {b : Nat} (hf : fin b = true) (h : R b = 0) : ∃ s e, double.read b = .number s 0 e := by
  obtain ⟨s, m, e, h1⟩ := fin_read hf
  rw [R_num h1, sgR] at h
  have hp := two_pos e
  have hm : m = 0 := by
    rcases Nat.eq_zero_or_pos m with h0 | h0
    · exact h0
    · have h2 : (1 : Rat) ≤ m := by have := nle h0; simpa using this
      have := Rat.mul_le_mul_of_nonneg_right h2 (Rat.le_of_lt hp)
      cases s <;> simp at h <;> grind
  subst hm
  exact ⟨s, e, h1⟩
theorem read_inf (s : Bool) : double.read (double.word s double.infRung) = .infinity s := by cases s <;> decide +kernel
/-- the vector of no length -/
theorem null_nums {x y : Nat} (hx : Z x 0) (hy : Z y 0) : ∃ p q s l v, floatBits .mul .f64 x x = some p ∧ floatBits .mul .f64 y y = some q ∧ floatBits .add .f64 p q = some s ∧ double.sqrt s = some l ∧
    Z s 0 ∧ Z l 0 ∧ floatBits .quo .f64 4607182418800017408 l = some v ∧ floatBits .mul .f64 x v = none ∧ floatBits .mul .f64 y v = none := by
  obtain ⟨p, e1, zp⟩ := hx.mul hx (by decide)
  obtain ⟨q, e2, zq⟩ := hy.mul hy (by decide)
  obtain ⟨s, e3, zs⟩ := zp.add zq (by decide)
  obtain ⟨sx, ex, rx⟩ := read_null hx.1 (by rw [hx.2]; simp)
  obtain ⟨sy, ey, ry⟩ := read_null hy.1 (by rw [hy.2]; simp)
  obtain ⟨ss, es, rs⟩ := read_null zs.1 (by rw [zs.2]; simp)
  have e4 : double.sqrt s = some (double.nearest ss 0 es) := by simp [Format.sqrt, rs, Datum.root, Format.write]
  have rl : double.read (double.nearest ss 0 es) = .number ss 0 (-1074) := by rw [nearest_zero]; exact read_zero ss
  have rone : double.read 4607182418800017408 = .number false 4503599627370496 (-52) := by decide +kernel
  have e7 : floatBits .quo .f64 4607182418800017408 (double.nearest ss 0 es) = some (double.word ss double.infRung) := by
    simp [floatBits, Format.div, FloatKind.format, rl, rone, Datum.quotient, Format.write]
  refine ⟨p, q, s, _, _, e1, e2, e3, e4, ⟨zs.1, by rw [zs.2]; simp⟩, ⟨fin_num rl, by rw [R_num rl, sgR]; cases ss <;> simp⟩, e7, ?_, ?_⟩
  · simp [floatBits, Format.mul, FloatKind.format, rx, read_inf, Datum.product]
  · simp [floatBits, Format.mul, FloatKind.format, ry, read_inf, Datum.product]
theorem null_int {a b : Int} (h : a * a + b * b = 0) : a = 0 ∧ b = 0 := by
  have h1 := Int.natAbs_mul_self' a
  have h2 := Int.natAbs_mul_self' b
  obtain ⟨u, hu⟩ : ∃ u, u = a.natAbs * a.natAbs := ⟨_, rfl⟩
  obtain ⟨v, hv⟩ : ∃ v, v = b.natAbs * b.natAbs := ⟨_, rfl⟩
  have h1' : (u : Int) = a * a := by rw [hu, ← h1]; simp
  have h2' : (v : Int) = b * b := by rw [hv, ← h2]; simp
  have h3 : a.natAbs * a.natAbs = 0 := by rw [← hu]; omega
  have h4 : b.natAbs * b.natAbs = 0 := by rw [← hv]; omega
  have h5 := Nat.mul_eq_zero.1 h3
  have h6 := Nat.mul_eq_zero.1 h4
  omega
end Go.Fr
