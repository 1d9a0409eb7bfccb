/-
  A line drawn the other way about has the same exact sums. No condition.
  FnLineSumsCentroid: a quotient of near sums is near the quotient of the sums. No condition.
  FnLineSumsCentroid: all that the law compares, as doubles. No condition.
  FnLineSumsCentroid: the walk of the law. No condition.
-/
import Derived.Test.YtinbkonmlgediaaGreatXE7
import Derived.Test.YtinbkonmlgediaaGreatXW9
import Derived.Test.YtinbkonmlgediaaGreatXEc
import Derived.Test.YtinbkonmlgediaaGreatXEd
set_option linter.unusedVariables false
set_option linter.unusedSimpArgs false
namespace Go.Proofs.YtinbkonmlgediaaGreat
open Go.RowKit Go.Fl Go.Sl Go.Pg Go.Ch Go.Kf Go.Fr Ieee
theorem turn_sum (f : Int × Int → Int × Int → Rat) (hf : ∀ p q, f p q = f q p) (pts : List (Int × Int)) (m : Nat) (hm : pts.length = m + 1) (h1 : 1 ≤ m) : sumOf f (turnL pts m (m + 1)) m = sumOf f pts m := by
  have hat : ∀ t, t ≤ m → ptAt (turnL pts m (m + 1)) t = ptAt pts (turnAt pts m (m - t)) := fun t ht => by
    rw [turnL_at pts m hm (m + 1) (Nat.le_refl _) t ht, if_pos (by omega)]
  unfold sumOf
  by_cases hc : ptAt pts 0 = ptAt pts m
  · obtain ⟨k, rfl⟩ : ∃ k, m = k + 1 := ⟨m - 1, by omega⟩
    have h2 : ∀ i, turnAt pts (k + 1) i = (i + 1) % (k + 1) := fun i => by unfold turnAt; rw [if_pos hc]
    rw [sumN_front, sumN_front (fun i => f (ptAt pts i) (ptAt pts (i + 1)))]
    have e0 : f (ptAt (turnL pts (k + 1) (k + 1 + 1)) 0) (ptAt (turnL pts (k + 1) (k + 1 + 1)) (0 + 1)) = f (ptAt pts 0) (ptAt pts (0 + 1)) := by
      rw [hat 0 (by omega), hat (0 + 1) (by omega), h2, h2]
      have a1 : (k + 1 - (0 + 1) + 1) % (k + 1) = 0 := by rw [show k + 1 - (0 + 1) + 1 = k + 1 by omega, Nat.mod_self]
      have a0 : (k + 1 - 0 + 1) % (k + 1) = 1 % (k + 1) := by rw [show k + 1 - 0 + 1 = 1 + (k + 1) by omega, Nat.add_mod_right]
      rw [a0, a1, hf]
      congr 1
      cases k with
      | zero => exact hc
      | succ k => rw [Nat.mod_eq_of_lt (by omega)]
    rw [e0]
    congr 1
    rw [← sumN_rev k (fun i => f (ptAt pts (i + 1)) (ptAt pts (i + 1 + 1)))]
    refine sumN_congr k fun i hi => ?_
    rw [hat (i + 1) (by omega), hat (i + 1 + 1) (by omega), h2, h2, hf]
    have a2 : (k + 1 - (i + 1 + 1) + 1) % (k + 1) = k - 1 - i + 1 := by rw [show k + 1 - (i + 1 + 1) + 1 = k - 1 - i + 1 by omega, Nat.mod_eq_of_lt (by omega)]
    rw [a2]
    congr 1
    cases i with
    | zero =>
      rw [show k + 1 - (0 + 1) + 1 = k + 1 by omega, Nat.mod_self, hc]
      congr 1
      omega
    | succ i => rw [show k + 1 - (i + 1 + 1) + 1 = k - 1 - (i + 1) + 1 + 1 by omega, Nat.mod_eq_of_lt (by omega)]
  · have h2 : ∀ i, turnAt pts m i = i := fun i => by unfold turnAt; rw [if_neg hc]
    rw [← sumN_rev m (fun i => f (ptAt pts i) (ptAt pts (i + 1)))]
    refine sumN_congr m fun i hi => ?_
    rw [hat i (by omega), hat (i + 1) (by omega), h2, h2, hf]
    rw [show m - (i + 1) = m - 1 - i by omega, show m - i = m - 1 - i + 1 by omega]
theorem turn_in (pts : List (Int × Int)) (m : Nat) (hm : pts.length = m + 1) (h1 : 1 ≤ m) (hp : ∀ p ∈ pts, In64 p) : ∀ p ∈ turnL pts m (m + 1), In64 p := by
  intro p hpp
  obtain ⟨t, ht, rfl⟩ := List.getElem_of_mem hpp
  have hl : t < m + 1 := by rw [turnL_len, hm] at ht; exact ht
  have e := turnL_at pts m hm (m + 1) (Nat.le_refl _) t (by omega)
  rw [if_pos (by omega)] at e
  have hta : turnAt pts m (m - t) < pts.length := by
    unfold turnAt
    split
    · have := Nat.mod_lt (m - t + 1) (show 0 < m by omega); omega
    · omega
  have e1 : ptAt (turnL pts m (m + 1)) t = (turnL pts m (m + 1))[t] := by unfold ptAt; rw [List.getD_eq_getElem?_getD, List.getElem?_eq_getElem ht]; rfl
  have e2 : ptAt pts (turnAt pts m (m - t)) = pts[turnAt pts m (m - t)] := by unfold ptAt; rw [List.getD_eq_getElem?_getD, List.getElem?_eq_getElem hta]; rfl
  rw [← e1, e, e2]
  exact hp _ (List.getElem_mem hta)
end Go.Proofs.YtinbkonmlgediaaGreat
set_option linter.unusedVariables false
set_option linter.unusedSimpArgs false
namespace Go.Proofs.YtinbkonmlgediaaGreat
open Go.RowKit Go.Fl Go.Sl Go.Pg Go.Ch Go.Kf Go.Fr Ieee
/-- a bound for a quotient: d*T small and T not small -/
theorem quot_bd {d T L B : Rat} (hT : L ≤ 2 * T) (hL : 0 < L) (h : d * T ≤ B * L ∧ -(B * L) ≤ d * T) (hB : 0 ≤ B) : d ≤ 2 * B ∧ -(2 * B) ≤ d := by
  have hT0 : 0 < T := by grind
  constructor
  · by_cases hc : d ≤ 2 * B
    · exact hc
    · exfalso
      have h1 : 0 < (d - 2 * B) * T := Rat.mul_pos (by grind) hT0
      have h2 : 0 ≤ B * (2 * T - L) := Rat.mul_nonneg hB (by grind)
      grind
  · by_cases hc : -(2 * B) ≤ d
    · exact hc
    · exfalso
      have h1 : 0 < (-(2 * B) - d) * T := Rat.mul_pos (by grind) hT0
      have h2 : 0 ≤ B * (2 * T - L) := Rat.mul_nonneg hB (by grind)
      grind
/-- what is near: the exact quotient of near sums -/
theorem ratio_near {A T S L r v : Rat} (hL : 1 / 2 ≤ L) (hr : r * L = S) (hr2 : r ≤ 64 ∧ -64 ≤ r) (hA : A - S ≤ L * (1 / 2147483648) ∧ -(L * (1 / 2147483648)) ≤ A - S) (hT : T - L ≤ L * (1 / 2147483648) ∧ -(L * (1 / 2147483648)) ≤ T - L) (hv : v * T = A) : v - r ≤ 130 / 2147483648 ∧ -(130 / 2147483648) ≤ v - r := by
  have p := prod_le hr2 hT (by grind)
  have h := quot_bd (d := v - r) (T := T) (L := L) (B := 65 / 2147483648) (by grind) (by grind) (by constructor <;> grind) (by grind)
  constructor <;> grind
theorem one_fin : fin 4607182418800017408 = true ∧ R 4607182418800017408 = 1 := by
  have h : double.read 4607182418800017408 = .number false 4503599627370496 (-52) := by decide +kernel
  refine ⟨fin_num h, ?_⟩
  rw [R_num h]; decide +kernel
theorem small_fin : fin 4517110426252607488 = true ∧ R 4517110426252607488 = 1 / 1048576 := by
  have h : double.read 4517110426252607488 = .number false 4503599627370496 (-72) := by decide +kernel
  refine ⟨fin_num h, ?_⟩
  rw [R_num h]; decide +kernel
theorem ab_le {v B : Rat} (h : v ≤ B ∧ -B ≤ v) : ab v ≤ B := by rcases ab_cases v with ⟨_, e⟩ | ⟨_, e⟩ <;> rw [e] <;> grind
/-- the sum over the length, as doubles -/
theorem sums_quo {A T : Nat} {S L r : Rat} (hL : 1 / 2 ≤ L) (hr : r * L = S) (hr2 : r ≤ 64 ∧ -64 ≤ r) (hA : NearTo A S (L * (1 / 2147483648))) (hT : NearTo T L (L * (1 / 2147483648))) :
    ∃ q, floatBits .quo .f64 A T = some q ∧ fin q = true ∧ R q - r ≤ 140 / 2147483648 ∧ -(140 / 2147483648) ≤ R q - r := by
  obtain ⟨fA, a1, a2⟩ := hA
  obtain ⟨fT, t1, t2⟩ := hT
  have h0 : R T ≠ 0 := by grind
  have hv : R A / R T * R T = R A := Rat.div_mul_cancel h0
  generalize R A / R T = v at hv
  have hn := ratio_near hL hr hr2 ⟨a1, a2⟩ ⟨t1, t2⟩ hv
  have hb : v ≤ 65 ∧ -65 ≤ v := by constructor <;> grind
  have hab := ab_le hb
  obtain ⟨q, q1, q2, q3⟩ := div_near fA fT h0 v hv (big' (by grind) (by decide))
  have := near_abs q3 hb
  exact ⟨q, q1, q2, by grind, by grind⟩
/-- the sum times one over the length, as doubles -/
theorem sums_inv {A T : Nat} {S L r : Rat} (hL : 1 / 2 ≤ L) (hL2 : L ≤ 40000) (hr : r * L = S) (hr2 : r ≤ 64 ∧ -64 ≤ r) (hA : NearTo A S (L * (1 / 2147483648))) (hT : NearTo T L (L * (1 / 2147483648))) :
    ∃ u, floatBits .quo .f64 4607182418800017408 T = some u ∧ fin u = true ∧ ∃ x, floatBits .mul .f64 A u = some x ∧ fin x = true ∧ R x - r ≤ 140 / 2147483648 ∧ -(140 / 2147483648) ≤ R x - r := by
  obtain ⟨fA, a1, a2⟩ := hA
  obtain ⟨fT, t1, t2⟩ := hT
  have h0 : R T ≠ 0 := by grind
  have hi : 1 / R T * R T = 1 := Rat.div_mul_cancel h0
  generalize 1 / R T = i at hi
  have hv : (R A * i) * R T = R A := by grind
  have hn := ratio_near hL hr hr2 ⟨a1, a2⟩ ⟨t1, t2⟩ hv
  have hib : i ≤ 2 * 2 ∧ -(2 * 2) ≤ i := quot_bd (T := R T) (L := L) (by grind) (by grind) (by constructor <;> grind) (by grind)
  have hab := ab_le hib
  obtain ⟨u, u1, u2, u3⟩ := div_near one_fin.1 fT h0 i (by rw [one_fin.2]; exact hi) (big' (by grind) (by decide))
  have hu := near_abs u3 hib
  have p := prod_le hr2 (show L ≤ L ∧ -L ≤ L by constructor <;> grind) (by grind)
  have hAb : R A ≤ 2600000 ∧ -2600000 ≤ R A := by constructor <;> grind
  have hd := prod_le hAb hu (by grind)
  have hm : R A * R u - R A * i ≤ 6 / 2147483648 ∧ -(6 / 2147483648) ≤ R A * R u - R A * i := by constructor <;> grind
  have hb : R A * R u ≤ 66 ∧ -66 ≤ R A * R u := by constructor <;> grind
  have hab2 := ab_le hb
  obtain ⟨x, x1, x2, x3⟩ := mul_near fA u2 (big' (by grind) (by decide))
  have := near_abs x3 hb
  exact ⟨u, u1, u2, x, x1, x2, by grind, by grind⟩
/-- two doubles near one number are close -/
theorem near_close {a b : Nat} {r : Rat} (fa : fin a = true) (fb : fin b = true) (ha : R a - r ≤ 140 / 2147483648 ∧ -(140 / 2147483648) ≤ R a - r) (hb : R b - r ≤ 140 / 2147483648 ∧ -(140 / 2147483648) ≤ R b - r) :
    ∃ d, floatBits .sub .f64 a b = some d ∧ d < 18446744073709551616 ∧ FloatKind.f64.format.order (d % 9223372036854775808) 4517110426252607488 = some .lt := by
  have hb2 : R a - R b ≤ 1 / 2097152 ∧ -(1 / 2097152) ≤ R a - R b := by constructor <;> grind
  have hab := ab_le hb2
  obtain ⟨d, d1, d2, d3⟩ := sub_near fa fb (big' (by grind) (by decide))
  have hn := near_abs d3 hb2
  have hd : ab (R d) ≤ 1 / 1500000 := ab_le (by constructor <;> grind)
  obtain ⟨e1, e2⟩ := abs_R d2
  refine ⟨d, d1, sub_lt d1, ?_⟩
  rw [show FloatKind.f64.format = double from rfl, order_val e1 small_fin.1, e2, small_fin.2, if_pos (by grind)]
end Go.Proofs.YtinbkonmlgediaaGreat
set_option linter.unusedVariables false
set_option linter.unusedSimpArgs false
namespace Go.Proofs.YtinbkonmlgediaaGreat
open Go.RowKit Go.Fl Go.Sl Go.Pg Go.Ch Go.Kf Go.Fr Ieee
theorem sum_top {g : Nat → Rat} : ∀ n, (∀ i, i < n → g i ≤ 200) → sumN g n ≤ 200 * (n : Rat)
  | 0, _ => by simp [sumN]
  | n + 1, h => by
    have h1 := sum_top n (fun i hi => h i (by omega))
    have h2 := h n (by omega)
    rw [sumN]
    have : ((n + 1 : Nat) : Rat) = (n : Rat) + 1 := by simp
    grind
theorem ratio_bd {r L S : Rat} (hL : 0 < L) (hr : r * L = S) (h : S ≤ 64 * L ∧ -(64 * L) ≤ S) : r ≤ 64 ∧ -64 ≤ r := by
  constructor
  · by_cases hc : r ≤ 64
    · exact hc
    · exfalso
      have h1 : 0 < (r - 64) * L := Rat.mul_pos (by grind) hL
      grind
  · by_cases hc : -64 ≤ r
    · exact hc
    · exfalso
      have h1 : 0 < (-64 - r) * L := Rat.mul_pos (by grind) hL
      grind
theorem pt_in {pts : List (Int × Int)} (hp : ∀ p ∈ pts, In64 p) {i : Nat} (hi : i < pts.length) : In64 (ptAt pts i) := by
  unfold ptAt
  rw [List.getD_eq_getElem?_getD, List.getElem?_eq_getElem hi]
  exact hp _ (List.getElem_mem hi)
/-- two doubles, near -/
def CloseD (a b : Nat) : Prop := ∃ d, floatBits .sub .f64 a b = some d ∧ d < 18446744073709551616 ∧ FloatKind.f64.format.order (d % 9223372036854775808) 4517110426252607488 = some .lt
theorem all_good (pts : List (Int × Int)) (m : Nat) (hm : pts.length = m + 1) (h2 : m ≤ 198) (hp : ∀ p ∈ pts, In64 p) (hd : Differ pts) :
    ∃ st st' X Y T X' Y' T' u x y, RunC pts st ∧ st m = (X, Y, T) ∧ RunC (turnL pts m (m + 1)) st' ∧ st' m = (X', Y', T')
      ∧ floatBits .quo .f64 4607182418800017408 T = some u ∧ floatBits .mul .f64 X u = some x ∧ floatBits .mul .f64 Y u = some y
      ∧ FloatKind.f64.format.order T 0 = some .gt
      ∧ ∃ a b c d, floatBits .quo .f64 X T = some a ∧ floatBits .quo .f64 Y T = some b ∧ floatBits .quo .f64 X' T' = some c ∧ floatBits .quo .f64 Y' T' = some d
        ∧ CloseD a x ∧ CloseD b y ∧ CloseD c x ∧ CloseD d y := by
  obtain ⟨i, hi, hne⟩ := hd
  have h1 : 1 ≤ m := by omega
  obtain ⟨st, hR, nX, nY, nT⟩ := runC_ pts m hm (by omega) hp
  obtain ⟨st', hR', nX', nY', nT'⟩ := runC_ (turnL pts m (m + 1)) m (by rw [turnL_len, hm]) (by omega) (turn_in pts m hm h1 hp)
  rw [turn_sum lam lam_symm pts m hm h1, turn_sum midX midX_symm pts m hm h1] at nX'
  rw [turn_sum lam lam_symm pts m hm h1, turn_sum midY midY_symm pts m hm h1] at nY'
  rw [turn_sum lam lam_symm pts m hm h1] at nT'
  have hin : ∀ j, j < m → In64 (ptAt pts j) ∧ In64 (ptAt pts (j + 1)) := fun j hj => ⟨pt_in hp (by omega), pt_in hp (by omega)⟩
  have hL1 : 1 / 2 ≤ sumOf lam pts m := by
    have a := lam_ge (hin i (by omega)).1 (hin i (by omega)).2 hne
    have b := sumN_ge (g := fun j => lam (ptAt pts j) (ptAt pts (j + 1))) (m := m) (fun j hj => (lam_bd (hin j hj).1 (hin j hj).2).1) i (by omega)
    unfold sumOf
    grind
  have hL2 : sumOf lam pts m ≤ 40000 := by
    have a := sum_top (g := fun j => lam (ptAt pts j) (ptAt pts (j + 1))) m (fun j hj => (lam_bd (hin j hj).1 (hin j hj).2).2)
    have b : (m : Rat) ≤ 200 := by have := Rat.natCast_le_natCast.2 (show m ≤ 200 by omega); simpa using this
    unfold sumOf
    grind
  have hX := sumN_abs (f := fun j => midX (ptAt pts j) (ptAt pts (j + 1))) (g := fun j => lam (ptAt pts j) (ptAt pts (j + 1))) (K := 64) m (fun j hj => (mid_bd (hin j hj).1 (hin j hj).2).1)
  have hY := sumN_abs (f := fun j => midY (ptAt pts j) (ptAt pts (j + 1))) (g := fun j => lam (ptAt pts j) (ptAt pts (j + 1))) (K := 64) m (fun j hj => (mid_bd (hin j hj).1 (hin j hj).2).2)
  change sumOf midX pts m ≤ 64 * sumOf lam pts m ∧ -(64 * sumOf lam pts m) ≤ sumOf midX pts m at hX
  change sumOf midY pts m ≤ 64 * sumOf lam pts m ∧ -(64 * sumOf lam pts m) ≤ sumOf midY pts m at hY
  generalize sumOf lam pts m = L at *
  generalize sumOf midX pts m = SX at *
  generalize sumOf midY pts m = SY at *
  have hLp : 0 < L := by grind
  have hL0 : L ≠ 0 := by grind
  have rx : SX / L * L = SX := Rat.div_mul_cancel hL0
  have ry : SY / L * L = SY := Rat.div_mul_cancel hL0
  generalize SX / L = p at rx
  generalize SY / L = q at ry
  have bx := ratio_bd hLp rx hX
  have by_ := ratio_bd hLp ry hY
  obtain ⟨⟨X, Y, T⟩, hS⟩ : ∃ t, st m = t := ⟨_, rfl⟩
  obtain ⟨⟨X', Y', T'⟩, hS'⟩ : ∃ t, st' m = t := ⟨_, rfl⟩
  rw [hS] at nX nY nT
  rw [hS'] at nX' nY' nT'
  simp only at nX nY nT nX' nY' nT'
  obtain ⟨a, a1, a2, a3⟩ := sums_quo hL1 rx bx nX nT
  obtain ⟨b, b1, b2, b3⟩ := sums_quo hL1 ry by_ nY nT
  obtain ⟨c, c1, c2, c3⟩ := sums_quo hL1 rx bx nX' nT'
  obtain ⟨d, d1, d2, d3⟩ := sums_quo hL1 ry by_ nY' nT'
  obtain ⟨u, u1, u2, x, x1, x2, x3⟩ := sums_inv hL1 hL2 rx bx nX nT
  obtain ⟨u', u1', u2', y, y1, y2, y3⟩ := sums_inv hL1 hL2 ry by_ nY nT
  rw [u1] at u1'
  cases u1'
  have hgt : FloatKind.f64.format.order T 0 = some .gt := by
    obtain ⟨z1, z2⟩ := R_zero false 0
    have z0 : double.nearest false 0 0 = 0 := by decide +kernel
    rw [z0] at z1 z2
    obtain ⟨fT, t1, t2⟩ := nT
    rw [show FloatKind.f64.format = double from rfl, order_val fT z1, z2, if_neg (by grind), if_neg (by grind)]
  exact ⟨st, st', X, Y, T, X', Y', T', u, x, y, hR, hS, hR', hS', u1, x1, y1, hgt, a, b, c, d, a1, b1, c1, d1, near_close a2 x2 a3 x3, near_close b2 y2 b3 y3, near_close c2 x2 c3 x3, near_close d2 y2 d3 y3⟩
end Go.Proofs.YtinbkonmlgediaaGreat
set_option linter.unusedVariables false
set_option linter.unusedSimpArgs false
namespace Go.Proofs.YtinbkonmlgediaaGreat
open Go.RowKit Go.Fl Go.Sl Go.Pg Go.Ch Go.Kf Go.Fr
theorem rowMade (pts : List (Int × Int)) (h : pts.length ≤ 200) : PgNum 1000 (.node 2 0 (pts.map ptP) []) := .mk _ _ _ _ (by simp [show wid 0 = 2 from rfl]; omega) (by simp) (by simp)
theorem rowNorm (pts : List (Int × Int)) : ∀ q ∈ pts.map ptP, q.norm 0 := fun q hq => by obtain ⟨r, _, rfl⟩ := List.mem_map.1 hq; exact ptP_norm r
theorem in_ok {p : Int × Int} (h : In64 p) : PtOk p := by unfold In64 at h; unfold PtOk; omega
theorem rowFig_ (a : Option Addr) (n cap : Nat) (pts : List (Int × Int)) (w : World) (hn : pts.length = n) (h : Sz w a n cap 2 (pts.flatMap ptCells)) (h2 : n ≤ 199) (hp : ∀ p ∈ pts, In64 p) : Calls Tryz.prog 6 #[.agg #[.int .i64 2, .slice a n cap, .slice none 0 0]] w (RetR w no GmR (.node 2 0 (pts.map ptP) [])) := by
  have hF := figure_ (rowST a n cap pts) w (row_at hn h) (by simp [rowST, ST.total, ST.totals]; omega) (.leaf _ _ (.inr rfl) (fun p hm => in_ok (hp p hm)))
  rw [row_geomP] at hF
  exact hF
/-- the figure of a row, and its sums -/
theorem figSums_ (a : Option Addr) (n cap m : Nat) (pts : List (Int × Int)) (st : Nat → Nat × Nat × Nat) (X Y T : Nat) (w : World) (hn : pts.length = n) (h : Sz w a n cap 2 (pts.flatMap ptCells)) (h2 : n ≤ 199) (hp : ∀ p ∈ pts, In64 p) (hm : n = m + 1) (hR : RunC pts st) (hst : st m = (X, Y, T)) :
    Calls Tryz.prog 6 #[.agg #[.int .i64 2, .slice a n cap, .slice none 0 0]] w (fun e w2 => ∃ k d na nn nc ka kn kc, e = .returned (.agg #[.int .i64 k, .int .i64 d, .slice na nn nc, .slice ka kn kc]) ∧ Stab.Keeps w w2 ∧ ∀ w3, Stab.Keeps w2 w3 → Calls Tryz.prog 5 #[.agg #[.int .i64 k, .int .i64 d, .slice na nn nc, .slice ka kn kc]] w3 (One w3 (.tuple #[.agg #[.float .f64 X, .float .f64 Y], .float .f64 T]))) := by
  refine (rowFig_ a n cap pts w hn h h2 hp).mono ?_
  rintro e w2 ⟨cs, rfl, hk, hx⟩
  obtain ⟨zk, zd, zna, znn, znc, zka, zkn, zkc, rfl⟩ := hx.four
  refine ⟨_, _, _, _, _, _, _, _, rfl, hk, fun w3 hk3 => ?_⟩
  exact implSums_ _ pts m st X Y T w3 (gmS.kf hx (KF.keeps hk3)) (rowMade pts (by omega)) (rowNorm pts) (by omega) hp hR hst
/-- the figure of a row, and its middle -/
theorem figCen_ (a : Option Addr) (n cap m : Nat) (pts : List (Int × Int)) (st : Nat → Nat × Nat × Nat) (X Y T u x y : Nat) (w : World) (hn : pts.length = n) (h : Sz w a n cap 2 (pts.flatMap ptCells)) (h2 : n ≤ 199) (hp : ∀ p ∈ pts, In64 p) (hm : n = m + 1) (hR : RunC pts st) (hst : st m = (X, Y, T))
    (h0 : (FloatKind.f64.format.order T 0 == some .eq) = false) (hu : floatBits .quo .f64 4607182418800017408 T = some u) (hx : floatBits .mul .f64 X u = some x) (hy : floatBits .mul .f64 Y u = some y) :
    Calls Tryz.prog 6 #[.agg #[.int .i64 2, .slice a n cap, .slice none 0 0]] w (fun e w2 => ∃ k d na nn nc ka kn kc, e = .returned (.agg #[.int .i64 k, .int .i64 d, .slice na nn nc, .slice ka kn kc]) ∧ Stab.Keeps w w2 ∧ ∀ w3, Stab.Keeps w2 w3 → Calls Tryz.prog 9 #[.agg #[.int .i64 k, .int .i64 d, .slice na nn nc, .slice ka kn kc]] w3
      (fun e w4 => ∃ k d na nn nc ka kn kc, e = .returned (.agg #[.int .i64 k, .int .i64 d, .slice na nn nc, .slice ka kn kc]) ∧ Stab.Keeps w3 w4 ∧ ∀ w5, Stab.Keeps w4 w5 → Calls Tryz.prog 8 #[.agg #[.int .i64 k, .int .i64 d, .slice na nn nc, .slice ka kn kc]] w5 (One w5 (.tuple #[.float .f64 x, .float .f64 y, .bool true])))) := by
  refine (rowFig_ a n cap pts w hn h h2 hp).mono ?_
  rintro e w2 ⟨cs, rfl, hk, hg⟩
  obtain ⟨zk, zd, zna, znn, znc, zka, zkn, zkc, rfl⟩ := hg.four
  refine ⟨_, _, _, _, _, _, _, _, rfl, hk, fun w3 hk3 => ?_⟩
  refine (implCen_ _ pts m st X Y T u x y w3 (gmS.kf hg (KF.keeps hk3)) (rowMade pts (by omega)) (rowNorm pts) (by omega) hp hR hst h0 hu hx hy).mono ?_
  rintro e w4 ⟨cs, rfl, hk4, hg4⟩
  obtain ⟨zk, zd, zna, znn, znc, zka, zkn, zkc, rfl⟩ := hg4.four
  exact ⟨_, _, _, _, _, _, _, _, rfl, hk4, fun w5 hk5 => xyOf_ _ x y w5 (gmS.kf hg4 (KF.keeps hk5))⟩
set_option maxRecDepth 100000 in
set_option maxHeartbeats 4000000 in
theorem lineLaw_ (a : Option Addr) (n cap : Nat) (pts : List (Int × Int)) (w : World) (hn : pts.length = n) (h : Sz w a n cap 2 (pts.flatMap ptCells)) : Calls Tryz.prog 3 #[.slice a n cap] w (LawPost w) := by
  have hle := h.le
  have hmx := h.max
  unfold maxLen at hmx
  by_cases c1 : (2147483647 : Int) < n
  · clear h
    go_enter Tryz.func3, Tryz.ntmps3
    go_wp2_with fail
    go_ret
    exact ⟨rfl, by with_reducible (repeat first | exact Kx.r _ | assumption | refine Kx.a ?_ _ | refine Kx.d ?_ | refine Kx.e ?_ _ | refine Kx.s (by simp <;> omega) ?_ _ | refine Kx.t ?_ (by assumption))⟩
  have hFit := fun w' (hk : Stab.Keeps w w') => fit_ a n cap pts w' hn (h.keep hk) (by omega)
  go_enter Tryz.func3, Tryz.ntmps3
  go_wp2_with fail
  refine (hFit _ (by with_reducible (repeat first | exact Kx.r _ | assumption | refine Kx.a ?_ _ | refine Kx.d ?_ | refine Kx.e ?_ _ | refine Kx.s (by simp <;> omega) ?_ _ | refine Kx.t ?_ (by assumption)))).mono ?_
  clear hFit
  rintro e w2 ⟨⟨v, rfl, hv⟩, hk2⟩
  have hB := (show Blk _ w.heap.size 25 [.int .i64 2, .slice a n cap, .slice none 0 0] by with_reducible (repeat first | assumption | (refine Bx.n ⟨?_, ?_⟩ <;> focus (first | rfl | (simp; done) | omega)) | refine Bx.a ?_ _ | refine Bx.d ?_ | refine Bx.e ?_ _ | refine Bx.p (by first | omega | simp <;> omega) ?_)).keep hk2
  have hkw : Stab.Keeps w w2 := by with_reducible (repeat first | exact Kx.r _ | assumption | refine Kx.a ?_ _ | refine Kx.d ?_ | refine Kx.e ?_ _ | refine Kx.s (by simp <;> omega) ?_ _ | refine Kx.t ?_ (by assumption))
  clear hk2
  cases v with
  | false =>
    clear hv h
    go_wp2_with fail
    go_ret
    exact ⟨rfl, by with_reducible (repeat first | exact Kx.r _ | assumption | refine Kx.a ?_ _ | refine Kx.d ?_ | refine Kx.e ?_ _ | refine Kx.s (by simp <;> omega) ?_ _ | refine Kx.t ?_ (by assumption))⟩
  | true =>
    by_cases hz : n = 0
    · subst hz
      clear hv h
      go_wp2_with fail
      go_ret
      exact ⟨rfl, by with_reducible (repeat first | exact Kx.r _ | assumption | refine Kx.a ?_ _ | refine Kx.d ?_ | refine Kx.e ?_ _ | refine Kx.s (by simp <;> omega) ?_ _ | refine Kx.t ?_ (by assumption))⟩
    obtain ⟨g1, g2, g3⟩ := hv rfl
    obtain ⟨m, rfl⟩ : ∃ m, n = m + 1 := ⟨n - 1, by omega⟩
    have hDf : Differ pts := by
      rcases g3 with e | e
      · rw [e] at hn; simp at hn
      · exact e
    have hm1 : 1 ≤ m := by obtain ⟨i, hi, _⟩ := hDf; omega
    obtain ⟨st, st', X, Y, T, X', Y', T', u, x, y, hR, hS, hR', hS', hu, hx, hy, hgt, qa, qb, qc, qd, a1, b1, cc1, d1, ka, kb, kc, kd⟩ := all_good pts m hn (by omega) g2 hDf
    have HC := Lib.hid (fun w' (hk : Stab.Keeps w w') => figSums_ a (m + 1) cap m pts st X Y T w' hn (h.keep hk) (by omega) g2 rfl hR hS)
    have HT := Lib.hid (fun w' (hk : Stab.Keeps w w') => redrawn_ a (m + 1) cap m pts w' hn (h.keep hk) rfl hm1 (by omega))
    have HD := Lib.hid (fun w' (hk : Stab.Keeps w w') => figCen_ a (m + 1) cap m pts st X Y T u x y w' hn (h.keep hk) (by omega) g2 rfl hR hS (by rw [hgt]; rfl) hu hx hy)
    have hlt' : (turnL pts m (m + 1)).length = m + 1 := by rw [turnL_len, hn]
    have HE := Lib.hid (fun a' c' w' (hz : Sz w' a' (m + 1) c' 2 ((turnL pts m (m + 1)).flatMap ptCells)) => figSums_ a' (m + 1) c' m (turnL pts m (m + 1)) st' X' Y' T' w' hlt' hz (by omega) (turn_in pts m hn hm1 g2) rfl hR' hS')
    have q1 := fun w => opV_some a1 w
    have q2 := fun w => opV_some b1 w
    have q3 := fun w => opV_some cc1 w
    have q4 := fun w => opV_some d1 w
    obtain ⟨da, ka1, ka2, ka3⟩ := ka
    obtain ⟨db, kb1, kb2, kb3⟩ := kb
    obtain ⟨dc, kc1, kc2, kc3⟩ := kc
    obtain ⟨dd, kd1, kd2, kd3⟩ := kd
    have HA := Lib.hid (fun w' => close20_ qa x da ka1 ka2 ka3 w')
    have HB := Lib.hid (fun w' => close20_ qb y db kb1 kb2 kb3 w')
    have HX := Lib.hid (fun w' => close20_ qc x dc kc1 kc2 kc3 w')
    have HY := Lib.hid (fun w' => close20_ qd y dd kd1 kd2 kd3 w')
    clear h hn hv g1 g2 g3 hDf hm1 hR hS hR' hS' hu hx hy a1 b1 cc1 d1 ka1 ka2 ka3 kb1 kb2 kb3 kc1 kc2 kc3 kd1 kd2 kd3 hz c1 hle
    have b0 := hB.cell (i := 0) rfl
    have b1 := hB.cell (i := 1) rfl
    have b2 := hB.cell (i := 2) rfl
    have bf := hB.free
    have bl := hB.lt
    go_wp2_with fail
    refine (HC.out _ hkw).mono ?_
    rintro e w3 ⟨fk, fd, fna, fnn, fnc, fka, fkn, fkc, rfl, hk3, hL⟩
    have hkw3 := Stab.Keeps.trans hkw hk3
    have hB3 := hB.keep hk3
    clear hB hkw hk3 b0 b1 b2 bf bl
    go_wp2_with fail
    refine (hL _ (Stab.Keeps.refl _)).mono ?_
    rintro e w4 ⟨rfl, hk4⟩
    have hkw4 := Stab.Keeps.trans hkw3 hk4
    have hB4 := hB3.keep hk4
    clear hB3 hkw3 hk4 hL
    have hB5 := hB4.alloc (.cells #[.float .f64 X, .float .f64 Y] 29)
    have hkw5 : Stab.Keeps w (w4.alloc (.cells #[.float .f64 X, .float .f64 Y] 29)) := by with_reducible (repeat first | exact Kx.r _ | assumption | refine Kx.a ?_ _ | refine Kx.d ?_ | refine Kx.e ?_ _ | refine Kx.s (by simp <;> omega) ?_ _ | refine Kx.t ?_ (by assumption))
    have b0 := hB4.cell (i := 0) rfl
    have b1 := hB4.cell (i := 1) rfl
    have b2 := hB4.cell (i := 2) rfl
    have bf := hB4.free
    have bl := hB4.lt
    have hXb : Blk (w4.alloc (.cells #[.float .f64 X, .float .f64 Y] 29)) w4.heap.size 29 [.float .f64 X, .float .f64 Y] := by with_reducible (repeat first | assumption | (refine Bx.n ⟨?_, ?_⟩ <;> focus (first | rfl | (simp; done) | omega)) | refine Bx.a ?_ _ | refine Bx.d ?_ | refine Bx.e ?_ _ | refine Bx.p (by first | omega | simp <;> omega) ?_)
    go_wp2_with fail
    clear b0 b1 b2 bf bl hB4 hkw4
    generalize (w4.alloc (.cells #[.float .f64 X, .float .f64 Y] 29)) = w5 at *
    generalize w4.heap.size = xb at *
    refine (HT.out _ hkw5).mono ?_
    rintro e w6 ⟨a', c', rfl, hk6, hz6⟩
    rw [hlt'] at hz6 ⊢
    have hkw6 := Stab.Keeps.trans hkw5 hk6
    have hB6 := hB5.keep hk6
    have hX6 := hXb.keep hk6
    clear hB5 hXb hk6 hkw5
    go_wp2_with fail
    refine (HE.out a' c' _ hz6).mono ?_
    clear hz6
    rintro e w7 ⟨gk, gd, gna, gnn, gnc, gka, gkn, gkc, rfl, hk7, hL⟩
    have hkw7 := Stab.Keeps.trans hkw6 hk7
    have hB7 := hB6.keep hk7
    have hX7 := hX6.keep hk7
    clear hB6 hX6 hk7 hkw6
    go_wp2_with fail
    refine (hL _ (Stab.Keeps.refl _)).mono ?_
    rintro e w8 ⟨rfl, hk8⟩
    have hkw8 := Stab.Keeps.trans hkw7 hk8
    have hB8 := hB7.keep hk8
    have hX8 := hX7.keep hk8
    clear hB7 hX7 hk8 hkw7 hL
    have hB9 := hB8.alloc (.cells #[.float .f64 X', .float .f64 Y'] 29)
    have hX9 := hX8.alloc (.cells #[.float .f64 X', .float .f64 Y'] 29)
    have hkw9 : Stab.Keeps w (w8.alloc (.cells #[.float .f64 X', .float .f64 Y'] 29)) := by with_reducible (repeat first | exact Kx.r _ | assumption | refine Kx.a ?_ _ | refine Kx.d ?_ | refine Kx.e ?_ _ | refine Kx.s (by simp <;> omega) ?_ _ | refine Kx.t ?_ (by assumption))
    have hZ9 : Blk (w8.alloc (.cells #[.float .f64 X', .float .f64 Y'] 29)) w8.heap.size 29 [.float .f64 X', .float .f64 Y'] := by with_reducible (repeat first | assumption | (refine Bx.n ⟨?_, ?_⟩ <;> focus (first | rfl | (simp; done) | omega)) | refine Bx.a ?_ _ | refine Bx.d ?_ | refine Bx.e ?_ _ | refine Bx.p (by first | omega | simp <;> omega) ?_)
    have b0 := hB8.cell (i := 0) rfl
    have b1 := hB8.cell (i := 1) rfl
    have b2 := hB8.cell (i := 2) rfl
    have bf := hB8.free
    have bl := hB8.lt
    go_wp2_with fail
    clear b0 b1 b2 bf bl hB8 hkw8 hX8
    generalize (w8.alloc (.cells #[.float .f64 X', .float .f64 Y'] 29)) = w9 at *
    generalize w8.heap.size = zb at *
    refine (HD.out _ hkw9).mono ?_
    rintro e v1 ⟨gk', gd', gna', gnn', gnc', gka', gkn', gkc', rfl, hk1, hL⟩
    go_wp2_with fail
    refine (hL _ (Stab.Keeps.refl _)).mono ?_
    rintro e v2 ⟨pk, pd, pna, pnn, pnc, pka, pkn, pkc, rfl, hk2, hP⟩
    go_wp2_with fail
    refine (hP _ (Stab.Keeps.refl _)).mono ?_
    rintro e v3 ⟨rfl, hk3⟩
    have hk := Stab.Keeps.trans hk1 (Stab.Keeps.trans hk2 hk3)
    have hkv := Stab.Keeps.trans hkw9 hk
    have hX := hX9.keep hk
    have hZ := hZ9.keep hk
    clear hk1 hk2 hk3 hk hX9 hZ9 hB9 hkw9 hP hL HT HC HD HE
    have x0 := hX.cell (i := 0) rfl
    have x1 := hX.cell (i := 1) rfl
    have xf := hX.free
    have xl := hX.lt
    have z0 := hZ.cell (i := 0) rfl
    have z1 := hZ.cell (i := 1) rfl
    have zf := hZ.free
    have zl := hZ.lt
    go_wp2_with fail
    refine (HA.out _).mono ?_
    rintro e u1 ⟨rfl, hkk⟩
    have hkwu1 : Stab.Keeps w u1 := by with_reducible (repeat first | exact Kx.r _ | assumption | refine Kx.a ?_ _ | refine Kx.d ?_ | refine Kx.e ?_ _ | refine Kx.s (by simp <;> omega) ?_ _ | refine Kx.t ?_ (by assumption))
    replace hX := (hX.drewN _).keep hkk
    replace hZ := (hZ.drewN _).keep hkk
    clear hkk hkv x0 x1 xf xl z0 z1 zf zl
    have hkv := hkwu1
    clear hkwu1
    have x0 := hX.cell (i := 0) rfl
    have x1 := hX.cell (i := 1) rfl
    have xf := hX.free
    have xl := hX.lt
    have z0 := hZ.cell (i := 0) rfl
    have z1 := hZ.cell (i := 1) rfl
    have zf := hZ.free
    have zl := hZ.lt
    go_wp2_with fail
    refine (HB.out _).mono ?_
    rintro e u2 ⟨rfl, hkk⟩
    have hkwu2 : Stab.Keeps w u2 := by with_reducible (repeat first | exact Kx.r _ | assumption | refine Kx.a ?_ _ | refine Kx.d ?_ | refine Kx.e ?_ _ | refine Kx.s (by simp <;> omega) ?_ _ | refine Kx.t ?_ (by assumption))
    replace hX := (hX.drewN _).keep hkk
    replace hZ := (hZ.drewN _).keep hkk
    clear hkk hkv x0 x1 xf xl z0 z1 zf zl
    have hkv := hkwu2
    clear hkwu2
    have x0 := hX.cell (i := 0) rfl
    have x1 := hX.cell (i := 1) rfl
    have xf := hX.free
    have xl := hX.lt
    have z0 := hZ.cell (i := 0) rfl
    have z1 := hZ.cell (i := 1) rfl
    have zf := hZ.free
    have zl := hZ.lt
    go_wp2_with fail
    refine (HX.out _).mono ?_
    rintro e u3 ⟨rfl, hkk⟩
    have hkwu3 : Stab.Keeps w u3 := by with_reducible (repeat first | exact Kx.r _ | assumption | refine Kx.a ?_ _ | refine Kx.d ?_ | refine Kx.e ?_ _ | refine Kx.s (by simp <;> omega) ?_ _ | refine Kx.t ?_ (by assumption))
    replace hX := (hX.drewN _).keep hkk
    replace hZ := (hZ.drewN _).keep hkk
    clear hkk hkv x0 x1 xf xl z0 z1 zf zl
    have hkv := hkwu3
    clear hkwu3
    have x0 := hX.cell (i := 0) rfl
    have x1 := hX.cell (i := 1) rfl
    have xf := hX.free
    have xl := hX.lt
    have z0 := hZ.cell (i := 0) rfl
    have z1 := hZ.cell (i := 1) rfl
    have zf := hZ.free
    have zl := hZ.lt
    go_wp2_with fail
    refine (HY.out _).mono ?_
    rintro e u4 ⟨rfl, hkk⟩
    have hkwu4 : Stab.Keeps w u4 := by with_reducible (repeat first | exact Kx.r _ | assumption | refine Kx.a ?_ _ | refine Kx.d ?_ | refine Kx.e ?_ _ | refine Kx.s (by simp <;> omega) ?_ _ | refine Kx.t ?_ (by assumption))
    replace hX := (hX.drewN _).keep hkk
    replace hZ := (hZ.drewN _).keep hkk
    clear hkk hkv x0 x1 xf xl z0 z1 zf zl
    have hkv := hkwu4
    clear hkwu4
    have x0 := hX.cell (i := 0) rfl
    have x1 := hX.cell (i := 1) rfl
    have xf := hX.free
    have xl := hX.lt
    have z0 := hZ.cell (i := 0) rfl
    have z1 := hZ.cell (i := 1) rfl
    have zf := hZ.free
    have zl := hZ.lt
    go_wp2_with fail
    go_ret
    exact ⟨rfl, hkv⟩
end Go.Proofs.YtinbkonmlgediaaGreat
