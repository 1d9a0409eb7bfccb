/-
  Sums over the segments of a line, as doubles and exactly. No condition.
  The sums of a line's middles, as doubles: they are there and come near the exact ones. No condition.
  Segments and sums of a line string: the package's walk. No condition.
  The sums of a line string's middles and lengths, as the package makes them. No condition.
  FnLineSumsCentroid: impl.LineSums and (LineString).Centroid. No condition.
  FnLineSumsCentroid: impl.LineSums and impl.Centroid of a line. No condition.
-/
import Derived.Test.YtinbkonmlgediaaGreatXFa
import Derived.Test.YtinbkonmlgediaaGreatXG
import Derived.BigRegion
import Derived.Test.YtinbkonmlgediaaGreatXVb
import Derived.Test.YtinbkonmlgediaaGreatXWa
set_option linter.unusedVariables false
set_option linter.unusedSimpArgs false
namespace Go.Fr
open Ieee Go.Fl Go.Fw
/-- a sum of the first n -/
def sumN (g : Nat → Rat) : Nat → Rat
  | 0 => 0
  | n + 1 => sumN g n + g n
theorem sumN_congr {g h : Nat → Rat} : ∀ n, (∀ i, i < n → g i = h i) → sumN g n = sumN h n
  | 0, _ => rfl
  | n + 1, H => by rw [sumN, sumN, sumN_congr n (fun i hi => H i (by omega)), H n (by omega)]
theorem sumN_front (g : Nat → Rat) : ∀ n, sumN g (n + 1) = g 0 + sumN (fun i => g (i + 1)) n
  | 0 => by simp only [sumN]; grind
  | n + 1 => by
    rw [sumN, sumN_front g n, sumN]
    grind
theorem sumN_rev : ∀ (n : Nat) (g : Nat → Rat), sumN (fun i => g (n - 1 - i)) n = sumN g n
  | 0, _ => rfl
  | n + 1, g => by
    rw [sumN_front]
    have h := sumN_rev n g
    have e : sumN (fun i => g (n + 1 - 1 - (i + 1))) n = sumN (fun i => g (n - 1 - i)) n := sumN_congr n fun i hi => by congr 1; omega
    rw [e, h, sumN]
    simp only [Nat.add_sub_cancel, Nat.sub_zero]
    grind
theorem sumN_nn {g : Nat → Rat} : ∀ n, (∀ i, i < n → 0 ≤ g i) → 0 ≤ sumN g n
  | 0, _ => by simp [sumN]
  | n + 1, h => by have := sumN_nn n (fun i hi => h i (by omega)); have := h n (by omega); rw [sumN]; grind
theorem sumN_le {g : Nat → Rat} {m : Nat} (h : ∀ i, i < m → 0 ≤ g i) : ∀ n, n ≤ m → sumN g n ≤ sumN g m := by
  intro n hn
  obtain ⟨k, rfl⟩ : ∃ k, m = n + k := ⟨m - n, by omega⟩
  clear hn
  induction k with
  | zero => exact Rat.le_refl
  | succ k ih =>
    have := ih (fun i hi => h i (by omega))
    have h1 := h (n + k) (by omega)
    rw [show n + (k + 1) = (n + k) + 1 by omega, sumN]
    grind
theorem sumN_ge {g : Nat → Rat} {m : Nat} (h : ∀ i, i < m → 0 ≤ g i) (i : Nat) (hi : i < m) : g i ≤ sumN g m := by
  have h1 := sumN_le h (i + 1) (by omega)
  rw [sumN] at h1
  have := sumN_nn i (fun j hj => h j (by omega))
  grind
theorem sumN_abs {f g : Nat → Rat} {K : Rat} : ∀ n, (∀ i, i < n → f i ≤ K * g i ∧ -(K * g i) ≤ f i) → sumN f n ≤ K * sumN g n ∧ -(K * sumN g n) ≤ sumN f n
  | 0, _ => by simp [sumN]
  | n + 1, h => by
    have h1 := sumN_abs n (fun i hi => h i (by omega))
    have h2 := h n (by omega)
    rw [sumN, sumN]
    constructor <;> grind
theorem exists_seq {σ : Type} {I : Nat → σ → Prop} {St : Nat → σ → σ → Prop} (s0 : σ) (h0 : I 0 s0) : ∀ m : Nat, (∀ i, i < m → ∀ s, I i s → ∃ s', I (i + 1) s' ∧ St i s s') →
    ∃ st : Nat → σ, st 0 = s0 ∧ (∀ i, i ≤ m → I i (st i)) ∧ ∀ i, i < m → St i (st i) (st (i + 1))
  | 0, _ => ⟨fun _ => s0, rfl, fun i h => by obtain rfl : i = 0 := by omega
                                             exact h0, fun i h => by omega⟩
  | m + 1, hs => by
    obtain ⟨st, a, c, d⟩ := exists_seq s0 h0 m (fun i hi => hs i (by omega))
    obtain ⟨t1, e, f⟩ := hs m (by omega) _ (c m (by omega))
    refine ⟨fun i => if i ≤ m then st i else t1, by simp [a], fun i hi => ?_, fun i hi => ?_⟩
    · by_cases h : i ≤ m
      · simp only [if_pos h]; exact c i h
      · obtain rfl : i = m + 1 := by omega
        simp only [if_neg h]; exact e
    · by_cases h : i + 1 ≤ m
      · simp only [if_pos h, if_pos (show i ≤ m by omega)]; exact d i (by omega)
      · obtain rfl : i = m := by omega
        simp only [if_neg h, if_pos (Nat.le_refl i)]; exact f
/-- the root of a whole number, as a double says it -/
def rootR (N : Int) : Rat := R ((double.sqrt (floatOfInt .f64 N)).getD 0)
theorem rootR_len {N : Int} (h0 : 0 ≤ N) (hb : N ≤ 8796093022208) : Len N (rootR N) := by
  have zN := Z.ofInt N (by omega)
  unfold rootR
  by_cases h : N = 0
  · obtain ⟨r, e, f, z⟩ := sqrt_zero zN.1 (by rw [zN.2, h]; rfl)
    rw [e]
    exact .inl ⟨h, z⟩
  · have h1 : 1 ≤ N := by omega
    have h1r : (1 : Rat) ≤ (N : Rat) := by have := Rat.intCast_le_intCast.2 h1; simpa using this
    have h2r : (N : Rat) ≤ 8796093022208 := by have := Rat.intCast_le_intCast.2 hb; simpa using this
    obtain ⟨r, e, f, g1, g2, g3⟩ := sqrt_near zN.1 (by rw [zN.2]; grind) (by rw [zN.2]; exact big' (by grind) (by decide))
    rw [zN.2] at g2 g3
    rw [e]
    exact .inr ⟨h1, g1, g2, g3⟩
theorem len_rel {N : Int} {r s : Rat} (hN : 1 ≤ N) (h : Len N r) (h' : Len N s) : r ≤ s * (1 + 1 / 562949953421312) ∧ 0 < r ∧ 0 < s := by
  unfold Len at h h'
  rw [q49'] at h h'
  rcases h with ⟨a, b⟩ | ⟨a1, a2, a3, a4⟩
  · omega
  rcases h' with ⟨c, d⟩ | ⟨c1, c2, c3, c4⟩
  · omega
  refine ⟨le_of_sq (by grind) (by grind) ?_, a2, c2⟩
  have h4 : r * r ≤ (s * (1 + 1 / 562949953421312)) * (s * (1 + 1 / 562949953421312)) := by grind
  exact h4
theorem len_half {N : Int} {r : Rat} (hN : 1 ≤ N) (h : Len N r) : 1 / 2 ≤ r := by
  unfold Len at h
  rw [q49'] at h
  rcases h with ⟨a, b⟩ | ⟨a1, a2, a3, a4⟩
  · omega
  have hN1 : (1 : Rat) ≤ N := by have := Rat.intCast_le_intCast.2 hN; simpa using this
  exact le_of_sq (by grind) (by grind) (by grind)
theorem len_top {N : Int} {r : Rat} (hN : N ≤ 32768) (h : Len N r) : r ≤ 200 := by
  unfold Len at h
  rw [q49'] at h
  rcases h with ⟨a, b⟩ | ⟨a1, a2, a3, a4⟩
  · rw [b]; decide +kernel
  have hN1 : (N : Rat) ≤ 32768 := by have := Rat.intCast_le_intCast.2 hN; simpa using this
  exact le_of_sq (by grind) (by grind) (by grind)
theorem prod_le {c f K F : Rat} (hc : c ≤ K ∧ -K ≤ c) (hf : f ≤ F ∧ -F ≤ f) (hF : 0 ≤ F) : c * f ≤ K * F ∧ -(K * F) ≤ c * f := by
  have hK : 0 ≤ K := by grind
  have a1 : 0 ≤ (K - c) * (F + f) := Rat.mul_nonneg (by grind) (by grind)
  have a2 : 0 ≤ (K + c) * (F - f) := Rat.mul_nonneg (by grind) (by grind)
  have a3 : 0 ≤ (K - c) * (F - f) := Rat.mul_nonneg (by grind) (by grind)
  have a4 : 0 ≤ (K + c) * (F + f) := Rat.mul_nonneg (by grind) (by grind)
  constructor <;> grind
/-- |a b - c m| <= |a - c| B + K |b - m| -/
theorem mul_close {a b c m e f K B : Rat} (h1 : a - c ≤ e ∧ -e ≤ a - c) (he : 0 ≤ e) (h2 : b ≤ B ∧ -B ≤ b) (hB : 0 ≤ B) (h3 : c ≤ K ∧ -K ≤ c) (h4 : b - m ≤ f ∧ -f ≤ b - m) (hf : 0 ≤ f) :
    a * b - c * m ≤ e * B + K * f ∧ -(e * B + K * f) ≤ a * b - c * m := by
  have p1 := prod_le h1 h2 hB
  have p2 := prod_le h3 h4 hf
  have e0 : a * b - c * m = (a - c) * b + c * (b - m) := by grind
  rw [e0]
  constructor <;> grind
theorem near_abs {v r B : Rat} (h : Near v r) (hB : v ≤ B ∧ -B ≤ v) : r - v ≤ B * (1 / 4503599627370496) + 1 / 1267650600228229401496703205376 ∧ -(B * (1 / 4503599627370496) + 1 / 1267650600228229401496703205376) ≤ r - v := by
  unfold Near at h
  rw [q52'] at h
  have t := tiny'
  have hab : ab v ≤ B := by rcases ab_cases v with ⟨_, e⟩ | ⟨_, e⟩ <;> rw [e] <;> grind
  constructor <;> grind
theorem half_fin : fin 4602678819172646912 = true ∧ R 4602678819172646912 = 1 / 2 := by
  have h : double.read 4602678819172646912 = .number false 4503599627370496 (-53) := by decide +kernel
  refine ⟨fin_num h, ?_⟩
  unfold R
  rw [h]
  decide +kernel
set_option maxHeartbeats 1000000 in
/-- one coordinate's sum, one segment on -/
theorem coord_step {X l xb xb' : Nat} {x x' : Int} {lam Lt S ka : Rat} (hX : fin X = true) (hl : fin l = true) (zx : Z xb x) (zx' : Z xb' x') (bx : -64 ≤ x ∧ x ≤ 64) (bx' : -64 ≤ x' ∧ x' ≤ 64)
    (h1 : 1 / 2 ≤ lam) (h2 : lam ≤ Lt) (h3 : Lt ≤ 1000000) (r1 : R l ≤ lam * (1 + 1 / 562949953421312)) (r2 : lam ≤ R l * (1 + 1 / 562949953421312))
    (k1 : R X - S ≤ ka ∧ -ka ≤ R X - S) (k2 : ka ≤ Lt) (s1 : S ≤ 64 * Lt ∧ -(64 * Lt) ≤ S) :
    ∃ e c t X', floatBits .add .f64 xb xb' = some e ∧ floatBits .mul .f64 4602678819172646912 e = some c ∧ floatBits .mul .f64 c l = some t ∧ floatBits .add .f64 X t = some X' ∧ fin X' = true ∧
      R X' - (S + ((x + x' : Int) : Rat) / 2 * lam) ≤ ka + Lt * (1 / 549755813888) ∧ -(ka + Lt * (1 / 549755813888)) ≤ R X' - (S + ((x + x' : Int) : Rat) / 2 * lam) := by
  obtain ⟨e, e1, ze⟩ := Z.add zx zx' (by omega)
  have b1 : ((x + x' : Int) : Rat) ≤ 128 := by have := Rat.intCast_le_intCast.2 (show x + x' ≤ 128 by omega); simpa using this
  have b2 : (-128 : Rat) ≤ ((x + x' : Int) : Rat) := by have := Rat.intCast_le_intCast.2 (show -128 ≤ x + x' by omega); simpa using this
  generalize hy : ((x + x' : Int) : Rat) = y at *
  have hR : R e = y := by rw [ze.2, hy]
  have hhv : R 4602678819172646912 * R e = y / 2 := by rw [half_fin.2, hR]; grind
  have cab : ∀ v B : Rat, v ≤ B → -B ≤ v → B < 1267650600228229401496703205376 → ab v < two 1023 := fun v B g1 g2 g3 => by
    rcases ab_cases v with ⟨_, q⟩ | ⟨_, q⟩ <;> rw [q] <;> exact big' (by grind) (by decide)
  obtain ⟨c, e2, fc, nc⟩ := mul_near half_fin.1 ze.1 (by rw [hhv]; exact cab _ 64 (by grind) (by grind) (by grind))
  rw [hhv] at nc
  have nc' := near_abs (B := 64) nc ⟨by grind, by grind⟩
  have l0 : 0 ≤ R l := by grind
  have l2 : R l ≤ lam * 2 := by grind
  have pc := prod_le (c := R c) (f := R l) (K := 65) (F := lam * 2) ⟨by grind, by grind⟩ ⟨by grind, by grind⟩ (by grind)
  obtain ⟨t, e3, ft, nt⟩ := mul_near fc hl (cab _ (65 * (lam * 2)) (by grind) (by grind) (by grind))
  have nt' := near_abs nt pc
  have mc := mul_close (a := R c) (b := R l) (c := y / 2) (m := lam) (e := 1 / 35184372088832) (f := lam * (1 / 281474976710656)) (K := 64) (B := lam * 2) ⟨by grind, by grind⟩ (by grind) ⟨by grind, by grind⟩ (by grind) ⟨by grind, by grind⟩ ⟨by grind, by grind⟩ (by grind)
  obtain ⟨X', e4, fX, nX⟩ := add_near hX ft (cab _ (300 * Lt) (by grind) (by grind) (by grind))
  have nX' := near_abs (B := 300 * Lt) nX ⟨by grind, by grind⟩
  refine ⟨e, c, t, X', e1, e2, e3, e4, fX, ?_, ?_⟩ <;> grind
theorem len_step {T l : Nat} {lam Lt S ka : Rat} (hT : fin T = true) (hl : fin l = true) (h1 : 1 / 2 ≤ lam) (h2 : lam ≤ Lt) (h3 : Lt ≤ 1000000) (r1 : R l ≤ lam * (1 + 1 / 562949953421312)) (r2 : lam ≤ R l * (1 + 1 / 562949953421312))
    (k1 : R T - S ≤ ka ∧ -ka ≤ R T - S) (k2 : ka ≤ Lt) (s1 : 0 ≤ S) (s2 : S ≤ Lt) :
    ∃ T', floatBits .add .f64 T l = some T' ∧ fin T' = true ∧ R T' - (S + lam) ≤ ka + Lt * (1 / 549755813888) ∧ -(ka + Lt * (1 / 549755813888)) ≤ R T' - (S + lam) := by
  have cab : ∀ v B : Rat, v ≤ B → -B ≤ v → B < 1267650600228229401496703205376 → ab v < two 1023 := fun v B g1 g2 g3 => by
    rcases ab_cases v with ⟨_, q⟩ | ⟨_, q⟩ <;> rw [q] <;> exact big' (by grind) (by decide)
  obtain ⟨T', e4, fX, nX⟩ := add_near hT hl (cab _ (300 * Lt) (by grind) (by grind) (by grind))
  have nX' := near_abs (B := 300 * Lt) nX ⟨by grind, by grind⟩
  refine ⟨T', e4, fX, ?_, ?_⟩ <;> grind
end Go.Fr
set_option linter.unusedVariables false
set_option linter.unusedSimpArgs false
namespace Go.Proofs.YtinbkonmlgediaaGreat
open Go.RowKit Go.Fl Go.Sl Go.Pg Go.Ch Go.Kf Go.Fr Ieee
def In64 (p : Int × Int) : Prop := -64 ≤ p.1 ∧ p.1 ≤ 64 ∧ -64 ≤ p.2 ∧ p.2 ≤ 64
def sqD (p q : Int × Int) : Int := (q.1 - p.1) * (q.1 - p.1) + (q.2 - p.2) * (q.2 - p.2)
theorem sq_nn (a : Int) : 0 ≤ a * a := by
  rcases Int.le_total 0 a with h | h
  · exact Int.mul_nonneg h h
  · exact Int.mul_nonneg_of_nonpos_of_nonpos h h
theorem sqD_symm (p q : Int × Int) : sqD p q = sqD q p := by
  unfold sqD
  rw [show q.1 - p.1 = -(p.1 - q.1) by omega, show q.2 - p.2 = -(p.2 - q.2) by omega, Int.neg_mul_neg, Int.neg_mul_neg]
theorem sqD_nn (p q : Int × Int) : 0 ≤ sqD p q := by unfold sqD; have := sq_nn (q.1 - p.1); have := sq_nn (q.2 - p.2); omega
theorem sqD_pos {p q : Int × Int} (h : p ≠ q) : 1 ≤ sqD p q := by
  have h1 := sq_nn (q.1 - p.1)
  have h2 := sq_nn (q.2 - p.2)
  by_cases hx : q.1 - p.1 = 0
  · by_cases hy : q.2 - p.2 = 0
    · exact absurd (Prod.ext (by omega) (by omega)) h
    · unfold sqD
      have : (q.2 - p.2) * (q.2 - p.2) ≠ 0 := Int.mul_ne_zero hy hy
      omega
  · unfold sqD
    have : (q.1 - p.1) * (q.1 - p.1) ≠ 0 := Int.mul_ne_zero hx hx
    omega
theorem sqD_self (p : Int × Int) : sqD p p = 0 := by unfold sqD; simp
theorem sqD_top {p q : Int × Int} (hp : In64 p) (hq : In64 q) : sqD p q ≤ 32768 := by
  obtain ⟨h1, h2, h3, h4⟩ := hp
  obtain ⟨k1, k2, k3, k4⟩ := hq
  have key : ∀ a : Int, -128 ≤ a → a ≤ 128 → a * a ≤ 16384 := fun a g1 g2 => by
    have : (a * a).natAbs ≤ 128 * 128 := by rw [Int.natAbs_mul]; exact Nat.mul_le_mul (by omega) (by omega)
    have := sq_nn a
    omega
  have := key (q.1 - p.1) (by omega) (by omega)
  have := key (q.2 - p.2) (by omega) (by omega)
  unfold sqD
  omega
def lam (p q : Int × Int) : Rat := rootR (sqD p q)
def midX (p q : Int × Int) : Rat := ((p.1 + q.1 : Int) : Rat) / 2 * lam p q
def midY (p q : Int × Int) : Rat := ((p.2 + q.2 : Int) : Rat) / 2 * lam p q
theorem lam_symm (p q : Int × Int) : lam p q = lam q p := by unfold lam; rw [sqD_symm]
theorem midX_symm (p q : Int × Int) : midX p q = midX q p := by unfold midX; rw [lam_symm, Int.add_comm]
theorem midY_symm (p q : Int × Int) : midY p q = midY q p := by unfold midY; rw [lam_symm, Int.add_comm]
theorem lam_len {p q : Int × Int} (hp : In64 p) (hq : In64 q) : Len (sqD p q) (lam p q) := rootR_len (sqD_nn p q) (by have := sqD_top hp hq; omega)
theorem lam_self (p : Int × Int) : lam p p = 0 := by
  have h := rootR_len (N := sqD p p) (by rw [sqD_self]; omega) (by rw [sqD_self]; omega)
  rcases h with ⟨_, h⟩ | ⟨h, _⟩
  · exact h
  · rw [sqD_self] at h; omega
theorem lam_bd {p q : Int × Int} (hp : In64 p) (hq : In64 q) : 0 ≤ lam p q ∧ lam p q ≤ 200 := by
  refine ⟨?_, len_top (sqD_top hp hq) (lam_len hp hq)⟩
  rcases lam_len hp hq with ⟨_, h⟩ | ⟨_, h, _⟩
  · rw [h]; exact Rat.le_refl
  · grind
theorem lam_ge {p q : Int × Int} (hp : In64 p) (hq : In64 q) (h : p ≠ q) : 1 / 2 ≤ lam p q := len_half (sqD_pos h) (lam_len hp hq)
theorem half_bd {x y : Int} (h : -64 ≤ x ∧ x ≤ 64) (h' : -64 ≤ y ∧ y ≤ 64) : ((x + y : Int) : Rat) / 2 ≤ 64 ∧ -64 ≤ ((x + y : Int) : Rat) / 2 := by
  have b1 : ((x + y : Int) : Rat) ≤ 128 := by have := Rat.intCast_le_intCast.2 (show x + y ≤ 128 by omega); simpa using this
  have b2 : (-128 : Rat) ≤ ((x + y : Int) : Rat) := by have := Rat.intCast_le_intCast.2 (show -128 ≤ x + y by omega); simpa using this
  constructor <;> grind
theorem mid_bd {p q : Int × Int} (hp : In64 p) (hq : In64 q) : (midX p q ≤ 64 * lam p q ∧ -(64 * lam p q) ≤ midX p q) ∧ midY p q ≤ 64 * lam p q ∧ -(64 * lam p q) ≤ midY p q := by
  have hl := (lam_bd hp hq).1
  obtain ⟨h1, h2, h3, h4⟩ := hp
  obtain ⟨k1, k2, k3, k4⟩ := hq
  have a := half_bd (x := p.1) (y := q.1) ⟨by omega, by omega⟩ ⟨by omega, by omega⟩
  have b := half_bd (x := p.2) (y := q.2) ⟨by omega, by omega⟩ ⟨by omega, by omega⟩
  unfold midX midY
  exact ⟨prod_le a ⟨Rat.le_refl, by grind⟩ hl, prod_le b ⟨Rat.le_refl, by grind⟩ hl⟩
/-- one segment added to the sums -/
def StepC (p q : Pl) (s s' : Nat × Nat × Nat) : Prop := ∃ u v a b c l e cx tx f cy ty, Dst p.x p.y q.x q.y u v a b c l ∧
  floatBits .add .f64 p.x q.x = some e ∧ floatBits .mul .f64 4602678819172646912 e = some cx ∧ floatBits .mul .f64 cx l = some tx ∧ floatBits .add .f64 s.1 tx = some s'.1 ∧
  floatBits .add .f64 p.y q.y = some f ∧ floatBits .mul .f64 4602678819172646912 f = some cy ∧ floatBits .mul .f64 cy l = some ty ∧ floatBits .add .f64 s.2.1 ty = some s'.2.1 ∧ floatBits .add .f64 s.2.2 l = some s'.2.2
structure RunC (pts : List (Int × Int)) (st : Nat → Nat × Nat × Nat) : Prop where
  t0 : st 0 = (0, 0, 0)
  step : ∀ i (h : i + 1 < pts.length), (pts[i] = pts[i + 1] → st (i + 1) = st i) ∧ (pts[i] ≠ pts[i + 1] → StepC (ptP pts[i]) (ptP pts[i + 1]) (st i) (st (i + 1)))
def ptAt (pts : List (Int × Int)) (i : Nat) : Int × Int := pts.getD i (0, 0)
def sumOf (f : Int × Int → Int × Int → Rat) (pts : List (Int × Int)) (m : Nat) : Rat := sumN (fun i => f (ptAt pts i) (ptAt pts (i + 1))) m
theorem dst_ {p q : Int × Int} (hp : In64 p) (hq : In64 q) : ∃ u v a b s l, Dst (ptP p).x (ptP p).y (ptP q).x (ptP q).y u v a b s l ∧ fin l = true ∧ Len (sqD p q) (R l) := by
  obtain ⟨x, y⟩ := p
  obtain ⟨x', y'⟩ := q
  obtain ⟨h1, h2, h3, h4⟩ := hp
  obtain ⟨k1, k2, k3, k4⟩ := hq
  simp only at h1 h2 h3 h4 k1 k2 k3 k4
  simp only [ptP]
  obtain ⟨u, d1, u1⟩ := Z.sub (Z.ofInt x' (by omega)) (Z.ofInt x (by omega)) (by omega)
  obtain ⟨v, d2, v1⟩ := Z.sub (Z.ofInt y' (by omega)) (Z.ofInt y (by omega)) (by omega)
  obtain ⟨a, b, s, l, hV, hf, hL, _⟩ := vec_ u1 v1 (by omega) (by omega)
  exact ⟨u, v, a, b, s, l, ⟨d1, d2, hV⟩, hf, hL⟩
def NearTo (x : Nat) (v e : Rat) : Prop := fin x = true ∧ R x - v ≤ e ∧ -e ≤ R x - v
set_option maxHeartbeats 1000000 in
theorem runC_ (pts : List (Int × Int)) (m : Nat) (hm : pts.length = m + 1) (h2 : m ≤ 199) (hp : ∀ p ∈ pts, In64 p) :
    ∃ st, RunC pts st ∧ NearTo (st m).1 (sumOf midX pts m) (sumOf lam pts m * (1 / 2147483648)) ∧ NearTo (st m).2.1 (sumOf midY pts m) (sumOf lam pts m * (1 / 2147483648)) ∧ NearTo (st m).2.2 (sumOf lam pts m) (sumOf lam pts m * (1 / 2147483648)) := by
  obtain ⟨z1, z2⟩ := R_zero false 0
  have z0 : double.nearest false 0 0 = 0 := by decide +kernel
  rw [z0] at z1 z2
  have hA : ∀ i, i ≤ m → In64 (ptAt pts i) := fun i hi => by
    unfold ptAt
    rw [List.getD_eq_getElem?_getD, List.getElem?_eq_getElem (by omega)]
    exact hp _ (List.getElem_mem _)
  have hE : ∀ i (h : i < pts.length), pts[i] = ptAt pts i := fun i h => by
    unfold ptAt
    rw [List.getD_eq_getElem?_getD, List.getElem?_eq_getElem h]; rfl
  obtain ⟨P, hP⟩ : ∃ P, ptAt pts = P := ⟨_, rfl⟩
  unfold sumOf
  rw [hP] at hA hE ⊢
  obtain ⟨g, hg⟩ : ∃ g : Nat → Rat, (fun i => lam (P i) (P (i + 1))) = g := ⟨_, rfl⟩
  obtain ⟨fx, hfx⟩ : ∃ g : Nat → Rat, (fun i => midX (P i) (P (i + 1))) = g := ⟨_, rfl⟩
  obtain ⟨fy, hfy⟩ : ∃ g : Nat → Rat, (fun i => midY (P i) (P (i + 1))) = g := ⟨_, rfl⟩
  rw [hg, hfx, hfy]
  have eg : ∀ i, g i = lam (P i) (P (i + 1)) := fun i => by rw [← hg]
  have ex : ∀ i, fx i = midX (P i) (P (i + 1)) := fun i => by rw [← hfx]
  have ey : ∀ i, fy i = midY (P i) (P (i + 1)) := fun i => by rw [← hfy]
  have hg0 : ∀ i, i < m → 0 ≤ g i := fun i hi => by rw [eg]; exact (lam_bd (hA i (by omega)) (hA (i + 1) (by omega))).1
  have hL0 : 0 ≤ sumN g m := sumN_nn m hg0
  have hLt : sumN g m ≤ 1000000 := by
    have key : ∀ n, n ≤ m → sumN g n ≤ (n : Rat) * 200 := by
      intro n
      induction n with
      | zero => intro _; simp [sumN]
      | succ n ih =>
        intro hn
        have h1 := ih (by omega)
        have h3 := (lam_bd (hA n (by omega)) (hA (n + 1) (by omega))).2
        rw [← eg] at h3
        rw [sumN, show ((n + 1 : Nat) : Rat) = n + 1 by simp [Rat.natCast_add]]
        grind
    have h1 := key m (Nat.le_refl _)
    have h3 : (m : Rat) ≤ 199 := by have := nle h2; simpa using this
    grind
  have hax : ∀ n, n ≤ m → sumN fx n ≤ 64 * sumN g n ∧ -(64 * sumN g n) ≤ sumN fx n := fun n hn => sumN_abs n fun i hi => by rw [ex, eg]; exact (mid_bd (hA i (by omega)) (hA (i + 1) (by omega))).1
  have hay : ∀ n, n ≤ m → sumN fy n ≤ 64 * sumN g n ∧ -(64 * sumN g n) ≤ sumN fy n := fun n hn => sumN_abs n fun i hi => by rw [ey, eg]; exact (mid_bd (hA i (by omega)) (hA (i + 1) (by omega))).2
  obtain ⟨Lt, hLe⟩ : ∃ Lt, sumN g m = Lt := ⟨_, rfl⟩
  have hle : ∀ n, n ≤ m → sumN g n ≤ Lt := fun n hn => by rw [← hLe]; exact sumN_le hg0 n hn
  have hge : ∀ i, i < m → g i ≤ Lt := fun i hi => by rw [← hLe]; exact sumN_ge hg0 i hi
  have hn0 : ∀ n, n ≤ m → 0 ≤ sumN g n := fun n hn => sumN_nn n fun i hi => hg0 i (by omega)
  rw [hLe] at hL0 hLt ⊢
  obtain ⟨st, a, c, d⟩ := exists_seq (σ := Nat × Nat × Nat) (I := fun i s => NearTo s.1 (sumN fx i) ((i : Rat) * (Lt * (1 / 549755813888))) ∧ NearTo s.2.1 (sumN fy i) ((i : Rat) * (Lt * (1 / 549755813888))) ∧ NearTo s.2.2 (sumN g i) ((i : Rat) * (Lt * (1 / 549755813888))))
    (St := fun i s s' => (P i = P (i + 1) → s' = s) ∧ (P i ≠ P (i + 1) → StepC (ptP (P i)) (ptP (P (i + 1))) s s')) (0, 0, 0)
    (by
      have h0 : NearTo 0 0 ((0 : Nat) * (Lt * (1 / 549755813888))) := ⟨z1, by rw [z2]; simp; grind, by rw [z2]; simp; grind⟩
      exact ⟨h0, h0, h0⟩) m (fun i hi s hs => by
      obtain ⟨X, Y, T⟩ := s
      obtain ⟨⟨fX, x1, x2⟩, ⟨fY, y1, y2⟩, ⟨fT, t1, t2⟩⟩ := hs
      simp only at fX x1 x2 fY y1 y2 fT t1 t2
      have hir : (i : Rat) ≤ 199 := by have := nle (show i ≤ 199 by omega); simpa using this
      have hi0 := nat_nn i
      have hi1 : ((i + 1 : Nat) : Rat) = i + 1 := by simp [Rat.natCast_add]
      have hia : In64 (P i) := hA i (by omega)
      have hib : In64 (P (i + 1)) := hA (i + 1) (by omega)
      have hth : 0 ≤ Lt * (1 / 549755813888) := by grind
      have hka : (i : Rat) * (Lt * (1 / 549755813888)) ≤ 199 * (Lt * (1 / 549755813888)) := Rat.mul_le_mul_of_nonneg_right hir hth
      have hkn : (i : Rat) * (Lt * (1 / 549755813888)) + Lt * (1 / 549755813888) = ((i + 1 : Nat) : Rat) * (Lt * (1 / 549755813888)) := by rw [hi1]; grind
      generalize hka' : (i : Rat) * (Lt * (1 / 549755813888)) = ka at *
      rw [← hkn]
      by_cases he : P i = P (i + 1)
      · have q : g i = 0 := by rw [eg, ← he, lam_self]
        have qx : fx i = 0 := by rw [ex, ← he]; unfold midX; rw [lam_self]; simp
        have qy : fy i = 0 := by rw [ey, ← he]; unfold midY; rw [lam_self]; simp
        refine ⟨(X, Y, T), ⟨⟨fX, ?_, ?_⟩, ⟨fY, ?_, ?_⟩, ⟨fT, ?_, ?_⟩⟩, fun _ => rfl, fun h => absurd he h⟩ <;> simp only [sumN, q, qx, qy] <;> grind
      · obtain ⟨u, v, a, b, s, l, hD, hf, hL⟩ := dst_ hia hib
        have hlm := lam_len hia hib
        have hN := sqD_pos he
        obtain ⟨r1, r3, r4⟩ := len_rel hN hL hlm
        obtain ⟨r2, _, _⟩ := len_rel hN hlm hL
        have g1 : 1 / 2 ≤ lam (P i) (P (i + 1)) := lam_ge hia hib he
        have g2 := hge i hi
        rw [eg] at g2
        have sx := hax i (by omega)
        have sy := hay i (by omega)
        have sl := hle i (by omega)
        have sn := hn0 i (by omega)
        obtain ⟨h1, h2', h3, h4⟩ := id hia
        obtain ⟨k1, k2, k3, k4⟩ := id hib
        obtain ⟨e, cx, tx, X', e1, e2, e3, e4, fX', nx, nx'⟩ := coord_step fX hf (Z.ofInt (P i).1 (by omega)) (Z.ofInt (P (i + 1)).1 (by omega)) ⟨h1, h2'⟩ ⟨k1, k2⟩ g1 g2 hLt r1 r2 ⟨x1, x2⟩ (by grind) ⟨by grind, by grind⟩
        obtain ⟨f, cy, ty, Y', e5, e6, e7, e8, fY', ny, ny'⟩ := coord_step fY hf (Z.ofInt (P i).2 (by omega)) (Z.ofInt (P (i + 1)).2 (by omega)) ⟨h3, h4⟩ ⟨k3, k4⟩ g1 g2 hLt r1 r2 ⟨y1, y2⟩ (by grind) ⟨by grind, by grind⟩
        obtain ⟨T', e9, fT', nt, nt'⟩ := len_step fT hf g1 g2 hLt r1 r2 ⟨t1, t2⟩ (by grind) sn sl
        refine ⟨(X', Y', T'), ⟨⟨fX', ?_, ?_⟩, ⟨fY', ?_, ?_⟩, ⟨fT', ?_, ?_⟩⟩, fun h => absurd h he, fun _ => ⟨u, v, a, b, s, l, e, cx, tx, f, cy, ty, hD, e1, e2, e3, e4, e5, e6, e7, e8, e9⟩⟩
        · rw [sumN, ex]; exact nx
        · rw [sumN, ex]; exact nx'
        · rw [sumN, ey]; exact ny
        · rw [sumN, ey]; exact ny'
        · rw [sumN, eg]; exact nt
        · rw [sumN, eg]; exact nt')
  have hmr : (m : Rat) ≤ 199 := by have := nle h2; simpa using this
  have hth : 0 ≤ Lt * (1 / 549755813888) := by grind
  have hka : (m : Rat) * (Lt * (1 / 549755813888)) ≤ 199 * (Lt * (1 / 549755813888)) := Rat.mul_le_mul_of_nonneg_right hmr hth
  obtain ⟨⟨f1, a1, a2⟩, ⟨f2, b1, b2⟩, ⟨f3, c1, c2⟩⟩ := c m (Nat.le_refl _)
  refine ⟨st, ⟨a, fun i h => ?_⟩, ⟨f1, by grind, by grind⟩, ⟨f2, by grind, by grind⟩, ⟨f3, by grind, by grind⟩⟩
  have := d i (by omega)
  rw [hE i (by omega), hE (i + 1) h]
  exact this
end Go.Proofs.YtinbkonmlgediaaGreat
set_option linter.unusedVariables false
set_option linter.unusedSimpArgs false
namespace Go.Proofs.YtinbkonmlgediaaGreat
open Go.RowKit Go.Fl Go.Sl Go.Pg Go.Ch Go.Kf
theorem scale_ {x y s u v : Nat} (h1 : floatBits .mul .f64 x s = some u) (h2 : floatBits .mul .f64 y s = some v) (w : World) : Calls Tryz.prog 72 #[.agg #[.float .f64 x, .float .f64 y], .float .f64 s] w (One w (.agg #[.float .f64 u, .float .f64 v])) := by
  have v1 := fun w => opV_some h1 w
  have v2 := fun w => opV_some h2 w
  have n1 := opN_some h1
  have n2 := opN_some h2
  have hz := World.drewN_zero
  go_enter Tryz.func72, Tryz.ntmps72
  go_wp2
  refine bodyPost_ret (v := .agg #[.float .f64 u, .float .f64 v]) (by simp [results, Tryz.results72, go_sem, *]) rfl ⟨rfl, ?_⟩
  with_reducible (repeat first | exact Kx.r _ | assumption | refine Kx.a ?_ _ | refine Kx.d ?_ | refine Kx.e ?_ _ | refine Kx.s (by simp <;> omega) ?_ _ | refine Kx.t ?_ (by assumption))
theorem addXY_ {x y a b u v : Nat} (h1 : floatBits .add .f64 x a = some u) (h2 : floatBits .add .f64 y b = some v) (w : World) : Calls Tryz.prog 71 #[.agg #[.float .f64 x, .float .f64 y], .agg #[.float .f64 a, .float .f64 b]] w (One w (.agg #[.float .f64 u, .float .f64 v])) := by
  have v1 := fun w => opV_some h1 w
  have v2 := fun w => opV_some h2 w
  have n1 := opN_some h1
  have n2 := opN_some h2
  have hz := World.drewN_zero
  go_enter Tryz.func71, Tryz.ntmps71
  go_wp2
  refine bodyPost_ret (v := .agg #[.float .f64 u, .float .f64 v]) (by simp [results, Tryz.results71, go_sem, *]) rfl ⟨rfl, ?_⟩
  with_reducible (repeat first | exact Kx.r _ | assumption | refine Kx.a ?_ _ | refine Kx.d ?_ | refine Kx.e ?_ _ | refine Kx.s (by simp <;> omega) ?_ _ | refine Kx.t ?_ (by assumption))
theorem segLen_ {x y a b u v p q s l : Nat} (h : Dst x y a b u v p q s l) (w : World) : Calls Tryz.prog 69 #[.agg #[.float .f64 x, .float .f64 y, .float .f64 a, .float .f64 b]] w (One w (.float .f64 l)) := by
  go_enter Tryz.func69, Tryz.ntmps69
  go_wp2_with fail
  refine (distTo_ h _).mono ?_
  rintro e w2 ⟨rfl, hb2⟩
  go_wp2_with fail
  go_ret
  refine ⟨rfl, ?_⟩
  with_reducible (repeat first | exact Kx.r _ | assumption | refine Kx.a ?_ _ | refine Kx.d ?_ | refine Kx.e ?_ _ | refine Kx.s (by simp <;> omega) ?_ _ | refine Kx.t ?_ (by assumption))
theorem segMid_ {x y a b e c f d : Nat} (h1 : floatBits .add .f64 x a = some e) (h2 : floatBits .mul .f64 4602678819172646912 e = some c) (h3 : floatBits .add .f64 y b = some f) (h4 : floatBits .mul .f64 4602678819172646912 f = some d) (w : World) : Calls Tryz.prog 70 #[.agg #[.float .f64 x, .float .f64 y, .float .f64 a, .float .f64 b]] w (One w (.agg #[.float .f64 c, .float .f64 d])) := by
  have v1 := fun w => opV_some h1 w
  have v2 := fun w => opV_some h2 w
  have v3 := fun w => opV_some h3 w
  have v4 := fun w => opV_some h4 w
  have n1 := opN_some h1
  have n2 := opN_some h2
  have n3 := opN_some h3
  have n4 := opN_some h4
  have hz := World.drewN_zero
  go_enter Tryz.func70, Tryz.ntmps70
  go_wp2
  refine bodyPost_ret (v := .agg #[.float .f64 c, .float .f64 d]) (by simp [results, Tryz.results70, go_sem, *]) rfl ⟨rfl, ?_⟩
  with_reducible (repeat first | exact Kx.r _ | assumption | refine Kx.a ?_ _ | refine Kx.d ?_ | refine Kx.e ?_ _ | refine Kx.s (by simp <;> omega) ?_ _ | refine Kx.t ?_ (by assumption))
/-- a segment's block that was made at B or later -/
def LineF (B : Nat) (k : Nat) (v : Value) (w : World) : Prop := k = 8 → ∃ g, v = .pointer (some ⟨g, 0, none⟩) ∧ B ≤ g ∧ Blk w g 112 [.float .f64 0, .float .f64 0, .float .f64 0, .float .f64 0]
theorem linePre (B : Nat) : Stab.Pre Stab.Keeps (LineF B) :=
  ⟨Stab.Keeps.refl, Stab.Keeps.trans, fun k v w w' hk hF e => by
    obtain ⟨g, h1, h2, h3⟩ := hF e
    exact ⟨g, h1, h2, h3.keep hk⟩⟩
/-- the segment up to place i -/
def SegPost (w : World) (p q : Pl) (same : Bool) (e : Ending) (w' : World) : Prop := e = .returned (.tuple #[.agg #[.float .f64 p.x, .float .f64 p.y, .float .f64 q.x, .float .f64 q.y], .bool (!same)]) ∧ Stab.Keeps w w'
set_option maxRecDepth 100000 in
set_option maxHeartbeats 2000000 in
theorem getLine0_ (d : Nat) (a : Option Addr) (n cap : Nat) (w : World) : Calls Tryz.prog 68 #[.agg #[.int .u8 d, .slice a n cap], .int .i64 0] w (One w (.tuple #[.agg #[.float .f64 0, .float .f64 0, .float .f64 0, .float .f64 0], .bool false])) := by
  go_enter Tryz.func68, Tryz.ntmps68
  go_wp2_with fail
  refine bodyPost_ret (v := .tuple #[.agg #[.float .f64 0, .float .f64 0, .float .f64 0, .float .f64 0], .bool false]) (by simp [results, Tryz.results68, go_sem, *]) rfl ⟨rfl, ?_⟩
  with_reducible (repeat first | exact Kx.r _ | assumption | refine Kx.a ?_ _ | refine Kx.d ?_ | refine Kx.e ?_ _ | refine Kx.s (by simp <;> omega) ?_ _ | refine Kx.t ?_ (by assumption))
set_option maxRecDepth 100000 in
set_option maxHeartbeats 2000000 in
theorem getLine_ {F : Nat → Prop} (d : Nat) (ps : List Pl) (a : Option Addr) (n cap i I : Nat) (P0 P1 : Pl) (w : World) (hs : SeqAt w F d ps a n cap) (hI : i + 1 = I) (h0 : ps[i]? = some P0) (h1 : ps[I]? = some P1) (same : Bool)
    (hE : if same then FloatKind.f64.format.order P0.x P1.x = some .eq ∧ FloatKind.f64.format.order P0.y P1.y = some .eq else (FloatKind.f64.format.order P0.x P1.x == some .eq) = false ∨ (FloatKind.f64.format.order P0.y P1.y == some .eq) = false) :
    Calls Tryz.prog 68 #[.agg #[.int .u8 d, .slice a n cap], .int .i64 I] w (SegPost w P0 P1 same) := by
  obtain ⟨hi0, e0⟩ := List.getElem?_eq_some_iff.1 h0
  obtain ⟨hi1, e1⟩ := List.getElem?_eq_some_iff.1 h1
  have hib : I ≤ 1000000 := by have := hs.sm; omega
  have hG0 := fun w' (hk : Stab.Keeps w w') => getXY_ d ps a n cap i w' (hs.keep hk) hi0
  have hG1 := fun w' (hk : Stab.Keeps w w') => getXY_ d ps a n cap I w' (hs.keep hk) hi1
  rw [e0] at hG0
  rw [e1] at hG1
  have hk1 : Stab.Keeps w ((w.alloc (.cells #[.int .u8 d, .slice a n cap] 49)).alloc (.cells #[.float .f64 0, .float .f64 0, .float .f64 0, .float .f64 0] 112)) := by with_reducible (repeat first | exact Kx.r _ | assumption | refine Kx.a ?_ _ | refine Kx.d ?_ | refine Kx.e ?_ _ | refine Kx.s (by simp <;> omega) ?_ _ | refine Kx.t ?_ (by assumption))
  have hB : Blk ((w.alloc (.cells #[.int .u8 d, .slice a n cap] 49)).alloc (.cells #[.float .f64 0, .float .f64 0, .float .f64 0, .float .f64 0] 112)) w.heap.size 49 [.int .u8 d, .slice a n cap] := by with_reducible (repeat first | assumption | (refine Bx.n ⟨?_, ?_⟩ <;> focus (first | rfl | (simp; done) | omega)) | refine Bx.a ?_ _ | refine Bx.d ?_ | refine Bx.e ?_ _ | refine Bx.p (by first | omega | simp <;> omega) ?_)
  have hR : Blk ((w.alloc (.cells #[.int .u8 d, .slice a n cap] 49)).alloc (.cells #[.float .f64 0, .float .f64 0, .float .f64 0, .float .f64 0] 112)) (w.heap.size + 1) 112 [.float .f64 0, .float .f64 0, .float .f64 0, .float .f64 0] := by with_reducible (repeat first | assumption | (refine Bx.n ⟨?_, ?_⟩ <;> focus (first | rfl | (simp; done) | omega)) | refine Bx.a ?_ _ | refine Bx.d ?_ | refine Bx.e ?_ _ | refine Bx.p (by first | omega | simp <;> omega) ?_)
  have hne : ((I : Int) == 0) = false := by simp; omega
  have hsub : (I : Int) - 1 = (i : Int) := by omega
  obtain ⟨x0, y0, z0, m0⟩ := P0
  obtain ⟨x1, y1, z1, m1⟩ := P1
  simp only at hG0 hG1 hE
  unfold SegPost
  have HE := Lib.hid hE
  clear hE hs h0 h1 hi0 hi1 e0 e1 hI
  go_enter Tryz.func68, Tryz.ntmps68
  go_upto_region 3 with (fail)
  generalize ((w.alloc (.cells #[.int .u8 d, .slice a n cap] 49)).alloc (.cells #[.float .f64 0, .float .f64 0, .float .f64 0, .float .f64 0] 112)) = w1 at *
  have hl1 := hk1.size
  have g0 := hB.cell (i := 0) rfl
  have g1 := hB.cell (i := 1) rfl
  have gf := hB.free
  have gl := hB.lt
  have hwi : IntKind.i64.wrap ((I : Int) - 1) = (i : Int) := by rw [hsub]; exact IntWalk.i64_in _ (by omega)
  have hl1' : w.heap.size + 2 ≤ w1.heap.size := by have := hR.lt; omega
  refine Stab.keep_tail 9 (LineF w1.heap.size) (fun k => k == 8) (fun k => k == 3 || k == 6) (linePre _) (by kernel_rfl) (by kernel_rfl) fun hcx => ?_
  simp only [List.take_succ_cons, List.take_zero, List.drop_succ_cons, List.drop_zero]
  iterate 3 ((with_reducible refine Stab.quiet ?_ ?_ ?_ ?_); rfl; rfl; rfl; intro K hK; go_big_quiet_op; refine hK _ ?_; clear hK K)
  (with_reducible refine Stab.one ?_ ?_ ?_ ?_); rfl; rfl; rfl
  apply Exists.intro
  refine ⟨fun w1 hw1 => ?_, fun K hK => ?_⟩
  · go_simp
    (go_at_call 121; exact hG0 _ (Stab.Keeps.trans hk1 hw1))
  go_simp
  refine hK _ ?_
  clear hK K
  iterate 2 ((with_reducible refine Stab.quiet ?_ ?_ ?_ ?_); rfl; rfl; rfl; intro K hK; go_big_quiet_op; refine hK _ ?_; clear hK K)
  (with_reducible refine Stab.one ?_ ?_ ?_ ?_); rfl; rfl; rfl
  apply Exists.intro
  refine ⟨fun w1 hw1 => ?_, fun K hK => ?_⟩
  · go_simp
    (go_at_call 121; exact hG1 _ (Stab.Keeps.trans hk1 hw1))
  go_simp
  refine hK _ ?_
  clear hK K
  (with_reducible refine Stab.quiet ?_ ?_ ?_ ?_); rfl; rfl; rfl; intro K hK; go_big_quiet_op; refine hK _ ?_; clear hK K
  refine Stab.made rfl rfl (fun w3 hk3 => ?_) (fun v hv K hK => ?_)
  · go_simp
    have hge : w1.heap.size ≤ w3.heap.size := Below.size hk3.1
    refine ⟨by with_reducible (repeat first | exact Kx.r _ | assumption | refine Kx.a ?_ _ | refine Kx.d ?_ | refine Kx.e ?_ _ | refine Kx.s (by simp <;> omega) ?_ _ | refine Kx.t ?_ (by assumption)), fun _ => ⟨_, rfl, hge, by with_reducible (repeat first | assumption | (refine Bx.n ⟨?_, ?_⟩ <;> focus (first | rfl | (simp; done) | omega)) | refine Bx.a ?_ _ | refine Bx.d ?_ | refine Bx.e ?_ _ | refine Bx.p (by first | omega | simp <;> omega) ?_)⟩⟩
  obtain ⟨wv, _, _, hv⟩ := hv
  obtain ⟨g, rfl, hg, _⟩ := hv rfl
  go_simp
  refine hK _ ?_
  clear hK
  refine Stab.nil fun w' hw' hfs => ?_
  obtain ⟨g', he, _, hgB⟩ := Stab.setF_new (hfs 8) rfl
  cases he
  have hB' := hB.keep hw'
  have hR' := hR.keep hw'
  have hkw := Stab.Keeps.trans hk1 hw'
  clear hcx hfs g0 g1 gf gl hB hR hG0 hG1 hk1 hwi hw'
  have hgg : w.heap.size + 2 ≤ g := by omega
  have g0 := hgB.cell (i := 0) rfl
  have g1 := hgB.cell (i := 1) rfl
  have g2 := hgB.cell (i := 2) rfl
  have g3 := hgB.cell (i := 3) rfl
  have gf := hgB.free
  have gl := hgB.lt
  go_upto_region 4 with (fail)
  have hB4 := (((hgB.set 0 (.float .f64 x0)).set 1 (.float .f64 y0)).set 2 (.float .f64 x1)).set 3 (.float .f64 y1)
  simp only [List.set] at hB4
  have hR4 := (((hR'.past (a := ⟨g, 0, none⟩) (show w.heap.size + 1 ≠ g by omega) (.float .f64 x0)).past (a := ⟨g, 1, none⟩) (show w.heap.size + 1 ≠ g by omega) (.float .f64 y0)).past (a := ⟨g, 2, none⟩) (show w.heap.size + 1 ≠ g by omega) (.float .f64 x1)).past (a := ⟨g, 3, none⟩) (show w.heap.size + 1 ≠ g by omega) (.float .f64 y1)
  have hk4 : Stab.Keeps w ((((w'.setCell ⟨g, 0, none⟩ (.float .f64 x0)).setCell ⟨g, 1, none⟩ (.float .f64 y0)).setCell ⟨g, 2, none⟩ (.float .f64 x1)).setCell ⟨g, 3, none⟩ (.float .f64 y1)) := by
    have hgw : w.heap.size ≤ g := by omega
    with_reducible (repeat first | exact Kx.r _ | assumption | refine Kx.a ?_ _ | refine Kx.d ?_ | refine Kx.e ?_ _ | refine Kx.s (by simp <;> omega) ?_ _ | refine Kx.t ?_ (by assumption))
  generalize (((w'.setCell ⟨g, 0, none⟩ (.float .f64 x0)).setCell ⟨g, 1, none⟩ (.float .f64 y0)).setCell ⟨g, 2, none⟩ (.float .f64 x1)).setCell ⟨g, 3, none⟩ (.float .f64 y1) = w5 at *
  clear g0 g1 g2 g3 gf gl hgB hB' hR' hkw
  have g0 := hB4.cell (i := 0) rfl
  have g1 := hB4.cell (i := 1) rfl
  have g2 := hB4.cell (i := 2) rfl
  have g3 := hB4.cell (i := 3) rfl
  have gf := hB4.free
  have gl := hB4.lt
  have r0 := hR4.cell (i := 0) rfl
  have r1 := hR4.cell (i := 1) rfl
  have r2 := hR4.cell (i := 2) rfl
  have r3 := hR4.cell (i := 3) rfl
  have rf := hR4.free
  have rl := hR4.lt
  have hgne : g ≠ w.heap.size + 1 := by omega
  cases same with
  | true =>
    obtain ⟨e0, e1⟩ := HE.out
    go_region
    have hR6 := ((((hR4.set 0 (.float .f64 x0)).set 1 (.float .f64 y0)).set 2 (.float .f64 x1)).set 3 (.float .f64 y1)).drew
    have hk6 : Stab.Keeps w (((((w5.setCell ⟨w.heap.size + 1, 0, none⟩ (.float .f64 x0)).setCell ⟨w.heap.size + 1, 1, none⟩ (.float .f64 y0)).setCell ⟨w.heap.size + 1, 2, none⟩ (.float .f64 x1)).setCell ⟨w.heap.size + 1, 3, none⟩ (.float .f64 y1)).drew) := by with_reducible (repeat first | exact Kx.r _ | assumption | refine Kx.a ?_ _ | refine Kx.d ?_ | refine Kx.e ?_ _ | refine Kx.s (by simp <;> omega) ?_ _ | refine Kx.t ?_ (by assumption))
    simp only [List.set] at hR6
    generalize ((((w5.setCell ⟨w.heap.size + 1, 0, none⟩ (.float .f64 x0)).setCell ⟨w.heap.size + 1, 1, none⟩ (.float .f64 y0)).setCell ⟨w.heap.size + 1, 2, none⟩ (.float .f64 x1)).setCell ⟨w.heap.size + 1, 3, none⟩ (.float .f64 y1)).drew = w6 at *
    clear r0 r1 r2 r3 rf rl g0 g1 g2 g3 gf gl
    have r0 := hR6.cell (i := 0) rfl
    have r1 := hR6.cell (i := 1) rfl
    have r2 := hR6.cell (i := 2) rfl
    have r3 := hR6.cell (i := 3) rfl
    have rf := hR6.free
    have rl := hR6.lt
    go_wp2_with fail
    refine bodyPost_ret (v := .tuple #[.agg #[.float .f64 x0, .float .f64 y0, .float .f64 x1, .float .f64 y1], .bool false]) (by simp [results, Tryz.results68, go_sem, r0, r1, r2, r3, rf]) rfl ⟨rfl, hk6⟩
  | false =>
    rcases HE.out with e0 | e0
    · go_region
      have hR6 := ((((hR4.set 0 (.float .f64 x0)).set 1 (.float .f64 y0)).set 2 (.float .f64 x1)).set 3 (.float .f64 y1)).drew
      have hk6 : Stab.Keeps w (((((w5.setCell ⟨w.heap.size + 1, 0, none⟩ (.float .f64 x0)).setCell ⟨w.heap.size + 1, 1, none⟩ (.float .f64 y0)).setCell ⟨w.heap.size + 1, 2, none⟩ (.float .f64 x1)).setCell ⟨w.heap.size + 1, 3, none⟩ (.float .f64 y1)).drew) := by with_reducible (repeat first | exact Kx.r _ | assumption | refine Kx.a ?_ _ | refine Kx.d ?_ | refine Kx.e ?_ _ | refine Kx.s (by simp <;> omega) ?_ _ | refine Kx.t ?_ (by assumption))
      simp only [List.set] at hR6
      generalize ((((w5.setCell ⟨w.heap.size + 1, 0, none⟩ (.float .f64 x0)).setCell ⟨w.heap.size + 1, 1, none⟩ (.float .f64 y0)).setCell ⟨w.heap.size + 1, 2, none⟩ (.float .f64 x1)).setCell ⟨w.heap.size + 1, 3, none⟩ (.float .f64 y1)).drew = w6 at *
      clear r0 r1 r2 r3 rf rl g0 g1 g2 g3 gf gl
      have r0 := hR6.cell (i := 0) rfl
      have r1 := hR6.cell (i := 1) rfl
      have r2 := hR6.cell (i := 2) rfl
      have r3 := hR6.cell (i := 3) rfl
      have rf := hR6.free
      have rl := hR6.lt
      go_wp2_with fail
      refine bodyPost_ret (v := .tuple #[.agg #[.float .f64 x0, .float .f64 y0, .float .f64 x1, .float .f64 y1], .bool true]) (by simp [results, Tryz.results68, go_sem, r0, r1, r2, r3, rf]) rfl ⟨rfl, hk6⟩
    · cases e1 : FloatKind.f64.format.order x0 x1 == some .eq
      · go_region
        have hR6 := ((((hR4.set 0 (.float .f64 x0)).set 1 (.float .f64 y0)).set 2 (.float .f64 x1)).set 3 (.float .f64 y1)).drew
        have hk6 : Stab.Keeps w (((((w5.setCell ⟨w.heap.size + 1, 0, none⟩ (.float .f64 x0)).setCell ⟨w.heap.size + 1, 1, none⟩ (.float .f64 y0)).setCell ⟨w.heap.size + 1, 2, none⟩ (.float .f64 x1)).setCell ⟨w.heap.size + 1, 3, none⟩ (.float .f64 y1)).drew) := by with_reducible (repeat first | exact Kx.r _ | assumption | refine Kx.a ?_ _ | refine Kx.d ?_ | refine Kx.e ?_ _ | refine Kx.s (by simp <;> omega) ?_ _ | refine Kx.t ?_ (by assumption))
        simp only [List.set] at hR6
        generalize ((((w5.setCell ⟨w.heap.size + 1, 0, none⟩ (.float .f64 x0)).setCell ⟨w.heap.size + 1, 1, none⟩ (.float .f64 y0)).setCell ⟨w.heap.size + 1, 2, none⟩ (.float .f64 x1)).setCell ⟨w.heap.size + 1, 3, none⟩ (.float .f64 y1)).drew = w6 at *
        clear r0 r1 r2 r3 rf rl g0 g1 g2 g3 gf gl
        have r0 := hR6.cell (i := 0) rfl
        have r1 := hR6.cell (i := 1) rfl
        have r2 := hR6.cell (i := 2) rfl
        have r3 := hR6.cell (i := 3) rfl
        have rf := hR6.free
        have rl := hR6.lt
        go_wp2_with fail
        refine bodyPost_ret (v := .tuple #[.agg #[.float .f64 x0, .float .f64 y0, .float .f64 x1, .float .f64 y1], .bool true]) (by simp [results, Tryz.results68, go_sem, r0, r1, r2, r3, rf]) rfl ⟨rfl, hk6⟩
      · have e2 : FloatKind.f64.format.order x0 x1 = some .eq := by simpa using e1
        go_region
        have hR6 := ((((hR4.set 0 (.float .f64 x0)).set 1 (.float .f64 y0)).set 2 (.float .f64 x1)).set 3 (.float .f64 y1)).drew
        have hk6 : Stab.Keeps w (((((w5.setCell ⟨w.heap.size + 1, 0, none⟩ (.float .f64 x0)).setCell ⟨w.heap.size + 1, 1, none⟩ (.float .f64 y0)).setCell ⟨w.heap.size + 1, 2, none⟩ (.float .f64 x1)).setCell ⟨w.heap.size + 1, 3, none⟩ (.float .f64 y1)).drew) := by with_reducible (repeat first | exact Kx.r _ | assumption | refine Kx.a ?_ _ | refine Kx.d ?_ | refine Kx.e ?_ _ | refine Kx.s (by simp <;> omega) ?_ _ | refine Kx.t ?_ (by assumption))
        simp only [List.set] at hR6
        generalize ((((w5.setCell ⟨w.heap.size + 1, 0, none⟩ (.float .f64 x0)).setCell ⟨w.heap.size + 1, 1, none⟩ (.float .f64 y0)).setCell ⟨w.heap.size + 1, 2, none⟩ (.float .f64 x1)).setCell ⟨w.heap.size + 1, 3, none⟩ (.float .f64 y1)).drew = w6 at *
        clear r0 r1 r2 r3 rf rl g0 g1 g2 g3 gf gl
        have r0 := hR6.cell (i := 0) rfl
        have r1 := hR6.cell (i := 1) rfl
        have r2 := hR6.cell (i := 2) rfl
        have r3 := hR6.cell (i := 3) rfl
        have rf := hR6.free
        have rl := hR6.lt
        go_wp2_with fail
        refine bodyPost_ret (v := .tuple #[.agg #[.float .f64 x0, .float .f64 y0, .float .f64 x1, .float .f64 y1], .bool true]) (by simp [results, Tryz.results68, go_sem, r0, r1, r2, r3, rf]) rfl ⟨rfl, hk6⟩
theorem floatZ (n : Int) (h : -64 ≤ n ∧ n ≤ 64) : Go.Fr.Z (floatOfInt .f64 n) n := Go.Fr.Z.ofInt n (by omega)
theorem order_int {m n : Int} (hm : -64 ≤ m ∧ m ≤ 64) (hn : -64 ≤ n ∧ n ≤ 64) : FloatKind.f64.format.order (floatOfInt .f64 m) (floatOfInt .f64 n) = some .eq ↔ m = n := by
  have zm := floatZ m hm
  have zn := floatZ n hn
  have h := Go.Fr.order_val zm.1 zn.1
  rw [zm.2, zn.2] at h
  have e : FloatKind.f64.format = Ieee.double := rfl
  rw [e, h]
  constructor
  · intro h2
    by_cases h1 : (m : Rat) < n
    · rw [if_pos h1] at h2; cases h2
    · rw [if_neg h1] at h2
      by_cases h3 : (m : Rat) = n
      · exact Rat.intCast_inj.1 h3
      · rw [if_neg h3] at h2; cases h2
  · intro h2
    subst h2
    rw [if_neg (by grind), if_pos rfl]
theorem same_pt {p q : Int × Int} (hp : In64 p) (hq : In64 q) (b : Bool) (hb : b = decide (p = q)) : if b then FloatKind.f64.format.order (ptP p).x (ptP q).x = some .eq ∧ FloatKind.f64.format.order (ptP p).y (ptP q).y = some .eq else (FloatKind.f64.format.order (ptP p).x (ptP q).x == some .eq) = false ∨ (FloatKind.f64.format.order (ptP p).y (ptP q).y == some .eq) = false := by
  obtain ⟨x, y⟩ := p
  obtain ⟨u, v⟩ := q
  obtain ⟨h1, h2, h3, h4⟩ := hp
  obtain ⟨k1, k2, k3, k4⟩ := hq
  simp only at h1 h2 h3 h4 k1 k2 k3 k4
  have ex := order_int (m := x) (n := u) ⟨h1, h2⟩ ⟨k1, k2⟩
  have ey := order_int (m := y) (n := v) ⟨h3, h4⟩ ⟨k3, k4⟩
  simp only [ptP]
  by_cases h : (x, y) = (u, v)
  · have hb' : b = true := by rw [hb]; exact decide_eq_true h
    cases h
    rw [if_pos hb']
    exact ⟨ex.2 rfl, ey.2 rfl⟩
  · have hb' : b = false := by rw [hb]; exact decide_eq_false h
    rw [hb']
    simp only [Bool.false_eq_true, if_false]
    by_cases hx : x = u
    · have hy : ¬ y = v := fun e => h (by rw [hx, e])
      exact .inr (by simpa using fun e => hy (ey.1 e))
    · exact .inl (by simpa using fun e => hx (ex.1 e))
end Go.Proofs.YtinbkonmlgediaaGreat
set_option linter.unusedVariables false
set_option linter.unusedSimpArgs false
namespace Go.Proofs.YtinbkonmlgediaaGreat
open Go.RowKit Go.Fl Go.Sl Go.Pg Go.Ch Go.Kf
set_option maxRecDepth 100000 in
set_option maxHeartbeats 4000000 in
theorem sumC_ {F : Nat → Prop} (pts : List (Int × Int)) (a : Option Addr) (n cap m : Nat) (st : Nat → Nat × Nat × Nat) (w : World) (hs : SeqAt w F 0 (pts.map ptP) a n cap) (hm : pts.length = m + 1) (hp : ∀ p ∈ pts, In64 p) (hR : RunC pts st) :
    Calls Tryz.prog 24 #[.agg #[.int .u8 0, .slice a n cap]] w (One w (.tuple #[.agg #[.float .f64 (st m).1, .float .f64 (st m).2.1], .float .f64 (st m).2.2])) := by
  have hsm : m + 1 ≤ 250000 := by have := hs.sm; simp at this; omega
  have hpl : (pts.map ptP).length = m + 1 := by simpa using hm
  have hLen := fun w' => seqLen_ 0 (pts.map ptP) a n cap w' w hs
  rw [hpl] at hLen
  have hSm := hR.t0
  have HR := Lib.hid hR
  have HM := Lib.hid hm
  have HP := Lib.hid hp
  have HS := Lib.hid hs
  clear hR hm hp hs hpl
  have hk0 : Stab.Keeps w ((w.alloc (.cells #[.int .u8 0, .slice a n cap] 51)).alloc (.cells #[.float .f64 0, .float .f64 0] 44)) := by with_reducible (repeat first | exact Kx.r _ | assumption | refine Kx.a ?_ _ | refine Kx.d ?_ | refine Kx.e ?_ _ | refine Kx.s (by simp <;> omega) ?_ _ | refine Kx.t ?_ (by assumption))
  have hX0 : Blk ((w.alloc (.cells #[.int .u8 0, .slice a n cap] 51)).alloc (.cells #[.float .f64 0, .float .f64 0] 44)) (w.heap.size + 1) 44 [.float .f64 0, .float .f64 0] := by with_reducible (repeat first | assumption | (refine Bx.n ⟨?_, ?_⟩ <;> focus (first | rfl | (simp; done) | omega)) | refine Bx.a ?_ _ | refine Bx.d ?_ | refine Bx.e ?_ _ | refine Bx.p (by first | omega | simp <;> omega) ?_)
  go_enter Tryz.func24, Tryz.ntmps24
  go_wp2_with fail
  generalize ((w.alloc (.cells #[.int .u8 0, .slice a n cap] 51)).alloc (.cells #[.float .f64 0, .float .f64 0] 44)) = w1 at *
  refine (lineCoords_ 0 a n cap _).mono ?_
  rintro e w2 ⟨rfl, hk2⟩
  have hk3 : Stab.Keeps w2 (w2.alloc (.cells #[.int .u8 0, .slice a n cap] 49)) := by with_reducible (repeat first | exact Kx.r _ | assumption | refine Kx.a ?_ _ | refine Kx.d ?_ | refine Kx.e ?_ _ | refine Kx.s (by simp <;> omega) ?_ _ | refine Kx.t ?_ (by assumption))
  have hQ : Blk (w2.alloc (.cells #[.int .u8 0, .slice a n cap] 49)) w2.heap.size 49 [.int .u8 0, .slice a n cap] := by with_reducible (repeat first | assumption | (refine Bx.n ⟨?_, ?_⟩ <;> focus (first | rfl | (simp; done) | omega)) | refine Bx.a ?_ _ | refine Bx.d ?_ | refine Bx.e ?_ _ | refine Bx.p (by first | omega | simp <;> omega) ?_)
  have hX3 := (hX0.keep hk2).keep hk3
  have hkw := Stab.Keeps.trans (Stab.Keeps.trans hk0 hk2) hk3
  have hqb : w.heap.size + 2 ≤ w2.heap.size := by have := hX0.lt; have := hk2.size; omega
  clear hk0 hk2 hk3 hX0
  go_upto_region 2 with (fail)
  generalize (w2.alloc (.cells #[.int .u8 0, .slice a n cap] 49)) = w3 at *
  generalize w2.heap.size = qb at *
  go_wp2_with fail
  go_loopw [3, 5] (fun tv iv wr => ∃ k : Nat, k ≤ m + 1 ∧ iv = .int .i64 k ∧ tv = .float .f64 (st (k - 1)).2.2 ∧ Stab.Keeps w wr ∧ Blk wr (w.heap.size + 1) 44 [.float .f64 (st (k - 1)).1, .float .f64 (st (k - 1)).2.1] ∧ Blk wr qb 49 [.int .u8 0, .slice a n cap]) (fun _ iv _ => m + 1 - (intOf iv).toNat)
  case atStart => exact ⟨0, by omega, rfl, by rw [hSm], hkw, by rw [hSm]; exact hX3, hQ⟩
  case round =>
    clear hkw hX3 hQ hSm
    obtain ⟨k, hk, rfl, rfl, hK, hX, hQ⟩ := hrel
    have q0 := hQ.cell (i := 0) rfl
    have q1 := hQ.cell (i := 1) rfl
    have qf := hQ.free
    have ql := hQ.lt
    have HX := Lib.hid hX
    clear hX
    go_wp2_with fail
    refine (hLen _).mono ?_
    rintro e wa ⟨rfl, hka⟩
    replace hK := Stab.Keeps.trans hK hka
    replace HX := Lib.hid (HX.out.keep hka)
    replace hQ := hQ.keep hka
    clear q0 q1 qf ql hka
    have q0 := hQ.cell (i := 0) rfl
    have q1 := hQ.cell (i := 1) rfl
    have qf := hQ.free
    have ql := hQ.lt
    by_cases hlt : k < m + 1
    · rcases Nat.eq_zero_or_pos k with hz | hz
      · subst hz
        go_wp2_with fail
        refine (getLine0_ 0 a n cap _).mono ?_
        rintro e wb ⟨rfl, hkb⟩
        replace hK := Stab.Keeps.trans hK hkb
        replace HX := Lib.hid (HX.out.keep hkb)
        replace hQ := hQ.keep hkb
        have hK4 : Stab.Keeps w (wb.alloc (.cells #[.float .f64 0, .float .f64 0, .float .f64 0, .float .f64 0] 112)) := by with_reducible (repeat first | exact Kx.r _ | assumption | refine Kx.a ?_ _ | refine Kx.d ?_ | refine Kx.e ?_ _ | refine Kx.s (by simp <;> omega) ?_ _ | refine Kx.t ?_ (by assumption))
        have hX4 := HX.out.alloc (.cells #[.float .f64 0, .float .f64 0, .float .f64 0, .float .f64 0] 112)
        have hQ4 := hQ.alloc (.cells #[.float .f64 0, .float .f64 0, .float .f64 0, .float .f64 0] 112)
        clear q0 q1 qf ql hkb hQ HX hK
        go_wp2_with fail
        exact ⟨⟨1, by omega, by go_num, rfl, hK4, hX4, hQ4⟩, by simp [intOf]⟩
      · obtain ⟨j, hj⟩ : ∃ j, j + 1 = k := ⟨k - 1, by omega⟩
        have hjp : j < pts.length := by have := HM.out; omega
        have hkp : j + 1 < pts.length := by have := HM.out; omega
        have hin0 := HP.out _ (List.getElem_mem hjp)
        have hin1 := HP.out _ (List.getElem_mem hkp)
        have hst := HR.out.step j hkp
        have e0 : (pts.map ptP)[j]? = some (ptP pts[j]) := by rw [List.getElem?_map, List.getElem?_eq_getElem hjp]; rfl
        have e1 : (pts.map ptP)[k]? = some (ptP pts[j + 1]) := by rw [List.getElem?_map, ← hj, List.getElem?_eq_getElem hkp]; rfl
        have hk1 : k - 1 = j := by omega
        rw [hk1] at HX ⊢
        generalize pts[j] = p at *
        generalize pts[j + 1] = q at *
        rw [hj] at hst
        have hsame := same_pt hin0 hin1 (decide (p = q)) rfl
        have hGL := fun w' (hk : Stab.Keeps w w') => getLine_ 0 (pts.map ptP) a n cap j k (ptP p) (ptP q) w' (HS.out.keep hk) hj e0 e1 _ hsame
        clear e0 e1 hsame hin0 hin1 hjp hkp
        have hks : k + 1 - 1 = k := by omega
        by_cases he : p = q
        · have hd : decide (p = q) = true := decide_eq_true he
          have hstj := hst.1 he
          rw [hd] at hGL
          clear hst hd
          generalize ptP p = P0 at *
          generalize ptP q = P1 at *
          obtain ⟨x0, y0, z0, m0⟩ := P0
          obtain ⟨x1, y1, z1, m1⟩ := P1
          go_wp2_with fail
          refine (hGL _ hK).mono ?_
          clear hGL
          rintro e wb ⟨rfl, hkb⟩
          replace hK := Stab.Keeps.trans hK hkb
          replace HX := Lib.hid (HX.out.keep hkb)
          replace hQ := hQ.keep hkb
          have hK4 : Stab.Keeps w (wb.alloc (.cells #[.float .f64 x0, .float .f64 y0, .float .f64 x1, .float .f64 y1] 112)) := by with_reducible (repeat first | exact Kx.r _ | assumption | refine Kx.a ?_ _ | refine Kx.d ?_ | refine Kx.e ?_ _ | refine Kx.s (by simp <;> omega) ?_ _ | refine Kx.t ?_ (by assumption))
          have hX4 := HX.out.alloc (.cells #[.float .f64 x0, .float .f64 y0, .float .f64 x1, .float .f64 y1] 112)
          have hQ4 := hQ.alloc (.cells #[.float .f64 x0, .float .f64 y0, .float .f64 x1, .float .f64 y1] 112)
          have HX4 := Lib.hid hX4
          have HST := Lib.hid hstj
          have HKS := Lib.hid hks
          clear q0 q1 qf ql hkb hQ HX hK hX4 hstj hks he hk1 hj
          go_wp2_with fail
          exact ⟨⟨k + 1, by omega, by go_num, by rw [HKS.out, HST.out], hK4, by rw [HKS.out, HST.out]; exact HX4.out, hQ4⟩, by simp [intOf]; omega⟩
        · have hd : decide (p = q) = false := decide_eq_false he
          obtain ⟨u, v, aa, bb, cc, l, ee, cx, tx, ff, cy, ty, hD, h1, h2, h3, h4, h5, h6, h7, h8, h9⟩ := hst.2 he
          rw [hd] at hGL
          clear hst hd
          generalize ptP p = P0 at *
          generalize ptP q = P1 at *
          obtain ⟨x0, y0, z0, m0⟩ := P0
          obtain ⟨x1, y1, z1, m1⟩ := P1
          simp only at hD h1 h5
          obtain ⟨⟨X, Y, T⟩, hS0⟩ : ∃ t, st j = t := ⟨_, rfl⟩
          obtain ⟨⟨X', Y', T'⟩, hS1⟩ : ∃ t, st k = t := ⟨_, rfl⟩
          rw [hS0] at h4 h8 h9 HX ⊢
          rw [hS1] at h4 h8 h9
          simp only at h4 h8 h9 HX ⊢
          have hLn := fun w' => segLen_ hD w'
          have hMd := fun w' => segMid_ h1 h2 h5 h6 w'
          have hSc := fun w' => scale_ h3 h7 w'
          have hAd := fun w' => addXY_ h4 h8 w'
          have v1 := fun w => opV_some h9 w
          have n1 := opN_some h9
          have hz0 := World.drewN_zero
          have HS1 := Lib.hid hS1
          have HKS := Lib.hid hks
          clear hD h1 h2 h3 h4 h5 h6 h7 h8 h9 hS0 hS1 he hk1 hj hks
          go_wp2_with fail
          refine (hGL _ hK).mono ?_
          clear hGL
          rintro e wb ⟨rfl, hkb⟩
          replace hK := Stab.Keeps.trans hK hkb
          replace HX := Lib.hid (HX.out.keep hkb)
          replace hQ := hQ.keep hkb
          have hka : Stab.Keeps wb (wb.alloc (.cells #[.float .f64 x0, .float .f64 y0, .float .f64 x1, .float .f64 y1] 112)) := by with_reducible (repeat first | exact Kx.r _ | assumption | refine Kx.a ?_ _ | refine Kx.d ?_ | refine Kx.e ?_ _ | refine Kx.s (by simp <;> omega) ?_ _ | refine Kx.t ?_ (by assumption))
          have hL : Blk (wb.alloc (.cells #[.float .f64 x0, .float .f64 y0, .float .f64 x1, .float .f64 y1] 112)) wb.heap.size 112 [.float .f64 x0, .float .f64 y0, .float .f64 x1, .float .f64 y1] := by with_reducible (repeat first | assumption | (refine Bx.n ⟨?_, ?_⟩ <;> focus (first | rfl | (simp; done) | omega)) | refine Bx.a ?_ _ | refine Bx.d ?_ | refine Bx.e ?_ _ | refine Bx.p (by first | omega | simp <;> omega) ?_)
          replace hK := Stab.Keeps.trans hK hka
          replace HX := Lib.hid (HX.out.keep hka)
          replace hQ := hQ.keep hka
          clear q0 q1 qf ql hkb hka
          go_upto_region 6 with (fail)
          generalize (wb.alloc (.cells #[.float .f64 x0, .float .f64 y0, .float .f64 x1, .float .f64 y1] 112)) = wc at *
          generalize wb.heap.size = lb at *
          have l0 := hL.cell (i := 0) rfl
          have l1 := hL.cell (i := 1) rfl
          have l2 := hL.cell (i := 2) rfl
          have l3 := hL.cell (i := 3) rfl
          have lf := hL.free
          have ll := hL.lt
          go_wp2_with fail
          refine (hLn _).mono ?_
          clear hLn
          rintro e wd ⟨rfl, hkd⟩
          replace hK := Stab.Keeps.trans hK hkd
          replace HX := Lib.hid (HX.out.keep hkd)
          replace hQ := hQ.keep hkd
          replace hL := hL.keep hkd
          clear l0 l1 l2 l3 lf ll hkd
          have l0 := hL.cell (i := 0) rfl
          have l1 := hL.cell (i := 1) rfl
          have l2 := hL.cell (i := 2) rfl
          have l3 := hL.cell (i := 3) rfl
          have lf := hL.free
          have ll := hL.lt
          go_wp2_with fail
          refine (hMd _).mono ?_
          clear hMd
          rintro e we ⟨rfl, hke⟩
          have hkf : Stab.Keeps we (we.alloc (.cells #[.float .f64 cx, .float .f64 cy] 44)) := by with_reducible (repeat first | exact Kx.r _ | assumption | refine Kx.a ?_ _ | refine Kx.d ?_ | refine Kx.e ?_ _ | refine Kx.s (by simp <;> omega) ?_ _ | refine Kx.t ?_ (by assumption))
          have hM : Blk (we.alloc (.cells #[.float .f64 cx, .float .f64 cy] 44)) we.heap.size 44 [.float .f64 cx, .float .f64 cy] := by with_reducible (repeat first | assumption | (refine Bx.n ⟨?_, ?_⟩ <;> focus (first | rfl | (simp; done) | omega)) | refine Bx.a ?_ _ | refine Bx.d ?_ | refine Bx.e ?_ _ | refine Bx.p (by first | omega | simp <;> omega) ?_)
          have hkg := Stab.Keeps.trans hke hkf
          replace hK := Stab.Keeps.trans hK hkg
          have hX := HX.out.keep hkg
          replace hQ := hQ.keep hkg
          clear l0 l1 l2 l3 lf ll hL hke hkf hkg HX
          go_upto_region 9 with (fail)
          generalize (we.alloc (.cells #[.float .f64 cx, .float .f64 cy] 44)) = wf at *
          generalize we.heap.size = mb at *
          have x0 := hX.cell (i := 0) rfl
          have x1 := hX.cell (i := 1) rfl
          have xf := hX.free
          have xl := hX.lt
          have y0 := hM.cell (i := 0) rfl
          have y1 := hM.cell (i := 1) rfl
          have yf := hM.free
          have yl := hM.lt
          refine Stab.keep_tail 5 (fun _ _ _ => True) (fun _ => false) (fun k => k == 3 || k == 4) Stab.pre_none (by kernel_rfl) (by kernel_rfl) fun hcx => ?_
          simp only [List.take_succ_cons, List.take_zero, List.drop_succ_cons, List.drop_zero]
          iterate 3 ((with_reducible refine Stab.quiet ?_ ?_ ?_ ?_); rfl; rfl; rfl; intro K hK; go_big_quiet_op; refine hK _ ?_; clear hK K)
          (with_reducible refine Stab.one ?_ ?_ ?_ ?_); rfl; rfl; rfl
          apply Exists.intro
          refine ⟨fun w1 hw1 => ?_, fun K hK => ?_⟩
          · go_simp
            (go_at_call 72; exact hSc _)
          go_simp
          refine hK _ ?_
          clear hK K
          (with_reducible refine Stab.one ?_ ?_ ?_ ?_); rfl; rfl; rfl
          apply Exists.intro
          refine ⟨fun w1 hw1 => ?_, fun K hK => ?_⟩
          · go_simp
            (go_at_call 71; exact hAd _)
          go_simp
          refine hK _ ?_
          clear hK K
          refine Stab.nil fun wg hkg _ => ?_
          replace hK := Stab.Keeps.trans hK hkg
          replace hX := hX.keep hkg
          replace hQ := hQ.keep hkg
          clear hcx hkg x0 x1 xf xl y0 y1 yf yl hM
          have x0 := hX.cell (i := 0) rfl
          have x1 := hX.cell (i := 1) rfl
          have xf := hX.free
          have xl := hX.lt
          have hX5 := (hX.set 0 (.float .f64 X')).set 1 (.float .f64 Y')
          simp only [List.set] at hX5
          have hQ5 := (hQ.past (a := ⟨w.heap.size + 1, 0, none⟩) (show qb ≠ w.heap.size + 1 by omega) (.float .f64 X')).past (a := ⟨w.heap.size + 1, 1, none⟩) (show qb ≠ w.heap.size + 1 by omega) (.float .f64 Y')
          have hK5 : Stab.Keeps w ((wg.setCell ⟨w.heap.size + 1, 0, none⟩ (.float .f64 X')).setCell ⟨w.heap.size + 1, 1, none⟩ (.float .f64 Y')) := by with_reducible (repeat first | exact Kx.r _ | assumption | refine Kx.a ?_ _ | refine Kx.d ?_ | refine Kx.e ?_ _ | refine Kx.s (by simp <;> omega) ?_ _ | refine Kx.t ?_ (by assumption))
          have HX5 := Lib.hid hX5
          have HQ5 := Lib.hid hQ5
          have HK5 := Lib.hid hK5
          clear hX5 hQ5 hK5 hK hX hQ
          go_wp2_with fail
          exact ⟨⟨k + 1, by omega, by go_num, by rw [HKS.out, HS1.out], HK5.out, by rw [HKS.out, HS1.out]; exact HX5.out, HQ5.out⟩, by simp [intOf]; omega⟩
    · obtain rfl : k = m + 1 := by omega
      have e : m + 1 - 1 = m := by omega
      rw [e] at HX ⊢
      obtain ⟨⟨X, Y, T⟩, hS0⟩ : ∃ t, st m = t := ⟨_, rfl⟩
      rw [hS0] at HX ⊢
      simp only at HX ⊢
      have hX := HX.out
      have x0 := hX.cell (i := 0) rfl
      have x1 := hX.cell (i := 1) rfl
      have xf := hX.free
      have xl := hX.lt
      have hX5 := (hX.set 0 (.float .f64 X)).set 1 (.float .f64 Y)
      simp only [List.set] at hX5
      have hK5 : Stab.Keeps w ((wa.setCell ⟨w.heap.size + 1, 0, none⟩ (.float .f64 X)).setCell ⟨w.heap.size + 1, 1, none⟩ (.float .f64 Y)) := by with_reducible (repeat first | exact Kx.r _ | assumption | refine Kx.a ?_ _ | refine Kx.d ?_ | refine Kx.e ?_ _ | refine Kx.s (by simp <;> omega) ?_ _ | refine Kx.t ?_ (by assumption))
      have HX5 := Lib.hid hX5
      have HK5 := Lib.hid hK5
      clear hX5 hK5 hK hX hQ HX q0 q1 qf ql e
      go_wp2_with fail
      generalize (wa.setCell ⟨w.heap.size + 1, 0, none⟩ (.float .f64 X)).setCell ⟨w.heap.size + 1, 1, none⟩ (.float .f64 Y) = w9 at *
      have hX := HX5.out
      clear x0 x1 xf xl
      have x0 := hX.cell (i := 0) rfl
      have x1 := hX.cell (i := 1) rfl
      have xf := hX.free
      have xl := hX.lt
      refine bodyPost_ret (v := .tuple #[.agg #[.float .f64 X, .float .f64 Y], .float .f64 T]) (by simp [results, Tryz.results24, go_sem, x0, x1, xf]) rfl ⟨by rw [hS0], HK5.out⟩
end Go.Proofs.YtinbkonmlgediaaGreat
set_option linter.unusedVariables false
set_option linter.unusedSimpArgs false
namespace Go.Proofs.YtinbkonmlgediaaGreat
open Go.RowKit Go.Fl Go.Sl Go.Pg Go.Ch Go.Kf Go.Fr
set_option maxRecDepth 100000 in
set_option maxHeartbeats 1000000 in
theorem doorSums_ {F : Nat → Prop} (pts : List (Int × Int)) (a : Option Addr) (n cap m : Nat) (st : Nat → Nat × Nat × Nat) (X Y T : Nat) (w : World) (hs : SeqAt w F 0 (pts.map ptP) a n cap) (hm : pts.length = m + 1) (hp : ∀ p ∈ pts, In64 p) (hR : RunC pts st) (hst : st m = (X, Y, T)) :
    Calls Tryz.prog 12 #[.agg #[.int .u8 0, .slice a n cap]] w (One w (.tuple #[.agg #[.float .f64 X, .float .f64 Y], .float .f64 T])) := by
  have hI := fun w' (hk : Stab.Keeps w w') => sumC_ pts a n cap m st w' (hs.keep hk) hm hp hR
  rw [hst] at hI
  simp only at hI
  have HI := Lib.hid hI
  clear hs hm hR hI hp hst
  go_enter Tryz.func12, Tryz.ntmps12
  go_wp2_with fail
  refine (HI.out _ (by with_reducible (repeat first | exact Kx.r _ | assumption | refine Kx.a ?_ _ | refine Kx.d ?_ | refine Kx.e ?_ _ | refine Kx.s (by simp <;> omega) ?_ _ | refine Kx.t ?_ (by assumption)))).mono ?_
  clear HI
  rintro e w2 ⟨rfl, hk2⟩
  have hB1 := (show Blk ((w.alloc (.cells #[.int .u8 0, .slice a n cap] 51)).alloc (.cells #[.float .f64 0, .float .f64 0] 44)) (w.heap.size + 1) 44 [.float .f64 0, .float .f64 0] by with_reducible (repeat first | assumption | (refine Bx.n ⟨?_, ?_⟩ <;> focus (first | rfl | (simp; done) | omega)) | refine Bx.a ?_ _ | refine Bx.d ?_ | refine Bx.e ?_ _ | refine Bx.p (by first | omega | simp <;> omega) ?_)).keep hk2
  have hkw : Stab.Keeps w w2 := by with_reducible (repeat first | exact Kx.r _ | assumption | refine Kx.a ?_ _ | refine Kx.d ?_ | refine Kx.e ?_ _ | refine Kx.s (by simp <;> omega) ?_ _ | refine Kx.t ?_ (by assumption))
  clear hk2
  have x0 := hB1.cell (i := 0) rfl
  have x1 := hB1.cell (i := 1) rfl
  have xf := hB1.free
  have xl := hB1.lt
  have hX5 := (hB1.set 0 (.float .f64 X)).set 1 (.float .f64 Y)
  simp only [List.set] at hX5
  have hK5 : Stab.Keeps w ((w2.setCell ⟨w.heap.size + 1, 0, none⟩ (.float .f64 X)).setCell ⟨w.heap.size + 1, 1, none⟩ (.float .f64 Y)) := by with_reducible (repeat first | exact Kx.r _ | assumption | refine Kx.a ?_ _ | refine Kx.d ?_ | refine Kx.e ?_ _ | refine Kx.s (by simp <;> omega) ?_ _ | refine Kx.t ?_ (by assumption))
  have HX5 := Lib.hid hX5
  have HK5 := Lib.hid hK5
  clear hX5 hK5 hkw hB1
  go_wp2_with fail
  generalize (w2.setCell ⟨w.heap.size + 1, 0, none⟩ (.float .f64 X)).setCell ⟨w.heap.size + 1, 1, none⟩ (.float .f64 Y) = w9 at *
  have hX := HX5.out
  clear x0 x1 xf xl
  have x0 := hX.cell (i := 0) rfl
  have x1 := hX.cell (i := 1) rfl
  have xf := hX.free
  have xl := hX.lt
  refine bodyPost_ret (v := .tuple #[.agg #[.float .f64 X, .float .f64 Y], .float .f64 T]) (by simp [results, Tryz.results12, go_sem, x0, x1, xf]) rfl ⟨rfl, HK5.out⟩
set_option maxRecDepth 100000 in
set_option maxHeartbeats 1000000 in
theorem asPoint_ (x y : Nat) (w : World) : Calls Tryz.prog 97 #[.agg #[.float .f64 x, .float .f64 y]] w (One w (.agg (ptC 0 [⟨x, y, 0, 0⟩]).toArray)) := by
  have hN := fun w' => newPoint_ 0 ⟨x, y, 0, 0⟩ w'
  unfold coV at hN
  simp only [ptC] at hN ⊢
  go_enter Tryz.func97, Tryz.ntmps97
  go_wp2_with fail
  refine (hN _).mono ?_
  rintro e w2 ⟨rfl, hk2⟩
  have hB1 := (show Blk _ (w.heap.size + 1) 60 [.float .f64 0, .float .f64 0, .float .f64 0, .float .f64 0, .int .u8 0, .bool false] by with_reducible (repeat first | assumption | (refine Bx.n ⟨?_, ?_⟩ <;> focus (first | rfl | (simp; done) | omega)) | refine Bx.a ?_ _ | refine Bx.d ?_ | refine Bx.e ?_ _ | refine Bx.p (by first | omega | simp <;> omega) ?_)).keep hk2
  have hkw : Stab.Keeps w w2 := by with_reducible (repeat first | exact Kx.r _ | assumption | refine Kx.a ?_ _ | refine Kx.d ?_ | refine Kx.e ?_ _ | refine Kx.s (by simp <;> omega) ?_ _ | refine Kx.t ?_ (by assumption))
  clear hk2 hN
  have x0 := hB1.cell (i := 0) rfl
  have x1 := hB1.cell (i := 1) rfl
  have x2 := hB1.cell (i := 2) rfl
  have x3 := hB1.cell (i := 3) rfl
  have x4 := hB1.cell (i := 4) rfl
  have x5 := hB1.cell (i := 5) rfl
  have xf := hB1.free
  have xl := hB1.lt
  have hX5 := ((((((hB1.set 0 (.float .f64 x)).set 1 (.float .f64 y)).set 2 (.float .f64 0)).set 3 (.float .f64 0)).set 4 (.int .u8 0)).set 5 (.bool true))
  simp only [List.set] at hX5
  have hK5 : Stab.Keeps w ((((((w2.setCell ⟨w.heap.size + 1, 0, none⟩ (.float .f64 x)).setCell ⟨w.heap.size + 1, 1, none⟩ (.float .f64 y)).setCell ⟨w.heap.size + 1, 2, none⟩ (.float .f64 0)).setCell ⟨w.heap.size + 1, 3, none⟩ (.float .f64 0)).setCell ⟨w.heap.size + 1, 4, none⟩ (.int .u8 0)).setCell ⟨w.heap.size + 1, 5, none⟩ (.bool true)) := by with_reducible (repeat first | exact Kx.r _ | assumption | refine Kx.a ?_ _ | refine Kx.d ?_ | refine Kx.e ?_ _ | refine Kx.s (by simp <;> omega) ?_ _ | refine Kx.t ?_ (by assumption))
  have HX5 := Lib.hid hX5
  have HK5 := Lib.hid hK5
  clear hX5 hK5 hkw hB1
  go_wp2_with fail
  generalize ((((((w2.setCell ⟨w.heap.size + 1, 0, none⟩ (.float .f64 x)).setCell ⟨w.heap.size + 1, 1, none⟩ (.float .f64 y)).setCell ⟨w.heap.size + 1, 2, none⟩ (.float .f64 0)).setCell ⟨w.heap.size + 1, 3, none⟩ (.float .f64 0)).setCell ⟨w.heap.size + 1, 4, none⟩ (.int .u8 0)).setCell ⟨w.heap.size + 1, 5, none⟩ (.bool true)) = w9 at *
  have hX := HX5.out
  clear x0 x1 x2 x3 x4 x5 xf xl
  have x0 := hX.cell (i := 0) rfl
  have x1 := hX.cell (i := 1) rfl
  have x2 := hX.cell (i := 2) rfl
  have x3 := hX.cell (i := 3) rfl
  have x4 := hX.cell (i := 4) rfl
  have x5 := hX.cell (i := 5) rfl
  have xf := hX.free
  have xl := hX.lt
  refine bodyPost_ret (v := .agg #[.float .f64 x, .float .f64 y, .float .f64 0, .float .f64 0, .int .u8 0, .bool true]) (by simp [results, Tryz.results97, go_sem, x0, x1, x2, x3, x4, x5, xf]) rfl ⟨rfl, HK5.out⟩
set_option maxRecDepth 100000 in
set_option maxHeartbeats 1000000 in
theorem lsCen_ {F : Nat → Prop} (pts : List (Int × Int)) (a : Option Addr) (n cap m : Nat) (st : Nat → Nat × Nat × Nat) (X Y T u x y : Nat) (w : World) (hs : SeqAt w F 0 (pts.map ptP) a n cap) (hm : pts.length = m + 1) (hp : ∀ p ∈ pts, In64 p) (hR : RunC pts st) (hst : st m = (X, Y, T))
    (h0 : (FloatKind.f64.format.order T 0 == some .eq) = false) (hu : floatBits .quo .f64 4607182418800017408 T = some u) (hx : floatBits .mul .f64 X u = some x) (hy : floatBits .mul .f64 Y u = some y) :
    Calls Tryz.prog 49 #[.agg #[.int .u8 0, .slice a n cap]] w (One w (.agg (ptC 0 [⟨x, y, 0, 0⟩]).toArray)) := by
  have hI := fun w' (hk : Stab.Keeps w w') => sumC_ pts a n cap m st w' (hs.keep hk) hm hp hR
  rw [hst] at hI
  simp only at hI
  have HI := Lib.hid hI
  have HS := Lib.hid (fun w' => scale_ hx hy w')
  have HP := Lib.hid (fun w' => asPoint_ x y w')
  have hq := fun w => opV_some hu w
  clear hs hm hR hI hp hst hu hx hy
  simp only [ptC] at HP ⊢
  go_enter Tryz.func49, Tryz.ntmps49
  go_wp2_with fail
  refine (HI.out _ (by with_reducible (repeat first | exact Kx.r _ | assumption | refine Kx.a ?_ _ | refine Kx.d ?_ | refine Kx.e ?_ _ | refine Kx.s (by simp <;> omega) ?_ _ | refine Kx.t ?_ (by assumption)))).mono ?_
  clear HI
  rintro e w2 ⟨rfl, hk2⟩
  have hB1 := (show Blk _ (w.heap.size + 1) 60 [.float .f64 0, .float .f64 0, .float .f64 0, .float .f64 0, .int .u8 0, .bool false] by with_reducible (repeat first | assumption | (refine Bx.n ⟨?_, ?_⟩ <;> focus (first | rfl | (simp; done) | omega)) | refine Bx.a ?_ _ | refine Bx.d ?_ | refine Bx.e ?_ _ | refine Bx.p (by first | omega | simp <;> omega) ?_)).keep hk2
  have hkw : Stab.Keeps w w2 := by with_reducible (repeat first | exact Kx.r _ | assumption | refine Kx.a ?_ _ | refine Kx.d ?_ | refine Kx.e ?_ _ | refine Kx.s (by simp <;> omega) ?_ _ | refine Kx.t ?_ (by assumption))
  clear hk2
  go_wp2_with fail
  refine (HS.out _).mono ?_
  rintro e w3 ⟨rfl, hk3⟩
  go_wp2_with fail
  refine (HP.out _).mono ?_
  rintro e w4 ⟨rfl, hk4⟩
  have hB4 := (((hB1.alloc (.cells #[.float .f64 X, .float .f64 Y] 44)).drewN _).keep hk3).keep hk4
  have hkw4 : Stab.Keeps w w4 := by with_reducible (repeat first | exact Kx.r _ | assumption | refine Kx.a ?_ _ | refine Kx.d ?_ | refine Kx.e ?_ _ | refine Kx.s (by simp <;> omega) ?_ _ | refine Kx.t ?_ (by assumption))
  clear hB1 hkw hk3 hk4 hq h0 HS HP
  have hB1 := hB4
  have hkw := hkw4
  clear hB4 hkw4
  have x0 := hB1.cell (i := 0) rfl
  have x1 := hB1.cell (i := 1) rfl
  have x2 := hB1.cell (i := 2) rfl
  have x3 := hB1.cell (i := 3) rfl
  have x4 := hB1.cell (i := 4) rfl
  have x5 := hB1.cell (i := 5) rfl
  have xf := hB1.free
  have xl := hB1.lt
  have hX5 := ((((((hB1.set 0 (.float .f64 x)).set 1 (.float .f64 y)).set 2 (.float .f64 0)).set 3 (.float .f64 0)).set 4 (.int .u8 0)).set 5 (.bool true))
  simp only [List.set] at hX5
  have hK5 : Stab.Keeps w ((((((w4.setCell ⟨w.heap.size + 1, 0, none⟩ (.float .f64 x)).setCell ⟨w.heap.size + 1, 1, none⟩ (.float .f64 y)).setCell ⟨w.heap.size + 1, 2, none⟩ (.float .f64 0)).setCell ⟨w.heap.size + 1, 3, none⟩ (.float .f64 0)).setCell ⟨w.heap.size + 1, 4, none⟩ (.int .u8 0)).setCell ⟨w.heap.size + 1, 5, none⟩ (.bool true)) := by with_reducible (repeat first | exact Kx.r _ | assumption | refine Kx.a ?_ _ | refine Kx.d ?_ | refine Kx.e ?_ _ | refine Kx.s (by simp <;> omega) ?_ _ | refine Kx.t ?_ (by assumption))
  have HX5 := Lib.hid hX5
  have HK5 := Lib.hid hK5
  clear hX5 hK5 hkw hB1
  go_wp2_with fail
  generalize ((((((w4.setCell ⟨w.heap.size + 1, 0, none⟩ (.float .f64 x)).setCell ⟨w.heap.size + 1, 1, none⟩ (.float .f64 y)).setCell ⟨w.heap.size + 1, 2, none⟩ (.float .f64 0)).setCell ⟨w.heap.size + 1, 3, none⟩ (.float .f64 0)).setCell ⟨w.heap.size + 1, 4, none⟩ (.int .u8 0)).setCell ⟨w.heap.size + 1, 5, none⟩ (.bool true)) = w9 at *
  have hX := HX5.out
  clear x0 x1 x2 x3 x4 x5 xf xl
  have x0 := hX.cell (i := 0) rfl
  have x1 := hX.cell (i := 1) rfl
  have x2 := hX.cell (i := 2) rfl
  have x3 := hX.cell (i := 3) rfl
  have x4 := hX.cell (i := 4) rfl
  have x5 := hX.cell (i := 5) rfl
  have xf := hX.free
  have xl := hX.lt
  refine bodyPost_ret (v := .agg #[.float .f64 x, .float .f64 y, .float .f64 0, .float .f64 0, .int .u8 0, .bool true]) (by simp [results, Tryz.results49, go_sem, x0, x1, x2, x3, x4, x5, xf]) rfl ⟨rfl, HK5.out⟩
end Go.Proofs.YtinbkonmlgediaaGreat
set_option linter.unusedVariables false
set_option linter.unusedSimpArgs false
namespace Go.Proofs.YtinbkonmlgediaaGreat
open Go.RowKit Go.Fl Go.Sl Go.Pg Go.Ch Go.Kf Go.Fr
set_option maxRecDepth 100000 in
set_option maxHeartbeats 1000000 in
theorem implSums_ {F : Nat → Prop} (cs : List Value) (pts : List (Int × Int)) (m : Nat) (st : Nat → Nat × Nat × Nat) (X Y T : Nat) (w : World) (h : GmR w F cs (.node 2 0 (pts.map ptP) [])) (hn : PgNum 1000 (.node 2 0 (pts.map ptP) [])) (hq : ∀ q ∈ pts.map ptP, q.norm 0) (hm : pts.length = m + 1) (hp : ∀ p ∈ pts, In64 p) (hR : RunC pts st) (hst : st m = (X, Y, T)) :
    Calls Tryz.prog 5 #[.agg cs.toArray] w (One w (.tuple #[.agg #[.float .f64 X, .float .f64 Y], .float .f64 T])) := by
  obtain ⟨q, rfl, hA, hI⟩ := h.gt
  have e := newP_is (.ls 0 (pts.map ptP) (by omega) hq) q hI
  have hk2 : q.hd.kind = 2 := by cases hI with | mk h nums kids _ _ _ _ i1 => exact i1
  have hM := fun w' (hk : Stab.Keeps w w') => makeLs_ q w' (hA.keep hk) (small_is hn q hI) hk2
  rw [e] at hM
  clear hA hI e hn hq h hk2
  obtain ⟨⟨kind, dim, na, nn, nc, ka, kn, kc⟩, nums, kids⟩ := q
  simp only [GT.hd, Gm.val] at hM
  show Calls _ _ #[.agg #[.int .i64 kind, .int .i64 dim, .slice na nn nc, .slice ka kn kc]] _ _
  go_enter Tryz.func5, Tryz.ntmps5
  go_wp2_with fail
  refine (hM _ (by with_reducible (repeat first | exact Kx.r _ | assumption | refine Kx.a ?_ _ | refine Kx.d ?_ | refine Kx.e ?_ _ | refine Kx.s (by simp <;> omega) ?_ _ | refine Kx.t ?_ (by assumption)))).mono ?_
  clear hM
  rintro e w2 ⟨cs, rfl, hk2, d, ps', a, n, cap, rfl, he, hs⟩
  cases he
  have hkw : Stab.Keeps w w2 := by with_reducible (repeat first | exact Kx.r _ | assumption | refine Kx.a ?_ _ | refine Kx.d ?_ | refine Kx.e ?_ _ | refine Kx.s (by simp <;> omega) ?_ _ | refine Kx.t ?_ (by assumption))
  have hB1 := (show Blk ((w.alloc (.cells #[.int .i64 kind, .int .i64 dim, .slice na nn nc, .slice ka kn kc] 35)).alloc (.cells #[.float .f64 0, .float .f64 0] 29)) (w.heap.size + 1) 29 [.float .f64 0, .float .f64 0] by with_reducible (repeat first | assumption | (refine Bx.n ⟨?_, ?_⟩ <;> focus (first | rfl | (simp; done) | omega)) | refine Bx.a ?_ _ | refine Bx.d ?_ | refine Bx.e ?_ _ | refine Bx.p (by first | omega | simp <;> omega) ?_)).keep hk2
  clear hk2
  go_wp2_with fail
  refine (doorSums_ pts a n cap m st X Y T _ hs hm hp hR hst).mono ?_
  clear hs hm hp hR hst
  rintro e w3 ⟨rfl, hk3⟩
  have hkw3 := Stab.Keeps.trans hkw hk3
  replace hB1 := hB1.keep hk3
  clear hkw hk3
  go_wp2_with fail
  refine (plainXY_ X Y _).mono ?_
  rintro e w4 ⟨rfl, hk4⟩
  have hkw : Stab.Keeps w w4 := by with_reducible (repeat first | exact Kx.r _ | assumption | refine Kx.a ?_ _ | refine Kx.d ?_ | refine Kx.e ?_ _ | refine Kx.s (by simp <;> omega) ?_ _ | refine Kx.t ?_ (by assumption))
  have hB4 := (hB1.alloc (.cells #[.float .f64 X, .float .f64 Y] 44)).keep hk4
  clear hB1 hkw3 hk4
  have hB1 := hB4
  clear hB4
  have x0 := hB1.cell (i := 0) rfl
  have x1 := hB1.cell (i := 1) rfl
  have xf := hB1.free
  have xl := hB1.lt
  have hX5 := ((hB1.set 0 (.float .f64 X)).set 1 (.float .f64 Y))
  simp only [List.set] at hX5
  have hK5 : Stab.Keeps w ((w4.setCell ⟨w.heap.size + 1, 0, none⟩ (.float .f64 X)).setCell ⟨w.heap.size + 1, 1, none⟩ (.float .f64 Y)) := by with_reducible (repeat first | exact Kx.r _ | assumption | refine Kx.a ?_ _ | refine Kx.d ?_ | refine Kx.e ?_ _ | refine Kx.s (by simp <;> omega) ?_ _ | refine Kx.t ?_ (by assumption))
  have HX5 := Lib.hid hX5
  have HK5 := Lib.hid hK5
  clear hX5 hK5 hkw hB1
  go_wp2_with fail
  generalize ((w4.setCell ⟨w.heap.size + 1, 0, none⟩ (.float .f64 X)).setCell ⟨w.heap.size + 1, 1, none⟩ (.float .f64 Y)) = w9 at *
  have hX := HX5.out
  clear x0 x1 xf xl
  have x0 := hX.cell (i := 0) rfl
  have x1 := hX.cell (i := 1) rfl
  have xf := hX.free
  have xl := hX.lt
  refine bodyPost_ret (v := .tuple #[.agg #[.float .f64 X, .float .f64 Y], .float .f64 T]) (by simp [results, Tryz.results5, go_sem, x0, x1, xf]) rfl ⟨rfl, HK5.out⟩
set_option maxRecDepth 100000 in
set_option maxHeartbeats 1000000 in
theorem geoCen_ {F : Nat → Prop} (b : Nat) (pts : List (Int × Int)) (a : Option Addr) (n cap m : Nat) (st : Nat → Nat × Nat × Nat) (X Y T u x y : Nat) (w : World) (hB : Blk w b 51 [.int .u8 0, .slice a n cap]) (hs : SeqAt w F 0 (pts.map ptP) a n cap) (hm : pts.length = m + 1) (hp : ∀ p ∈ pts, In64 p) (hR : RunC pts st) (hst : st m = (X, Y, T))
    (h0 : (FloatKind.f64.format.order T 0 == some .eq) = false) (hu : floatBits .quo .f64 4607182418800017408 T = some u) (hx : floatBits .mul .f64 X u = some x) (hy : floatBits .mul .f64 Y u = some y) :
    Calls Tryz.prog 18 #[.agg #[.int .i64 2, .iface 125 (.pointer (some ⟨b, 0, none⟩))]] w (One w (.agg (ptC 0 [⟨x, y, 0, 0⟩]).toArray)) := by
  have HM := Lib.hid (fun w' (hk : Stab.Keeps w w') => mustLs_ a n cap 0 b w' (hB.keep hk))
  have HC := Lib.hid (fun w' (hk : Stab.Keeps w w') => lsCen_ pts a n cap m st X Y T u x y w' (hs.keep hk) hm hp hR hst h0 hu hx hy)
  clear hs hm hp hR hst h0 hu hx hy hB
  simp only [ptC] at HC ⊢
  go_enter Tryz.func18, Tryz.ntmps18
  go_wp2_with fail
  refine (HM.out _ (by with_reducible (repeat first | exact Kx.r _ | assumption | refine Kx.a ?_ _ | refine Kx.d ?_ | refine Kx.e ?_ _ | refine Kx.s (by simp <;> omega) ?_ _ | refine Kx.t ?_ (by assumption)))).mono ?_
  rintro e w2 ⟨rfl, hk2⟩
  have hkw2 : Stab.Keeps w w2 := by with_reducible (repeat first | exact Kx.r _ | assumption | refine Kx.a ?_ _ | refine Kx.d ?_ | refine Kx.e ?_ _ | refine Kx.s (by simp <;> omega) ?_ _ | refine Kx.t ?_ (by assumption))
  have hB1 := (show Blk _ (w.heap.size + 1) 60 [.float .f64 0, .float .f64 0, .float .f64 0, .float .f64 0, .int .u8 0, .bool false] by with_reducible (repeat first | assumption | (refine Bx.n ⟨?_, ?_⟩ <;> focus (first | rfl | (simp; done) | omega)) | refine Bx.a ?_ _ | refine Bx.d ?_ | refine Bx.e ?_ _ | refine Bx.p (by first | omega | simp <;> omega) ?_)).keep hk2
  clear hk2 HM
  go_wp2_with fail
  refine (HC.out _ (by with_reducible (repeat first | exact Kx.r _ | assumption | refine Kx.a ?_ _ | refine Kx.d ?_ | refine Kx.e ?_ _ | refine Kx.s (by simp <;> omega) ?_ _ | refine Kx.t ?_ (by assumption)))).mono ?_
  rintro e w3 ⟨rfl, hk3⟩
  replace hB1 := hB1.keep hk3
  have hkw := Stab.Keeps.trans hkw2 hk3
  clear hk3 hkw2 HC
  have x0 := hB1.cell (i := 0) rfl
  have x1 := hB1.cell (i := 1) rfl
  have x2 := hB1.cell (i := 2) rfl
  have x3 := hB1.cell (i := 3) rfl
  have x4 := hB1.cell (i := 4) rfl
  have x5 := hB1.cell (i := 5) rfl
  have xf := hB1.free
  have xl := hB1.lt
  have hX5 := ((((((hB1.set 0 (.float .f64 x)).set 1 (.float .f64 y)).set 2 (.float .f64 0)).set 3 (.float .f64 0)).set 4 (.int .u8 0)).set 5 (.bool true))
  simp only [List.set] at hX5
  have hK5 : Stab.Keeps w ((((((w3.setCell ⟨w.heap.size + 1, 0, none⟩ (.float .f64 x)).setCell ⟨w.heap.size + 1, 1, none⟩ (.float .f64 y)).setCell ⟨w.heap.size + 1, 2, none⟩ (.float .f64 0)).setCell ⟨w.heap.size + 1, 3, none⟩ (.float .f64 0)).setCell ⟨w.heap.size + 1, 4, none⟩ (.int .u8 0)).setCell ⟨w.heap.size + 1, 5, none⟩ (.bool true)) := by with_reducible (repeat first | exact Kx.r _ | assumption | refine Kx.a ?_ _ | refine Kx.d ?_ | refine Kx.e ?_ _ | refine Kx.s (by simp <;> omega) ?_ _ | refine Kx.t ?_ (by assumption))
  have HX5 := Lib.hid hX5
  have HK5 := Lib.hid hK5
  clear hX5 hK5 hkw hB1
  go_wp2_with fail
  generalize ((((((w3.setCell ⟨w.heap.size + 1, 0, none⟩ (.float .f64 x)).setCell ⟨w.heap.size + 1, 1, none⟩ (.float .f64 y)).setCell ⟨w.heap.size + 1, 2, none⟩ (.float .f64 0)).setCell ⟨w.heap.size + 1, 3, none⟩ (.float .f64 0)).setCell ⟨w.heap.size + 1, 4, none⟩ (.int .u8 0)).setCell ⟨w.heap.size + 1, 5, none⟩ (.bool true)) = w9 at *
  have hX := HX5.out
  clear x0 x1 x2 x3 x4 x5 xf xl
  have x0 := hX.cell (i := 0) rfl
  have x1 := hX.cell (i := 1) rfl
  have x2 := hX.cell (i := 2) rfl
  have x3 := hX.cell (i := 3) rfl
  have x4 := hX.cell (i := 4) rfl
  have x5 := hX.cell (i := 5) rfl
  have xf := hX.free
  have xl := hX.lt
  refine bodyPost_ret (v := .agg #[.float .f64 x, .float .f64 y, .float .f64 0, .float .f64 0, .int .u8 0, .bool true]) (by simp [results, Tryz.results18, go_sem, x0, x1, x2, x3, x4, x5, xf]) rfl ⟨rfl, HK5.out⟩
end Go.Proofs.YtinbkonmlgediaaGreat
