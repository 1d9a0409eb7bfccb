/-
  Quotients and roots of doubles, told of as rational numbers. No condition.
-/
import Derived.Test.YtbakhldjfplbfaaGreatFr2
set_option linter.unusedVariables false
set_option linter.unusedSimpArgs false
namespace Go.Fr
open Ieee Go.Fl Go.Fw

/-- what is written of a number that is nearly v is nearly v -/
theorem write_nearly (neg : Bool) (mag : Nat) (place : Int) (w v : Rat) (hw : ((sg neg mag : Int) : Rat) * two place = w) (h1 : w ≤ v + ab v * two (-54)) (h2 : v ≤ w + ab v * two (-54)) (hb : ab v < two 1022) :
    fin (double.nearest neg mag place) = true ∧ Near v (R (double.nearest neg mag place)) := by
  have hav := ab_nonneg v
  have hp := two_pos (-54)
  have hle : two (-54) ≤ 1 := by rw [← two_zero]; exact two_mono (by decide)
  have hle2 : two (-54) ≤ two (-4) := two_mono (by decide)
  have h16 : two (-4) = 1 / 16 := by decide +kernel
  have hm := Rat.mul_le_mul_of_nonneg_left hle2 hav
  rw [h16] at hm
  have hmn := mul_nn hav (Rat.le_of_lt hp)
  have haw : ab w ≤ ab v + ab v * two (-54) := by
    generalize ab v * two (-54) = z at *
    rcases ab_cases w with ⟨a, b⟩ | ⟨a, b⟩ <;> rcases ab_cases v with ⟨c, d⟩ | ⟨c, d⟩ <;> rw [b] <;> rw [d] at * <;> grind
  have htt : two 1023 = 2 * two 1022 := by
    have := two_add 1022 1
    have h2 : two 1 = 2 := by unfold two; simp
    rw [h2] at this
    rw [show (1023 : Int) = 1022 + 1 by omega, this]; grind
  have hbw : ab w < two 1023 := by
    rw [htt]
    generalize ab v * two (-54) = z at *
    grind
  obtain ⟨g1, g2, g3, _⟩ := write_half neg mag place w hw hbw
  refine ⟨g1, ?_⟩
  unfold Near
  have a2 := two_pos (-1075)
  have hw53 := Rat.mul_le_mul_of_nonneg_right haw (Rat.le_of_lt (two_pos (-53)))
  have hx : (ab v + ab v * two (-54)) * two (-53) ≤ 3 * (ab v * two (-54)) := by
    rw [t54]
    have : (ab v + ab v * two (-54)) * (2 * two (-54)) = 2 * (ab v * two (-54)) + 2 * (ab v * two (-54) * two (-54)) := by grind
    rw [this]
    have h3 := Rat.mul_le_mul_of_nonneg_left (show two (-54) ≤ 1 / 16 by grind) hmn
    generalize ab v * two (-54) * two (-54) = y at *
    generalize ab v * two (-54) = z at *
    grind
  rw [t53, t54, t1075]
  have e : ab v * (2 * (2 * two (-54))) = 4 * (ab v * two (-54)) := by grind
  rw [e]
  generalize (ab v + ab v * two (-54)) * two (-53) = q at *
  generalize ab w * two (-53) = q2 at *
  generalize ab v * two (-54) = z at *
  generalize R (double.nearest neg mag place) = r at *
  generalize two (-1075) = t at *
  constructor <;> grind

theorem sgn_lin (neg : Bool) (m : Nat) : ((sg neg m : Int) : Rat) = (if neg then -1 else 1) * (m : Rat) := by
  rw [sgR]
  cases neg
  · simp
  · simp; grind
theorem ab_sg (b : Bool) {x : Rat} (hx : 0 ≤ x) : ab ((if b then -1 else 1) * x) = x := by
  rcases ab_cases ((if b then -1 else 1) * x) with ⟨h, e⟩ | ⟨h, e⟩ <;> rw [e] <;> cases b <;> simp at h ⊢ <;> grind
theorem mul_sg (b : Bool) (x : Rat) : (b = true ∧ (if b then -1 else 1) * x = -x) ∨ (b = false ∧ (if b then -1 else 1) * x = x) := by
  cases b
  · exact .inr ⟨rfl, by simp⟩
  · refine .inl ⟨rfl, ?_⟩
    simp; grind
/-- the quotient -/
theorem div_near {x y : Nat} (hx : fin x = true) (hy : fin y = true) (h0 : R y ≠ 0) (v : Rat) (hv : v * R y = R x) (hb : ab v < two 1022) : ∃ r, floatBits .quo .f64 x y = some r ∧ fin r = true ∧ Near v (R r) := by
  obtain ⟨s, m, i, h1⟩ := fin_read hx
  obtain ⟨t, n, j, h2⟩ := fin_read hy
  rw [R_num h1, R_num h2] at *
  have hn : n ≠ 0 := by
    rintro rfl
    apply h0
    rw [sgR]; cases t <;> simp
  obtain ⟨more, hmore⟩ : ∃ more, more = 54 + n.log2 - m.log2 := ⟨_, rfl⟩
  obtain ⟨q, hq⟩ : ∃ q, q = (m <<< more) / n := ⟨_, rfl⟩
  obtain ⟨rest, hrest⟩ : ∃ rest, rest = (m <<< more) % n := ⟨_, rfl⟩
  obtain ⟨st, hst⟩ : ∃ st, st = (rest != 0).toNat := ⟨_, rfl⟩
  obtain ⟨w, hw⟩ : ∃ w, w = ((sg (s ^^ t) (2 * q + st) : Int) : Rat) * two (i - j - more - 1) := ⟨_, rfl⟩
  have hr : floatBits .quo .f64 x y = some (double.nearest (s ^^ t) (2 * q + st) (i - j - more - 1)) := by
    simp [floatBits, Format.div, FloatKind.format, h1, h2, Datum.quotient, Format.write, hn, hst, hq, hrest, hmore, fb]
  refine ⟨_, hr, ?_⟩
  have hD := Nat.div_add_mod (m <<< more) n
  rw [← hq, ← hrest, Nat.shiftLeft_eq] at hD
  have hlt : rest < n := by rw [hrest]; exact Nat.mod_lt _ (by omega)
  have hnp : (0 : Rat) < n := by exact_mod_cast Nat.pos_of_ne_zero hn
  have hnn : (n : Rat) ≠ 0 := by grind
  -- a unit of the quotient
  obtain ⟨u, hu⟩ : ∃ u, u = two (i - j - more) := ⟨_, rfl⟩
  have hup : 0 < u := by rw [hu]; exact two_pos _
  have hu1 : two (i - j - more - 1) = u * (1 / 2) := by
    have := two_add (i - j - more - 1) 1
    have h2 : two 1 = 2 := by unfold two; simp
    rw [h2, show i - j - more - 1 + 1 = i - j - more by omega, ← hu] at this
    grind
  -- the number itself
  obtain ⟨sn, hsn⟩ : ∃ sn : Rat, sn = (if (s ^^ t) then -1 else 1) := ⟨_, rfl⟩
  have hv2 : v * n = sn * ((n * q + rest : Nat) : Rat) * u := by
    rw [sgn_lin, sgn_lin] at hv
    have hi : two i = ((2 ^ more : Nat) : Rat) * u * two j := by
      rw [hu, ← two_nat, ← two_add, ← two_add]; congr 1; omega
    rw [hi] at hv
    rw [hD, Rat.natCast_mul]
    have hjp := two_pos j
    have : v * n * two j = sn * (↑m * ↑(2 ^ more)) * u * two j := by
      rw [hsn]
      cases s <;> cases t <;> simp at hv ⊢ <;> grind
    have hj0 : two j ≠ 0 := by grind
    have h3 := two_neg j
    have h4 : v * n * (two j * two (-j)) = sn * (↑m * ↑(2 ^ more)) * u * (two j * two (-j)) := by grind
    rw [h3] at h4
    grind
  have hw2 : w = sn * ((q : Rat) + st * (1 / 2)) * u := by
    rw [hw, hu1, sgn_lin, ← hsn]
    simp only [Rat.natCast_add, Rat.natCast_mul]
    grind
  have hD2 : (((n * q + rest : Nat)) : Rat) = n * q + rest := by simp [Rat.natCast_add, Rat.natCast_mul]
  rw [hD2] at hv2
  -- with ρ = rest / n
  obtain ⟨ρ, hρ⟩ : ∃ ρ : Rat, ρ * n = rest := ⟨rest / n, by rw [Rat.div_def, Rat.mul_assoc, Rat.inv_mul_cancel _ hnn, Rat.mul_one]⟩
  have hρ0 : 0 ≤ ρ := by
    by_cases h : 0 ≤ ρ
    · exact h
    · replace h : ρ ≤ 0 := by grind
      have := Rat.mul_le_mul_of_nonneg_right h (Rat.le_of_lt hnp)
      have h5 := nat_nn rest
      have : ρ * n = 0 := by grind
      have : ρ = 0 := by
        rcases Rat.mul_eq_zero.1 this with h | h
        · exact h
        · exact absurd h hnn
      grind
  have hρ1 : ρ < 1 := by
    by_cases h : ρ < 1
    · exact h
    · replace h : 1 ≤ ρ := by grind
      have h6 := Rat.mul_le_mul_of_nonneg_right h (Rat.le_of_lt hnp)
      have h5 : (rest : Rat) < n := by exact_mod_cast hlt
      grind
  have hv3 : v = sn * (q + ρ) * u := by
    have : v * n = sn * (q + ρ) * u * n := by rw [hv2, ← hρ]; grind
    have h3 : n * (n : Rat)⁻¹ = 1 := Rat.mul_inv_cancel _ hnn
    have h4 : v * (n * (n : Rat)⁻¹) = sn * (q + ρ) * u * (n * (n : Rat)⁻¹) := by grind
    rw [h3] at h4
    grind
  have hq0 := nat_nn q
  have hqr : 0 ≤ (q + ρ) * u := mul_nn (by grind) (Rat.le_of_lt hup)
  have habv : ab v = (q + ρ) * u := by
    rw [hv3, hsn, Rat.mul_assoc]
    exact ab_sg _ hqr
  -- what is left over is little
  have hoff : (st : Rat) * (1 / 2) - ρ ≤ (q + ρ) * two (-54) ∧ ρ - (st : Rat) * (1 / 2) ≤ (q + ρ) * two (-54) := by
    have hp54 := two_pos (-54)
    have hnn2 := mul_nn (show 0 ≤ (q : Rat) + ρ by grind) (Rat.le_of_lt hp54)
    by_cases hr0 : rest = 0
    · have : ρ = 0 := by
        rw [hr0] at hρ
        rcases Rat.mul_eq_zero.1 hρ with h | h
        · exact h
        · exact absurd h hnn
      have hst0 : st = 0 := by rw [hst, hr0]; rfl
      rw [hst0]; rw [this] at hnn2 ⊢
      constructor <;> grind
    · have hst1 : st = 1 := by rw [hst]; simp [hr0]
      have hm0 : m ≠ 0 := by
        rintro rfl
        have : n * q + rest = 0 := by rw [hD]; simp
        omega
      have hbig : 2 ^ 53 ≤ q := by
        have a1 : 2 ^ m.log2 ≤ m := Nat.log2_self_le hm0
        have a2 : n < 2 ^ (n.log2 + 1) := Nat.lt_log2_self
        have a3 : 2 ^ (54 + n.log2) ≤ m * 2 ^ more := by
          have : 2 ^ m.log2 * 2 ^ more ≤ m * 2 ^ more := Nat.mul_le_mul_right _ a1
          rw [← Nat.pow_add] at this
          have h2 : 2 ^ (54 + n.log2) ≤ 2 ^ (m.log2 + more) := Nat.pow_le_pow_right (by omega) (by omega)
          omega
        rw [show 54 + n.log2 = 53 + (n.log2 + 1) by omega, Nat.pow_add] at a3
        rw [hq, Nat.shiftLeft_eq]
        rw [Nat.le_div_iff_mul_le (by omega)]
        have : 2 ^ 53 * n ≤ 2 ^ 53 * 2 ^ (n.log2 + 1) := Nat.mul_le_mul_left _ (by omega)
        omega
      have hbig2 : ((2 ^ 53 : Nat) : Rat) ≤ q := nle hbig
      have hone : ((2 ^ 53 : Nat) : Rat) * two (-54) = 1 / 2 := by decide +kernel
      have := Rat.mul_le_mul_of_nonneg_right (show ((2 ^ 53 : Nat) : Rat) ≤ q + ρ by grind) (Rat.le_of_lt hp54)
      rw [hone] at this
      rw [hst1]
      generalize (↑q + ρ) * two (-54) = z at *
      constructor <;> (simp; grind)
  have d1 := Rat.mul_le_mul_of_nonneg_right hoff.1 (Rat.le_of_lt hup)
  have d2 := Rat.mul_le_mul_of_nonneg_right hoff.2 (Rat.le_of_lt hup)
  refine write_nearly _ _ _ w v hw.symm ?_ ?_ hb
  · rw [habv, hv3, hw2, hsn, Rat.mul_assoc, Rat.mul_assoc]
    rcases mul_sg (s ^^ t) ((↑q + ↑st * (1 / 2)) * u) with ⟨_, e1⟩ | ⟨_, e1⟩ <;> rcases mul_sg (s ^^ t) ((↑q + ρ) * u) with ⟨_, e2⟩ | ⟨_, e2⟩ <;> rw [e1, e2] <;> first | grind | simp_all
  · rw [habv, hv3, hw2, hsn, Rat.mul_assoc, Rat.mul_assoc]
    rcases mul_sg (s ^^ t) ((↑q + ↑st * (1 / 2)) * u) with ⟨_, e1⟩ | ⟨_, e1⟩ <;> rcases mul_sg (s ^^ t) ((↑q + ρ) * u) with ⟨_, e2⟩ | ⟨_, e2⟩ <;> rw [e1, e2] <;> first | grind | simp_all

theorem rootFrom_spec (n : Nat) : ∀ (todo root : Nat), root * root ≤ n → n < (root + 2 ^ todo) * (root + 2 ^ todo) → (Datum.rootFrom n todo root) * (Datum.rootFrom n todo root) ≤ n ∧ n < (Datum.rootFrom n todo root + 1) * (Datum.rootFrom n todo root + 1)
  | 0, root, h1, h2 => by simpa [Datum.rootFrom] using ⟨h1, h2⟩
  | todo + 1, root, h1, h2 => by
    unfold Datum.rootFrom
    simp only [Nat.one_shiftLeft]
    have e : root + 2 ^ (todo + 1) = root + 2 ^ todo + 2 ^ todo := by rw [Nat.pow_succ]; omega
    rw [e] at h2
    split
    · rename_i h
      exact rootFrom_spec n todo _ h h2
    · rename_i h
      exact rootFrom_spec n todo _ h1 (by omega)

theorem place_ge {b : Nat} {s : Bool} {m : Nat} {e : Int} (h : double.read b = .number s m e) : -1074 ≤ e := by
  unfold Format.read at h
  simp only [lp] at h
  split at h
  · injection h; omega
  · split at h
    · injection h; omega
    · split at h <;> cases h
theorem sq_le {a b : Rat} (ha : 0 ≤ a) (h : a ≤ b) : a * a ≤ b * b := by
  have h1 := Rat.mul_le_mul_of_nonneg_left h ha
  have h2 := Rat.mul_le_mul_of_nonneg_right h (show 0 ≤ b by grind)
  grind
theorem two_sq (h : Int) : two (2 * h) = two h * two h := by rw [show 2 * h = h + h by omega, two_add]
/-- the root -/
theorem sqrt_near {x : Nat} (hx : fin x = true) (h0 : 0 < R x) (hb : R x < two 1020) : ∃ r, double.sqrt x = some r ∧ fin r = true ∧ 0 < R r ∧ R r * R r ≤ R x * (1 + two (-49)) ∧ R x ≤ R r * R r * (1 + two (-49)) := by
  obtain ⟨s, m, i, h1⟩ := fin_read hx
  have hpl := place_ge h1
  rw [R_num h1] at h0 hb ⊢
  have hi := two_pos i
  have hs : s = false := by
    cases s
    · rfl
    · have := mul_nn (nat_nn m) (Rat.le_of_lt hi)
      rw [sgR] at h0
      simp at h0
      grind
  subst hs
  rw [sgR] at h0 hb ⊢
  simp only [Bool.false_eq_true, if_false] at h0 hb ⊢
  have hm : m ≠ 0 := by rintro rfl; simp at h0
  obtain ⟨more, hmore⟩ : ∃ more, more = 2 * 54 - m.log2 + ((i - (2 * 54 - m.log2 : Nat)) % 2).toNat := ⟨_, rfl⟩
  obtain ⟨n, hn⟩ : ∃ n, n = m <<< more := ⟨_, rfl⟩
  obtain ⟨c, hc⟩ : ∃ c, c = Datum.rootFrom n (n.log2 / 2 + 1) 0 := ⟨_, rfl⟩
  obtain ⟨st, hst⟩ : ∃ st, st = (c * c != n).toNat := ⟨_, rfl⟩
  obtain ⟨h, hh⟩ : ∃ h, h = (i - more) / 2 := ⟨_, rfl⟩
  have hh2 : i = more + 2 * h := by omega
  have hr : double.sqrt x = some (double.nearest false (2 * c + st) (h - 1)) := by
    unfold Format.sqrt
    rw [h1]
    simp only [Datum.root, if_neg hm, Bool.false_eq_true, if_false, Option.map_some, Format.write, fb]
    rw [← hmore, ← hn, ← hc, ← hst, ← hh]
  have hlog1 : 2 ^ m.log2 ≤ m := Nat.log2_self_le hm
  have hn108 : 2 ^ 108 ≤ n := by
    have : 2 ^ m.log2 * 2 ^ more ≤ m * 2 ^ more := Nat.mul_le_mul_right _ hlog1
    rw [← Nat.pow_add] at this
    have h2 : 2 ^ 108 ≤ 2 ^ (m.log2 + more) := Nat.pow_le_pow_right (by omega) (by omega)
    rw [hn, Nat.shiftLeft_eq]
    omega
  have hn0 : n ≠ 0 := by rintro rfl; omega
  have hroot := rootFrom_spec n (n.log2 / 2 + 1) 0 (by omega) (by
    have : n < 2 ^ (n.log2 + 1) := Nat.lt_log2_self
    have h2 : 2 ^ (n.log2 + 1) ≤ 2 ^ ((n.log2 / 2 + 1) + (n.log2 / 2 + 1)) := Nat.pow_le_pow_right (by omega) (by omega)
    rw [Nat.pow_add 2 (n.log2 / 2 + 1)] at h2
    rw [Nat.zero_add]
    omega)
  rw [← hc] at hroot
  have hcb : 2 ^ 54 ≤ c := by
    rcases Nat.lt_or_ge c (2 ^ 54) with h | h
    · have : (c + 1) * (c + 1) ≤ 2 ^ 54 * 2 ^ 54 := Nat.mul_le_mul h h
      have e : (2 : Nat) ^ 54 * 2 ^ 54 = 2 ^ 108 := by rw [← Nat.pow_add]
      omega
    · exact h
  have hst1 : st ≤ 1 := by rw [hst]; cases (c * c != n) <;> simp
  -- as rationals
  obtain ⟨u, hu⟩ : ∃ u, u = two h := ⟨_, rfl⟩
  have hup : 0 < u := by rw [hu]; exact two_pos _
  have hX : (m : Rat) * two i = n * (u * u) := by
    rw [hh2, two_add, two_nat, two_sq, ← hu, hn, Nat.shiftLeft_eq, Rat.natCast_mul, Rat.mul_assoc]
  obtain ⟨C, hC⟩ : ∃ C : Rat, C = c + st * (1 / 2) := ⟨_, rfl⟩
  have hw : ((sg false (2 * c + st) : Int) : Rat) * two (h - 1) = C * u := by
    have h2 := two_add (h - 1) 1
    have h3 : two 1 = 2 := by unfold two; simp
    rw [h3, show h - 1 + 1 = h by omega, ← hu] at h2
    rw [sgR, hC]
    simp only [Bool.false_eq_true, if_false, Rat.natCast_add, Rat.natCast_mul]
    grind
  have hcq : ((2 ^ 54 : Nat) : Rat) ≤ c := nle hcb
  have hc54 : ((2 ^ 54 : Nat) : Rat) = 18014398509481984 := by decide +kernel
  rw [hc54] at hcq
  have hsq : C * C ≤ n + 2 * C ∧ (n : Rat) ≤ C * C + 2 * C := by
    by_cases he : c * c = n
    · have : st = 0 := by rw [hst]; simp [he]
      rw [this] at hC
      have hCc : C = c := by grind
      have : (c : Rat) * c = n := by rw [← he, Rat.natCast_mul]
      rw [hCc]
      constructor <;> grind
    · have : st = 1 := by rw [hst]; simp [he]
      rw [this] at hC
      have hCc : C = c + 1 / 2 := by grind
      have k1 : (c : Rat) * c ≤ n := by rw [← Rat.natCast_mul]; exact nle hroot.1
      have k2 : (n : Rat) ≤ c * c + 2 * c + 1 := by
        have : n ≤ c * c + 2 * c + 1 := by have := hroot.2; rw [Nat.add_mul, Nat.mul_add] at this; omega
        have := nle this
        simp only [Rat.natCast_add, Rat.natCast_mul] at this
        exact this
      have e : C * C = c * c + c + 1 / 4 := by rw [hCc]; grind
      rw [e, hCc]
      constructor <;> grind
  have hst0 := nat_nn st
  have hCb : 18014398509481984 ≤ C := by grind
  have hCC : 18014398509481984 * C ≤ C * C := Rat.mul_le_mul_of_nonneg_right hCb (by grind)
  -- the size
  have huu : 0 ≤ u * u := mul_nn (Rat.le_of_lt hup) (Rat.le_of_lt hup)
  have hw0 : 0 ≤ C * u := mul_nn (by grind) (Rat.le_of_lt hup)
  have hbw : ab (C * u) < two 1023 := by
    have e1 : ab (C * u) = C * u := by unfold ab; rw [if_pos hw0]
    rw [e1]
    by_cases hlt : C * u < two 1023
    · exact hlt
    · have h4 : two 1023 ≤ C * u := by grind
      have h5 := sq_le (Rat.le_of_lt (two_pos _)) h4
      have h6 : two 1020 * 8 ≤ two 1023 * two 1023 := by
        have e : two 1023 = two 1020 * 8 := by
          have := two_add 1020 3
          have e3 : two 3 = 8 := by decide +kernel
          rw [e3] at this
          exact this
        have e7 := two_ge_one (show (0 : Int) ≤ 1023 by decide)
        have := Rat.mul_le_mul_of_nonneg_left e7 (Rat.le_of_lt (two_pos 1023))
        rw [← e]; grind
      have h7 := Rat.mul_le_mul_of_nonneg_right (show C * C ≤ 2 * n by grind) huu
      have h8 : C * u * (C * u) = C * C * (u * u) := by grind
      rw [hX] at hb
      have := two_pos 1020
      grind
  obtain ⟨g1, g2, g3⟩ := write_near false (2 * c + st) (h - 1) (C * u) hw hbw
  refine ⟨_, hr, g1, ?_⟩
  rw [show ab (C * u) = C * u by unfold ab; rw [if_pos hw0]] at g2 g3
  -- the absolute part is little
  have habs : two (-1074) ≤ C * u * two (-60) := by
    have e1 : two (-592) ≤ u := by rw [hu]; exact two_mono (by omega)
    have e2 := Rat.mul_le_mul_of_nonneg_right e1 (Rat.le_of_lt (two_pos (-60)))
    rw [← two_add] at e2
    have e3 : two (-1074) ≤ two (-592 + -60) := two_mono (by decide)
    have e4 : u ≤ C * u := by
      have := Rat.mul_le_mul_of_nonneg_right (show 1 ≤ C by grind) (Rat.le_of_lt hup)
      grind
    have e5 := Rat.mul_le_mul_of_nonneg_right e4 (Rat.le_of_lt (two_pos (-60)))
    grind
  have q52 : two (-52) = 1 / 4503599627370496 := by decide +kernel
  have q60 : two (-60) = 1 / 1152921504606846976 := by decide +kernel
  have q49 : two (-49) = 1 / 562949953421312 := by decide +kernel
  rw [q60] at habs
  rw [q52] at g2 g3
  rw [q49, hX]
  generalize R (double.nearest false (2 * c + st) (h - 1)) = r at *
  obtain ⟨w, hwd⟩ : ∃ w, w = C * u := ⟨_, rfl⟩
  rw [← hwd] at g2 g3 hw0 habs
  have hww : w * w = C * C * (u * u) := by rw [hwd]; grind
  have hwpos : 0 < w := by rw [hwd]; exact Rat.mul_pos (by grind) hup
  have r1 : r ≤ w * (1 + 1 / 2251799813685248) := by grind
  have r2 : w * (1 - 1 / 2251799813685248) ≤ r := by grind
  have r0 : 0 < r := by grind
  have s1 := sq_le (Rat.le_of_lt r0) r1
  have s2 := sq_le (show 0 ≤ w * (1 - 1 / 2251799813685248) by grind) r2
  have c1 := Rat.mul_le_mul_of_nonneg_right hsq.1 huu
  have c2 := Rat.mul_le_mul_of_nonneg_right hsq.2 huu
  have c3 := Rat.mul_le_mul_of_nonneg_right hCC huu
  have x1 : w * w ≤ n * (u * u) + 2 * (C * (u * u)) := by grind
  have x2 : n * (u * u) ≤ w * w + 2 * (C * (u * u)) := by grind
  have x3 : 18014398509481984 * (C * (u * u)) ≤ w * w := by grind
  have x4 : r * r ≤ (w * w) * ((1 + 1 / 2251799813685248) * (1 + 1 / 2251799813685248)) := by grind
  have x5 : (w * w) * ((1 - 1 / 2251799813685248) * (1 - 1 / 2251799813685248)) ≤ r * r := by grind
  have x6 : 0 ≤ w * w := mul_nn hw0 hw0
  have x7 : 0 ≤ C * (u * u) := mul_nn (by grind) huu
  refine ⟨r0, ?_, ?_⟩
  · clear hwd hww s1 s2 c1 c2 c3 g2 g3 r1 r2 hsq hCC hCb hb h0
    generalize w * w = A at *
    generalize r * r = B at *
    generalize (n : Rat) * (u * u) = D at *
    generalize C * (u * u) = E at *
    grind
  · clear hwd hww s1 s2 c1 c2 c3 g2 g3 r1 r2 hsq hCC hCb hb h0
    generalize w * w = A at *
    generalize r * r = B at *
    generalize (n : Rat) * (u * u) = D at *
    generalize C * (u * u) = E at *
    grind
end Go.Fr
