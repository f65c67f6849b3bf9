/- floatToInt in plain terms: what it answers, that it is idempotent and monotone, that it truncates. No program. -/
import Derived.Test.YtmifbojmkgibiaaFlt
set_option linter.unusedVariables false
namespace Go.Proofs.Ytmifbojmkgibiaa
open Ieee

@[irreducible] def SS : Int := ((2 ^ ES : Nat) : Int)
theorem SS_eq : SS = ((2 ^ ES : Nat) : Int) := by unfold SS; rfl
theorem SS_pos : 0 < SS := by rw [SS_eq]; have : 0 < 2 ^ ES := Nat.two_pow_pos ES; omega

theorem V_pow (neg : Bool) (k : Nat) (hk : k ≤ 900) : V (double.word neg ((k + 1022) * 2 ^ 52 + 2 ^ 52)) = some (sgn neg (2 ^ k) * SS) := by
  have e : 2 ^ 52 * 2 ^ (k + 1022) = 2 ^ k * 2 ^ ES := by
    rw [← Nat.pow_add, ← Nat.pow_add]
    have : 52 + (k + 1022) = k + ES := by rw [ES_eq]; omega
    rw [this]
  rw [V_normal neg _ _ (Nat.le_refl _) (by omega) (by omega), SS_eq, ← sgn_mul, e]
theorem V_lo : V 14114281232179134464 = some (-9223372036854775808 * SS) := V_pow true 63 (by omega)
theorem V_hi : V 4890909195324358656 = some (9223372036854775808 * SS) := V_pow false 63 (by omega)
theorem V_52 : V 4841369599423283200 = some (4503599627370496 * SS) := V_pow false 52 (by omega)
theorem V_52n : V 14064741636278059008 = some (-4503599627370496 * SS) := V_pow true 52 (by omega)
theorem V_0 : V 0 = some 0 := V_small false 0 (by omega)
theorem V_1 : V 4607182418800017408 = some (1 * SS) := V_pow false 0 (by omega)

/-- What floatToInt answers. -/
def R : Option Int → Int
  | none => -9223372036854775808
  | some v => if -9223372036854775808 * SS ≤ v ∧ v < 9223372036854775808 * SS then v.tdiv SS else if 0 < v then 9223372036854775807 else -9223372036854775808

theorem R_some (v : Int) : R (some v) = if -9223372036854775808 * SS ≤ v ∧ v < 9223372036854775808 * SS then v.tdiv SS else if 0 < v then 9223372036854775807 else -9223372036854775808 := rfl

theorem V_form {x : Nat} {v : Int} (h : V x = some v) : ∃ s m p, m < 2 ^ 53 ∧ v = sgn s (m * 2 ^ p) := by
  unfold V at h
  cases hr : double.read x with
  | nan _ _ => rw [hr] at h; cases h
  | infinity s => rw [hr] at h; injection h with h; exact ⟨s, 1, EB, by omega, by rw [Nat.one_mul]; exact h.symm⟩
  | number s m i => rw [hr] at h; injection h with h; exact ⟨s, m, _, (read_number hr).1, h.symm⟩
/-- Within the range the word stands for a number. -/
theorem V_in {x : Nat} {v : Int} (h : V x = some v) (h1 : -9223372036854775808 * SS ≤ v) (h2 : v ≤ 9223372036854775808 * SS) : ∃ s m i, double.read x = .number s m i ∧ v = sgn s (m * 2 ^ (i + 1074).toNat) := by
  unfold V at h
  cases hr : double.read x with
  | nan _ _ => rw [hr] at h; cases h
  | infinity s =>
    rw [hr] at h; injection h with h
    exfalso
    have e : 2 ^ EB = 2 ^ (EB - ES) * 2 ^ ES := by rw [← Nat.pow_add]; congr 1; rw [EB_eq, EQ_eq, ES_eq]
    have e2 : 2 ^ 64 ≤ 2 ^ (EB - ES) := Nat.pow_le_pow_right (by omega) (by rw [EB_eq, EQ_eq, ES_eq]; omega)
    have e3 : 2 ^ 64 * 2 ^ ES ≤ 2 ^ EB := by rw [e]; exact Nat.mul_le_mul_right _ e2
    have hS := SS_pos
    rw [SS_eq] at h1 h2 hS
    generalize 2 ^ EB = b at *
    generalize 2 ^ ES = c at *
    unfold sgn at h
    split at h <;> omega
  | number s m i => rw [hr] at h; injection h with h; exact ⟨s, m, i, rfl, h.symm⟩

theorem toIntVal {x : Nat} {v : Int} (h : V x = some v) (h1 : -9223372036854775808 * SS ≤ v) (h2 : v < 9223372036854775808 * SS) : floatToIntVal .f64 x .i64 = some (v.tdiv SS) := by
  obtain ⟨s, m, i, hr, hv⟩ := V_in h h1 (by omega)
  have hS := SS_pos
  have ht := toInt_V hr
  rw [← hv, ← SS_eq] at ht
  have hd : FloatKind.f64.decode x = double.read x := rfl
  unfold floatToIntVal
  rw [hd, ht]
  simp only
  have hmin : IntKind.i64.min = -9223372036854775808 := by decide
  have hmax : IntKind.i64.max = 9223372036854775807 := by decide
  rw [hmin, hmax]
  have b1 : -9223372036854775808 ≤ v.tdiv SS := by
    by_cases h0 : 0 ≤ v
    · have := Int.tdiv_nonneg h0 (Int.le_of_lt hS); omega
    · have e : v.tdiv SS = -((-v).tdiv SS) := by rw [Int.neg_tdiv]; omega
      have : (-v).tdiv SS ≤ 9223372036854775808 := by
        rw [Int.tdiv_eq_ediv_of_nonneg (by omega)]
        have h3 : (-v) / SS < 9223372036854775808 + 1 := by
          rw [Int.ediv_lt_iff_lt_mul hS]
          have : (9223372036854775808 + 1) * SS = 9223372036854775808 * SS + SS := by rw [Int.add_mul, Int.one_mul]
          omega
        omega
      omega
  have b2 : v.tdiv SS ≤ 9223372036854775807 := by
    by_cases h0 : 0 ≤ v
    · rw [Int.tdiv_eq_ediv_of_nonneg h0]
      have h3 : v / SS < 9223372036854775808 := by
        rw [Int.ediv_lt_iff_lt_mul hS]; omega
      omega
    · have e : v.tdiv SS = -((-v).tdiv SS) := by rw [Int.neg_tdiv]; omega
      have := Int.tdiv_nonneg (show 0 ≤ -v by omega) (Int.le_of_lt hS)
      omega
  rw [if_pos ⟨b1, b2⟩]

/-- n has at most 53 digits. -/
def Rep (n : Int) : Prop := ∃ a d : Nat, n.natAbs = a * 2 ^ d ∧ a < 2 ^ 53
theorem rep_small {n : Int} (h : n.natAbs < 2 ^ 53) : Rep n := ⟨n.natAbs, 0, by simp, h⟩
theorem rep_tdiv {x : Nat} {v : Int} (h : V x = some v) : Rep (v.tdiv SS) := by
  obtain ⟨s, m, p, hm, rfl⟩ := V_form h
  rw [SS_eq, sgn_tdiv]
  unfold Rep
  rw [sgn_abs]
  by_cases hp : ES ≤ p
  · refine ⟨m, p - ES, ?_, hm⟩
    have : p = (p - ES) + ES := by omega
    conv => lhs; rw [this, Nat.pow_add, ← Nat.mul_assoc]
    rw [Nat.mul_div_cancel _ (Nat.two_pow_pos _)]
  · refine ⟨m * 2 ^ p / 2 ^ ES, 0, by simp, ?_⟩
    have h1 : m * 2 ^ p / 2 ^ ES ≤ m := by
      apply Nat.div_le_of_le_mul
      rw [Nat.mul_comm]
      exact Nat.mul_le_mul_right _ (Nat.pow_le_pow_right (by omega) (by omega))
    omega
theorem V_ofInt {n : Int} (h : Rep n) (hb : n.natAbs ≤ 9223372036854775808) : V (floatOfInt .f64 n) = some (n * SS) := by
  obtain ⟨a, d, hn, ha⟩ := h
  show V (double.nearest (decide (n < 0)) n.natAbs 0) = _
  by_cases h0 : n = 0
  · subst h0
    rw [show (0 : Int).natAbs = 0 from rfl, V_zero, Int.zero_mul]
  · have hl : n.natAbs.log2 ≤ 63 := by
      have := (Nat.log2_lt (show n.natAbs ≠ 0 by omega) (k := 64)).2 (by omega)
      omega
    have ha0 : 0 < a := by
      rcases Nat.eq_zero_or_pos a with e | e
      · subst e; simp at hn; omega
      · exact e
    have hv := V_nearest (decide (n < 0)) a d 0 ha0 ha (by omega) (by rw [← hn]; omega)
    rw [← hn] at hv
    rw [hv, SS_eq]
    have e : ((0 : Int) + 1074).toNat = ES := by rw [ES_eq]; rfl
    rw [e]
    congr 1
    rw [sgn_mul]
    congr 1
    unfold sgn
    by_cases h1 : n < 0
    · simp [h1]; omega
    · simp [h1]; omega

theorem tdiv_mul (a : Int) : (a * SS).tdiv SS = a := Int.mul_tdiv_cancel a (by have := SS_pos; omega)
theorem mul_lt {a b : Int} (h : a < b) : a * SS < b * SS := Int.mul_lt_mul_of_pos_right h SS_pos
theorem mul_le {a b : Int} (h : a ≤ b) : a * SS ≤ b * SS := Int.mul_le_mul_of_nonneg_right h (Int.le_of_lt SS_pos)

theorem R_bounds (o : Option Int) : (∀ v, o = some v → ∃ x, V x = some v) → -9223372036854775808 ≤ R o ∧ R o ≤ 9223372036854775807 := by
  intro hx
  cases o with
  | none => simp [R]
  | some v =>
    obtain ⟨x, hV⟩ := hx v rfl
    simp only [R_some]
    by_cases h : -9223372036854775808 * SS ≤ v ∧ v < 9223372036854775808 * SS
    · rw [if_pos h]
      have := floatToIntVal_wf (toIntVal hV h.1 h.2)
      have hmin : IntKind.i64.min = -9223372036854775808 := by decide
      have hmax : IntKind.i64.max = 9223372036854775807 := by decide
      simp only [Lit.wf, hmin, hmax, Bool.and_eq_true, decide_eq_true_eq] at this
      exact this
    · rw [if_neg h]
      split <;> omega
theorem R_bd (x : Nat) : -9223372036854775808 ≤ R (V x) ∧ R (V x) ≤ 9223372036854775807 := R_bounds _ (fun v h => ⟨x, h⟩)

theorem R_whole {a : Int} (h1 : -9223372036854775808 ≤ a) (h2 : a < 9223372036854775808) : R (some (a * SS)) = a := by
  simp only [R_some]
  rw [if_pos ⟨mul_le h1, mul_lt h2⟩, tdiv_mul]
/-- IDEMPOTENT. -/
theorem R_idem (x : Nat) : R (V (floatOfInt .f64 (R (V x)))) = R (V x) := by
  have hlo : R (V (floatOfInt .f64 (-9223372036854775808))) = -9223372036854775808 := by
    have e : floatOfInt .f64 (-9223372036854775808) = 14114281232179134464 := by kernel_rfl
    rw [e, V_lo, R_whole (by omega) (by omega)]
  cases hV : V x with
  | none => exact hlo
  | some v =>
    by_cases h : -9223372036854775808 * SS ≤ v ∧ v < 9223372036854775808 * SS
    · have hR : R (some v) = v.tdiv SS := by rw [R_some]; rw [if_pos h]
      have hb := R_bd x
      rw [hV, hR] at hb
      rw [hR, V_ofInt (rep_tdiv hV) (by omega), R_whole hb.1 (by omega)]
    · by_cases h0 : 0 < v
      · have hR : R (some v) = 9223372036854775807 := by rw [R_some]; rw [if_neg h, if_pos h0]
        rw [hR]
        have e : floatOfInt .f64 9223372036854775807 = 4890909195324358656 := by kernel_rfl
        rw [e, V_hi]
        simp only [R_some]
        have hS := SS_pos
        rw [if_neg (by omega), if_pos (by omega)]
      · have hR : R (some v) = -9223372036854775808 := by rw [R_some]; rw [if_neg h, if_neg h0]
        rw [hR]; exact hlo
/-- MONOTONE. -/
theorem R_mono {x y : Nat} {a b : Int} (hx : V x = some a) (hy : V y = some b) (hab : a ≤ b) : R (V x) ≤ R (V y) := by
  have b1 := R_bd x
  have b2 := R_bd y
  have hS := SS_pos
  rw [hx] at b1 ⊢
  rw [hy] at b2 ⊢
  simp only [R_some] at b1 b2 ⊢
  by_cases h : -9223372036854775808 * SS ≤ a ∧ a < 9223372036854775808 * SS
  · by_cases g : -9223372036854775808 * SS ≤ b ∧ b < 9223372036854775808 * SS
    · rw [if_pos h, if_pos g]
      exact Int.tdiv_le_tdiv hS hab
    · have h0 : 0 < b := by omega
      rw [if_pos h] at b1 ⊢
      rw [if_neg g, if_pos h0]
      exact b1.2
  · by_cases h0 : 0 < a
    · have g : ¬ (-9223372036854775808 * SS ≤ b ∧ b < 9223372036854775808 * SS) := by omega
      rw [if_neg h, if_neg g, if_pos h0, if_pos (by omega)]
      exact Int.le_refl _
    · rw [if_neg h, if_neg h0]
      exact b2.1
end Go.Proofs.Ytmifbojmkgibiaa
