/- floatToInt truncates; one more and one less of a whole double. No program. -/
import Derived.Test.YtmifbojmkgibiaaFl2
set_option linter.unusedVariables false
namespace Go.Proofs.Ytmifbojmkgibiaa
open Ieee

theorem read_one : double.read 4607182418800017408 = .number false (2 ^ 52) (-52) := by kernel_rfl
theorem sgn_neg (s : Bool) (n : Nat) : sgn (!s) n = - sgn s n := by unfold sgn; cases s <;> simp

/-- A whole double and plus or minus one. -/
theorem sum_one {t : Nat} {r : Int} (s' : Bool) (hV : V t = some (r * SS)) (h1 : -4503599627370496 ≤ r) (h2 : r ≤ 4503599627370496) :
    ∃ u, ((double.read t).sum (.number s' (2 ^ 52) (-52))).map double.write = some u ∧ V u = some ((r + sgn s' 1) * SS) := by
  have hS := SS_pos
  obtain ⟨s, m, i, hr, hv⟩ := V_in hV (mul_le (by omega)) (mul_le (by omega))
  obtain ⟨g1, g2, g3⟩ := read_number hr
  rw [hr]
  simp only [Datum.sum, Option.map_some, signed_eq]
  generalize hb : min i (-52) = base
  have hb1 : -1074 ≤ base := by omega
  have hb2 : base ≤ -52 := by omega
  generalize htot : sgn s (m * 2 ^ (i - base).toNat) + sgn s' (2 ^ 52 * 2 ^ (-52 - base).toNat) = tot
  have hk : tot * ((2 ^ (base + 1074).toNat : Nat) : Int) = (r + sgn s' 1) * SS := by
    rw [← htot, Int.add_mul, ← sgn_mul, ← sgn_mul, Int.add_mul, hv]
    congr 1
    · congr 1
      rw [Nat.mul_assoc, ← Nat.pow_add]
      congr 2
      omega
    · rw [SS_eq, ← sgn_mul]
      congr 1
      rw [Nat.mul_assoc, ← Nat.pow_add, ← Nat.pow_add, Nat.one_mul]
      have : 52 + ((-52 - base).toNat + (base + 1074).toNat) = ES := by rw [ES_eq]; omega
      rw [this]
  have hes : ES = (-base).toNat + (base + 1074).toNat := by rw [ES_eq]; omega
  have hk2 : tot = (r + sgn s' 1) * ((2 ^ (-base).toNat : Nat) : Int) := by
    have hp : ((2 ^ (base + 1074).toNat : Nat) : Int) ≠ 0 := by
      have : 0 < 2 ^ (base + 1074).toNat := Nat.two_pow_pos _
      omega
    apply Int.eq_of_mul_eq_mul_right hp
    rw [hk, Int.mul_assoc, SS_eq, hes, Nat.pow_add]
    push_cast
    rfl
  clear hk htot
  generalize hR : r + sgn s' 1 = R' at *
  have hRb : R'.natAbs < 2 ^ 53 := by
    rw [← hR]; unfold sgn; cases s' <;> simp <;> omega
  by_cases h0 : R' = 0
  · subst h0
    rw [Int.zero_mul] at hk2
    subst hk2
    refine ⟨_, rfl, ?_⟩
    show V (double.nearest _ (0 : Int).natAbs base) = _
    rw [show (0 : Int).natAbs = 0 from rfl, V_zero, Int.zero_mul]
  · have hpp : 0 < 2 ^ (-base).toNat := Nat.two_pow_pos _
    have hna : tot.natAbs = R'.natAbs * 2 ^ (-base).toNat := by rw [hk2, Int.natAbs_mul, Int.natAbs_natCast]
    have ht0 : ¬ tot = 0 := by
      intro e
      rw [e] at hna
      have : 0 < R'.natAbs * 2 ^ (-base).toNat := Nat.mul_pos (by omega) hpp
      simp at hna
      omega
    refine ⟨_, rfl, ?_⟩
    rw [if_neg ht0]
    show V (double.nearest (decide (tot < 0)) tot.natAbs base) = _
    have hlg : (R'.natAbs * 2 ^ (-base).toNat).log2 ≤ 52 + (-base).toNat := by
      have h3 : R'.natAbs * 2 ^ (-base).toNat < 2 ^ (53 + (-base).toNat) := by rw [Nat.pow_add]; exact Nat.mul_lt_mul_of_pos_right hRb hpp
      have hp : 0 < R'.natAbs * 2 ^ (-base).toNat := Nat.mul_pos (by omega) hpp
      have := (Nat.log2_lt (by omega)).2 h3
      omega
    rw [hna, V_nearest _ R'.natAbs (-base).toNat base (by omega) hRb hb1 (by omega)]
    congr 1
    rw [Nat.mul_assoc, ← Nat.pow_add, ← hes, sgn_mul, SS_eq]
    congr 1
    have hsign : tot < 0 ↔ R' < 0 := by
      rw [hk2]
      constructor
      · intro h
        rcases Int.lt_or_le R' 0 with h' | h'
        · exact h'
        · have := Int.mul_nonneg h' (Int.natCast_nonneg (2 ^ (-base).toNat)); omega
      · intro h
        exact Int.mul_neg_of_neg_of_pos h (by omega)
    unfold sgn
    by_cases h1 : R' < 0
    · have := hsign.2 h1; simp [this]; omega
    · have : ¬ tot < 0 := fun h => h1 (hsign.1 h)
      simp [this]; omega
theorem add_one {t : Nat} {r : Int} (hV : V t = some (r * SS)) (h1 : -4503599627370496 ≤ r) (h2 : r ≤ 4503599627370496) :
    ∃ u, floatBits .add .f64 t 4607182418800017408 = some u ∧ V u = some ((r + 1) * SS) := by
  obtain ⟨u, hu, hv⟩ := sum_one false hV h1 h2
  refine ⟨u, ?_, hv⟩
  show ((double.read t).sum (double.read 4607182418800017408)).map double.write = some u
  rw [read_one]; exact hu
theorem sub_one {t : Nat} {r : Int} (hV : V t = some (r * SS)) (h1 : -4503599627370496 ≤ r) (h2 : r ≤ 4503599627370496) :
    ∃ u, floatBits .sub .f64 t 4607182418800017408 = some u ∧ V u = some ((r - 1) * SS) := by
  obtain ⟨u, hu, hv⟩ := sum_one true hV h1 h2
  refine ⟨u, ?_, hv⟩
  show ((double.read t).sum (double.read 4607182418800017408).opposite).map double.write = some u
  rw [read_one]; exact hu

/-- From 2^52 on a double is whole. -/
theorem whole {x : Nat} {v : Int} (h : V x = some v) (hb : 4503599627370496 * SS ≤ v ∨ v ≤ -4503599627370496 * SS) : v = v.tdiv SS * SS := by
  obtain ⟨s, m, p, hm, rfl⟩ := V_form h
  have hS := SS_pos
  have hbig : 4503599627370496 * 2 ^ ES ≤ m * 2 ^ p := by
    rw [SS_eq] at hb
    unfold sgn at hb
    generalize 2 ^ ES = c at *
    split at hb <;> omega
  have hp : ES ≤ p := by
    rcases Nat.lt_or_ge p ES with h' | h'
    · exfalso
      have h1 : m * 2 ^ p < 2 ^ 53 * 2 ^ p := Nat.mul_lt_mul_of_pos_right hm (Nat.two_pow_pos _)
      have h2 : 2 ^ 53 * 2 ^ p = 2 ^ 52 * 2 ^ (p + 1) := by rw [← Nat.pow_add, ← Nat.pow_add]; congr 1; omega
      have h3 : 2 ^ (p + 1) ≤ 2 ^ ES := Nat.pow_le_pow_right (by omega) (by omega)
      have h4 : 2 ^ 52 * 2 ^ (p + 1) ≤ 2 ^ 52 * 2 ^ ES := Nat.mul_le_mul_left _ h3
      have h5 : (2 : Nat) ^ 52 = 4503599627370496 := by decide
      rw [h5] at h2 h4
      omega
    · exact h'
  rw [SS_eq, sgn_tdiv, ← sgn_mul]
  congr 1
  have : p = (p - ES) + ES := by omega
  have hd : 2 ^ ES ∣ m * 2 ^ p := by rw [this, Nat.pow_add, ← Nat.mul_assoc]; exact Nat.dvd_mul_left _ _
  exact (Nat.div_mul_cancel hd).symm

/-- The truncation's bounds. -/
theorem trunc_pos {v : Int} (h : 0 ≤ v) : 0 ≤ v.tdiv SS ∧ v.tdiv SS * SS ≤ v ∧ v < (v.tdiv SS + 1) * SS := by
  have hS := SS_pos
  rw [Int.tdiv_eq_ediv_of_nonneg h]
  refine ⟨Int.ediv_nonneg h (Int.le_of_lt hS), Int.ediv_mul_le v (by omega), Int.lt_ediv_add_one_mul_self v hS⟩
theorem trunc_neg {v : Int} (h : v < 0) : v.tdiv SS ≤ 0 ∧ v ≤ v.tdiv SS * SS ∧ (v.tdiv SS - 1) * SS < v := by
  obtain ⟨h1, h2, h3⟩ := trunc_pos (v := -v) (by omega)
  rw [Int.neg_tdiv] at h1 h2 h3
  have e1 : -v.tdiv SS * SS = -(v.tdiv SS * SS) := Int.neg_mul _ _
  have e2 : (-v.tdiv SS + 1) * SS = -((v.tdiv SS - 1) * SS) := by rw [← Int.neg_mul]; congr 1; omega
  rw [e1] at h2
  rw [e2] at h3
  omega
theorem tdiv_bd {v c : Int} (hc : 0 ≤ c) (h1 : -c * SS ≤ v) (h2 : v ≤ c * SS) : -c ≤ v.tdiv SS ∧ v.tdiv SS ≤ c := by
  have hS := SS_pos
  have g1 := Int.tdiv_le_tdiv hS h1
  have g2 := Int.tdiv_le_tdiv hS h2
  rw [tdiv_mul] at g1 g2
  exact ⟨g1, g2⟩
end Go.Proofs.Ytmifbojmkgibiaa
