/- Doubles as exact numbers: a word's value times 2^1074. No program. -/
import Derived.Laws.FloatArith
set_option linter.unusedVariables false
namespace Go.Proofs.Ytmifbojmkgibiaa
open Ieee

def sgn (neg : Bool) (v : Nat) : Int := if neg then -(v : Int) else v
theorem signed_eq (neg : Bool) (mag up : Nat) : signed neg mag up = sgn neg (mag * 2 ^ up) := by
  unfold signed sgn
  rw [Nat.shiftLeft_eq]
theorem sgn_mul (neg : Bool) (a c : Nat) : sgn neg (a * c) = sgn neg a * c := by
  unfold sgn
  split
  · push_cast; rw [Int.neg_mul]
  · push_cast; rfl
theorem sgn_abs (neg : Bool) (a : Nat) : (sgn neg a).natAbs = a := by
  unfold sgn; split <;> simp
theorem lp : double.leastPlace = -1074 := by decide
theorem bn : double.binade = 2 ^ 52 := rfl
theorem ir : double.infRung = 2047 * 2 ^ 52 := rfl
theorem sw : double.signWeight = 2 ^ 63 := rfl

@[irreducible] def EB : Nat := 2098
@[irreducible] def ES : Nat := 1074
@[irreducible] def EQ : Nat := 2045
theorem EB_eq : EB = 53 + EQ := by unfold EB EQ; rfl
theorem EQ_eq : EQ = 2045 := by unfold EQ; rfl
theorem ES_eq : ES = 1074 := by unfold ES; rfl

/-- The value times 2^1074; an infinity beyond all; a NaN has none. -/
def V (x : Nat) : Option Int :=
  match double.read x with
  | .nan .. => none
  | .infinity s => some (sgn s (2 ^ EB))
  | .number s m i => some (sgn s (m * 2 ^ (i + 1074).toNat))

theorem read_number {x m : Nat} {s : Bool} {i : Int} (h : double.read x = .number s m i) : m < 2 ^ 53 ∧ -1074 ≤ i ∧ i ≤ 971 := by
  unfold Format.read at h
  rw [lp, bn, ir, sw] at h
  simp only at h
  split at h
  · rename_i h1
    injection h with _ h2 h3
    omega
  · split at h
    · rename_i h1 h2
      injection h with _ h3 h4
      omega
    · split at h <;> cases h

theorem mul_pow_lt {m k : Nat} (hm : m < 2 ^ 53) (hk : k ≤ 2045) : m * 2 ^ k < 2 ^ EB := by
  have h1 : 2 ^ k ≤ 2 ^ EQ := Nat.pow_le_pow_right (by omega) (by rw [EQ_eq]; exact hk)
  rw [EB_eq, Nat.pow_add]
  exact Nat.lt_of_lt_of_le (Nat.mul_lt_mul_of_pos_right hm (Nat.two_pow_pos _)) (Nat.mul_le_mul_left _ h1)

theorem cmp_congr {a b a' b' : Int} (h1 : a < b ↔ a' < b') (h2 : a = b ↔ a' = b') : compare a b = compare a' b' := by
  simp only [compare, compareOfLessAndEq, h1, h2]
theorem cmp_mul (a b : Int) (c : Nat) (hc : 0 < c) : compare (a * c) (b * c) = compare a b := by
  have hc' : (0 : Int) < c := by omega
  refine cmp_congr ⟨fun h => Int.lt_of_mul_lt_mul_right h (Int.le_of_lt hc'), fun h => Int.mul_lt_mul_of_pos_right h hc'⟩ ⟨fun h => Int.eq_of_mul_eq_mul_right (by omega) h, fun h => by rw [h]⟩
theorem cmp_lt {a b : Int} (h : a < b) : compare a b = .lt := by simp [compare, compareOfLessAndEq, h]
theorem cmp_gt {a b : Int} (h : b < a) : compare a b = .gt := by
  have h1 : ¬ a < b := by omega
  have h2 : ¬ a = b := by omega
  simp [compare, compareOfLessAndEq, h1, h2]
theorem cmp_eq (a : Int) : compare a a = .eq := by simp [compare, compareOfLessAndEq]

theorem sgn_lt (s : Bool) {a c : Nat} (h : a < c) : -(c : Int) < sgn s a ∧ sgn s a < c := by
  unfold sgn; split <;> omega

theorem order_V {x y : Nat} {a b : Int} (hx : V x = some a) (hy : V y = some b) : double.order x y = some (compare a b) := by
  unfold V at hx hy
  unfold Format.order
  cases hrx : double.read x with
  | nan _ _ => rw [hrx] at hx; cases hx
  | infinity s =>
    rw [hrx] at hx
    injection hx with hx
    cases hry : double.read y with
    | nan _ _ => rw [hry] at hy; cases hy
    | infinity t =>
      rw [hry] at hy
      injection hy with hy
      subst hx hy
      have hp : 0 < 2 ^ EB := Nat.two_pow_pos EB
      generalize 2 ^ EB = c at hp
      simp only [Datum.order]
      cases s <;> cases t <;> simp only [sgn, Bool.toNat, if_true, Bool.false_eq_true, if_false]
      · rw [cmp_eq]; rfl
      · rw [cmp_gt (by omega)]; rfl
      · rw [cmp_lt (by omega)]; rfl
      · rw [cmp_eq]; rfl
    | number t n j =>
      rw [hry] at hy
      injection hy with hy
      obtain ⟨h1, h2, h3⟩ := read_number hry
      have hb := sgn_lt t (mul_pow_lt h1 (show (j + 1074).toNat ≤ 2045 by omega))
      subst hx hy
      generalize sgn t (n * 2 ^ (j + 1074).toNat) = v at hb
      generalize 2 ^ EB = c at hb
      simp only [Datum.order]
      cases s <;> simp only [sgn, if_true, Bool.false_eq_true, if_false]
      · rw [cmp_gt hb.2]
      · rw [cmp_lt hb.1]
  | number s m i =>
    rw [hrx] at hx
    injection hx with hx
    obtain ⟨g1, g2, g3⟩ := read_number hrx
    cases hry : double.read y with
    | nan _ _ => rw [hry] at hy; cases hy
    | infinity t =>
      rw [hry] at hy
      injection hy with hy
      have hb := sgn_lt s (mul_pow_lt g1 (show (i + 1074).toNat ≤ 2045 by omega))
      subst hx hy
      generalize sgn s (m * 2 ^ (i + 1074).toNat) = v at hb
      generalize 2 ^ EB = c at hb
      simp only [Datum.order]
      cases t <;> simp only [sgn, if_true, Bool.false_eq_true, if_false]
      · rw [cmp_lt hb.2]
      · rw [cmp_gt hb.1]
    | number t n j =>
      rw [hry] at hy
      injection hy with hy
      obtain ⟨h1, h2, h3⟩ := read_number hry
      subst hx hy
      simp only [Datum.order]
      rw [signed_eq, signed_eq]
      have e1 : (i + 1074).toNat = (i - min i j).toNat + (min i j + 1074).toNat := by omega
      have e2 : (j + 1074).toNat = (j - min i j).toNat + (min i j + 1074).toNat := by omega
      rw [e1, e2, Nat.pow_add, Nat.pow_add, ← Nat.mul_assoc, ← Nat.mul_assoc, sgn_mul s (m * 2 ^ (i - min i j).toNat), sgn_mul t (n * 2 ^ (j - min i j).toNat), cmp_mul _ _ _ (Nat.two_pow_pos _)]

theorem order_nan {x y : Nat} (h : V x = none ∨ V y = none) : double.order x y = none := by
  unfold V at h
  unfold Format.order
  rcases h with h | h
  · cases hrx : double.read x with
    | nan _ _ => simp [Datum.order]
    | infinity s => rw [hrx] at h; cases h
    | number s m i => rw [hrx] at h; cases h
  · cases hry : double.read y with
    | nan _ _ => cases double.read x <;> simp [Datum.order]
    | infinity s => rw [hry] at h; cases h
    | number s m i => rw [hry] at h; cases h

theorem cut_zero (neg : Bool) (n drop : Nat) : Toward.zero.cut neg n drop = n / 2 ^ drop := by
  unfold Toward.cut
  simp only [Bool.toNat_false, Nat.add_zero, Nat.shiftLeft_eq, Nat.one_mul]
  by_cases h : drop ≤ n.log2 + 2
  · rw [Nat.min_eq_left h]
  · rw [Nat.min_eq_right (by omega)]
    have h1 : n < 2 ^ (n.log2 + 1) := Nat.lt_log2_self
    have h2 : 2 ^ (n.log2 + 1) ≤ 2 ^ (n.log2 + 2) := Nat.pow_le_pow_right (by omega) (by omega)
    have h3 : 2 ^ (n.log2 + 2) ≤ 2 ^ drop := Nat.pow_le_pow_right (by omega) (by omega)
    rw [Nat.div_eq_of_lt (by omega), Nat.div_eq_of_lt (by omega)]

theorem sgn_tdiv (s : Bool) (a c : Nat) : (sgn s a).tdiv (c : Int) = sgn s (a / c) := by
  unfold sgn
  split
  · rw [Int.neg_tdiv, Int.ofNat_tdiv]
  · rw [Int.ofNat_tdiv]

theorem toInt_V {x m : Nat} {s : Bool} {i : Int} (h : double.read x = .number s m i) : (double.read x).toInt .zero = some ((sgn s (m * 2 ^ (i + 1074).toNat)).tdiv ((2 ^ ES : Nat) : Int)) := by
  obtain ⟨h1, h2, h3⟩ := read_number h
  rw [h]
  simp only [Datum.toInt, Datum.integral]
  rw [cut_zero, signed_eq, Nat.pow_zero, Nat.mul_one, sgn_tdiv, Nat.shiftLeft_eq]
  congr 2
  by_cases hi : 0 ≤ i
  · have e1 : (-i).toNat = 0 := by omega
    have e2 : (i + 1074).toNat = i.toNat + ES := by rw [ES_eq]; omega
    rw [e1, e2, Nat.pow_zero, Nat.div_one, Nat.pow_add, ← Nat.mul_assoc, Nat.mul_div_cancel _ (Nat.two_pow_pos _)]
  · have e1 : i.toNat = 0 := by omega
    have e2 : ES = (-i).toNat + (i + 1074).toNat := by rw [ES_eq]; omega
    rw [e1, Nat.pow_zero, Nat.mul_one]
    conv => rhs; rw [e2, Nat.pow_add]
    rw [Nat.mul_div_mul_right _ _ (Nat.two_pow_pos _)]

/-- A word that stands for a number, from sign and rung. -/
theorem read_word (neg : Bool) (rung : Nat) (h : rung < 2047 * 2 ^ 52) : double.read (double.word neg rung) = if rung < 2 ^ 52 then .number neg rung (-1074) else .number neg (2 ^ 52 + rung % 2 ^ 52) (-1074 + (rung / 2 ^ 52 - 1 : Nat)) := by
  have h1 : double.word neg rung / 2 ^ 63 % 2 = neg.toNat ∧ double.word neg rung % 2 ^ 63 = rung := by
    unfold Format.word
    rw [sw]
    cases neg <;> simp only [if_true, Bool.false_eq_true, if_false, Bool.toNat, cond_true, cond_false] <;> omega
  unfold Format.read
  rw [lp, bn, ir, sw]
  simp only [h1.1, h1.2]
  have h2 : (neg.toNat == 1) = neg := by cases neg <;> rfl
  rw [h2]
  by_cases h3 : rung < 2 ^ 52
  · rw [if_pos h3, if_pos h3]
  · rw [if_neg h3, if_neg h3, if_pos h]

/-- From a significand of 53 digits and the place. -/
theorem V_normal (neg : Bool) (q kept : Nat) (h1 : 2 ^ 52 ≤ kept) (h2 : kept < 2 ^ 53) (hq : q ≤ 2045) : V (double.word neg (q * 2 ^ 52 + kept)) = some (sgn neg (kept * 2 ^ q)) := by
  unfold V
  rw [read_word neg _ (by omega), if_neg (by omega)]
  have e1 : 2 ^ 52 + (q * 2 ^ 52 + kept) % 2 ^ 52 = kept := by omega
  have e2 : (-1074 + (((q * 2 ^ 52 + kept) / 2 ^ 52 - 1 : Nat) : Int) + 1074).toNat = q := by omega
  simp only [e1, e2]
theorem V_small (neg : Bool) (kept : Nat) (h1 : kept < 2 ^ 52) : V (double.word neg kept) = some (sgn neg kept) := by
  unfold V
  rw [read_word neg _ (by omega), if_pos h1]
  simp

theorem cut_none (neg : Bool) (n : Nat) : Toward.even.cut neg n 0 = n := by
  unfold Toward.cut
  simp [Nat.mod_one]
theorem cut_even (neg : Bool) (n drop : Nat) (hd : drop ≤ n.log2 + 2) (h : n % 2 ^ drop = 0) : Toward.even.cut neg n drop = n / 2 ^ drop := by
  unfold Toward.cut
  have hp : 0 < 2 ^ drop := Nat.two_pow_pos _
  simp only [Nat.min_eq_left hd, Nat.shiftLeft_eq, Nat.one_mul, h, Nat.mul_zero]
  have e1 : decide (2 ^ drop < 0) = false := by simp
  have e2 : (2 ^ drop == 0) = false := by simp
  rw [e1, e2]
  simp

/-- NEAREST IS EXACT where the number has at most 53 digits and lies in the format. -/
theorem V_nearest (neg : Bool) (a d : Nat) (place : Int) (ha : 0 < a) (ha2 : a < 2 ^ 53) (hp : -1074 ≤ place) (hbig : ((a * 2 ^ d).log2 : Int) + place ≤ 1000) :
    V (double.nearest neg (a * 2 ^ d) place) = some (sgn neg (a * 2 ^ d * 2 ^ (place + 1074).toNat)) := by
  have hd0 : 0 < 2 ^ d := Nat.two_pow_pos _
  have hpos : 0 < a * 2 ^ d := Nat.mul_pos ha hd0
  have hlg : (a * 2 ^ d).log2 ≤ 52 + d := by
    have : (a * 2 ^ d) < 2 ^ (53 + d) := by rw [Nat.pow_add]; exact Nat.mul_lt_mul_of_pos_right ha2 hd0
    have := (Nat.log2_lt (by omega)).2 this
    omega
  have hlo : 2 ^ (a * 2 ^ d).log2 ≤ a * 2 ^ d := Nat.log2_self_le (by omega)
  have hhi : a * 2 ^ d < 2 ^ ((a * 2 ^ d).log2 + 1) := Nat.lt_log2_self
  have hmod : ∀ k, k ≤ d → a * 2 ^ d % 2 ^ k = 0 := fun k hk => by
    have : d = (d - k) + k := by omega
    rw [this, Nat.pow_add, ← Nat.mul_assoc, Nat.mul_mod_left]
  generalize a * 2 ^ d = mag at *
  generalize hL : mag.log2 = lg at *
  unfold Format.nearest
  rw [if_neg (by omega), lp, bn, ir]
  have hfb : (double.fractionBits : Int) = 52 := rfl
  simp only [hfb, hL, Nat.shiftLeft_eq]
  by_cases hn : -1074 ≤ place + lg - 52
  · have hmax : max (place + (lg : Int) - 52) (-1074) = place + lg - 52 := by omega
    rw [hmax]
    have hq : (place + (lg : Int) - 52 - -1074).toNat ≤ 2045 := by omega
    by_cases h52 : lg ≤ 52
    · have e1 : (place - (place + (lg : Int) - 52)).toNat = 52 - lg := by omega
      have e2 : (place + (lg : Int) - 52 - place).toNat = 0 := by omega
      rw [e1, e2, cut_none]
      have k1 : 2 ^ 52 ≤ mag * 2 ^ (52 - lg) := by
        have : (2 : Nat) ^ 52 = 2 ^ lg * 2 ^ (52 - lg) := by rw [← Nat.pow_add]; congr 1; omega
        rw [this]; exact Nat.mul_le_mul_right _ hlo
      have k2 : mag * 2 ^ (52 - lg) < 2 ^ 53 := by
        have : (2 : Nat) ^ 53 = 2 ^ (lg + 1) * 2 ^ (52 - lg) := by rw [← Nat.pow_add]; congr 1; omega
        rw [this]; exact Nat.mul_lt_mul_of_pos_right hhi (Nat.two_pow_pos _)
      have hin : (place + (lg : Int) - 52 - -1074).toNat * 2 ^ 52 + mag * 2 ^ (52 - lg) ≤ 2047 * 2 ^ 52 := by omega
      rw [Nat.min_eq_left hin, V_normal _ _ _ k1 k2 hq]
      congr 2
      rw [Nat.mul_assoc, ← Nat.pow_add]
      congr 2
      omega
    · have e1 : (place - (place + (lg : Int) - 52)).toNat = 0 := by omega
      have e2 : (place + (lg : Int) - 52 - place).toNat = lg - 52 := by omega
      rw [e1, e2, Nat.pow_zero, Nat.mul_one, cut_even neg mag (lg - 52) (by omega) (hmod _ (by omega))]
      have hdv : mag / 2 ^ (lg - 52) * 2 ^ (lg - 52) = mag := Nat.div_mul_cancel (Nat.dvd_of_mod_eq_zero (hmod _ (by omega)))
      have hpp : 0 < 2 ^ (lg - 52) := Nat.two_pow_pos _
      have k1 : 2 ^ 52 ≤ mag / 2 ^ (lg - 52) := by
        rw [Nat.le_div_iff_mul_le hpp, ← Nat.pow_add]
        have : 52 + (lg - 52) = lg := by omega
        rw [this]; exact hlo
      have k2 : mag / 2 ^ (lg - 52) < 2 ^ 53 := by
        rw [Nat.div_lt_iff_lt_mul hpp, ← Nat.pow_add]
        have : 53 + (lg - 52) = lg + 1 := by omega
        rw [this]; exact hhi
      have hin : (place + (lg : Int) - 52 - -1074).toNat * 2 ^ 52 + mag / 2 ^ (lg - 52) ≤ 2047 * 2 ^ 52 := by omega
      rw [Nat.min_eq_left hin, V_normal _ _ _ k1 k2 hq]
      congr 2
      conv => rhs; rw [← hdv]
      rw [Nat.mul_assoc, ← Nat.pow_add]
      congr 2
      omega
  · have hmax : max (place + (lg : Int) - 52) (-1074) = -1074 := by omega
    rw [hmax]
    have e1 : (place - -1074).toNat = (place + 1074).toNat := by omega
    have e2 : (-1074 - place).toNat = 0 := by omega
    have e3 : ((-1074 : Int) - -1074).toNat = 0 := by omega
    rw [e1, e2, e3, cut_none, Nat.zero_mul, Nat.zero_add]
    have k2 : mag * 2 ^ (place + 1074).toNat < 2 ^ 52 := by
      have h1 : mag * 2 ^ (place + 1074).toNat < 2 ^ (lg + 1) * 2 ^ (place + 1074).toNat := Nat.mul_lt_mul_of_pos_right hhi (Nat.two_pow_pos _)
      rw [← Nat.pow_add] at h1
      exact Nat.lt_of_lt_of_le h1 (Nat.pow_le_pow_right (by omega) (by omega))
    rw [Nat.min_eq_left (by omega), V_small _ _ k2]
theorem V_zero (neg : Bool) (place : Int) : V (double.nearest neg 0 place) = some 0 := by
  unfold Format.nearest
  rw [if_pos rfl, V_small neg 0 (by omega)]
  unfold sgn
  cases neg <;> rfl
end Go.Proofs.Ytmifbojmkgibiaa
