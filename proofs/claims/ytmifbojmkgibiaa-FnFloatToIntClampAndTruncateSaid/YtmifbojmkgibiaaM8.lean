/- floatToInt's walk, and FnFloatToIntMonotoneIdempotent. -/
import Derived.Test.YtmifbojmkgibiaaRows
import Derived.Test.YtmifbojmkgibiaaFl2
import Derived.WalkKit
import Derived.WalkLawsBesides
import Derived.WalkSpells
import Derived.Handy
import Derived.Outline
import Derived.Below
import Derived.Lib.Hide
set_option linter.unusedVariables false
namespace Go.Proofs.Ytmifbojmkgibiaa
open Go.RowKit

theorem ord_lt {x y : Nat} {a b : Int} (hx : V x = some a) (hy : V y = some b) (h : a < b) : FloatKind.f64.format.order x y = some .lt := (order_V hx hy).trans (by rw [cmp_lt h])
theorem ord_gt {x y : Nat} {a b : Int} (hx : V x = some a) (hy : V y = some b) (h : b < a) : FloatKind.f64.format.order x y = some .gt := (order_V hx hy).trans (by rw [cmp_gt h])
theorem ord_eq {x y : Nat} {a b : Int} (hx : V x = some a) (hy : V y = some b) (h : a = b) : FloatKind.f64.format.order x y = some .eq := (order_V hx hy).trans (by rw [h, cmp_eq])
theorem ord_nan {x y : Nat} (h : V x = none ∨ V y = none) : FloatKind.f64.format.order x y = none := order_nan h

theorem toInt42 (x : Nat) (w : World) : Calls Try.prog 42 #[.float .f64 x] w fun e w' => e = .returned (.int .i64 (R (V x))) ∧ w = w' := by
  cases hV : V x with
  | none =>
    have o1 := ord_nan (x := 14114281232179134464) (Or.inr hV)
    have o2 := ord_nan (y := 0) (Or.inl hV)
    have HR := Lib.hid (show R none = -9223372036854775808 from rfl)
    clear hV
    go_enter Try.func42, Try.ntmps42
    go_wp2
    go_ret
    exact ⟨by rw [HR.out]; rfl, rfl⟩
  | some v =>
    have hS := SS_pos
    by_cases h : -9223372036854775808 * SS ≤ v ∧ v < 9223372036854775808 * SS
    · have HR := Lib.hid (show R (some v) = v.tdiv SS by rw [R_some, if_pos h])
      have hc : ∀ W, (convert 42 3 (.float .f64 x)).run Try.prog W = .ok (.int .i64 (v.tdiv SS)) W := fun W => run_convert_float_int W 42 3 .f64 .i64 x _ (by rw [Try.underlying42]; rfl) Try.underlying3 (toIntVal hV h.1 h.2)
      have o2 := ord_lt hV V_hi h.2
      by_cases h1 : -9223372036854775808 * SS = v
      · have o1 := ord_eq V_lo hV h1
        clear hV h h1 hS
        generalize v.tdiv SS = r at HR hc
        go_enter Try.func42, Try.ntmps42
        go_wp2
        go_ret
        exact ⟨by rw [HR.out]; rfl, rfl⟩
      · have o1 := ord_lt V_lo hV (by omega)
        clear hV h h1 hS
        generalize v.tdiv SS = r at HR hc
        go_enter Try.func42, Try.ntmps42
        go_wp2
        go_ret
        exact ⟨by rw [HR.out]; rfl, rfl⟩
    · by_cases h0 : 0 < v
      · have HR := Lib.hid (show R (some v) = 9223372036854775807 by rw [R_some, if_neg h, if_pos h0])
        have o1 := ord_lt V_lo hV (by omega)
        have o3 := ord_gt hV V_0 h0
        by_cases h1 : v = 9223372036854775808 * SS
        · have o2 := ord_eq hV V_hi h1
          clear hV h h1 hS h0
          go_enter Try.func42, Try.ntmps42
          go_wp2
          go_ret
          exact ⟨by rw [HR.out]; rfl, rfl⟩
        · have o2 := ord_gt hV V_hi (by omega)
          clear hV h h1 hS h0
          go_enter Try.func42, Try.ntmps42
          go_wp2
          go_ret
          exact ⟨by rw [HR.out]; rfl, rfl⟩
      · have HR := Lib.hid (show R (some v) = -9223372036854775808 by rw [R_some, if_neg h, if_neg h0])
        have o1 := ord_gt V_lo hV (by omega)
        have o3 := ord_lt hV V_0 (by omega)
        clear hV h hS h0
        go_enter Try.func42, Try.ntmps42
        go_wp2
        go_ret
        exact ⟨by rw [HR.out]; rfl, rfl⟩
theorem toInt28 (x : Nat) (w : World) : Calls Try.prog 28 #[.float .f64 x] w fun e w' => e = .returned (.int .i64 (R (V x))) ∧ w = w' := by
  generalize hr : R (V x) = r
  have HC := Lib.hid (toInt42 x w)
  rw [hr] at HC
  clear hr
  go_enter Try.func28, Try.ntmps28
  go_wp2_with fail
  refine HC.out.mono ?_
  rintro e w1 ⟨rfl, rfl⟩
  go_wp2_with fail
  go_ret
  exact ⟨rfl, rfl⟩

theorem law8 (x y : Nat) (w : World) : Calls Try.prog 8 #[.float .f64 x, .float .f64 y] w fun e w' => e = .returned (.bool true) ∧ w = w' := by
  have HX := Lib.hid (toInt28 x w)
  have HY := Lib.hid (toInt28 y w)
  have HX2 := Lib.hid (toInt28 (floatOfInt .f64 (R (V x))) w)
  have HY2 := Lib.hid (toInt28 (floatOfInt .f64 (R (V y))) w)
  rw [R_idem] at HX2 HY2
  have hcv : ∀ (n : Int) (W : World), (convert 3 42 (.int .i64 n)).run Try.prog W = .ok (.float .f64 (floatOfInt .f64 n)) W := fun n W => run_convert_int_float W 3 42 .i64 .f64 n (by rw [Try.underlying3]; rfl) Try.underlying42
  have key : FloatKind.f64.format.order x x = none ∨ (FloatKind.f64.format.order x x = some .eq ∧ FloatKind.f64.format.order y y = none) ∨ (FloatKind.f64.format.order x x = some .eq ∧ FloatKind.f64.format.order y y = some .eq ∧
      ((FloatKind.f64.format.order x y = some .lt ∧ R (V x) ≤ R (V y)) ∨ (FloatKind.f64.format.order x y = some .eq ∧ R (V x) ≤ R (V y)) ∨ (FloatKind.f64.format.order x y = some .gt ∧ R (V y) ≤ R (V x)))) := by
    cases hx : V x with
    | none => exact Or.inl (ord_nan (Or.inl hx))
    | some a =>
      cases hy : V y with
      | none => exact Or.inr (Or.inl ⟨ord_eq hx hx rfl, ord_nan (Or.inl hy)⟩)
      | some b =>
        refine Or.inr (Or.inr ⟨ord_eq hx hx rfl, ord_eq hy hy rfl, ?_⟩)
        rcases Int.lt_trichotomy a b with h | h | h
        · have := R_mono hx hy (by omega); rw [hx, hy] at this; exact Or.inl ⟨ord_lt hx hy h, this⟩
        · have := R_mono hx hy (by omega); rw [hx, hy] at this; exact Or.inr (Or.inl ⟨ord_eq hx hy h, this⟩)
        · have := R_mono hy hx (by omega); rw [hx, hy] at this; exact Or.inr (Or.inr ⟨ord_gt hx hy h, this⟩)
  generalize R (V x) = rx at *
  generalize R (V y) = ry at *
  generalize hqx : floatOfInt .f64 rx = qx at HX2
  generalize hqy : floatOfInt .f64 ry = qy at HY2
  have c1 := fun W => hcv rx W
  have c2 := fun W => hcv ry W
  rw [hqx] at c1
  rw [hqy] at c2
  clear hcv hqx hqy
  go_enter Try.func8, Try.ntmps8
  go_wp2_with fail
  refine HX.out.mono ?_
  rintro e w1 ⟨rfl, rfl⟩
  go_wp2_with fail
  refine HX2.out.mono ?_
  rintro e w1 ⟨rfl, rfl⟩
  go_wp2_with fail
  refine HY.out.mono ?_
  rintro e w1 ⟨rfl, rfl⟩
  go_wp2_with fail
  refine HY2.out.mono ?_
  rintro e w1 ⟨rfl, rfl⟩
  rcases key with k1 | ⟨k1, k2⟩ | ⟨k1, k2, k3 | k3 | k3⟩
  · go_wp2_with fail
    go_ret
    exact ⟨rfl, rfl⟩
  · go_wp2_with fail
    go_ret
    exact ⟨rfl, rfl⟩
  · obtain ⟨k3, k4⟩ := k3
    go_wp2_with fail
    go_ret
    exact ⟨rfl, rfl⟩
  · obtain ⟨k3, k4⟩ := k3
    go_wp2_with fail
    go_ret
    exact ⟨rfl, rfl⟩
  · obtain ⟨k3, k4⟩ := k3
    go_wp2_with fail
    go_ret
    exact ⟨rfl, rfl⟩
end Go.Proofs.Ytmifbojmkgibiaa
