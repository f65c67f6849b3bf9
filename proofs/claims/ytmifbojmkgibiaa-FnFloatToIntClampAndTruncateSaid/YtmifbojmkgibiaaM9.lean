/- The walk of FnFloatToIntClampAndTruncate. -/
import Derived.Test.YtmifbojmkgibiaaM8
import Derived.Test.YtmifbojmkgibiaaFl3
set_option linter.unusedVariables false
namespace Go.Proofs.Ytmifbojmkgibiaa
open Go.RowKit

theorem is64 (w : World) : Calls Try.prog 29 #[] w fun e w' => e = .returned (.bool true) ∧ w = w' := by
  go_enter Try.func29, Try.ntmps29
  go_wp2
  go_ret
  exact ⟨rfl, rfl⟩
theorem maxInt (w : World) : Calls Try.prog 31 #[] w fun e w' => e = .returned (.int .i64 9223372036854775807) ∧ w = w' := by
  go_enter Try.func31, Try.ntmps31
  go_wp2
  go_ret
  exact ⟨rfl, rfl⟩
theorem minInt (w : World) : Calls Try.prog 30 #[] w fun e w' => e = .returned (.int .i64 (-9223372036854775808)) ∧ w = w' := by
  go_enter Try.func30, Try.ntmps30
  go_wp2_with fail
  refine (maxInt w).mono ?_
  rintro e w1 ⟨rfl, rfl⟩
  go_wp2_with fail
  go_ret
  exact ⟨rfl, rfl⟩
theorem ord_le {x y : Nat} {a b : Int} (hx : V x = some a) (hy : V y = some b) (h : a ≤ b) : FloatKind.f64.format.order x y = some .lt ∨ FloatKind.f64.format.order x y = some .eq := by
  rcases Int.lt_or_eq_of_le h with h | h
  · exact Or.inl (ord_lt hx hy h)
  · exact Or.inr (ord_eq hx hy h)
theorem ord_ge {x y : Nat} {a b : Int} (hx : V x = some a) (hy : V y = some b) (h : b ≤ a) : FloatKind.f64.format.order x y = some .gt ∨ FloatKind.f64.format.order x y = some .eq := by
  rcases Int.lt_or_eq_of_le h with h | h
  · exact Or.inl (ord_gt hx hy h)
  · exact Or.inr (ord_eq hx hy h.symm)

theorem law9 (x : Nat) (w : World) : Calls Try.prog 9 #[.float .f64 x] w fun e w' => e = .returned (.bool true) ∧ w = w' := by
  have HX := Lib.hid (toInt28 x w)
  have hS := SS_pos
  cases hV : V x with
  | none =>
    rw [hV] at HX
    have HR := Lib.hid (show R none = -9223372036854775808 from rfl)
    rw [HR.out] at HX
    have oxx := ord_nan (x := x) (y := x) (Or.inl hV)
    clear hV
    go_enter Try.func9, Try.ntmps9
    go_wp2_with fail
    refine (is64 w).mono ?_
    rintro e w1 ⟨rfl, rfl⟩
    go_wp2_with fail
    refine HX.out.mono ?_
    rintro e w1 ⟨rfl, rfl⟩
    go_wp2_with fail
    refine (minInt w).mono ?_
    rintro e w1 ⟨rfl, rfl⟩
    go_wp2_with fail
    go_ret
    exact ⟨rfl, rfl⟩
  | some v =>
    rw [hV] at HX
    have oxx := ord_eq hV hV rfl
    by_cases hhi : 9223372036854775808 * SS ≤ v
    · have HR := Lib.hid (show R (some v) = 9223372036854775807 by rw [R_some, if_neg (by omega), if_pos (by omega)])
      rw [HR.out] at HX
      rcases ord_ge hV V_hi hhi with o1 | o1
      all_goals
        clear hV hhi
        go_enter Try.func9, Try.ntmps9
        go_wp2_with fail
        refine (is64 w).mono ?_
        rintro e w1 ⟨rfl, rfl⟩
        go_wp2_with fail
        refine HX.out.mono ?_
        rintro e w1 ⟨rfl, rfl⟩
        go_wp2_with fail
        refine (maxInt w).mono ?_
        rintro e w1 ⟨rfl, rfl⟩
        go_wp2_with fail
        go_ret
        exact ⟨rfl, rfl⟩
    have o1 := ord_lt hV V_hi (by omega)
    by_cases hlo : v < -9223372036854775808 * SS
    · have HR := Lib.hid (show R (some v) = -9223372036854775808 by rw [R_some, if_neg (by omega), if_neg (by omega)])
      rw [HR.out] at HX
      have o2 := ord_lt hV V_lo hlo
      clear hV hhi hlo
      go_enter Try.func9, Try.ntmps9
      go_wp2_with fail
      refine (is64 w).mono ?_
      rintro e w1 ⟨rfl, rfl⟩
      go_wp2_with fail
      refine HX.out.mono ?_
      rintro e w1 ⟨rfl, rfl⟩
      go_wp2_with fail
      refine (minInt w).mono ?_
      rintro e w1 ⟨rfl, rfl⟩
      go_wp2_with fail
      go_ret
      exact ⟨rfl, rfl⟩
    have HR := Lib.hid (show R (some v) = v.tdiv SS by rw [R_some, if_pos (by omega)])
    have hbd := R_bd x
    rw [hV, HR.out] at hbd
    rw [HR.out] at HX
    have hVt := V_ofInt (rep_tdiv hV) (by omega)
    have hcv : ∀ W, (convert 3 42 (.int .i64 (v.tdiv SS))).run Try.prog W = .ok (.float .f64 (floatOfInt .f64 (v.tdiv SS))) W := fun W => run_convert_int_float W 3 42 .i64 .f64 _ (by rw [Try.underlying3]; rfl) Try.underlying42
    generalize floatOfInt .f64 (v.tdiv SS) = t at hVt hcv
    have HGO : ∀ (K : Prop), K → K := fun _ h => h
    by_cases hb52 : 4503599627370496 * SS ≤ v ∨ v ≤ -4503599627370496 * SS
    · have hw := whole hV hb52
      have ot := ord_eq hVt hV hw.symm
      have hcase : (FloatKind.f64.format.order x 4841369599423283200 = some .gt ∧ FloatKind.f64.format.order x 14114281232179134464 = some .gt) ∨ (FloatKind.f64.format.order x 4841369599423283200 = some .eq ∧ FloatKind.f64.format.order x 14114281232179134464 = some .gt) ∨
          (FloatKind.f64.format.order x 4841369599423283200 = some .lt ∧ FloatKind.f64.format.order x 14064741636278059008 = some .lt ∧ FloatKind.f64.format.order x 14114281232179134464 = some .gt) ∨ (FloatKind.f64.format.order x 4841369599423283200 = some .lt ∧ FloatKind.f64.format.order x 14064741636278059008 = some .lt ∧ FloatKind.f64.format.order x 14114281232179134464 = some .eq) ∨
          (FloatKind.f64.format.order x 4841369599423283200 = some .lt ∧ FloatKind.f64.format.order x 14064741636278059008 = some .eq ∧ FloatKind.f64.format.order x 14114281232179134464 = some .gt) := by
        rcases hb52 with h | h
        · have o3 := ord_gt hV V_lo (by omega)
          rcases ord_ge hV V_52 h with o | o
          · exact Or.inl ⟨o, o3⟩
          · exact Or.inr (Or.inl ⟨o, o3⟩)
        · have o2 := ord_lt hV V_52 (by omega)
          rcases Int.lt_or_eq_of_le h with h' | h'
          · have o3 := ord_lt hV V_52n h'
            rcases ord_ge hV V_lo (by omega) with o | o
            · exact Or.inr (Or.inr (Or.inl ⟨o2, o3, o⟩))
            · exact Or.inr (Or.inr (Or.inr (Or.inl ⟨o2, o3, o⟩)))
          · exact Or.inr (Or.inr (Or.inr (Or.inr ⟨o2, ord_eq hV V_52n h', ord_gt hV V_lo (by omega)⟩)))
      clear hV hVt hhi hlo hb52 hw hS HR hbd
      generalize v.tdiv SS = r at *
      rcases hcase with ⟨k1, k2⟩ | ⟨k1, k2⟩ | ⟨k1, k2, k3⟩ | ⟨k1, k2, k3⟩ | ⟨k1, k2, k3⟩
      all_goals
        go_enter Try.func9, Try.ntmps9
        go_wp2_with fail
        refine (is64 w).mono ?_
        rintro e w1 ⟨rfl, rfl⟩
        go_wp2_with fail
        refine HX.out.mono ?_
        rintro e w1 ⟨rfl, rfl⟩
        go_wp2_with fail
        go_ret
        exact ⟨rfl, rfl⟩
    have o2 := ord_lt hV V_52 (by omega)
    have o3 := ord_gt hV V_52n (by omega)
    have o4 := ord_gt hV V_lo (by omega)
    obtain ⟨q1, q2⟩ := tdiv_bd (v := v) (c := 4503599627370496) (by omega) (by omega) (by omega)
    by_cases h0 : 0 ≤ v
    · obtain ⟨p1, p2, p3⟩ := trunc_pos h0
      obtain ⟨u, hu, hVu⟩ := add_one hVt q1 q2
      have hadd : ∀ W, (binOp .add 42 (.float .f64 t) (.float .f64 4607182418800017408)).run Try.prog W = .ok (.float .f64 u) W := fun W => run_float_arith W .add 42 .f64 _ _ _ hu
      have o6 := ord_lt hV hVu p3
      have c5 := ord_ge hV V_0 h0
      have c7 := ord_le hVt hV p2
      clear hV hVt hhi hlo hb52 hS HR hbd hu hVu p2 p3 q1 q2 h0
      generalize v.tdiv SS = r at *
      rcases c5 with o5 | o5 <;> rcases c7 with o7 | o7
      all_goals
        go_enter Try.func9, Try.ntmps9
        go_wp2_with fail
        refine (is64 w).mono ?_
        rintro e w1 ⟨rfl, rfl⟩
        go_wp2_with fail
        refine HX.out.mono ?_
        rintro e w1 ⟨rfl, rfl⟩
        go_wp2_with fail
        go_ret
        exact ⟨rfl, rfl⟩
    · obtain ⟨p1, p2, p3⟩ := trunc_neg (v := v) (by omega)
      obtain ⟨u, hu, hVu⟩ := sub_one hVt q1 q2
      have hsub : ∀ W, (binOp .sub 42 (.float .f64 t) (.float .f64 4607182418800017408)).run Try.prog W = .ok (.float .f64 u) W := fun W => run_float_arith W .sub 42 .f64 _ _ _ hu
      have o6 := ord_gt hV hVu p3
      have o5 := ord_lt hV V_0 (by omega)
      have c7 := ord_ge hVt hV p2
      clear hV hVt hhi hlo hb52 hS HR hbd hu hVu p2 p3 q1 q2 h0
      generalize v.tdiv SS = r at *
      rcases c7 with o7 | o7
      all_goals
        go_enter Try.func9, Try.ntmps9
        go_wp2_with fail
        refine (is64 w).mono ?_
        rintro e w1 ⟨rfl, rfl⟩
        go_wp2_with fail
        refine HX.out.mono ?_
        rintro e w1 ⟨rfl, rfl⟩
        go_wp2_with fail
        go_ret
        exact ⟨rfl, rfl⟩
end Go.Proofs.Ytmifbojmkgibiaa
