/- The walk of FnUnitIterYieldsExactlyOnce. -/
import Derived.Test.YtgfahahiekfjgaaMore
set_option linter.unusedVariables false
namespace Go.Proofs.Ytgfahahiekfjgaa
open Go.RowKit

set_option maxRecDepth 100000 in
theorem law3 (x n : Int) (w : World) :
    Calls Try.prog 3 #[.int .i64 x, .int .i64 n] w fun e w' => e = .returned (.bool true) ∧ Below w.heap.size w w' := by
  by_cases h1 : n < 1
  · go_enter Try.func3, Try.ntmps3
    go_wp2
    all_goals
      go_ret
      exact ⟨rfl, Below.refl _ _⟩
  by_cases h2 : 65536 < n
  · go_enter Try.func3, Try.ntmps3
    go_wp2
    all_goals
      go_ret
      exact ⟨rfl, Below.refl _ _⟩
  go_enter Try.func3, Try.ntmps3
  go_wp2_with fail
  refine (newUnitInt x w).mono ?_
  rintro e w1 ⟨rfl, u1, b1⟩
  go_wp2_with fail
  refine (unit_yes _ _ _ u1).mono ?_
  rintro e w2 ⟨rfl, u2, g2⟩
  have L1 := b1.size
  have B2 := below_grown b1 g2 L1 (Nat.le_refl _)
  go_wp2_with fail
  refine (asInt _ _).mono ?_
  rintro e w3 ⟨rfl, rfl⟩
  go_wp2_with fail
  go_loop [10] (fun i => ∃ j : Nat, (j : Int) ≤ n ∧ i = .int .i64 j) (fun i => (n - intOf i).toNat)
  case atStart => exact ⟨0, by omega, rfl⟩
  case round =>
    obtain ⟨j, hj, rfl⟩ := hrel
    by_cases hjx : (j : Int) < n
    · go_wp2_with fail
      refine (unit_no _ _ _ u2).mono ?_
      rintro e w4 ⟨rfl, rfl⟩
      go_wp2_with fail
      go_round
      case rel => exact ⟨j + 1, by omega, by go_num⟩
      case measure => simp [intOf]; omega
    · go_wp2_with fail
      go_ret
      exact ⟨rfl, B2⟩
end Go.Proofs.Ytgfahahiekfjgaa
