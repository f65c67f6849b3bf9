/- The early exits of FnStackRestoreForgetsTheMiddle, and the law's walk for every input. -/
import Derived.Test.YteoaillidaglbaaM3
set_option linter.unusedVariables false
namespace Go.Proofs.Yteoaillidaglbaa
open Go.RowKit

theorem zzb7_no (a a' a'' b : Option Addr) (n c n' c' n'' c'' m d : Nat) (w : World) (h1 : n ≤ 9223372036854775807) (h2 : n' ≤ 9223372036854775807) (h3 : n'' ≤ 9223372036854775807) (h4 : m ≤ 9223372036854775807) (h : ¬ n + n' + n'' + m ≤ 1048576) : Calls Try.prog 7 #[.slice a n c, .slice a' n' c', .slice a'' n'' c'', .slice b m d] w fun e w' => e = .returned (.bool false) ∧ w = w' := by
  go_enter Try.func7, Try.ntmps7
  go_wp2
  all_goals
    go_ret
    exact ⟨rfl, rfl⟩

set_option maxRecDepth 100000 in
theorem law3_early (a1 a2 a3 a' : Option Addr) (n1 c1 n2 c2 n3 c3 m d : Nat) (w : World) (h0 : n1 + n2 + n3 + m ≤ 1048576)
    (h : 65536 < n1 ∨ (n1 ≤ 65536 ∧ 65536 < n2) ∨ (n1 ≤ 65536 ∧ n2 ≤ 65536 ∧ 65536 < n3) ∨ (n1 ≤ 65536 ∧ n2 ≤ 65536 ∧ n3 ≤ 65536 ∧ 65536 < m) ∨ (n1 ≤ 65536 ∧ n2 ≤ 65536 ∧ n3 ≤ 65536 ∧ m ≤ 65536 ∧ 1048576 < n1 + n2 + n3 + 8 * m)) :
    Calls Try.prog 3 #[.slice a1 n1 c1, .slice a2 n2 c2, .slice a3 n3 c3, .slice a' m d] w fun e w' => e = .returned (.bool true) ∧ Below w.heap.size w w' := by
  rcases h with h1 | ⟨h1, h2⟩ | ⟨h1, h2, h3⟩ | ⟨h1, h2, h3, h4⟩ | ⟨h1, h2, h3, h4, h5⟩
  all_goals
    have HC := Lib.hid (zzb7 a1 a2 a3 a' n1 c1 n2 c2 n3 c3 m d w (by omega))
    go_enter Try.func3, Try.ntmps3
    go_wp2_with fail
    refine HC.out.mono ?_
    rintro e w1 ⟨rfl, rfl⟩
    go_wp2_with fail
    all_goals
      go_ret
      exact ⟨rfl, Below.refl _ _⟩

set_option maxRecDepth 100000 in
theorem law3_long (a1 a2 a3 a' : Option Addr) (n1 c1 n2 c2 n3 c3 m d : Nat) (w : World) (h1 : n1 ≤ 9223372036854775807) (h2 : n2 ≤ 9223372036854775807) (h3 : n3 ≤ 9223372036854775807) (h4 : m ≤ 9223372036854775807) (h0 : ¬ n1 + n2 + n3 + m ≤ 1048576) :
    Calls Try.prog 3 #[.slice a1 n1 c1, .slice a2 n2 c2, .slice a3 n3 c3, .slice a' m d] w fun e w' => e = .returned (.bool true) ∧ Below w.heap.size w w' := by
  have HC := Lib.hid (zzb7_no a1 a2 a3 a' n1 c1 n2 c2 n3 c3 m d w h1 h2 h3 h4 h0)
  clear h0 h1 h2 h3 h4
  go_enter Try.func3, Try.ntmps3
  go_wp2_with fail
  refine HC.out.mono ?_
  rintro e w1 ⟨rfl, rfl⟩
  go_wp2_with fail
  go_ret
  exact ⟨rfl, Below.refl _ _⟩

theorem law3 (a1 a2 a3 a' : Option Addr) (n1 c1 n2 c2 n3 c3 m d : Nat) (f1 f2 f3 g : Nat → Int) (w : World) (g1 : n1 ≤ 9223372036854775807) (g2 : n2 ≤ 9223372036854775807) (g3 : n3 ≤ 9223372036854775807) (g4 : m ≤ 9223372036854775807)
    (h1 : RowIn .u8 w a1 n1 f1) (hf1 : ∀ i, i < n1 → 0 ≤ f1 i ∧ f1 i < 256) (h2 : RowIn .u8 w a2 n2 f2) (hf2 : ∀ i, i < n2 → 0 ≤ f2 i ∧ f2 i < 256) (h3 : RowIn .u8 w a3 n3 f3) (hf3 : ∀ i, i < n3 → 0 ≤ f3 i ∧ f3 i < 256) (h' : RowIn .i64 w a' m g) :
    Calls Try.prog 3 #[.slice a1 n1 c1, .slice a2 n2 c2, .slice a3 n3 c3, .slice a' m d] w fun e w' => e = .returned (.bool true) ∧ Below w.heap.size w w' := by
  by_cases h0 : n1 + n2 + n3 + m ≤ 1048576
  · by_cases e1 : n1 ≤ 65536
    · by_cases e2 : n2 ≤ 65536
      · by_cases e3 : n3 ≤ 65536
        · by_cases e4 : m ≤ 65536
          · by_cases e5 : n1 + n2 + n3 + 8 * m ≤ 1048576
            · exact law3_main a1 a2 a3 a' n1 c1 n2 c2 n3 c3 m d f1 f2 f3 g w e1 e2 e3 e4 e5 h1 hf1 h2 hf2 h3 hf3 h'
            · exact law3_early a1 a2 a3 a' n1 c1 n2 c2 n3 c3 m d w h0 (by omega)
          · exact law3_early a1 a2 a3 a' n1 c1 n2 c2 n3 c3 m d w h0 (by omega)
        · exact law3_early a1 a2 a3 a' n1 c1 n2 c2 n3 c3 m d w h0 (by omega)
      · exact law3_early a1 a2 a3 a' n1 c1 n2 c2 n3 c3 m d w h0 (by omega)
    · exact law3_early a1 a2 a3 a' n1 c1 n2 c2 n3 c3 m d w h0 (by omega)
  · exact law3_long a1 a2 a3 a' n1 c1 n2 c2 n3 c3 m d w g1 g2 g3 g4 h0
end Go.Proofs.Yteoaillidaglbaa
