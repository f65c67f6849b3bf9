/- The walk of FnExhaustedIterAgreesWithEmpty. -/
import Derived.Test.YtgfahahiekfjgaaMore
import Derived.Deep.QuietTactic
import Derived.BigQuiet
set_option linter.unusedVariables false
namespace Go.Proofs.Ytgfahahiekfjgaa
open Go.RowKit

set_option maxRecDepth 100000 in
theorem law4_main (a : Option Addr) (n c : Nat) (f : Nat → Int) (x : Int) (w : World) (hn : n ≤ 131072) (h : Readable w a n c f) (x0 : 1 ≤ x) (x1 : x ≤ 65536) :
    Calls Try.prog 4 #[.slice a n c, .int .i64 x] w fun e w' => e = .returned (.bool true) ∧ Below w.heap.size w w' := by
  have hn2 : n ≤ 1048576 := by omega
  go_enter Try.func4, Try.ntmps4
  go_wp2_with fail
  refine (zzb13 a n c x w hn2).mono ?_
  rintro e w1 ⟨rfl, rfl⟩
  go_wp2_with fail
  refine (clone_any a n c f w hn2 h).mono ?_
  rintro e w1 ⟨a1, c1, rfl, s1, b1⟩
  have L1 := b1.size
  go_wp2_with fail
  refine (newIter a1 n c1 w.heap.size f w1 hn2 s1).mono ?_
  rintro e w3 ⟨v, rfl, it, b3⟩
  have L3 := b3.size
  have B3 : Below w.heap.size w w3 := b1.trans (b3.mono L1)
  clear h s1 b1 b3
  go_wp2_with fail
  go_loopw [7] (fun i wr => ∃ k : Nat, k ≤ n ∧ i = .int .i64 k ∧ IterIs wr w1.heap.size v n k f ∧ Below w.heap.size w wr) (fun i _ => n - (intOf i).toNat)
  case atStart => exact ⟨0, Nat.zero_le _, rfl, it, B3⟩
  case round =>
    obtain ⟨k, hk, rfl, hit, hb⟩ := hrel
    have LB := hb.size
    by_cases hlt : k < n
    · have hnx := next_yes _ _ _ _ _ _ hn2 hit hlt
      go_wp2_with (refine wpList_inv rfl _ _ rfl v _ rfl hnx ?_; rintro w4 ⟨hit4, hg4⟩)
      go_roundw
      case rel => exact ⟨k + 1, by omega, by go_num, hit4, below_grown hb hg4 (by omega) (by omega)⟩
      case measure => simp [intOf]; omega
    · obtain rfl : k = n := by omega
      go_wp2_with fail
      go_loopw [10] (fun i wr' => ∃ j : Nat, (j : Int) ≤ x ∧ i = .int .i64 j ∧ IterIs wr' w1.heap.size v k k f ∧ Below w.heap.size w wr') (fun i _ => (x - intOf i).toNat)
      case atStart => exact ⟨0, by omega, rfl, hit, hb⟩
      case round =>
        obtain ⟨j, hj, rfl, hit', hb'⟩ := hrel
        have LB' := hb'.size
        by_cases hjx : (j : Int) < x
        · have hnx := next_no _ _ _ _ _ hit'
          go_wp2_with (refine wpList_inv rfl _ _ rfl v _ rfl hnx ?_; rintro w4 ⟨hit4, hb4⟩)
          refine (emptyNext w4).mono ?_
          rintro e w5 ⟨rfl, hb5⟩
          have L4 := hb4.size
          have hit5 : IterIs w5 w1.heap.size v k k f := hit4.below hb5
          have hb6 : Below w.heap.size w w5 := hb'.trans ((hb4.mono LB').trans (hb5.mono (by omega)))
          clear hit4 hb4 hb5 hit' hb' hnx
          go_wp2_with fail
          go_quiet (fail)
          go_wp2_with fail
          go_roundw
          case rel => exact ⟨j + 1, by omega, by go_num, hit5, ⟨hb6.os, hb6.tape, hb6.output, hb6.size, hb6.block⟩⟩
          case measure => simp [intOf]; omega
        · go_wp2_with fail
          go_ret
          exact ⟨rfl, hb'⟩

set_option maxRecDepth 100000 in
theorem law4_early (a : Option Addr) (n c : Nat) (x : Int) (w : World) (hn : n ≤ 9223372036854775807) (h : 131072 < n ∨ (n ≤ 131072 ∧ x < 1) ∨ (n ≤ 131072 ∧ 65536 < x)) :
    Calls Try.prog 4 #[.slice a n c, .int .i64 x] w fun e w' => e = .returned (.bool true) ∧ Below w.heap.size w w' := by
  rcases h with h | ⟨h1, h2⟩ | ⟨h1, h2⟩
  all_goals
    go_enter Try.func4, Try.ntmps4
    go_wp2
    all_goals
      go_ret
      exact ⟨rfl, Below.refl _ _⟩

theorem law4 (a : Option Addr) (n c : Nat) (f : Nat → Int) (x : Int) (w : World) (hn : n ≤ 9223372036854775807) (h : Readable w a n c f) :
    Calls Try.prog 4 #[.slice a n c, .int .i64 x] w fun e w' => e = .returned (.bool true) ∧ Below w.heap.size w w' := by
  by_cases h1 : 131072 < n
  · exact law4_early a n c x w hn (Or.inl h1)
  by_cases h2 : x < 1
  · exact law4_early a n c x w hn (Or.inr (Or.inl ⟨by omega, h2⟩))
  by_cases h3 : 65536 < x
  · exact law4_early a n c x w hn (Or.inr (Or.inr ⟨by omega, h3⟩))
  exact law4_main a n c f x w (by omega) h (by omega) (by omega)
end Go.Proofs.Ytgfahahiekfjgaa
