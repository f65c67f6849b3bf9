/- The walk of FnSliceIterConsumesOnePerCall. -/
import Derived.Test.YtgfahahiekfjgaaMore
set_option linter.unusedVariables false
namespace Go.Proofs.Ytgfahahiekfjgaa
open Go.RowKit

set_option maxRecDepth 100000 in
theorem law7_main (a : Option Addr) (n c : Nat) (f : Nat → Int) (x : Int) (w : World) (hn : n ≤ 131072) (h : Readable w a n c f) (x0 : 0 ≤ x) (x1 : x ≤ 65536) :
    Calls Try.prog 7 #[.slice a n c, .int .i64 x] w fun e w' => e = .returned (.bool true) ∧ Below w.heap.size w w' := by
  have hn2 : n ≤ 1048576 := by omega
  go_enter Try.func7, Try.ntmps7
  go_wp2_with fail
  refine (zzb21 a n c x w hn2).mono ?_
  rintro e w1 ⟨rfl, rfl⟩
  go_wp2_with fail
  refine (clone_any a n c f w hn2 h).mono ?_
  rintro e w1 ⟨a1, c1, rfl, s1, b1⟩
  have L1 := b1.size
  obtain rfl := s1.cap
  go_wp2_with fail
  refine (newSlice a1 c1 w.heap.size f w1 s1).mono ?_
  rintro e w3 ⟨rfl, it, b3⟩
  have L3 := b3.size
  have B3 : Below w.heap.size w w3 := b1.trans (b3.mono L1)
  clear h s1 b1 b3
  go_wp2_with fail
  refine (sliceLen _ c1 0 f c1 w3 it (by omega)).mono ?_
  rintro e w4 ⟨rfl, rfl⟩
  go_wp2_with fail
  go_loopw [7] (fun i wr => ∃ k : Nat, k ≤ c1 ∧ i = .int .i64 k ∧ SliceSt wr w1.heap.size c1 k f ∧ Below w.heap.size w wr) (fun i _ => c1 - (intOf i).toNat)
  case atStart => exact ⟨0, Nat.zero_le _, rfl, it, B3⟩
  case round =>
    obtain ⟨k, hk, rfl, hit, hb⟩ := hrel
    have LB := hb.size
    by_cases hlt : k < c1
    · go_wp2_with fail
      refine (slice_yes _ _ _ _ f hn2 hlt hit).mono ?_
      rintro e w4 ⟨rfl, hit4, hg4⟩
      go_wp2_with fail
      refine (sliceLen _ c1 (k + 1) f ((c1 : Int) - k - 1) w4 hit4 (by omega)).mono ?_
      rintro e w5 ⟨rfl, rfl⟩
      go_wp2_with fail
      go_roundw
      case rel => exact ⟨k + 1, by omega, by go_num, hit4, below_grown hb hg4 (by omega) (by omega)⟩
      case measure => simp [intOf]; omega
    · obtain rfl : k = c1 := by omega
      go_wp2_with fail
      go_loopw [10] (fun i wr' => ∃ j : Nat, (j : Int) ≤ x + 1 ∧ i = .int .i64 j ∧ SliceSt wr' w1.heap.size k k f ∧ Below w.heap.size w wr') (fun i _ => (x + 1 - intOf i).toNat)
      case atStart => exact ⟨0, by omega, rfl, hit, hb⟩
      case round =>
        obtain ⟨j, hj, rfl, hit', hb'⟩ := hrel
        by_cases hjx : (j : Int) ≤ x
        · go_wp2_with fail
          refine (slice_no _ _ _ f hit').mono ?_
          rintro e w4 ⟨rfl, rfl⟩
          go_wp2_with fail
          refine (sliceLen _ k k f 0 _ hit' (by omega)).mono ?_
          rintro e w5 ⟨rfl, rfl⟩
          go_wp2_with fail
          go_roundw
          case rel => exact ⟨j + 1, by omega, by go_num, hit', hb'⟩
          case measure => simp [intOf]; omega
        · go_wp2_with fail
          go_ret
          exact ⟨rfl, hb'⟩

set_option maxRecDepth 100000 in
theorem law7_early (a : Option Addr) (n c : Nat) (x : Int) (w : World) (hn : n ≤ 9223372036854775807) (h : 131072 < n ∨ (n ≤ 131072 ∧ x < 0) ∨ (n ≤ 131072 ∧ 65536 < x)) :
    Calls Try.prog 7 #[.slice a n c, .int .i64 x] w fun e w' => e = .returned (.bool true) ∧ Below w.heap.size w w' := by
  rcases h with h | ⟨h1, h2⟩ | ⟨h1, h2⟩
  all_goals
    go_enter Try.func7, Try.ntmps7
    go_wp2
    all_goals
      go_ret
      exact ⟨rfl, Below.refl _ _⟩

theorem law7 (a : Option Addr) (n c : Nat) (f : Nat → Int) (x : Int) (w : World) (hn : n ≤ 9223372036854775807) (h : Readable w a n c f) :
    Calls Try.prog 7 #[.slice a n c, .int .i64 x] w fun e w' => e = .returned (.bool true) ∧ Below w.heap.size w w' := by
  by_cases h1 : 131072 < n
  · exact law7_early a n c x w hn (Or.inl h1)
  by_cases h2 : x < 0
  · exact law7_early a n c x w hn (Or.inr (Or.inl ⟨by omega, h2⟩))
  by_cases h3 : 65536 < x
  · exact law7_early a n c x w hn (Or.inr (Or.inr ⟨by omega, h3⟩))
  exact law7_main a n c f x w (by omega) h (by omega) (by omega)
end Go.Proofs.Ytgfahahiekfjgaa
