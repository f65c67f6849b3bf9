/- The walk of FnBytesFreshEmptyAndObservationFree. -/
import Derived.Test.YtbeoamdbkknecaaSm
set_option linter.unusedVariables false
namespace Go.Proofs.Ytbeoamdbkknecaa
open Go.RowKit

theorem pushN_at (f h : Nat → Int) (k m i : Nat) (hi : i < m) : pushN f k m h (k + i) = h i := by
  unfold pushN; rw [if_pos (by omega)]; congr 1; omega
theorem pushN_zero (f h : Nat → Int) (m i : Nat) (hi : i < m) : pushN f 0 m h i = h i := by
  have := pushN_at f h 0 m i hi; rwa [Nat.zero_add] at this
theorem pushN_old (f h : Nat → Int) (k m i : Nat) (hi : i < k) : pushN f k m h i = f i := by
  unfold pushN; rw [if_neg (by omega)]

set_option maxRecDepth 100000 in
theorem law5_fresh (N : Nat) (s : ByteArray) (w : World) (hN : N ≤ 65536) (h1 : s.size ≤ 1048576) (hs : N ≤ s.size) :
    Calls Try.prog 5 #[.int .i64 (N : Int), .string s] w fun e w' => e = .returned (.bool true) ∧ Below w.heap.size w w' := by
  go_enter Try.func5, Try.ntmps5
  go_wp2_with fail
  refine (zzb21 _ s w h1).mono ?_
  rintro e w1 ⟨rfl, rfl⟩
  go_wp2_with fail
  refine (newA N w hN).mono ?_
  rintro e w1 ⟨rfl, l1, b1⟩
  go_wp2_with fail
  refine (bytesA _ _ _ _ _ _ _ l1 hN).mono ?_
  rintro e w2 ⟨rfl, q2⟩
  go_wp2_with fail
  refine (bytesA _ _ _ _ _ _ _ (q2.lw l1) hN).mono ?_
  rintro e w3 ⟨rfl, q3⟩
  go_wp2_with fail
  go_ret
  exact ⟨rfl, q3.below (q2.below b1)⟩

set_option maxRecDepth 100000 in
theorem law5_main (N : Nat) (s : ByteArray) (w : World) (hN : N ≤ 65536) (hs : s.size < N) :
    Calls Try.prog 5 #[.int .i64 (N : Int), .string s] w fun e w' => e = .returned (.bool true) ∧ Below w.heap.size w w' := by
  go_enter Try.func5, Try.ntmps5
  go_wp2_with fail
  refine (zzb21 _ s w (by omega)).mono ?_
  rintro e w1 ⟨rfl, rfl⟩
  go_wp2_with fail
  refine (newA N w hN).mono ?_
  rintro e w1 ⟨rfl, l1, b1⟩
  go_wp2_with fail
  refine (bytesA _ _ _ _ _ _ _ l1 hN).mono ?_
  rintro e w2 ⟨rfl, q2⟩
  go_wp2_with fail
  refine (bytesA _ _ _ _ _ _ _ (q2.lw l1) hN).mono ?_
  rintro e w3 ⟨rfl, q3⟩
  have l3 := q3.lw (q2.lw l1)
  have b3 := q3.below (q2.below b1)
  go_wp2_with fail
  refine (writeString _ _ _ _ _ _ _ s l3 hN (by omega)).mono ?_
  rintro e w4 ⟨rfl, l4, o4⟩
  have b4 := o4.below b3 b3.size (by omega) (Nat.le_refl _)
  rw [Nat.zero_add] at l4
  go_wp2_with fail
  refine (bytesA _ _ _ _ _ _ _ l4 hN).mono ?_
  rintro e w5 ⟨rfl, q5⟩
  have l5 := q5.lw l4
  go_wp2_with fail
  refine (same _ _ N N _ s l5.2.1 (by omega) hN (fun i hi => pushN_zero _ _ _ _ hi)).mono ?_
  rintro e w6 ⟨rfl, q6⟩
  have l6 := q6.lw l5
  go_wp2_with fail
  refine (bytesA _ _ _ _ _ _ _ l6 hN).mono ?_
  rintro e w7 ⟨rfl, q7⟩
  have l7 := q7.lw l6
  go_wp2_with fail
  refine (same _ _ N N _ s l7.2.1 (by omega) hN (fun i hi => pushN_zero _ _ _ _ hi)).mono ?_
  rintro e w8 ⟨rfl, q8⟩
  go_wp2_with fail
  go_ret
  exact ⟨rfl, q8.below (q7.below (q6.below (q5.below b4)))⟩

set_option maxRecDepth 100000 in
theorem law5_early (n : Int) (s : ByteArray) (w : World) (hs : s.size ≤ 9223372036854775807) (h : (1048576 < s.size) ∨ (s.size ≤ 1048576 ∧ n < 0) ∨ (s.size ≤ 1048576 ∧ 65536 < n)) :
    Calls Try.prog 5 #[.int .i64 n, .string s] w fun e w' => e = .returned (.bool true) ∧ Below w.heap.size w w' := by
  rcases h with g0 | ⟨g0, g1⟩ | ⟨g0, g1⟩
  all_goals
    go_enter Try.func5, Try.ntmps5
    go_wp2
    all_goals
      go_ret
      exact ⟨rfl, Below.refl _ _⟩

theorem law5 (n : Int) (s : ByteArray) (w : World) (hs : s.size ≤ 9223372036854775807) :
    Calls Try.prog 5 #[.int .i64 n, .string s] w fun e w' => e = .returned (.bool true) ∧ Below w.heap.size w w' := by
  by_cases h1 : 1048576 < s.size
  · exact law5_early n s w hs (Or.inl h1)
  by_cases h2 : n < 0
  · exact law5_early n s w hs (Or.inr (Or.inl ⟨by omega, h2⟩))
  by_cases h3 : 65536 < n
  · exact law5_early n s w hs (Or.inr (Or.inr ⟨by omega, h3⟩))
  obtain ⟨N, rfl⟩ : ∃ N : Nat, n = (N : Int) := ⟨n.toNat, by omega⟩
  by_cases h4 : s.size < N
  · exact law5_main N s w (by omega) h4
  · exact law5_fresh N s w (by omega) (by omega) (by omega)
end Go.Proofs.Ytbeoamdbkknecaa
