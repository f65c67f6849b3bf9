/- The walk of FnBytesEarlierViewIsStablePrefix. -/
import Derived.Test.YtbeoamdbkknecaaM6
set_option linter.unusedVariables false
namespace Go.Proofs.Ytbeoamdbkknecaa
open Go.RowKit

set_option maxRecDepth 100000 in
theorem law7_main (N : Nat) (s t : ByteArray) (w : World) (hN : N ≤ 65536) (hs : s.size + t.size < N) :
    Calls Try.prog 7 #[.int .i64 (N : Int), .string s, .string t] w fun e w' => e = .returned (.bool true) ∧ Below w.heap.size w w' := by
  go_enter Try.func7, Try.ntmps7
  go_wp2_with fail
  refine (zzb24 _ s t w (by omega)).mono ?_
  rintro e w1 ⟨rfl, rfl⟩
  go_wp2_with fail
  refine (newA N w hN).mono ?_
  rintro e w1 ⟨rfl, l1, b1⟩
  have L1 := b1.size
  go_wp2_with fail
  refine (writeString _ _ _ _ _ _ _ s l1 hN (by omega)).mono ?_
  rintro e w2 ⟨rfl, l2, o2⟩
  have b2 := o2.below b1 L1 (by omega) (Nat.le_refl _)
  have L2 := b2.size
  rw [Nat.zero_add] at l2
  go_wp2_with fail
  refine (bytesA _ _ _ _ _ _ _ l2 hN).mono ?_
  rintro e w3 ⟨rfl, q3⟩
  have l3 := q3.lw l2
  have b3 := q3.below b2
  go_wp2_with fail
  refine (writeString _ _ _ _ _ _ _ t l3 hN (by omega)).mono ?_
  rintro e w4 ⟨rfl, l4, o4⟩
  have b4 := o4.below b3 b3.size (by omega) (Nat.le_refl _)
  clear l1 l2 l3 o2 o4 b1 b2 b3
  go_wp2_with fail
  refine (same _ _ N N _ s l4.2.1 (by omega) hN (fun i hi => by rw [pushN_old _ _ _ _ _ hi]; exact pushN_zero _ _ _ _ hi)).mono ?_
  rintro e w5 ⟨rfl, q5⟩
  have l5 := q5.lw l4
  go_wp2_with fail
  refine (bytesA _ _ _ _ _ _ _ l5 hN).mono ?_
  rintro e w6 ⟨rfl, q6⟩
  have hz : (s ++ t : ByteArray).size = s.size + t.size := ByteArray.size_append
  have HS := Lib.hid (same w6 _ N N _ (s ++ t) (q6.lw l5).2.1 (by omega) hN (fun i hi => by
    rw [bt_app _ _ _ hi]
    by_cases e : i < s.size
    · rw [if_pos e, pushN_old _ _ _ _ _ e]; exact pushN_zero _ _ _ _ e
    · rw [if_neg e]
      have := pushN_at (pushN (fun _ => 0) 0 s.size (PlainAid.bt s)) (PlainAid.bt t) s.size t.size (i - s.size) (by omega)
      rw [Nat.add_sub_cancel' (by omega)] at this
      exact this))
  rw [hz] at HS
  clear hz
  go_wp2_with fail
  refine HS.out.mono ?_
  rintro e w9 ⟨rfl, q9⟩
  go_wp2_with fail
  go_ret
  exact ⟨rfl, q9.below (q6.below (q5.below b4))⟩

set_option maxRecDepth 100000 in
theorem law7_early (n : Int) (s t : ByteArray) (w : World) (hs : s.size ≤ 9223372036854775807) (ht : t.size ≤ 9223372036854775807) (h : (1048576 < s.size + t.size) ∨ (s.size + t.size ≤ 1048576 ∧ n < 1) ∨ (s.size + t.size ≤ 1048576 ∧ 65536 < n) ∨ (s.size + t.size ≤ 1048576 ∧ 1 ≤ n ∧ n ≤ 65536 ∧ n ≤ (s.size : Int) + t.size)) :
    Calls Try.prog 7 #[.int .i64 n, .string s, .string t] w fun e w' => e = .returned (.bool true) ∧ Below w.heap.size w w' := by
  rcases h with g0 | ⟨g0, g1⟩ | ⟨g0, g1⟩ | ⟨g0, g1, g2, g3⟩
  all_goals
    go_enter Try.func7, Try.ntmps7
    go_wp2
    all_goals
      go_ret
      exact ⟨rfl, Below.refl _ _⟩

theorem law7 (n : Int) (s t : ByteArray) (w : World) (hs : s.size ≤ 9223372036854775807) (ht : t.size ≤ 9223372036854775807) :
    Calls Try.prog 7 #[.int .i64 n, .string s, .string t] w fun e w' => e = .returned (.bool true) ∧ Below w.heap.size w w' := by
  by_cases h1 : 1048576 < s.size + t.size
  · exact law7_early n s t w hs ht (Or.inl h1)
  by_cases h2 : n < 1
  · exact law7_early n s t w hs ht (Or.inr (Or.inl ⟨by omega, h2⟩))
  by_cases h3 : 65536 < n
  · exact law7_early n s t w hs ht (Or.inr (Or.inr (Or.inl ⟨by omega, h3⟩)))
  by_cases h4 : n ≤ (s.size : Int) + t.size
  · exact law7_early n s t w hs ht (Or.inr (Or.inr (Or.inr ⟨by omega, by omega, by omega, h4⟩)))
  obtain ⟨N, rfl⟩ : ∃ N : Nat, n = (N : Int) := ⟨n.toNat, by omega⟩
  exact law7_main N s t w (by omega) (by omega)
end Go.Proofs.Ytbeoamdbkknecaa
