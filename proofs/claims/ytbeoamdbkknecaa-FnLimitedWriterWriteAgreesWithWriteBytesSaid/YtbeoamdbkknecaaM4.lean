/- The walk of FnLimitedWriterWriteAgreesWithWriteBytes. -/
import Derived.Test.YtbeoamdbkknecaaM9
set_option linter.unusedVariables false
namespace Go.Proofs.Ytbeoamdbkknecaa
open Go.RowKit

set_option maxRecDepth 100000 in
set_option maxHeartbeats 1000000 in
theorem law4_main (N : Nat) (a1 : Option Addr) (m1 c1 : Nat) (f1 : Nat → Int) (w : World) (hN : N ≤ 65536) (hm : m1 < N) (h1 : m1 ≤ 32768) (r1 : RowIn w a1 m1 c1 f1) :
    Calls Try.prog 4 #[.int .i64 (N : Int), .slice a1 m1 c1] w fun e w' => e = .returned (.bool true) ∧ Below w.heap.size w w' := by
  go_enter Try.func4, Try.ntmps4
  go_wp2_with fail
  refine (zzb14 _ _ _ _ w (by omega)).mono ?_
  rintro e w1 ⟨rfl, rfl⟩
  go_wp2_with fail
  refine (copy_any a1 m1 c1 f1 w w (by omega) r1 (Below.refl _ _)).mono ?_
  rintro e w1 ⟨b1, d1, rfl, s1, l1⟩
  have z1 := l1.size
  go_wp2_with fail
  refine (newB N w1 hN).mono ?_
  rintro e w3 ⟨rfl, k3, l3⟩
  have t1 := s1.below l3
  have B3 : Below w.heap.size w w3 := l1.trans (l3.mono z1)
  go_wp2_with fail
  refine (write _ _ _ _ _ _ _ _ m1 d1 f1 k3 hN (by omega) t1.src).mono ?_
  rintro e w4 ⟨rfl, k4, o4⟩
  rw [Nat.zero_add] at k4
  have B4 := o4.below B3 B3.size (by omega) (by omega)
  have t14 := t1.kept s1 o4 (by omega) (by omega)
  have z4 := o4.size
  have z3 : w1.heap.size + 1 < w3.heap.size := k3.1.lt
  go_wp2_with fail
  refine (newB N w4 hN).mono ?_
  rintro e w5 ⟨rfl, k5, l5⟩
  have t15 := t14.below l5
  have k45 := k4.below l5
  have B5 : Below w.heap.size w w5 := B4.trans (l5.mono B4.size)
  have z5 : w4.heap.size + 1 < w5.heap.size := k5.1.lt
  clear r1 k3 k4 l1 l3 l5 t1 o4 B3 B4
  go_wp2_with fail
  go_loopw [9] (fun i wr => ∃ k : Nat, k ≤ m1 ∧ i = .int .i64 k ∧ LW wr w4.heap.size (w4.heap.size + 1) w4.heap.size N k (fun i => if i < k then f1 i else 0) ∧ LW wr w1.heap.size (w1.heap.size + 1) w1.heap.size N m1 (pushN (fun _ => 0) 0 m1 f1) ∧ BRow wr w.heap.size b1 m1 f1 ∧ Below w.heap.size w wr) (fun i _ => m1 - (intOf i).toNat)
  case atStart => exact ⟨0, Nat.zero_le _, rfl, k5.congr (fun i _ => by simp), k45, t15, B5⟩
  case round =>
    clear k5 k45 t15 B5
    obtain ⟨k, hk, rfl, hw, hv, u1, hb⟩ := hrel
    by_cases hlt : k < m1
    · obtain ⟨ga, _, rfl, _, e2⟩ := u1.at_ hlt
      go_wp2_with fail
      refine (writeByte _ _ _ _ _ _ _ (f1 k) hw hN (by omega)).mono ?_
      rintro e w6 ⟨rfl, k6, o6⟩
      have B6 := o6.below hb hb.size (by omega) (by omega)
      have t16 := u1.kept t14 o6 (by omega) (by omega)
      have v6 := hv.only o6 (by omega) (by omega) (by omega) (by omega)
      have k6' := k6.congr (fun i _ => push1_is f1 k i)
      go_wp2_with fail
      go_roundw
      case rel => exact ⟨k + 1, by omega, by go_num, k6', v6, t16, B6⟩
      case measure => simp [intOf]; omega
    · obtain rfl : m1 = k := by omega
      go_wp2_with fail
      refine (bytesB _ _ _ _ _ _ _ hv hN).mono ?_
      rintro e w7 ⟨rfl, q7⟩
      have hw7 := q7.lw hw
      have hv7 := q7.lw hv
      have B7 := q7.below hb
      go_wp2_with fail
      refine (bytesB _ _ _ _ _ _ _ hw7 hN).mono ?_
      rintro e w8 ⟨rfl, q8⟩
      have hw8 := q8.lw hw7
      have hv8 := q8.lw hv7
      have B8 := q8.below B7
      go_wp2_with fail
      refine (sameBytes _ _ N _ N m1 N N _ _ hv8.2.1 hw8.2.1 (by omega) (by omega) hN (fun i hi => by rw [pushN_zero _ _ _ _ hi, if_pos hi])).mono ?_
      rintro e w9 ⟨rfl, q9⟩
      go_wp2_with fail
      go_ret
      exact ⟨rfl, q9.below B8⟩

set_option maxRecDepth 100000 in
theorem law4_early (n : Int) (a1 : Option Addr) (m1 c1 : Nat) (w : World) (g1 : m1 ≤ 9223372036854775807) (h : (1048576 < m1) ∨ (m1 ≤ 1048576 ∧ 32768 < m1) ∨ (m1 ≤ 32768 ∧ 65536 < n) ∨ (m1 ≤ 32768 ∧ n ≤ 65536 ∧ n ≤ (m1 : Int))) :
    Calls Try.prog 4 #[.int .i64 n, .slice a1 m1 c1] w fun e w' => e = .returned (.bool true) ∧ Below w.heap.size w w' := by
  rcases h with g0 | ⟨g0, g1⟩ | ⟨g0, g1⟩ | ⟨g0, g1, g2⟩
  all_goals
    go_enter Try.func4, Try.ntmps4
    go_wp2
    all_goals
      go_ret
      exact ⟨rfl, Below.refl _ _⟩

theorem law4 (n : Int) (a1 : Option Addr) (m1 c1 : Nat) (w : World) (g1 : m1 ≤ 9223372036854775807) (f1 : Nat → Int) (r1 : RowIn w a1 m1 c1 f1) :
    Calls Try.prog 4 #[.int .i64 n, .slice a1 m1 c1] w fun e w' => e = .returned (.bool true) ∧ Below w.heap.size w w' := by
  by_cases h1 : 1048576 < m1
  · exact law4_early n a1 m1 c1 w g1 (Or.inl h1)
  by_cases h2 : 32768 < m1
  · exact law4_early n a1 m1 c1 w g1 (Or.inr (Or.inl ⟨by omega, h2⟩))
  by_cases h4 : 65536 < n
  · exact law4_early n a1 m1 c1 w g1 (Or.inr (Or.inr (Or.inl ⟨by omega, h4⟩)))
  by_cases h5 : n ≤ (m1 : Int)
  · exact law4_early n a1 m1 c1 w g1 (Or.inr (Or.inr (Or.inr ⟨by omega, by omega, h5⟩)))
  obtain ⟨N, rfl⟩ : ∃ N : Nat, n = (N : Int) := ⟨n.toNat, by omega⟩
  exact law4_main N a1 m1 c1 f1 w (by omega) (by omega) (by omega) r1
end Go.Proofs.Ytbeoamdbkknecaa
