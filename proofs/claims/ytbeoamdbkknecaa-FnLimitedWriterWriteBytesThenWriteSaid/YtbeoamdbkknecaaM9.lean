/- The walk of FnLimitedWriterWriteBytesThenWrite. -/
import Derived.Test.YtbeoamdbkknecaaSl
set_option linter.unusedVariables false
namespace Go.Proofs.Ytbeoamdbkknecaa
open Go.RowKit

theorem push1_is (f : Nat → Int) (k i : Nat) : push1 (fun i => if i < k then f i else 0) k (f k) i = if i < k + 1 then f i else 0 := by
  unfold push1
  by_cases e : i = k
  · subst e; simp
  · rw [if_neg e]
    show (if i < k then f i else 0) = _
    by_cases e2 : i < k
    · rw [if_pos e2, if_pos (by omega)]
    · rw [if_neg e2, if_neg (by omega)]

set_option maxRecDepth 100000 in
set_option maxHeartbeats 1000000 in
theorem law9_main (N : Nat) (a1 a2 : Option Addr) (m1 c1 m2 c2 : Nat) (f1 f2 : Nat → Int) (w : World) (hN : N ≤ 65536) (hm : m1 + m2 < N) (h1 : m1 ≤ 32768) (h2 : m2 ≤ 32768) (r1 : RowIn w a1 m1 c1 f1) (r2 : RowIn w a2 m2 c2 f2) :
    Calls Try.prog 9 #[.int .i64 (N : Int), .slice a1 m1 c1, .slice a2 m2 c2] w fun e w' => e = .returned (.bool true) ∧ Below w.heap.size w w' := by
  go_enter Try.func9, Try.ntmps9
  go_wp2_with fail
  refine (zzb26 _ _ _ _ _ _ _ w (by omega)).mono ?_
  rintro e w1 ⟨rfl, rfl⟩
  go_wp2_with fail
  refine (copy_any a1 m1 c1 f1 w w (by omega) r1 (Below.refl _ _)).mono ?_
  rintro e w1 ⟨b1, d1, rfl, s1, l1⟩
  go_wp2_with fail
  refine (copy_any a2 m2 c2 f2 w1 w (by omega) r2 l1).mono ?_
  rintro e w2 ⟨b2, d2, rfl, s2, l2⟩
  have z1 := l1.size
  have z2 := l2.size
  have s12 := s1.below l2
  go_wp2_with fail
  refine (newB N w2 hN).mono ?_
  rintro e w3 ⟨rfl, k3, l3⟩
  have t1 := s12.below l3
  have t2 := s2.below l3
  have B3 : Below w.heap.size w w3 := l1.trans ((l2.mono z1).trans (l3.mono (by omega)))
  clear r1 r2 s1 l1 l2 l3
  go_wp2_with fail
  go_loopw [8] (fun i wr => ∃ k : Nat, k ≤ m1 ∧ i = .int .i64 k ∧ LW wr w2.heap.size (w2.heap.size + 1) w2.heap.size N k (fun i => if i < k then f1 i else 0) ∧ BRow wr w.heap.size b1 m1 f1 ∧ BRow wr w1.heap.size b2 m2 f2 ∧ Below w.heap.size w wr) (fun i _ => m1 - (intOf i).toNat)
  case atStart => exact ⟨0, Nat.zero_le _, rfl, k3.congr (fun i _ => by simp), t1, t2, B3⟩
  case round =>
    clear k3 t1 t2 B3
    obtain ⟨k, hk, rfl, hw, u1, u2, hb⟩ := hrel
    by_cases hlt : k < m1
    · obtain ⟨ga, _, rfl, _, e2⟩ := u1.at_ hlt
      go_wp2_with fail
      refine (writeByte _ _ _ _ _ _ _ (f1 k) hw hN (by omega)).mono ?_
      rintro e w5 ⟨rfl, k5, o5⟩
      have B5 := o5.below hb hb.size (by omega) (by omega)
      have t15 := u1.kept s12 o5 (by omega) (by omega)
      have t25 := u2.kept s2 o5 (by omega) (by omega)
      have k5' := k5.congr (fun i _ => push1_is f1 k i)
      go_wp2_with fail
      refine (bytesB _ _ _ _ _ _ _ k5' hN).mono ?_
      rintro e wz ⟨rfl, q6⟩
      have kz := q6.lw k5'
      have tz1 := t15.qt q6
      have tz2 := t25.qt q6
      have Bz := q6.below B5
      have x1 := kz.cell (i := k) (by omega)
      rw [if_pos (by omega)] at x1
      have x2 := tz1.cell hlt
      clear k5 k5' o5 t15 t25 B5 q6 hw u1 u2 hb e2
      have i0 : (0 : Int) ≤ (k : Int) := by omega
      have i1 : (k : Int) < (m1 : Int) := by omega
      have i2 : (k : Int) < (k : Int) + 1 := by omega
      go_wp2_with fail
      go_quiet (fail)
      go_wp2_with fail
      go_roundw
      case rel => exact ⟨k + 1, by omega, by go_num, kz, tz1, tz2, below_drewN Bz _⟩
      case measure => simp [intOf]; omega
    · obtain rfl : m1 = k := by omega
      go_wp2_with fail
      refine (write _ _ _ _ _ _ _ _ m2 d2 f2 hw hN (by omega) u2.src).mono ?_
      rintro e w5 ⟨rfl, k5, o5⟩
      have B5 := o5.below hb hb.size (by omega) (by omega)
      have t15 := u1.kept s12 o5 (by omega) (by omega)
      have t25 := u2.kept s2 o5 (by omega) (by omega)
      go_wp2_with fail
      refine (bytesB _ _ _ _ _ _ _ k5 hN).mono ?_
      rintro e wz ⟨rfl, q6⟩
      have kz := q6.lw k5
      have tz1 := t15.qt q6
      have tz2 := t25.qt q6
      have Bz := q6.below B5
      clear k5 o5 t15 t25 B5 q6 s12 s2 hw u1 u2 hb
      go_wp2_with fail
      go_loopw [13] (fun i wr => ∃ k : Nat, k ≤ m1 ∧ i = .int .i64 k ∧ Qt wz wr) (fun i _ => m1 - (intOf i).toNat)
      case atStart => exact ⟨0, Nat.zero_le _, rfl, Qt.refl _⟩
      case round =>
        obtain ⟨k, hk, rfl, hq⟩ := hrel
        by_cases hlt : k < m1
        · have e1 := (hq.lw kz).cell (i := k) (by omega)
          rw [show pushN (fun i => if i < m1 then f1 i else 0) m1 m2 f2 k = f1 k by rw [pushN_old _ _ _ _ _ hlt]; exact if_pos hlt] at e1
          obtain ⟨ga, _, rfl, _, e2⟩ := (tz1.qt hq).at_ hlt
          have i0 : (0 : Int) ≤ (k : Int) := by omega
          have i1 : (k : Int) < (m1 : Int) := by omega
          have i2 : (k : Int) < (m1 : Int) + (m2 : Int) := by omega
          go_wp2_with fail
          go_quiet (fail)
          go_wp2_with fail
          go_roundw
          case rel => exact ⟨k + 1, by omega, by go_num, hq.drewN _⟩
          case measure => simp [intOf]; omega
        · clear tz1
          go_wp2_with fail
          go_loopw [14] (fun i wr => ∃ j : Nat, j ≤ m2 ∧ i = .int .i64 j ∧ Qt wz wr) (fun i _ => m2 - (intOf i).toNat)
          case atStart => exact ⟨0, Nat.zero_le _, rfl, hq⟩
          case round =>
            clear hq
            obtain ⟨j, hj, rfl, hq⟩ := hrel
            by_cases hlt2 : j < m2
            · have e1 := (hq.lw kz).cell (i := m1 + j) (by omega)
              rw [show pushN (fun i => if i < m1 then f1 i else 0) m1 m2 f2 (m1 + j) = f2 j from pushN_at _ _ _ _ _ hlt2] at e1
              obtain ⟨gb, _, rfl, _, e2⟩ := (tz2.qt hq).at_ hlt2
              have i0 : (0 : Int) ≤ (j : Int) := by omega
              have i1 : (j : Int) < (m2 : Int) := by omega
              have i2 : (0 : Int) ≤ (m1 : Int) + (j : Int) := by omega
              have i3 : (m1 : Int) + (j : Int) < (m1 : Int) + (m2 : Int) := by omega
              have i4 : ((m1 : Int) + (j : Int)).toNat = m1 + j := by omega
              have i5 : IntKind.i64.wrap ((m1 : Int) + (j : Int)) = (m1 : Int) + (j : Int) := IntWalk.i64_in _ (by omega)
              go_wp2_with fail
              go_quiet (fail)
              clear i2 i3 i4 i5
              go_wp2_with fail
              go_roundw
              case rel => exact ⟨j + 1, by omega, by go_num, hq.drewN _⟩
              case measure => simp [intOf]; omega
            · go_wp2_with fail
              go_ret
              exact ⟨rfl, hq.below Bz⟩

set_option maxRecDepth 100000 in
theorem law9_early (n : Int) (a1 a2 : Option Addr) (m1 c1 m2 c2 : Nat) (w : World) (g1 : m1 ≤ 9223372036854775807) (g2 : m2 ≤ 9223372036854775807) (h : (1048576 < m1 + m2) ∨ (m1 + m2 ≤ 1048576 ∧ 32768 < m1) ∨ (m1 + m2 ≤ 1048576 ∧ m1 ≤ 32768 ∧ 32768 < m2) ∨ (m1 ≤ 32768 ∧ m2 ≤ 32768 ∧ 65536 < n) ∨ (m1 ≤ 32768 ∧ m2 ≤ 32768 ∧ n ≤ 65536 ∧ n ≤ (m1 : Int) + m2)) :
    Calls Try.prog 9 #[.int .i64 n, .slice a1 m1 c1, .slice a2 m2 c2] w fun e w' => e = .returned (.bool true) ∧ Below w.heap.size w w' := by
  rcases h with g0 | ⟨g0, g1⟩ | ⟨g0, g1, g2⟩ | ⟨g0, g1, g2⟩ | ⟨g0, g1, g2, g3⟩
  all_goals
    go_enter Try.func9, Try.ntmps9
    go_wp2
    all_goals
      go_ret
      exact ⟨rfl, Below.refl _ _⟩

theorem law9 (n : Int) (a1 a2 : Option Addr) (m1 c1 m2 c2 : Nat) (w : World) (g1 : m1 ≤ 9223372036854775807) (g2 : m2 ≤ 9223372036854775807) (f1 f2 : Nat → Int) (r1 : RowIn w a1 m1 c1 f1) (r2 : RowIn w a2 m2 c2 f2) :
    Calls Try.prog 9 #[.int .i64 n, .slice a1 m1 c1, .slice a2 m2 c2] w fun e w' => e = .returned (.bool true) ∧ Below w.heap.size w w' := by
  by_cases h1 : 1048576 < m1 + m2
  · exact law9_early n a1 a2 m1 c1 m2 c2 w g1 g2 (Or.inl h1)
  by_cases h2 : 32768 < m1
  · exact law9_early n a1 a2 m1 c1 m2 c2 w g1 g2 (Or.inr (Or.inl ⟨by omega, h2⟩))
  by_cases h3 : 32768 < m2
  · exact law9_early n a1 a2 m1 c1 m2 c2 w g1 g2 (Or.inr (Or.inr (Or.inl ⟨by omega, by omega, h3⟩)))
  by_cases h4 : 65536 < n
  · exact law9_early n a1 a2 m1 c1 m2 c2 w g1 g2 (Or.inr (Or.inr (Or.inr (Or.inl ⟨by omega, by omega, h4⟩))))
  by_cases h5 : n ≤ (m1 : Int) + m2
  · exact law9_early n a1 a2 m1 c1 m2 c2 w g1 g2 (Or.inr (Or.inr (Or.inr (Or.inr ⟨by omega, by omega, by omega, h5⟩))))
  obtain ⟨N, rfl⟩ : ∃ N : Nat, n = (N : Int) := ⟨n.toNat, by omega⟩
  exact law9_main N a1 a2 m1 c1 m2 c2 f1 f2 w (by omega) (by omega) (by omega) (by omega) r1 r2
end Go.Proofs.Ytbeoamdbkknecaa
