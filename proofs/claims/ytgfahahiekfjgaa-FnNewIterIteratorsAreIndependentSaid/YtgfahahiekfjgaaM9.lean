/- The walk of FnNewIterIteratorsAreIndependent. -/
import Derived.Test.YtgfahahiekfjgaaMore
set_option linter.unusedVariables false
namespace Go.Proofs.Ytgfahahiekfjgaa
open Go.RowKit

set_option maxRecDepth 100000 in
set_option maxHeartbeats 1000000 in
theorem law9_main (a : Option Addr) (n c : Nat) (f : Nat → Int) (w : World) (hn : n ≤ 131072) (h : Readable w a n c f) :
    Calls Try.prog 9 #[.slice a n c] w fun e w' => e = .returned (.bool true) ∧ Below w.heap.size w w' := by
  have hn2 : n ≤ 1048576 := by omega
  go_enter Try.func9, Try.ntmps9
  go_wp2_with fail
  refine (zzb27 a n c w hn2).mono ?_
  rintro e w1 ⟨rfl, rfl⟩
  go_wp2_with fail
  refine (clone_any a n c f w hn2 h).mono ?_
  rintro e w1 ⟨a1, c1, rfl, s1, b1⟩
  have L1 := b1.size
  go_wp2_with fail
  refine (clone_any a1 n c1 f w1 hn2 s1.readable).mono ?_
  rintro e w2 ⟨a2, c2, rfl, s2, b2⟩
  obtain rfl : n = c2 := s2.cap.symm
  have L2 := b2.size
  have s12 := s1.below b2 (Nat.le_refl _)
  go_wp2_with fail
  refine (newIter a1 n c1 w.heap.size f w2 hn2 s12).mono ?_
  rintro e w3 ⟨va, rfl, ia, b3⟩
  have L3 := b3.size
  go_wp2_with fail
  refine (newIter a1 n c1 w.heap.size f w3 hn2 (s12.below b3 (Nat.le_refl _))).mono ?_
  rintro e w4 ⟨vb, rfl, ib, b4⟩
  have L4 := b4.size
  have ia4 := ia.below b4
  have s4 := (s2.below b3 (Nat.le_refl _)).below b4 (Nat.le_refl _)
  have B4 : Below w.heap.size w w4 := b1.trans ((b2.mono L1).trans ((b3.mono (by omega)).trans (b4.mono (by omega))))
  have hne : ∀ g, a2 = some ⟨g, 0, none⟩ → g ≠ w2.heap.size ∧ g ≠ w3.heap.size := fun g e => by have := s2.lt e; omega
  have HN := Lib.hid hne
  have hab : 0 < n → w3.heap.size ≠ w2.heap.size := fun h0 e => by
    rcases ia with ⟨h, _⟩ | ⟨_, _, _, h4⟩ | ⟨_, _, _, h3, _⟩
    · omega
    · have := h4.lt; omega
    · have := h3.lt; omega
  have HAB := Lib.hid hab
  clear hne hab h s1 s2 s12 b1 b2 b3 b4 ia
  go_wp2_with fail
  go_loopw [6] (fun i wr => ∃ k : Nat, k ≤ n ∧ i = .int .i64 k ∧ IterIs wr w2.heap.size va n k f ∧ IterIs wr w3.heap.size vb n 0 f ∧ SRow wr w1.heap.size a2 n n f ∧ Below w.heap.size w wr) (fun i _ => n - (intOf i).toNat)
  case atStart => exact ⟨0, Nat.zero_le _, rfl, ia4, ib, s4, B4⟩
  case round =>
    obtain ⟨k, hk, rfl, hit, hib, hs, hb⟩ := hrel
    have LB := hb.size
    by_cases hlt : k < n
    · have hnx := next_yes _ _ _ _ _ _ hn2 hit hlt
      obtain ⟨g, hg, rfl, _⟩ := hs.at_ hlt
      go_wp2_with (refine wpList_inv rfl _ _ rfl va _ rfl hnx ?_; rintro w5 ⟨hit5, hg5⟩)
      have hs5 := hs.grown hg5 (fun g e => (HN.out g e).1)
      have hib5 := hib.far hg5 (HAB.out (by omega)) (fun g hr => hit.ne (by omega) hr)
      have hcell := hs5.cell hlt
      go_wp2_with fail
      refine (asInt _ _).mono ?_
      rintro e w6 ⟨rfl, rfl⟩
      go_wp2_with fail
      go_roundw
      case rel => exact ⟨k + 1, by omega, by go_num, hit5, hib5, hs5, below_grown hb hg5 (by omega) (by omega)⟩
      case measure => simp [intOf]; omega
    · obtain rfl : n = k := by omega
      have hnx := next_no _ _ _ _ _ hit
      go_wp2_with (refine wpList_inv rfl _ _ rfl va _ rfl hnx ?_; rintro w5 ⟨hit5, hb5⟩)
      have hs5 := hs.below hb5 (Nat.le_refl _)
      have hib5 := hib.below hb5
      have B5 : Below w.heap.size w w5 := hb.trans (hb5.mono LB)
      clear hnx hit5 hit hib hs hb hb5
      go_wp2_with fail
      go_loopw [13] (fun i wr' => ∃ j : Nat, j ≤ n ∧ i = .int .i64 j ∧ IterIs wr' w3.heap.size vb n j f ∧ SRow wr' w1.heap.size a2 n n f ∧ Below w.heap.size w wr') (fun i _ => n - (intOf i).toNat)
      case atStart => exact ⟨0, by omega, rfl, hib5, hs5, B5⟩
      case round =>
        obtain ⟨j, hj, rfl, hit', hs', hb'⟩ := hrel
        have LB' := hb'.size
        by_cases hlt' : j < n
        · have hnx := next_yes _ _ _ _ _ _ hn2 hit' hlt'
          obtain ⟨g, hg, rfl, _⟩ := hs'.at_ hlt'
          go_wp2_with (refine wpList_inv rfl _ _ rfl vb _ rfl hnx ?_; rintro w6 ⟨hit6, hg6⟩)
          have hs6 := hs'.grown hg6 (fun g e => (HN.out g e).2)
          have hcell := hs6.cell hlt'
          go_wp2_with fail
          refine (asInt _ _).mono ?_
          rintro e w7 ⟨rfl, rfl⟩
          go_wp2_with fail
          go_roundw
          case rel => exact ⟨j + 1, by omega, by go_num, hit6, hs6, below_grown hb' hg6 (by omega) (by omega)⟩
          case measure => simp [intOf]; omega
        · obtain rfl : n = j := by omega
          have hnx := next_no _ _ _ _ _ hit'
          go_wp2_with (refine wpList_inv rfl _ _ rfl vb _ rfl hnx ?_; rintro w6 ⟨hit6, hb6⟩)
          go_ret
          exact ⟨rfl, hb'.trans (hb6.mono LB')⟩

set_option maxRecDepth 100000 in
theorem law9 (a : Option Addr) (n c : Nat) (f : Nat → Int) (w : World) (hn : n ≤ 9223372036854775807) (h : Readable w a n c f) :
    Calls Try.prog 9 #[.slice a n c] w fun e w' => e = .returned (.bool true) ∧ Below w.heap.size w w' := by
  by_cases h1 : 131072 < n
  · go_enter Try.func9, Try.ntmps9
    go_wp2
    all_goals
      go_ret
      exact ⟨rfl, Below.refl _ _⟩
  exact law9_main a n c f w (by omega) h
end Go.Proofs.Ytgfahahiekfjgaa
