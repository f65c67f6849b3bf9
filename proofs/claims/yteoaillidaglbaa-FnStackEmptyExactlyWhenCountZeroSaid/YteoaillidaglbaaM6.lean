/- The walk of FnStackEmptyExactlyWhenCountZero. -/
import Derived.Test.YteoaillidaglbaaOps
set_option linter.unusedVariables false
namespace Go.Proofs.Yteoaillidaglbaa
open Go.RowKit

/-- What holds at the head of the loop after k operations. -/
def Rel6 (w : World) (B b k : Nat) (cnt : Value) (wr : World) : Prop :=
  ∃ ds idx lim v xs, cnt = .int .i64 ((xs : List Int).length : Nat) ∧ Stk wr B b ds idx lim v ∧ Inv ds idx lim ∧ Chain ds idx xs ∧ ds.length ≤ k ∧ Below B w wr

set_option maxRecDepth 100000 in
set_option maxHeartbeats 1000000 in
theorem law6_main (a : Option Addr) (n c : Nat) (f : Nat → Int) (w : World) (hn : n ≤ 1048576) (h : RowIn .u8 w a n f) (hf : ∀ i, i < n → 0 ≤ f i ∧ f i < 256) :
    Calls Try.prog 6 #[.slice a n c] w fun e w' => e = .returned (.bool true) ∧ Below w.heap.size w w' := by
  have HF := Lib.hid hf
  clear hf
  go_enter Try.func6, Try.ntmps6
  go_wp2_with fail
  refine (zzb19 a n c w hn).mono ?_
  rintro e w1 ⟨rfl, rfl⟩
  go_wp2_with fail
  refine (new_any w).mono ?_
  rintro e w1 ⟨rfl, s1, b1⟩
  go_wp2_with fail
  refine (empty_any _ _ _ _ _ _ _ s1).mono ?_
  rintro e w2 ⟨rfl, rfl⟩
  go_wp2_with fail
  go_loopw [4, 5] (fun cnt i wr => ∃ k : Nat, k ≤ n ∧ i = .int .i64 k ∧ Rel6 w w.heap.size w.heap.size k cnt wr) (fun _ i _ => n - (intOf i).toNat)
  case atStart => exact ⟨0, Nat.zero_le _, rfl, [], -1, -1, _, [], rfl, s1, Inv.empty, .nil _ (by omega), Nat.le_refl _, b1⟩
  case round =>
    obtain ⟨k, hk, rfl, ds, idx, lim, v, xs, rfl, hS, hI, hC, hL, hb⟩ := hrel
    have LB := hb.size
    by_cases hlt : k < n
    · obtain ⟨x, rfl, hx⟩ := h.at_ hlt hb
      obtain ⟨f0, f1⟩ := HF.out k hlt
      have hxl : (xs.length : Int) ≤ k := by
        have := hI.i1
        rcases hC.len with hh | rfl
        · omega
        · simp
      rcases mod3 (f k) f0 with (h3 | h3) | h3
      · have t0 : (f k % 3 == 0) = true := by simp [h3]
        have H3 := Lib.hid h3
        clear h3
        go_wp2_with fail
        refine (push_any _ _ _ _ _ _ _ k hS hI (by omega) LB).mono ?_
        rintro e w3 ⟨rfl, ⟨v3, hS3, _⟩, hO3⟩
        have hI3 := hI.push (k : Int)
        have hC3 := hC.push (k : Int) hI
        have hb3 := only_below hO3 hb LB hS.2.1 hS.2.2 (Or.inl rfl)
        have hl3 := (pushDs_len (k : Int) hI).2.1
        go_wp2_with fail
        refine (empty_no _ _ _ _ _ _ _ hS3 (by have := hI.i0; omega)).mono ?_
        rintro e w4 ⟨rfl, rfl⟩
        have t1 : ((xs.length : Int) + 1 == 0) = false := by simp; omega
        go_wp2_with fail
        go_roundw
        case rel => exact ⟨k + 1, by omega, by go_num, _, _, _, _, (k : Int) :: xs, by rw [List.length_cons]; go_num, hS3, hI3, hC3, by omega, hb3⟩
        case measure => simp [intOf]; omega
      · have t0 : (f k % 3 == 0) = false := by simp [h3]
        have t1 : (f k % 3 == 1) = true := by simp [h3]
        have H3 := Lib.hid h3
        clear h3
        by_cases hi : idx < 0
        · obtain rfl := hC.neg.1 hi
          go_wp2_with fail
          refine (empty_yes _ _ _ _ _ _ _ hS hi).mono ?_
          rintro e w3 ⟨rfl, rfl⟩
          go_wp2_with fail
          refine (empty_yes _ _ _ _ _ _ _ hS hi).mono ?_
          rintro e w3 ⟨rfl, rfl⟩
          go_wp2_with fail
          go_roundw
          case rel => exact ⟨k + 1, by omega, by go_num, _, _, _, _, [], rfl, hS, hI, hC, by omega, hb⟩
          case measure => simp [intOf]; omega
        · obtain ⟨y, nx, t, rfl, hp, hnx, hCt⟩ := hC.pop (by omega)
          have hIt := hI.pop (by omega) hp
          rw [List.length_cons] at hxl
          go_wp2_with fail
          refine (empty_no _ _ _ _ _ _ _ hS (by omega)).mono ?_
          rintro e w3 ⟨rfl, rfl⟩
          go_wp2_with fail
          refine (pop_any _ _ _ _ _ _ _ y nx hS (by omega) hp (by omega)).mono ?_
          rintro e w3 ⟨rfl, hS3, hO3⟩
          have hb3 := only_below hO3 hb LB hS.2.1 hS.2.2 (Or.inr rfl)
          by_cases hj : nx < 0
          · obtain rfl := hCt.neg.1 hj
            go_wp2_with fail
            refine (empty_yes _ _ _ _ _ _ _ hS3 hj).mono ?_
            rintro e w4 ⟨rfl, rfl⟩
            go_wp2_with fail
            go_roundw
            case rel => exact ⟨k + 1, by omega, by go_num, _, _, _, _, [], rfl, hS3, hIt, hCt, by omega, hb3⟩
            case measure => simp [intOf]; omega
          · have t2 : ((t.length : Int) == 0) = false := by
              simp
              rintro rfl
              exact hj (hCt.neg.2 rfl)
            go_wp2_with fail
            refine (empty_no _ _ _ _ _ _ _ hS3 (by omega)).mono ?_
            rintro e w4 ⟨rfl, rfl⟩
            go_wp2_with fail
            go_roundw
            case rel => exact ⟨k + 1, by omega, by go_num, _, _, _, _, t, by go_num, hS3, hIt, hCt, by omega, hb3⟩
            case measure => simp [intOf]; omega
      · have t0 : (f k % 3 == 0) = false := by simp [h3]
        have t1 : (f k % 3 == 1) = false := by simp [h3]
        have t2 : (f k % 3 == 2) = true := by simp [h3]
        have H3 := Lib.hid h3
        clear h3
        go_wp2_with fail
        refine (save_any _ _ _ _ _ _ _ hS).mono ?_
        rintro e w3 ⟨rfl, hS3, hO3⟩
        have hb3 := only_below hO3 hb LB hS.2.1 hS.2.2 (Or.inr rfl)
        by_cases hj : idx < 0
        · obtain rfl := hC.neg.1 hj
          go_wp2_with fail
          refine (empty_yes _ _ _ _ _ _ _ hS3 hj).mono ?_
          rintro e w4 ⟨rfl, rfl⟩
          go_wp2_with fail
          go_roundw
          case rel => exact ⟨k + 1, by omega, by go_num, _, _, _, _, [], rfl, hS3, hI.save, hC, by omega, hb3⟩
          case measure => simp [intOf]; omega
        · have t3 : ((xs.length : Int) == 0) = false := by
            simp
            rintro rfl
            exact hj (hC.neg.2 rfl)
          go_wp2_with fail
          refine (empty_no _ _ _ _ _ _ _ hS3 (by omega)).mono ?_
          rintro e w4 ⟨rfl, rfl⟩
          go_wp2_with fail
          go_roundw
          case rel => exact ⟨k + 1, by omega, by go_num, _, _, _, _, xs, rfl, hS3, hI.save, hC, by omega, hb3⟩
          case measure => simp [intOf]; omega
    · go_wp2_with fail
      go_ret
      exact ⟨rfl, hb⟩

set_option maxRecDepth 100000 in
theorem law6 (a : Option Addr) (n c : Nat) (f : Nat → Int) (w : World) (hn : n ≤ 9223372036854775807) (h : RowIn .u8 w a n f) (hf : ∀ i, i < n → 0 ≤ f i ∧ f i < 256) :
    Calls Try.prog 6 #[.slice a n c] w fun e w' => e = .returned (.bool true) ∧ Below w.heap.size w w' := by
  by_cases h1 : 1048576 < n
  · clear hf
    go_enter Try.func6, Try.ntmps6
    go_wp2
    all_goals
      go_ret
      exact ⟨rfl, Below.refl _ _⟩
  exact law6_main a n c f w (by omega) h hf
end Go.Proofs.Yteoaillidaglbaa
