/- The walk of FnUnitIterAgreesWithNewIterOfOne. -/
import Derived.Test.YtgfahahiekfjgaaMore
set_option linter.unusedVariables false
namespace Go.Proofs.Ytgfahahiekfjgaa
open Go.RowKit

theorem UnitSt.grown {w w' : World} {b b' : Nat} {v : Value} {d : Bool} (h : UnitSt w b v d) (hg : w.grownBy w' (some b')) (hne : b ≠ b') : UnitSt w' b v d :=
  World.rowIs.of_block h (hg.block b h.lt (fun e => hne (by injection e)))
theorem UnitSt.below {w w' : World} {b : Nat} {v : Value} {d : Bool} (h : UnitSt w b v d) (hb : Below w.heap.size w w') : UnitSt w' b v d :=
  World.rowIs.of_block h (hb.block b h.lt)

set_option maxRecDepth 100000 in
set_option maxHeartbeats 1000000 in
theorem law8_main (s : ByteArray) (n : Int) (w : World) (hs : s.size ≤ 1048576) (n0 : 1 ≤ n) (n1 : n ≤ 65536) :
    Calls Try.prog 8 #[.string s, .int .i64 n] w fun e w' => e = .returned (.bool true) ∧ Below w.heap.size w w' := by
  go_enter Try.func8, Try.ntmps8
  go_wp2_with fail
  refine (zzb23 s n w hs).mono ?_
  rintro e w1 ⟨rfl, rfl⟩
  go_wp2_with fail
  refine (newUnitString s w).mono ?_
  rintro e w1 ⟨rfl, u1, b1⟩
  have L1 := u1.lt
  go_wp2_with fail
  refine (newIterString w1.heap.size s _ (by simp [go_sem])).mono ?_
  rintro e w2 ⟨rfl, u2, b2⟩
  have L2 := b2.size
  rw [World.size_alloc] at u2 L2 b2
  have B1 : Below w1.heap.size w1 w2 := ((Below.refl _ w1).alloc (Nat.le_refl _) _).trans (b2.mono (by omega))
  have u12 := u1.below B1
  have B2 : Below w.heap.size w w2 := b1.trans (B1.mono b1.size)
  have hne : w.heap.size ≠ w1.heap.size + 1 := by omega
  have LS := b1.size
  have HN := Lib.hid hne
  clear hne u1 b1 b2 B1
  go_wp2_with fail
  go_loopw [7] (fun i wr => ∃ k : Nat, (k : Int) ≤ n ∧ i = .int .i64 k ∧ UnitSt wr w.heap.size (.iface 9 (.string s)) (decide (0 < k)) ∧ UnitSt wr (w1.heap.size + 1) (.iface 9 (.string s)) (decide (0 < k)) ∧ Below w.heap.size w wr) (fun i _ => (n - intOf i).toNat)
  case atStart => exact ⟨0, by omega, rfl, u12, u2, B2⟩
  case round =>
    obtain ⟨k, hk, rfl, ua, ub, hb⟩ := hrel
    have LB := hb.size
    by_cases hlt : (k : Int) < n
    · by_cases h0 : k = 0
      · subst h0
        go_wp2_with fail
        refine (unit_yes _ _ _ ua).mono ?_
        rintro e w3 ⟨rfl, ua3, g3⟩
        have ub3 := ub.grown g3 (fun e => HN.out e.symm)
        have hb3 := below_grown hb g3 LB (Nat.le_refl _)
        go_wp2_with fail
        refine (unit_yes _ _ _ ub3).mono ?_
        rintro e w4 ⟨rfl, ub4, g4⟩
        have ua4 := ua3.grown g4 HN.out
        have hb4 := below_grown hb3 g4 hb3.size (by omega)
        clear ua ub ua3 ub3 g3 g4 hb3 hb
        go_wp2_with fail
        refine (asStr _ _).mono ?_
        rintro e w5 ⟨rfl, rfl⟩
        go_wp2_with fail
        refine (asStr _ _).mono ?_
        rintro e w5 ⟨rfl, rfl⟩
        go_wp2_with fail
        go_roundw
        case rel => exact ⟨1, by omega, rfl, ua4, ub4, hb4⟩
        case measure => simp [intOf]; omega
      · have e1 : decide (0 < k) = true := by simp; omega
        have e0 : ((k : Int) == 0) = false := by simp; omega
        rw [e1] at ua ub
        have E1 := Lib.hid e1
        clear e1
        go_wp2_with fail
        refine (unit_no _ _ _ ua).mono ?_
        rintro e w3 ⟨rfl, rfl⟩
        go_wp2_with fail
        refine (unit_no _ _ _ ub).mono ?_
        rintro e w3 ⟨rfl, rfl⟩
        go_wp2_with fail
        go_roundw
        case rel => exact ⟨k + 1, by omega, by go_num, by simpa using ua, by simpa using ub, hb⟩
        case measure => simp [intOf]; omega
    · go_wp2_with fail
      go_ret
      exact ⟨rfl, hb⟩

set_option maxRecDepth 100000 in
theorem law8 (s : ByteArray) (n : Int) (w : World) (hs : s.size ≤ 9223372036854775807) :
    Calls Try.prog 8 #[.string s, .int .i64 n] w fun e w' => e = .returned (.bool true) ∧ Below w.heap.size w w' := by
  by_cases h1 : 1048576 < s.size
  · go_enter Try.func8, Try.ntmps8
    go_wp2
    all_goals
      go_ret
      exact ⟨rfl, Below.refl _ _⟩
  by_cases h2 : n < 1
  · go_enter Try.func8, Try.ntmps8
    go_wp2
    all_goals
      go_ret
      exact ⟨rfl, Below.refl _ _⟩
  by_cases h3 : 65536 < n
  · go_enter Try.func8, Try.ntmps8
    go_wp2
    all_goals
      go_ret
      exact ⟨rfl, Below.refl _ _⟩
  exact law8_main s n w (by omega) (by omega) (by omega)
end Go.Proofs.Ytgfahahiekfjgaa
