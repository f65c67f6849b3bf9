/- The walk of FnIndexStringMatchesRuneTable. -/
import Derived.Test.YteiemfmcoofdoaaStr
set_option linter.unusedVariables false
namespace Go.Proofs.Yteiemfmcoofdoaa
open Go.RowKit

theorem zzb8 (s : ByteArray) (i : Int) (w : World) (h : s.size ≤ 1048576) : Calls Try.prog 8 #[.string s, .int .i64 i] w fun e w' => e = .returned (.bool true) ∧ w = w' := by
  go_enter Try.func8, Try.ntmps8
  go_wp2
  go_ret
  exact ⟨rfl, rfl⟩

set_option maxRecDepth 100000 in
theorem law3_main (s : ByteArray) (i : Int) (w : World) (hs : s.size ≤ 1048576) (i0 : -9223372036854775808 ≤ i) (i1 : i ≤ 9223372036854775807) :
    Calls Try.prog 3 #[.string s, .int .i64 i] w fun e w' => e = .returned (.bool true) ∧ Below w.heap.size w w' := by
  have hnl := nr_le s
  obtain ⟨c, cs, hc, hcs, hrun⟩ := runes_run s hs w
  have HS := Lib.hid hcs
  clear hcs
  have hns : nr s ≤ 1048576 := by omega
  clear hnl
  go_enter Try.func3, Try.ntmps3
  go_wp2_with fail
  refine (zzb8 s i w hs).mono ?_
  rintro e w1 ⟨rfl, rfl⟩
  go_wp2_with fail
  clear hrun
  have B1 : Below w.heap.size w (w.alloc (.cells cs 21)).drew := ((Below.refl _ w).alloc (Nat.le_refl _) _).drew
  refine (zzIndexString s i _ hs i0 i1).mono ?_
  rintro e w2 ⟨⟨k, hN, rfl⟩ | ⟨hN, rfl⟩, hb⟩
  · have hk := hN.1
    have hcell : w2.cell? ⟨w.heap.size, k, none⟩ = some (.int .i32 (runeAt s k : Int)) := by
      rw [hb.cell (p := ⟨w.heap.size, k, none⟩) (by simp)]
      simp [HS.out k hk]
    have HC := Lib.hid (fun W => pick_in (nr s) k i W (by omega) hN i0 i1)
    clear hN
    generalize nr s = n at *
    go_wp2_with fail
    refine (HC.out _).mono ?_
    rintro e w3 ⟨rfl, rfl⟩
    clear HC
    go_wp2_with fail
    go_ret
    exact ⟨rfl, B1.trans (hb.mono (by simp))⟩
  · have HC := Lib.hid (fun W => pick_out (nr s) i W (by omega) hN i0 i1)
    clear hN
    generalize nr s = n at *
    go_wp2_with fail
    refine (HC.out _).mono ?_
    rintro e w3 ⟨rfl, rfl⟩
    clear HC
    go_wp2_with fail
    go_ret
    exact ⟨rfl, B1.trans (hb.mono (by simp))⟩

theorem law3 (s : ByteArray) (i : Int) (w : World) (hs : s.size ≤ 9223372036854775807) (i0 : -9223372036854775808 ≤ i) (i1 : i ≤ 9223372036854775807) :
    Calls Try.prog 3 #[.string s, .int .i64 i] w fun e w' => e = .returned (.bool true) ∧ Below w.heap.size w w' := by
  by_cases h1 : 1048576 < s.size
  · go_enter Try.func3, Try.ntmps3
    go_wp2
    all_goals
      go_ret
      exact ⟨rfl, Below.refl _ _⟩
  exact law3_main s i w (by omega) i0 i1
end Go.Proofs.Yteiemfmcoofdoaa
