/- The walk of FnIndexMatchesCaseTable. -/
import Derived.Test.YteiemfmcoofdoaaInts
set_option linter.unusedVariables false
namespace Go.Proofs.Yteiemfmcoofdoaa
open Go.RowKit

theorem zzb11 (a : Option Addr) (n c : Nat) (i : Int) (w : World) (h : n ≤ 1048576) : Calls Try.prog 11 #[.slice a n c, .int .i64 i] w fun e w' => e = .returned (.bool true) ∧ w = w' := by
  go_enter Try.func11, Try.ntmps11
  go_wp2
  go_ret
  exact ⟨rfl, rfl⟩

set_option maxRecDepth 100000 in
theorem law4_nil (i : Int) (w : World) (i0 : -9223372036854775808 ≤ i) (i1 : i ≤ 9223372036854775807) :
    Calls Try.prog 4 #[.slice none 0 0, .int .i64 i] w fun e w' => e = .returned (.bool true) ∧ Below w.heap.size w w' := by
  have hq := fun W => run_neq_slice_nil_any (P := Try.prog) W 27 3 none 0 0 0 0 Try.underlying27
  have hN : NoPlace 0 i := by unfold NoPlace; omega
  go_enter Try.func4, Try.ntmps4
  go_wp2_with fail
  refine (zzb11 _ _ _ _ w (by omega)).mono ?_
  rintro e w1 ⟨rfl, rfl⟩
  go_wp2_with fail
  refine (indexInts none 0 0 (fun _ => 0) i w (by omega) i0 i1 (Or.inl rfl)).mono ?_
  rintro e w1 ⟨⟨k, hk, _⟩ | ⟨_, rfl⟩, hb⟩
  · exact absurd hN (fun h => names_no hk h)
  go_wp2_with fail
  refine (pick_out 0 i w1 (by omega) hN i0 i1).mono ?_
  rintro e w2 ⟨rfl, rfl⟩
  clear hN
  go_wp2_with fail
  go_ret
  exact ⟨rfl, hb⟩

set_option maxRecDepth 100000 in
theorem law4_some (x : Addr) (n c : Nat) (f : Nat → Int) (i : Int) (w : World) (hn : n ≤ 131072) (i0 : -9223372036854775808 ≤ i) (i1 : i ≤ 9223372036854775807) (hx : ∀ j, j < n → w.cell? (x.add j) = some (.int .i64 (f j))) :
    Calls Try.prog 4 #[.slice (some x) n c, .int .i64 i] w fun e w' => e = .returned (.bool true) ∧ Below w.heap.size w w' := by
  have hq := fun W => run_neq_slice_nil_any (P := Try.prog) W 27 3 (some x) n c 0 0 Try.underlying27
  have hmk := run_make_row' (P := Try.prog) 27 3 (.int .i64 0) 8 Try.underlying27 Try.info3 rfl .i64 .i64 n (by omega) (by omega)
  have HX := Lib.hid hx
  clear hx
  go_enter Try.func4, Try.ntmps4
  go_wp2_with fail
  refine (zzb11 _ _ _ _ w (by omega)).mono ?_
  rintro e w1 ⟨rfl, rfl⟩
  go_wp2_with fail
  go_loopw [6] (fun j wr => ∃ k : Nat, k ≤ n ∧ j = .int .i64 k ∧ wr.rowIs w.heap.size 3 n (fun j => .int .i64 (if j < k then f j else 0)) ∧ Below w.heap.size w wr) (fun j _ => n - (intOf j).toNat)
  case atStart => exact ⟨0, Nat.zero_le _, rfl, (World.rowIs_made w _ n 3).congr (fun j _ => by simp), (Below.refl _ _).alloc (Nat.le_refl _) _⟩
  case round =>
    clear hmk hq
    obtain ⟨k, hk, rfl, hrow, hb⟩ := hrel
    by_cases hlt : k < n
    · have hxl : (x.add k).block < w.heap.size := block_lt_of_cell (HX.out k hlt)
      have hc : wr.cell? (x.add k) = some (.int .i64 (f k)) := (hb.cell hxl).trans (HX.out k hlt)
      have hd := hrow.cell hlt
      have hf := hrow.frozen k
      go_wp2_with fail
      go_roundw
      case rel =>
        refine ⟨k + 1, by omega, by go_num, (hrow.set k (.int .i64 (f k))).congr (fun j hj => ?_), hb.setCell (p := ⟨w.heap.size, k, none⟩) (Nat.le_refl _) _⟩
        by_cases e : j = k
        · subst e; simp
        · rw [if_neg e]; congr 1; by_cases e2 : j < k
          · rw [if_pos e2, if_pos (by omega)]
          · rw [if_neg e2, if_neg (by omega)]
      case measure => simp [intOf]; omega
    · obtain rfl : n = k := by omega
      have hr : wr.rowIs w.heap.size 3 n (fun j => .int .i64 (f j)) := hrow.congr (fun j hj => by rw [if_pos hj])
      clear hrow
      go_wp2_with fail
      refine (indexInts (some ⟨w.heap.size, 0, none⟩) n n f i wr (by omega) i0 i1 (Or.inr ⟨_, rfl, fun j hj => by rw [Go.WideShapes.add_plain, Nat.zero_add]; exact hr.cell hj⟩)).mono ?_
      rintro e w1 ⟨⟨k, hN, rfl⟩ | ⟨hN, rfl⟩, hb1⟩
      · have hk := hN.1
        have hc := (hr.of_block (hb1.block _ hr.lt)).cell hk
        have HC := Lib.hid (pick_in n k i w1 (by omega) hN i0 i1)
        clear hN
        go_wp2_with fail
        refine HC.out.mono ?_
        rintro e w2 ⟨rfl, rfl⟩
        clear HC
        go_wp2_with fail
        go_ret
        exact ⟨rfl, hb.trans (hb1.mono hb.size)⟩
      · have HC := Lib.hid (pick_out n i w1 (by omega) hN i0 i1)
        clear hN
        go_wp2_with fail
        refine HC.out.mono ?_
        rintro e w2 ⟨rfl, rfl⟩
        clear HC
        go_wp2_with fail
        go_ret
        exact ⟨rfl, hb.trans (hb1.mono hb.size)⟩

theorem law4 (a : Option Addr) (n c : Nat) (f : Nat → Int) (i : Int) (w : World) (hn : n ≤ 9223372036854775807) (i0 : -9223372036854775808 ≤ i) (i1 : i ≤ 9223372036854775807) (h : (a = none ∧ n = 0 ∧ c = 0) ∨ ∃ x, a = some x ∧ ∀ j, j < n → w.cell? (x.add j) = some (.int .i64 (f j))) :
    Calls Try.prog 4 #[.slice a n c, .int .i64 i] w fun e w' => e = .returned (.bool true) ∧ Below w.heap.size w w' := by
  by_cases h1 : 131072 < n
  · clear h
    go_enter Try.func4, Try.ntmps4
    go_wp2
    all_goals
      go_ret
      exact ⟨rfl, Below.refl _ _⟩
  rcases h with ⟨rfl, rfl, rfl⟩ | ⟨x, rfl, hx⟩
  · exact law4_nil i w i0 i1
  · exact law4_some x n c f i w (by omega) i0 i1 hx
end Go.Proofs.Yteiemfmcoofdoaa
