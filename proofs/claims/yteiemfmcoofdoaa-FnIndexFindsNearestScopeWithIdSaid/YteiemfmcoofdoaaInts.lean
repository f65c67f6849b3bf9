/- index over a row of ints, and ZZindexInts. Conditions: at most 2^20 elements. -/
import Derived.Test.YteiemfmcoofdoaaBase
set_option linter.unusedVariables false
namespace Go.Proofs.Yteiemfmcoofdoaa
open Go.RowKit

theorem index_in (g n k : Nat) (i : Int) (f : Nat → Int) (w : World) (hn : n ≤ 1048576) (h : Names n i k) (i0 : -9223372036854775808 ≤ i) (i1 : i ≤ 9223372036854775807) (hr : w.rowIs g 20 n (fun j => .iface 3 (.int .i64 (f j)))) :
    Calls Try.prog 22 #[.slice (some ⟨g, 0, none⟩) n n, .int .i64 i] w fun e w' => e = .returned (.iface 3 (.int .i64 (f k))) ∧ w = w' := by
  have hk := h.1
  have hc := hr.cell hk
  have HC := Lib.hid (clamp_in n k i w hn h i0 i1)
  clear hr h
  go_enter Try.func22, Try.ntmps22
  go_wp2_with fail
  refine HC.out.mono ?_
  rintro e w1 ⟨rfl, rfl⟩
  clear HC
  go_wp2_with fail
  go_ret
  exact ⟨rfl, rfl⟩
theorem index_out (a : Option Addr) (n c : Nat) (i : Int) (w : World) (hn : n ≤ 1048576) (h : NoPlace n i) (i0 : -9223372036854775808 ≤ i) (i1 : i ≤ 9223372036854775807) :
    Calls Try.prog 22 #[.slice a n c, .int .i64 i] w fun e w' => e = .returned .nilIface ∧ w = w' := by
  have HC := Lib.hid (clamp_out n i w hn h i0 i1)
  clear h
  go_enter Try.func22, Try.ntmps22
  go_wp2_with fail
  refine HC.out.mono ?_
  rintro e w1 ⟨rfl | rfl, rfl⟩
  all_goals
    clear HC
    go_wp2_with fail
    go_ret
    exact ⟨rfl, rfl⟩

/-- The ints are laid into a new []any. -/
def Found (f : Nat → Int) (n : Nat) (i : Int) (e : Ending) : Prop :=
  (∃ k, Names n i k ∧ e = .returned (.tuple #[.int .i64 (f k), .bool true])) ∨ (NoPlace n i ∧ e = .returned (.tuple #[.int .i64 0, .bool false]))

set_option maxRecDepth 100000 in
theorem indexInts (a : Option Addr) (n c : Nat) (f : Nat → Int) (i : Int) (w : World) (hn : n ≤ 1048576) (i0 : -9223372036854775808 ≤ i) (i1 : i ≤ 9223372036854775807) (h : n = 0 ∨ ∃ x, a = some x ∧ ∀ j, j < n → w.cell? (x.add j) = some (.int .i64 (f j))) :
    Calls Try.prog 12 #[.slice a n c, .int .i64 i] w fun e w' => Found f n i e ∧ Below w.heap.size w w' := by
  have hmk := run_make_row' (P := Try.prog) 41 20 .nilIface 16 Try.underlying41 Try.info20 rfl .i64 .i64 n (by omega) (by omega)
  have H := Lib.hid h
  clear h
  go_enter Try.func12, Try.ntmps12
  go_wp2_with fail
  go_loopw [16] (fun j wr => ∃ k : Nat, k ≤ n ∧ j = .int .i64 k ∧ wr.rowIs w.heap.size 20 n (fun j => if j < k then .iface 3 (.int .i64 (f j)) else .nilIface) ∧ Below w.heap.size w wr) (fun j _ => n - (intOf j).toNat)
  case atStart => exact ⟨0, Nat.zero_le _, rfl, (World.rowIs_made w _ n 20).congr (fun j _ => by simp), (Below.refl _ _).alloc (Nat.le_refl _) _⟩
  case round =>
    clear hmk
    obtain ⟨k, hk, rfl, hrow, hb⟩ := hrel
    by_cases hlt : k < n
    · rcases H.out with h0 | ⟨x, rfl, hx⟩
      · omega
      have hxl : (x.add k).block < w.heap.size := block_lt_of_cell (hx k hlt)
      have hc : wr.cell? (x.add k) = some (.int .i64 (f k)) := (hb.cell hxl).trans (hx k hlt)
      clear hx
      have hd := hrow.cell hlt
      have hf := hrow.frozen k
      rw [if_neg (by omega)] at hd
      go_wp2_with fail
      go_roundw
      case rel =>
        refine ⟨k + 1, by omega, by go_num, (hrow.set k _).congr (fun j hj => ?_), hb.setCell (p := ⟨w.heap.size, k, none⟩) (Nat.le_refl _) _⟩
        by_cases e : j = k
        · subst e; simp
        · rw [if_neg e]
          by_cases e2 : j < k
          · rw [if_pos e2, if_pos (by omega)]
          · rw [if_neg e2, if_neg (by omega)]
      case measure => simp [intOf]; omega
    · obtain rfl : n = k := by omega
      have hr : wr.rowIs w.heap.size 20 n (fun j => .iface 3 (.int .i64 (f j))) := hrow.congr (fun j hj => by rw [if_pos hj])
      clear hrow
      rcases names_or n i with ⟨k, hN⟩ | hN
      · have HC := Lib.hid (index_in w.heap.size n k i f wr hn hN i0 i1 hr)
        go_wp2_with fail
        refine HC.out.mono ?_
        rintro e w1 ⟨rfl, rfl⟩
        go_wp2_with fail
        go_ret2
        exact ⟨Or.inl ⟨k, hN, rfl⟩, hb⟩
      · have HC := Lib.hid (index_out (some ⟨w.heap.size, 0, none⟩) n n i wr hn hN i0 i1)
        go_wp2_with fail
        refine HC.out.mono ?_
        rintro e w1 ⟨rfl, rfl⟩
        go_wp2_with fail
        go_ret2
        exact ⟨Or.inr ⟨hN, rfl⟩, hb⟩

theorem names_inj {n k k' : Nat} {i : Int} (h : Names n i k) (h' : Names n i k') : k = k' := by
  obtain ⟨h1, h2⟩ := h; obtain ⟨h3, h4⟩ := h'
  omega
theorem names_no {n k : Nat} {i : Int} (h : Names n i k) (h' : NoPlace n i) : False := by
  obtain ⟨h1, h2⟩ := h; unfold NoPlace at h'
  omega
end Go.Proofs.Yteiemfmcoofdoaa
