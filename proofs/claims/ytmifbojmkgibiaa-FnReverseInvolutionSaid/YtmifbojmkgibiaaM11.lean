/- The walk of FnReverseInvolution. -/
import Derived.Test.YtmifbojmkgibiaaRev
set_option linter.unusedVariables false
namespace Go.Proofs.Ytmifbojmkgibiaa
open Go.RowKit

/-- Two rows alike. -/
def Rows2 (wr : World) (g h n : Nat) (s : Nat → ByteArray) : Prop := wr.rowIs g 9 n (fun j => .string (s j)) ∧ wr.rowIs h 9 n (fun j => .string (s j))
theorem Rows2.drewN {wr : World} {g h n : Nat} {s : Nat → ByteArray} (H : Rows2 wr g h n s) (k : Nat) : Rows2 (wr.drewN k) g h n s := H

set_option maxRecDepth 100000 in
theorem law11_some (x : Addr) (n c : Nat) (s : Nat → ByteArray) (w : World) (hn : n ≤ 9223372036854775807) (hz : ∀ i, i < n → (s i).size ≤ 9223372036854775807) (hx : ∀ i, i < n → w.cell? (x.add i) = some (.string (s i))) :
    Calls Try.prog 11 #[.slice (some x) n c] w fun e w' => e = .returned (.bool true) ∧ Below w.heap.size w w' := by
  have HC := Lib.hid (zzb36 (some x) n c s w hn hz (Or.inr ⟨x, rfl, hx⟩))
  have HX := Lib.hid hx
  clear hx hz
  go_enter Try.func11, Try.ntmps11
  go_wp2_with fail
  refine HC.out.mono ?_
  rintro e w1 ⟨⟨r, rfl, hr⟩, rfl⟩
  clear HC
  cases r
  · go_wp2_with fail
    go_ret
    exact ⟨rfl, Below.refl _ _⟩
  have hb := hr rfl
  clear hr
  by_cases h4 : 65536 < n
  · go_wp2_with fail
    go_ret
    exact ⟨rfl, Below.refl _ _⟩
  have hq := fun W => run_neq_slice_nil_any (P := Try.prog) W 50 9 (some x) n c 0 0 Try.underlying50
  have hmk := run_make_row' (P := Try.prog) 50 9 (.string ByteArray.empty) 16 Try.underlying50 Try.info9 rfl .i64 .i64 n (by omega) (by omega)
  obtain ⟨w1, hcp, hrow, hb1⟩ := clone_str x n c s w HX.out _ rfl
  have HROW := Lib.hid hrow
  have HWL := Lib.hid (show w.heap.size < w1.heap.size from hrow.lt)
  have HB := Lib.hid hb
  have htn : tot s n ≤ 1048576 := by omega
  clear hrow hb
  go_wp2_with fail
  clear hq hmk hcp
  go_loopw [4, 5] (fun z i wr => ∃ k : Nat, k ≤ n ∧ i = .int .i64 k ∧ z = .int .i64 ((16 * n + tot s k : Nat) : Int) ∧ w1 = wr) (fun _ i _ => n - (intOf i).toNat)
  case atStart => exact ⟨0, Nat.zero_le _, rfl, by simp [tot], rfl⟩
  case round =>
    obtain ⟨k, hk, rfl, rfl, rfl⟩ := hrel
    by_cases hlt : k < n
    · have hc : w1.cell? ⟨w.heap.size, k, none⟩ = some (.string (s k)) := HROW.out.cell hlt
      have hta := tot_at s hlt
      have ET := Lib.hid (show tot s (k + 1) = tot s k + (s k).size from rfl)
      generalize s k = sk at hc hta ET
      generalize tot s k = tk at hta ET ⊢
      go_wp2_with fail
      go_roundw
      case rel => exact ⟨k + 1, by omega, by go_num, by rw [ET.out]; go_num, trivial⟩
      case measure => simp [intOf]; omega
    · obtain rfl : n = k := by omega
      generalize tot s n = tn at htn HB ⊢
      by_cases hT : 1048576 < 16 * n + tn
      · go_wp2_with fail
        go_ret
        exact ⟨rfl, hb1⟩
      have HR1 := Lib.hid (zzreverse (some ⟨w.heap.size, 0, none⟩) n n s w1 (by omega) (Or.inr ⟨_, rfl, fun j hj => by rw [Go.WideShapes.add_plain, Nat.zero_add]; exact HROW.out.cell hj⟩))
      go_wp2_with fail
      refine HR1.out.mono ?_
      rintro e w2 ⟨⟨g1, hg1, rfl, hr1⟩, hb2⟩
      clear HR1
      have HR2 := Lib.hid (zzreverse (some ⟨g1, 0, none⟩) n n (fun j => s (n - 1 - j)) w2 (by omega) (Or.inr ⟨_, rfl, fun j hj => by rw [Go.WideShapes.add_plain, Nat.zero_add]; exact hr1.cell hj⟩))
      clear hr1
      have B2 : Below w.heap.size w w2 := hb1.trans (hb2.mono (by have := HWL.out; omega))
      go_wp2_with fail
      refine HR2.out.mono ?_
      rintro e w3 ⟨⟨g2, hg2, rfl, hr2⟩, hb3⟩
      clear HR2
      have B3 : Below w.heap.size w w3 := B2.trans (hb3.mono (B2.size))
      have HRR : Hid (Rows2 w3 g2 w.heap.size n s) := by
        refine ⟨hr2.congr (fun j hj => ?_), ?_⟩
        · have : n - 1 - (n - 1 - j) = j := by omega
          show Value.string (s (n - 1 - (n - 1 - j))) = _
          rw [this]
        · obtain ⟨cur, hc, hrest⟩ := HROW.out
          have hwl := HWL.out
          have hs2 := hb2.size
          exact ⟨cur, ((hb3.block w.heap.size (by omega)).trans (hb2.block w.heap.size hwl)).trans hc, hrest⟩
      clear hr2 hb3 hb2
      go_wp2_with fail
      go_loopw [9] (fun i wr => ∃ k : Nat, k ≤ n ∧ i = .int .i64 k ∧ Hid (Rows2 wr g2 w.heap.size n s) ∧ Below w.heap.size w wr) (fun i _ => n - (intOf i).toNat)
      case atStart => exact ⟨0, Nat.zero_le _, rfl, HRR, B3⟩
      case round =>
        obtain ⟨k, hk, rfl, hRR, hB⟩ := hrel
        by_cases hlt : k < n
        · have hc1 : wr.cell? ⟨g2, k, none⟩ = some (.string (s k)) := hRR.out.1.cell hlt
          have hc2 : wr.cell? ⟨w.heap.size, k, none⟩ = some (.string (s k)) := hRR.out.2.cell hlt
          generalize s k = sk at hc1 hc2
          go_wp2_with fail
          go_quiet (fail)
          go_wp2_with fail
          go_roundw
          case rel => exact ⟨k + 1, by omega, by go_num, hRR, ⟨hB.os, hB.tape, hB.output, hB.size, hB.block⟩⟩
          case measure => simp [intOf]; omega
        · obtain rfl : n = k := by omega
          go_wp2_with fail
          go_ret
          exact ⟨rfl, hB⟩

set_option maxRecDepth 100000 in
theorem law11_nil (w : World) : Calls Try.prog 11 #[.slice none 0 0] w fun e w' => e = .returned (.bool true) ∧ Below w.heap.size w w' := by
  have HC := Lib.hid (zzb36 none 0 0 (fun _ => ByteArray.empty) w (by omega) (fun i hi => by omega) (Or.inl ⟨rfl, rfl, rfl⟩))
  go_enter Try.func11, Try.ntmps11
  go_wp2_with fail
  refine HC.out.mono ?_
  rintro e w1 ⟨⟨r, rfl, hr⟩, rfl⟩
  clear HC hr
  cases r
  · go_wp2_with fail
    go_ret
    exact ⟨rfl, Below.refl _ _⟩
  have hq := fun W => run_neq_slice_nil_any (P := Try.prog) W 50 9 none 0 0 0 0 Try.underlying50
  go_wp2_with fail
  clear hq
  go_loopw [4, 5] (fun z i wr => i = .int .i64 0 ∧ z = .int .i64 0 ∧ w = wr) (fun _ _ _ => 0)
  case atStart => exact ⟨rfl, rfl, rfl⟩
  case round =>
    obtain ⟨rfl, rfl, rfl⟩ := hrel
    have HR1 := Lib.hid (zzreverse none 0 0 (fun _ => ByteArray.empty) w (by omega) (Or.inl ⟨rfl, rfl, rfl⟩))
    go_wp2_with fail
    refine HR1.out.mono ?_
    rintro e w2 ⟨⟨g1, hg1, rfl, hr1⟩, hb2⟩
    clear HR1 hr1
    have HR2 := Lib.hid (zzreverse (some ⟨g1, 0, none⟩) 0 0 (fun _ => ByteArray.empty) w2 (by omega) (Or.inr ⟨_, rfl, fun j hj => by omega⟩))
    go_wp2_with fail
    refine HR2.out.mono ?_
    rintro e w3 ⟨⟨g2, hg2, rfl, hr2⟩, hb3⟩
    clear HR2 hr2
    have B3 : Below w.heap.size w w3 := hb2.trans (hb3.mono hb2.size)
    go_wp2_with fail
    go_loopw [9] (fun i wr => i = .int .i64 0 ∧ w3 = wr) (fun _ _ => 0)
    case atStart => exact ⟨rfl, rfl⟩
    case round =>
      obtain ⟨rfl, rfl⟩ := hrel
      go_wp2_with fail
      go_ret
      exact ⟨rfl, B3⟩

theorem law11 (a : Option Addr) (n c : Nat) (s : Nat → ByteArray) (w : World) (hn : n ≤ 9223372036854775807) (hz : ∀ i, i < n → (s i).size ≤ 9223372036854775807) (h : StrIn w a n c s) :
    Calls Try.prog 11 #[.slice a n c] w fun e w' => e = .returned (.bool true) ∧ Below w.heap.size w w' := by
  rcases h with ⟨rfl, rfl, rfl⟩ | ⟨x, rfl, hx⟩
  · exact law11_nil w
  · exact law11_some x n c s w hn hz hx
end Go.Proofs.Ytmifbojmkgibiaa
