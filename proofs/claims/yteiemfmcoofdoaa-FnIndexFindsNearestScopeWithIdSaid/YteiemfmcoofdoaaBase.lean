/- jq's index table: clampIndex, index over a slice of ints laid into []any, and the law's own zzPick. Conditions: at most 2^20 elements. -/
import Derived.Test.YteiemfmcoofdoaaRows
import Derived.WalkKit
import Derived.WalkLawsBesides
import Derived.WalkSpells
import Derived.Handy
import Derived.Outline
import Derived.Below
import Derived.Lib.Hide
import Derived.Deep.OwnRows
set_option linter.unusedVariables false
namespace Go.Proofs.Yteiemfmcoofdoaa
open Go.RowKit

theorem Try.info3 : (Try.prog.info? 3).map (fun i => (i.zero, i.size, i.bytes)) = some (some (.int .i64 0), 1, 8) := by kernel_rfl
theorem Try.info20 : (Try.prog.info? 20).map (fun i => (i.zero, i.size, i.bytes)) = some (some .nilIface, 1, 16) := by kernel_rfl
@[go_sem] theorem as3_3 (v : Value) (w : World) : (Instr.typeAssert (.iface 3 v) 20 3 true).run Try.prog w = .ok (.tuple #[v, .bool true]) w := by kernel_rfl
@[go_sem] theorem as9_9 (v : Value) (w : World) : (Instr.typeAssert (.iface 9 v) 20 9 true).run Try.prog w = .ok (.tuple #[v, .bool true]) w := by kernel_rfl
@[go_sem] theorem asnil_3 (w : World) : (Instr.typeAssert .nilIface 20 3 true).run Try.prog w = .ok (.tuple #[.int .i64 0, .bool false]) w := by kernel_rfl
@[go_sem] theorem asnil_9 (w : World) : (Instr.typeAssert .nilIface 20 9 true).run Try.prog w = .ok (.tuple #[.string ByteArray.empty, .bool false]) w := by kernel_rfl

/-- Index i names the place k of n. -/
def Names (n : Nat) (i : Int) (k : Nat) : Prop := k < n ∧ (i = k ∨ i = (k : Int) - n)
/-- Index i names no place of n. -/
def NoPlace (n : Nat) (i : Int) : Prop := i < -(n : Int) ∨ (n : Int) ≤ i
theorem names_or (n : Nat) (i : Int) : (∃ k, Names n i k) ∨ NoPlace n i := by
  by_cases h : NoPlace n i
  · exact Or.inr h
  · left
    unfold NoPlace at h
    by_cases h0 : 0 ≤ i
    · exact ⟨i.toNat, by omega, Or.inl (by omega)⟩
    · exact ⟨(i + n).toNat, by omega, Or.inr (by omega)⟩

theorem clamp_in (n k : Nat) (i : Int) (w : World) (hn : n ≤ 1048576) (h : Names n i k) (i0 : -9223372036854775808 ≤ i) (i1 : i ≤ 9223372036854775807) :
    Calls Try.prog 25 #[.int .i64 i, .int .i64 (-1), .int .i64 n] w fun e w' => e = .returned (.int .i64 k) ∧ w = w' := by
  obtain ⟨hk, rfl | rfl⟩ := h
  · go_enter Try.func25, Try.ntmps25
    go_wp2
    go_ret
    exact ⟨rfl, rfl⟩
  · have hlt : (k : Int) - n < 0 := by omega
    go_enter Try.func25, Try.ntmps25
    go_wp2
    go_ret
    exact ⟨rfl, rfl⟩
theorem clamp_out (n : Nat) (i : Int) (w : World) (hn : n ≤ 1048576) (h : NoPlace n i) (i0 : -9223372036854775808 ≤ i) (i1 : i ≤ 9223372036854775807) :
    Calls Try.prog 25 #[.int .i64 i, .int .i64 (-1), .int .i64 n] w fun e w' => (e = .returned (.int .i64 (-1)) ∨ e = .returned (.int .i64 n)) ∧ w = w' := by
  rcases h with h | h
  · by_cases h2 : i + n < -1
    · go_enter Try.func25, Try.ntmps25
      go_wp2
      go_ret
      exact ⟨Or.inl rfl, rfl⟩
    · obtain rfl : i = -1 - (n : Int) := by omega
      go_enter Try.func25, Try.ntmps25
      go_wp2
      go_ret
      exact ⟨Or.inl (by simp), rfl⟩
  · go_enter Try.func25, Try.ntmps25
    go_wp2
    go_ret
    exact ⟨Or.inr rfl, rfl⟩

theorem pick_in (n k : Nat) (i : Int) (w : World) (hn : n ≤ 1048576) (h : Names n i k) (i0 : -9223372036854775808 ≤ i) (i1 : i ≤ 9223372036854775807) :
    Calls Try.prog 10 #[.int .i64 n, .int .i64 i] w fun e w' => e = .returned (.int .i64 k) ∧ w = w' := by
  obtain ⟨hk, rfl | rfl⟩ := h
  · go_enter Try.func10, Try.ntmps10
    go_wp2
    go_ret
    exact ⟨rfl, rfl⟩
  · have h1 : ¬ (0 : Int) ≤ (k : Int) - n := by omega
    have h2 : (k : Int) - n < 0 := by omega
    have h3 : -(n : Int) ≤ (k : Int) - n := by omega
    go_enter Try.func10, Try.ntmps10
    go_wp2
    go_ret
    exact ⟨by simp; omega, rfl⟩
theorem pick_out (n : Nat) (i : Int) (w : World) (hn : n ≤ 1048576) (h : NoPlace n i) (i0 : -9223372036854775808 ≤ i) (i1 : i ≤ 9223372036854775807) :
    Calls Try.prog 10 #[.int .i64 n, .int .i64 i] w fun e w' => e = .returned (.int .i64 (-1)) ∧ w = w' := by
  rcases h with h | h
  · have h2 : i < 0 := by omega
    have h3 : ¬ -(n : Int) ≤ i := by omega
    have h4 : ¬ (0 : Int) ≤ i := by omega
    go_enter Try.func10, Try.ntmps10
    go_wp2
    go_ret
    exact ⟨rfl, rfl⟩
  · have h2 : ¬ i < 0 := by omega
    have h3 : ¬ i < (n : Int) := by omega
    have h4 : (0 : Int) ≤ i := by omega
    go_enter Try.func10, Try.ntmps10
    go_wp2
    go_ret
    exact ⟨rfl, rfl⟩
end Go.Proofs.Yteiemfmcoofdoaa
