/- The walk of FnValuesCaseTable. -/
import Derived.Test.YtdigmjmghijkeaaVal
set_option linter.unusedVariables false
namespace Go.Proofs.Ytdigmjmghijkeaa
open Go.RowKit

theorem zzb18 (a : Option Addr) (n c : Nat) (i : Int) (s : ByteArray) (b : Bool) (f : Nat) (w : World) (h : n + s.size ≤ 1048576) : Calls Try.prog 18 #[.slice a n c, .int .i64 i, .string s, .bool b, .float .f64 f] w fun e w' => e = .returned (.bool true) ∧ w = w' := by
  go_enter Try.func18, Try.ntmps18
  go_wp2
  go_ret
  exact ⟨rfl, rfl⟩
theorem zzb18_any (a : Option Addr) (n c : Nat) (i : Int) (s : ByteArray) (b : Bool) (f : Nat) (w : World) (hn : n ≤ 9223372036854775807) (hs : s.size ≤ 9223372036854775807) (h : ¬ n + s.size ≤ 1048576) : Calls Try.prog 18 #[.slice a n c, .int .i64 i, .string s, .bool b, .float .f64 f] w fun e w' => e = .returned (.bool false) ∧ w = w' := by
  go_enter Try.func18, Try.ntmps18
  go_wp2
  all_goals
    go_ret
    exact ⟨rfl, rfl⟩

/-- The two rows, alike. -/
def Rows2 (wr : World) (a : Option Addr) (g n : Nat) (F : Nat → Int) : Prop := n = 0 ∨ ∃ h, a = some ⟨h, 0, none⟩ ∧ wr.rowIs g 3 n (fun j => .int .i64 (F j)) ∧ wr.rowIs h 3 n (fun j => .int .i64 (F j))

set_option maxRecDepth 100000 in
theorem law6_main (a : Option Addr) (n c : Nat) (F : Nat → Int) (i : Int) (s : ByteArray) (b : Bool) (f : Nat) (w : World) (hn : n ≤ 65536) (hs : s.size ≤ 524288) (ht : 8 * n + s.size ≤ 1048576) (h : IntIn w a n c F) :
    Calls Try.prog 6 #[.slice a n c, .int .i64 i, .string s, .bool b, .float .f64 f] w fun e w' => e = .returned (.bool true) ∧ Below w.heap.size w w' := by
  have HCL := Lib.hid (clone_any a n c F w (by omega) h)
  clear h
  go_enter Try.func6, Try.ntmps6
  go_wp2_with fail
  refine (zzb18 a n c i s b f w (by omega)).mono ?_
  rintro e w1 ⟨rfl, rfl⟩
  go_wp2_with fail
  refine HCL.out.mono ?_
  rintro e w1 ⟨hC, hb1⟩
  clear HCL
  obtain ⟨a', rfl, hI⟩ : ∃ a', e = .returned (.slice a' n n) ∧ ((a' = none ∧ n = 0) ∨ (a' = some ⟨w.heap.size, 0, none⟩ ∧ w1.rowIs w.heap.size 3 n (fun j => .int .i64 (F j)))) := by
    rcases hC with ⟨rfl, rfl⟩ | ⟨rfl, hr⟩
    · exact ⟨none, rfl, Or.inl ⟨rfl, rfl⟩⟩
    · exact ⟨_, rfl, Or.inr ⟨rfl, hr⟩⟩
  have HIN := Lib.hid hI
  have HA := Lib.hid (zz_arr a' n n F w1 (by omega) (by
    rcases hI with ⟨rfl, rfl⟩ | ⟨rfl, hr⟩
    · exact Or.inl ⟨rfl, rfl, rfl⟩
    · exact Or.inr ⟨_, rfl, fun j hj => by rw [Go.WideShapes.add_plain, Nat.zero_add]; exact hr.cell hj⟩))
  clear hI hC
  go_wp2_with fail
  refine HA.out.mono ?_
  rintro e w2 ⟨⟨g, hg, rfl, hr2⟩, hb2⟩
  clear HA
  have HRR : Hid (Rows2 w2 a' g n F) := by
    rcases HIN.out with ⟨_, h0⟩ | ⟨ha, hr⟩
    · exact Or.inl h0
    · exact Or.inr ⟨_, ha, hr2, hr.of_block (hb2.block _ hr.lt)⟩
  have B2 : Below w.heap.size w w2 := hb1.trans (hb2.mono hb1.size)
  clear hr2 HIN
  go_wp2_with fail
  go_loopw [13] (fun j wr => ∃ k : Nat, k ≤ n ∧ j = .int .i64 k ∧ Hid (Rows2 wr a' g n F) ∧ Below w.heap.size w wr) (fun j _ => n - (intOf j).toNat)
  case atStart => exact ⟨0, Nat.zero_le _, rfl, HRR, B2⟩
  case round =>
    obtain ⟨k, hk, rfl, hRR, hB⟩ := hrel
    by_cases hlt : k < n
    · rcases hRR.out with h0 | ⟨hh, rfl, r1, r2⟩
      · omega
      have hc1 : wr.cell? ⟨g, k, none⟩ = some (.int .i64 (F k)) := r1.cell hlt
      have hc2 : wr.cell? ⟨hh, k, none⟩ = some (.int .i64 (F k)) := r2.cell hlt
      clear r1 r2
      go_wp2_with fail
      go_quiet (fail)
      go_wp2_with fail
      go_roundw
      case rel => exact ⟨k + 1, by omega, by go_num, hRR, ⟨hB.os, hB.tape, hB.output, hB.size, hB.block⟩⟩
      case measure => simp [intOf]; omega
    · obtain rfl : n = k := by omega
      go_wp2_with fail
      refine (zz_int i wr).mono ?_
      rintro e w3 ⟨rfl, rfl⟩
      go_wp2_with fail
      refine (zz_float f wr).mono ?_
      rintro e w3 ⟨rfl, rfl⟩
      go_wp2_with fail
      refine (zz_str s wr).mono ?_
      rintro e w3 ⟨rfl, rfl⟩
      go_wp2_with fail
      refine (zz_bool b wr).mono ?_
      rintro e w3 ⟨rfl, rfl⟩
      go_wp2_with fail
      refine (zz_null wr).mono ?_
      rintro e w3 ⟨rfl, rfl⟩
      go_wp2_with fail
      go_ret
      exact ⟨rfl, hB⟩

theorem law6 (a : Option Addr) (n c : Nat) (F : Nat → Int) (i : Int) (s : ByteArray) (b : Bool) (f : Nat) (w : World) (hn : n ≤ 9223372036854775807) (hs : s.size ≤ 9223372036854775807) (h : IntIn w a n c F) :
    Calls Try.prog 6 #[.slice a n c, .int .i64 i, .string s, .bool b, .float .f64 f] w fun e w' => e = .returned (.bool true) ∧ Below w.heap.size w w' := by
  by_cases h1 : n + s.size ≤ 1048576
  · by_cases h2 : 65536 < n ∨ 524288 < s.size ∨ 1048576 < 8 * n + s.size
    · clear h
      go_enter Try.func6, Try.ntmps6
      go_wp2_with fail
      refine (zzb18 a n c i s b f w h1).mono ?_
      rintro e w1 ⟨rfl, rfl⟩
      by_cases h3 : 65536 < n
      · go_wp2_with fail
        go_ret
        exact ⟨rfl, Below.refl _ _⟩
      by_cases h4 : 524288 < s.size
      · go_wp2_with fail
        go_ret
        exact ⟨rfl, Below.refl _ _⟩
      omega
    · exact law6_main a n c F i s b f w (by omega) (by omega) (by omega) h
  · clear h
    go_enter Try.func6, Try.ntmps6
    go_wp2_with fail
    refine (zzb18_any a n c i s b f w hn hs h1).mono ?_
    rintro e w1 ⟨rfl, rfl⟩
    go_wp2_with fail
    go_ret
    exact ⟨rfl, Below.refl _ _⟩
end Go.Proofs.Ytdigmjmghijkeaa
