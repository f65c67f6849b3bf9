/- values over an array of ints and over the scalars; zzCloneInts. Conditions: at most 2^20 ints. -/
import Derived.Test.YtdigmjmghijkeaaRows
import Derived.WalkKit
import Derived.WalkLawsBesides
import Derived.WalkSpells
import Derived.Handy
import Derived.Outline
import Derived.Below
import Derived.Lib.Hide
import Derived.Lib.SliceRun
import Derived.Deep.OwnRows
import Derived.Deep.QuietTactic
import Derived.BigQuiet
set_option linter.unusedVariables false
namespace Go.Proofs.Ytdigmjmghijkeaa
open Go.RowKit

theorem Try.info3 : (Try.prog.info? 3).map (fun i => (i.zero, i.size, i.bytes)) = some (some (.int .i64 0), 1, 8) := by kernel_rfl
theorem Try.info20 : (Try.prog.info? 20).map (fun i => (i.zero, i.size, i.bytes)) = some (some .nilIface, 1, 16) := by kernel_rfl
@[go_sem] theorem as3_3 (v : Value) (w : World) : (Instr.typeAssert (.iface 3 v) 20 3 true).run Try.prog w = .ok (.tuple #[v, .bool true]) w := by kernel_rfl
@[go_sem] theorem as45_45 (v : Value) (w : World) : (Instr.typeAssert (.iface 45 v) 20 45 true).run Try.prog w = .ok (.tuple #[v, .bool true]) w := by kernel_rfl
@[go_sem] theorem as3_45 (v : Value) (w : World) : (Instr.typeAssert (.iface 3 v) 20 45 true).run Try.prog w = .ok (.tuple #[.slice none 0 0, .bool false]) w := by kernel_rfl
@[go_sem] theorem as33_45 (v : Value) (w : World) : (Instr.typeAssert (.iface 33 v) 20 45 true).run Try.prog w = .ok (.tuple #[.slice none 0 0, .bool false]) w := by kernel_rfl
@[go_sem] theorem as9_45 (v : Value) (w : World) : (Instr.typeAssert (.iface 9 v) 20 45 true).run Try.prog w = .ok (.tuple #[.slice none 0 0, .bool false]) w := by kernel_rfl
@[go_sem] theorem as4_45 (v : Value) (w : World) : (Instr.typeAssert (.iface 4 v) 20 45 true).run Try.prog w = .ok (.tuple #[.slice none 0 0, .bool false]) w := by kernel_rfl
@[go_sem] theorem asnil_45 (w : World) : (Instr.typeAssert .nilIface 20 45 true).run Try.prog w = .ok (.tuple #[.slice none 0 0, .bool false]) w := by kernel_rfl
@[go_sem] theorem as3_43 (v : Value) (w : World) : (Instr.typeAssert (.iface 3 v) 20 43 true).run Try.prog w = .ok (.tuple #[.map none, .bool false]) w := by kernel_rfl
@[go_sem] theorem as33_43 (v : Value) (w : World) : (Instr.typeAssert (.iface 33 v) 20 43 true).run Try.prog w = .ok (.tuple #[.map none, .bool false]) w := by kernel_rfl
@[go_sem] theorem as9_43 (v : Value) (w : World) : (Instr.typeAssert (.iface 9 v) 20 43 true).run Try.prog w = .ok (.tuple #[.map none, .bool false]) w := by kernel_rfl
@[go_sem] theorem as4_43 (v : Value) (w : World) : (Instr.typeAssert (.iface 4 v) 20 43 true).run Try.prog w = .ok (.tuple #[.map none, .bool false]) w := by kernel_rfl
@[go_sem] theorem asnil_43 (w : World) : (Instr.typeAssert .nilIface 20 43 true).run Try.prog w = .ok (.tuple #[.map none, .bool false]) w := by kernel_rfl

/-- A slice of ints that came in. -/
def IntIn (w : World) (a : Option Addr) (n c : Nat) (f : Nat → Int) : Prop :=
  (a = none ∧ n = 0 ∧ c = 0) ∨ ∃ x, a = some x ∧ ∀ j, j < n → w.cell? (x.add j) = some (.int .i64 (f j))

/-- The clone. -/
def Cloned (w w' : World) (n : Nat) (f : Nat → Int) (e : Ending) : Prop :=
  (n = 0 ∧ e = .returned (.slice none 0 0)) ∨ (e = .returned (.slice (some ⟨w.heap.size, 0, none⟩) n n) ∧ w'.rowIs w.heap.size 3 n (fun j => .int .i64 (f j)))
theorem clone_nil (w : World) : Calls Try.prog 16 #[.slice none 0 0] w fun e w' => e = .returned (.slice none 0 0) ∧ w = w' := by
  have hq := fun W => Lib.run_eql_slice_nil (P := Try.prog) W 28 3 none 0 0 0 0 Try.underlying28
  go_enter Try.func16, Try.ntmps16
  go_wp2
  go_ret
  exact ⟨rfl, rfl⟩
theorem upto {α : Type} {P Q : α} {k j : Nat} (e : j ≠ k) : (if j < k then P else Q) = (if j < k + 1 then P else Q) := by
  by_cases h : j < k
  · rw [if_pos h, if_pos (by omega)]
  · rw [if_neg h, if_neg (by omega)]
theorem clone_some (x : Addr) (n c : Nat) (f : Nat → Int) (w : World) (hn : n ≤ 1048576) (hx : ∀ j, j < n → w.cell? (x.add j) = some (.int .i64 (f j))) :
    Calls Try.prog 16 #[.slice (some x) n c] w fun e w' => e = .returned (.slice (some ⟨w.heap.size, 0, none⟩) n n) ∧ w'.rowIs w.heap.size 3 n (fun j => .int .i64 (f j)) ∧ Below w.heap.size w w' := by
  have hq := fun W => Lib.run_eql_slice_nil (P := Try.prog) W 28 3 (some x) n c 0 0 Try.underlying28
  have hmk := run_make_row' (P := Try.prog) 28 3 (.int .i64 0) 8 Try.underlying28 Try.info3 rfl .i64 .i64 n (by omega) (by omega)
  have HX := Lib.hid hx
  clear hx
  go_enter Try.func16, Try.ntmps16
  go_wp2_with fail
  clear hq hmk
  go_loopw [4] (fun j wr => ∃ k : Nat, k ≤ n ∧ j = .int .i64 k ∧ wr.rowIs w.heap.size 3 n (fun j => if j < k then .int .i64 (f j) else .int .i64 0) ∧ Below w.heap.size w wr) (fun j _ => n - (intOf j).toNat)
  case atStart => exact ⟨0, Nat.zero_le _, rfl, (World.rowIs_made w _ n 3).congr (fun j _ => by simp), (Below.refl _ _).alloc (Nat.le_refl _) _⟩
  case round =>
    obtain ⟨k, hk, rfl, hrow, hb⟩ := hrel
    by_cases hlt : k < n
    · have hxl : (x.add k).block < w.heap.size := block_lt_of_cell (HX.out k hlt)
      have hc : wr.cell? (x.add k) = some (.int .i64 (f k)) := (hb.cell hxl).trans (HX.out k hlt)
      have hd := hrow.cell hlt
      have hf := hrow.frozen k
      rw [if_neg (by omega)] at hd
      go_wp2_with fail
      go_roundw
      case rel =>
        refine ⟨k + 1, by omega, by go_num, (hrow.set k (.int .i64 (f k))).congr (fun j hj => ?_), hb.setCell (p := ⟨w.heap.size, k, none⟩) (Nat.le_refl _) _⟩
        by_cases e : j = k
        · subst e; simp
        · rw [if_neg e, upto e]
      case measure => simp [intOf]; omega
    · obtain rfl : n = k := by omega
      go_wp2_with fail
      go_ret
      exact ⟨rfl, hrow.congr (fun j hj => by rw [if_pos hj]), hb⟩
theorem clone_any (a : Option Addr) (n c : Nat) (f : Nat → Int) (w : World) (hn : n ≤ 1048576) (h : IntIn w a n c f) :
    Calls Try.prog 16 #[.slice a n c] w fun e w' => Cloned w w' n f e ∧ Below w.heap.size w w' := by
  rcases h with ⟨rfl, rfl, rfl⟩ | ⟨x, rfl, hx⟩
  · refine (clone_nil w).mono ?_
    rintro e w' ⟨rfl, rfl⟩
    exact ⟨Or.inl ⟨rfl, rfl⟩, Below.refl _ _⟩
  · refine (clone_some x n c f w hn hx).mono ?_
    rintro e w' ⟨rfl, h1, h2⟩
    exact ⟨Or.inr ⟨rfl, h1⟩, h2⟩

/-- zzAnyInts. -/
theorem any_ints (a : Option Addr) (n c : Nat) (f : Nat → Int) (w : World) (hn : n ≤ 1048576) (h : IntIn w a n c f) :
    Calls Try.prog 29 #[.slice a n c] w fun e w' => e = .returned (.slice (some ⟨w.heap.size, 0, none⟩) n n) ∧ w'.rowIs w.heap.size 20 n (fun j => .iface 3 (.int .i64 (f j))) ∧ Below w.heap.size w w' := by
  have hmk := run_make_row' (P := Try.prog) 45 20 .nilIface 16 Try.underlying45 Try.info20 rfl .i64 .i64 n (by omega) (by omega)
  have H := Lib.hid h
  clear h
  go_enter Try.func29, Try.ntmps29
  go_wp2_with fail
  clear hmk
  go_loopw [11] (fun j wr => ∃ k : Nat, k ≤ n ∧ j = .int .i64 k ∧ wr.rowIs w.heap.size 20 n (fun j => if j < k then .iface 3 (.int .i64 (f j)) else .nilIface) ∧ Below w.heap.size w wr) (fun j _ => n - (intOf j).toNat)
  case atStart => exact ⟨0, Nat.zero_le _, rfl, (World.rowIs_made w _ n 20).congr (fun j _ => by simp), (Below.refl _ _).alloc (Nat.le_refl _) _⟩
  case round =>
    obtain ⟨k, hk, rfl, hrow, hb⟩ := hrel
    by_cases hlt : k < n
    · rcases H.out with ⟨_, h0, _⟩ | ⟨x, rfl, hx⟩
      · omega
      have hxl : (x.add k).block < w.heap.size := block_lt_of_cell (hx k hlt)
      have hc : wr.cell? (x.add k) = some (.int .i64 (f k)) := (hb.cell hxl).trans (hx k hlt)
      clear hx
      have hd := hrow.cell hlt
      have hf := hrow.frozen k
      rw [if_neg (by omega)] at hd
      go_wp2_with fail
      go_roundw
      case rel =>
        refine ⟨k + 1, by omega, by go_num, (hrow.set k (.iface 3 (.int .i64 (f k)))).congr (fun j hj => ?_), hb.setCell (p := ⟨w.heap.size, k, none⟩) (Nat.le_refl _) _⟩
        by_cases e : j = k
        · subst e; simp
        · rw [if_neg e, upto e]
      case measure => simp [intOf]; omega
    · obtain rfl : n = k := by omega
      go_wp2_with fail
      go_ret
      exact ⟨rfl, hrow.congr (fun j hj => by rw [if_pos hj]), hb⟩

/-- zzIntsOf. -/
theorem ints_of (g n : Nat) (f : Nat → Int) (w : World) (hn : n ≤ 1048576) (hr : w.rowIs g 20 n (fun j => .iface 3 (.int .i64 (f j)))) :
    Calls Try.prog 28 #[.slice (some ⟨g, 0, none⟩) n n] w fun e w' => e = .returned (.slice (some ⟨w.heap.size, 0, none⟩) n n) ∧ w'.rowIs w.heap.size 3 n (fun j => .int .i64 (f j)) ∧ Below w.heap.size w w' := by
  have hq := fun W => Lib.run_eql_slice_nil (P := Try.prog) W 45 20 (some ⟨g, 0, none⟩) n n 0 0 Try.underlying45
  have hmk := run_make_row' (P := Try.prog) 28 3 (.int .i64 0) 8 Try.underlying28 Try.info3 rfl .i64 .i64 n (by omega) (by omega)
  have hgl : g < w.heap.size := hr.lt
  have HR := Lib.hid hr
  clear hr
  go_enter Try.func28, Try.ntmps28
  go_wp2_with fail
  clear hq hmk
  go_loopw [15] (fun j wr => ∃ k : Nat, k ≤ n ∧ j = .int .i64 k ∧ wr.rowIs w.heap.size 3 n (fun j => if j < k then .int .i64 (f j) else .int .i64 0) ∧ Below w.heap.size w wr) (fun j _ => n - (intOf j).toNat)
  case atStart => exact ⟨0, Nat.zero_le _, rfl, (World.rowIs_made w _ n 3).congr (fun j _ => by simp), (Below.refl _ _).alloc (Nat.le_refl _) _⟩
  case round =>
    obtain ⟨k, hk, rfl, hrow, hb⟩ := hrel
    by_cases hlt : k < n
    · have hc : wr.cell? ⟨g, k, none⟩ = some (.iface 3 (.int .i64 (f k))) := (hb.cell (p := ⟨g, k, none⟩) hgl).trans (HR.out.cell hlt)
      have hd := hrow.cell hlt
      have hf := hrow.frozen k
      rw [if_neg (by omega)] at hd
      go_wp2_with fail
      go_roundw
      case rel =>
        refine ⟨k + 1, by omega, by go_num, (hrow.set k (.int .i64 (f k))).congr (fun j hj => ?_), hb.setCell (p := ⟨w.heap.size, k, none⟩) (Nat.le_refl _) _⟩
        by_cases e : j = k
        · subst e; simp
        · rw [if_neg e, upto e]
      case measure => simp [intOf]; omega
    · obtain rfl : n = k := by omega
      go_wp2_with fail
      go_ret
      exact ⟨rfl, hrow.congr (fun j hj => by rw [if_pos hj]), hb⟩

theorem values_arr (v : Value) (w : World) : Calls Try.prog 27 #[.iface 45 v] w fun e w' => e = .returned (.tuple #[v, .bool true]) ∧ w = w' := by
  go_enter Try.func27, Try.ntmps27
  go_wp2
  go_ret2
  exact ⟨rfl, rfl⟩
theorem values_int (v : Value) (w : World) : Calls Try.prog 27 #[.iface 3 v] w fun e w' => e = .returned (.tuple #[.slice none 0 0, .bool false]) ∧ w = w' := by
  go_enter Try.func27, Try.ntmps27
  go_wp2
  go_ret2
  exact ⟨rfl, rfl⟩
theorem values_float (v : Value) (w : World) : Calls Try.prog 27 #[.iface 33 v] w fun e w' => e = .returned (.tuple #[.slice none 0 0, .bool false]) ∧ w = w' := by
  go_enter Try.func27, Try.ntmps27
  go_wp2
  go_ret2
  exact ⟨rfl, rfl⟩
theorem values_str (v : Value) (w : World) : Calls Try.prog 27 #[.iface 9 v] w fun e w' => e = .returned (.tuple #[.slice none 0 0, .bool false]) ∧ w = w' := by
  go_enter Try.func27, Try.ntmps27
  go_wp2
  go_ret2
  exact ⟨rfl, rfl⟩
theorem values_bool (v : Value) (w : World) : Calls Try.prog 27 #[.iface 4 v] w fun e w' => e = .returned (.tuple #[.slice none 0 0, .bool false]) ∧ w = w' := by
  go_enter Try.func27, Try.ntmps27
  go_wp2
  go_ret2
  exact ⟨rfl, rfl⟩
theorem values_null (w : World) : Calls Try.prog 27 #[.nilIface] w fun e w' => e = .returned (.tuple #[.slice none 0 0, .bool false]) ∧ w = w' := by
  go_enter Try.func27, Try.ntmps27
  go_wp2
  go_ret2
  exact ⟨rfl, rfl⟩
theorem zz_int (z : Int) (w : World) : Calls Try.prog 20 #[.int .i64 z] w fun e w' => e = .returned (.tuple #[.bool true, .bool false]) ∧ w = w' := by
  have hq := fun W => Lib.run_eql_slice_nil (P := Try.prog) W 45 20 none 0 0 0 0 Try.underlying45
  go_enter Try.func20, Try.ntmps20
  go_wp2_with fail
  refine (values_int _ w).mono ?_
  rintro e w1 ⟨rfl, rfl⟩
  go_wp2_with fail
  go_ret2
  exact ⟨rfl, rfl⟩
theorem zz_float (z : Nat) (w : World) : Calls Try.prog 21 #[.float .f64 z] w fun e w' => e = .returned (.tuple #[.bool true, .bool false]) ∧ w = w' := by
  have hq := fun W => Lib.run_eql_slice_nil (P := Try.prog) W 45 20 none 0 0 0 0 Try.underlying45
  go_enter Try.func21, Try.ntmps21
  go_wp2_with fail
  refine (values_float _ w).mono ?_
  rintro e w1 ⟨rfl, rfl⟩
  go_wp2_with fail
  go_ret2
  exact ⟨rfl, rfl⟩
theorem zz_str (z : ByteArray) (w : World) : Calls Try.prog 22 #[.string z] w fun e w' => e = .returned (.tuple #[.bool true, .bool false]) ∧ w = w' := by
  have hq := fun W => Lib.run_eql_slice_nil (P := Try.prog) W 45 20 none 0 0 0 0 Try.underlying45
  go_enter Try.func22, Try.ntmps22
  go_wp2_with fail
  refine (values_str _ w).mono ?_
  rintro e w1 ⟨rfl, rfl⟩
  go_wp2_with fail
  go_ret2
  exact ⟨rfl, rfl⟩
theorem zz_bool (z : Bool) (w : World) : Calls Try.prog 23 #[.bool z] w fun e w' => e = .returned (.tuple #[.bool true, .bool false]) ∧ w = w' := by
  have hq := fun W => Lib.run_eql_slice_nil (P := Try.prog) W 45 20 none 0 0 0 0 Try.underlying45
  go_enter Try.func23, Try.ntmps23
  go_wp2_with fail
  refine (values_bool _ w).mono ?_
  rintro e w1 ⟨rfl, rfl⟩
  go_wp2_with fail
  go_ret2
  exact ⟨rfl, rfl⟩
theorem zz_null (w : World) : Calls Try.prog 24 #[] w fun e w' => e = .returned (.tuple #[.bool true, .bool false]) ∧ w = w' := by
  have hq := fun W => Lib.run_eql_slice_nil (P := Try.prog) W 45 20 none 0 0 0 0 Try.underlying45
  go_enter Try.func24, Try.ntmps24
  go_wp2_with fail
  refine (values_null w).mono ?_
  rintro e w1 ⟨rfl, rfl⟩
  go_wp2_with fail
  go_ret2
  exact ⟨rfl, rfl⟩
/-- ZZvaluesOfArray. -/
def ArrPost (w w' : World) (n : Nat) (f : Nat → Int) (e : Ending) : Prop :=
  ∃ g, w.heap.size ≤ g ∧ e = .returned (.tuple #[.slice (some ⟨g, 0, none⟩) n n, .bool true]) ∧ w'.rowIs g 3 n (fun j => .int .i64 (f j))
theorem zz_arr (a : Option Addr) (n c : Nat) (f : Nat → Int) (w : World) (hn : n ≤ 1048576) (h : IntIn w a n c f) :
    Calls Try.prog 19 #[.slice a n c] w fun e w' => ArrPost w w' n f e ∧ Below w.heap.size w w' := by
  have HA := Lib.hid (any_ints a n c f w hn h)
  clear h
  go_enter Try.func19, Try.ntmps19
  go_wp2_with fail
  refine HA.out.mono ?_
  rintro e w1 ⟨rfl, hr1, hb1⟩
  have HI := Lib.hid (ints_of w.heap.size n f w1 hn hr1)
  clear hr1 HA
  go_wp2_with fail
  refine (values_arr _ w1).mono ?_
  rintro e w2 ⟨rfl, rfl⟩
  go_wp2_with fail
  refine HI.out.mono ?_
  rintro e w2 ⟨rfl, hr2, hb2⟩
  go_wp2_with fail
  go_ret2
  exact ⟨⟨w1.heap.size, hb1.size, rfl, hr2⟩, hb1.trans (hb2.mono hb1.size)⟩
end Go.Proofs.Ytdigmjmghijkeaa
