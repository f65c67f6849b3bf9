/- FnReverseInvolution: the guard, funcReverse, ZZReverseStrings. Conditions: at most 2^20 strings. -/
import Derived.Test.YtmifbojmkgibiaaRows
import Derived.WalkKit
import Derived.WalkLawsBesides
import Derived.WalkSpells
import Derived.Handy
import Derived.Outline
import Derived.Below
import Derived.Lib.Hide
import Derived.Deep.OwnRows
import Derived.Deep.QuietTactic
import Derived.BigQuiet
import Derived.Laws.CopyOwn
import Derived.OwnWalk
set_option linter.unusedVariables false
namespace Go.Proofs.Ytmifbojmkgibiaa
open Go.RowKit

theorem Try.info9 : (Try.prog.info? 9).map (fun i => (i.zero, i.size, i.bytes)) = some (some (.string ByteArray.empty), 1, 16) := by kernel_rfl
theorem Try.info20 : (Try.prog.info? 20).map (fun i => (i.zero, i.size, i.bytes)) = some (some .nilIface, 1, 16) := by kernel_rfl
@[go_sem] theorem as9_9r (v : Value) (w : World) : (Instr.typeAssert (.iface 9 v) 20 9 true).run Try.prog w = .ok (.tuple #[v, .bool true]) w := by kernel_rfl
@[go_sem] theorem as62_62r (v : Value) (w : World) : (Instr.typeAssert (.iface 62 v) 20 62 true).run Try.prog w = .ok (.tuple #[v, .bool true]) w := by kernel_rfl

/-- The lengths of the first k strings, summed. -/
def tot (ss : Nat → ByteArray) : Nat → Nat
  | 0 => 0
  | k + 1 => tot ss k + (ss k).size
theorem tot_mono (ss : Nat → ByteArray) (k d : Nat) : tot ss k ≤ tot ss (k + d) := by
  induction d with
  | zero => exact Nat.le_refl _
  | succ d ih => exact Nat.le_trans ih (Nat.le_add_right _ _)
theorem tot_le (ss : Nat → ByteArray) {k n : Nat} (h : k ≤ n) : tot ss k ≤ tot ss n := by
  obtain ⟨d, rfl⟩ := Nat.exists_eq_add_of_le h
  exact tot_mono ss k d
theorem tot_at (ss : Nat → ByteArray) {k n : Nat} (h : k < n) : tot ss k + (ss k).size ≤ tot ss n := tot_le ss (k := k + 1) h

/-- A slice of strings that came in. -/
def StrIn (w : World) (a : Option Addr) (n c : Nat) (ss : Nat → ByteArray) : Prop :=
  (a = none ∧ n = 0 ∧ c = 0) ∨ ∃ x, a = some x ∧ ∀ i, i < n → w.cell? (x.add i) = some (.string (ss i))
/-- A Bool comes back; if it is true, P holds. -/
def BoolIf (P : Prop) (e : Ending) : Prop := ∃ r : Bool, e = .returned (.bool r) ∧ (r = true → P)
theorem BoolIf.no {P : Prop} {e : Ending} (h : e = .returned (.bool false)) : BoolIf P e := ⟨false, h, fun h => by cases h⟩
theorem BoolIf.yes {P : Prop} {e : Ending} (h : e = .returned (.bool true)) (hP : P) : BoolIf P e := ⟨true, h, fun _ => hP⟩
/-- zzBytes: true tells that all is short. -/
theorem zzb36 (a : Option Addr) (n c : Nat) (ss : Nat → ByteArray) (w : World) (hn : n ≤ 9223372036854775807) (hz : ∀ i, i < n → (ss i).size ≤ 9223372036854775807) (h : StrIn w a n c ss) :
    Calls Try.prog 36 #[.slice a n c] w fun e w' => BoolIf (n + tot ss n ≤ 1048576) e ∧ w = w' := by
  have HZ := Lib.hid hz
  clear hz
  by_cases hl : n ≤ 1048576
  · go_enter Try.func36, Try.ntmps36
    go_wp2
    go_loop [3, 4] (fun z i => ∃ k : Nat, k ≤ n ∧ i = .int .i64 k ∧ z = .int .i64 ((n + tot ss k : Nat) : Int) ∧ n + tot ss k ≤ 1048576) (fun _ i => n - (intOf i).toNat)
    case atStart => exact ⟨0, Nat.zero_le _, rfl, rfl, hl⟩
    case round =>
      obtain ⟨k, hk, rfl, rfl, hb⟩ := hrel
      by_cases hlt : k < n
      · rcases h with ⟨_, h0, _⟩ | ⟨x, rfl, hx⟩
        · omega
        have hc := hx k hlt
        have hs := HZ.out k hlt
        have HX := Lib.hid hx
        clear hx
        have et : tot ss (k + 1) = tot ss k + (ss k).size := rfl
        have ET := Lib.hid et
        clear et
        generalize ss k = s at hc hs ET
        go_wp2
        · go_ret
          exact ⟨BoolIf.no rfl, rfl⟩
        · go_ret
          exact ⟨BoolIf.no rfl, rfl⟩
        · go_round
          case rel => exact ⟨k + 1, by omega, by go_num, by rw [ET.out]; go_num, by rw [ET.out]; omega⟩
          case measure => simp [intOf]; omega
      · obtain rfl : k = n := by omega
        have HB := Lib.hid hb
        clear hb
        go_wp2
        go_ret
        exact ⟨BoolIf.yes rfl HB.out, rfl⟩
  · go_enter Try.func36, Try.ntmps36
    go_wp2
    go_ret
    exact ⟨BoolIf.no rfl, rfl⟩

set_option maxRecDepth 100000 in
theorem reverse_any (g n : Nat) (s : Nat → ByteArray) (w : World) (hn : n ≤ 1048576) (hr : w.rowIs g 20 n (fun j => .iface 9 (.string (s j)))) :
    Calls Try.prog 43 #[.iface 62 (.slice (some ⟨g, 0, none⟩) n n)] w fun e w' => e = .returned (.iface 62 (.slice (some ⟨w.heap.size, 0, none⟩) n n)) ∧ w'.rowIs w.heap.size 20 n (fun j => .iface 9 (.string (s (n - 1 - j)))) ∧ Below w.heap.size w w' := by
  have hmk := run_make_row' (P := Try.prog) 62 20 .nilIface 16 Try.underlying62 Try.info20 rfl .i64 .i64 n (by omega) (by omega)
  have hgl : g < w.heap.size := hr.lt
  have HR := Lib.hid hr
  clear hr
  go_enter Try.func43, Try.ntmps43
  go_wp2_with fail
  go_loopw [24] (fun j wr => ∃ k : Nat, k ≤ n ∧ j = .int .i64 k ∧ wr.rowIs w.heap.size 20 n (fun j => if n - 1 - j < k then .iface 9 (.string (s (n - 1 - j))) else .nilIface) ∧ Below w.heap.size w wr) (fun j _ => n - (intOf j).toNat)
  case atStart => exact ⟨0, Nat.zero_le _, rfl, (World.rowIs_made w _ n 20).congr (fun j _ => by simp), (Below.refl _ _).alloc (Nat.le_refl _) _⟩
  case round =>
    clear hmk
    obtain ⟨k, hk, rfl, hrow, hb⟩ := hrel
    by_cases hlt : k < n
    · have hc : wr.cell? ⟨g, k, none⟩ = some (.iface 9 (.string (s k))) := (hb.cell (p := ⟨g, k, none⟩) hgl).trans (HR.out.cell hlt)
      have hd := hrow.cell (i := n - 1 - k) (by omega)
      rw [if_neg (by omega)] at hd
      have hf := hrow.frozen (n - 1 - k)
      have h1 : (n : Int) - k - 1 < n := by omega
      have h0 : 0 ≤ (n : Int) - k - 1 := by omega
      have ht : ((n : Int) - k - 1).toNat = n - 1 - k := by omega
      go_wp2_with fail
      go_roundw
      case rel =>
        refine ⟨k + 1, by omega, by go_num, (hrow.set (n - 1 - k) (.iface 9 (.string (s k)))).congr (fun j hj => ?_), hb.setCell (p := ⟨w.heap.size, n - 1 - k, none⟩) (Nat.le_refl _) _⟩
        by_cases e : j = n - 1 - k
        · subst e
          have e1 : n - 1 - (n - 1 - k) = k := by omega
          simp [e1]
        · rw [if_neg e]
          by_cases e2 : n - 1 - j < k
          · rw [if_pos e2, if_pos (by omega)]
          · rw [if_neg e2, if_neg (by omega)]
      case measure => simp [intOf]; omega
    · obtain rfl : n = k := by omega
      go_wp2_with fail
      go_ret
      refine ⟨rfl, hrow.congr (fun j hj => ?_), hb⟩
      rw [if_pos (by omega)]

/-- What ZZReverseStrings answers. -/
def RevPost (w : World) (n : Nat) (s : Nat → ByteArray) (e : Ending) (w' : World) : Prop :=
  ∃ g, w.heap.size ≤ g ∧ e = .returned (.tuple #[.slice (some ⟨g, 0, none⟩) n n, .bool true]) ∧ w'.rowIs g 9 n (fun j => .string (s (n - 1 - j)))
set_option maxRecDepth 100000 in
theorem zzreverse (a : Option Addr) (n c : Nat) (s : Nat → ByteArray) (w : World) (hn : n ≤ 1048576) (h : StrIn w a n c s) :
    Calls Try.prog 37 #[.slice a n c] w fun e w' => RevPost w n s e w' ∧ Below w.heap.size w w' := by
  have hmk := run_make_row' (P := Try.prog) 62 20 .nilIface 16 Try.underlying62 Try.info20 rfl .i64 .i64 n (by omega) (by omega)
  have hmk9 := run_make_row' (P := Try.prog) 50 9 (.string ByteArray.empty) 16 Try.underlying50 Try.info9 rfl .i64 .i64 n (by omega) (by omega)
  have H := Lib.hid h
  have HMK9 := Lib.hid hmk9
  clear h hmk9
  go_enter Try.func37, Try.ntmps37
  go_wp2_with fail
  go_loopw [19] (fun j wr => ∃ k : Nat, k ≤ n ∧ j = .int .i64 k ∧ wr.rowIs w.heap.size 20 n (fun j => if j < k then .iface 9 (.string (s j)) else .nilIface) ∧ Below w.heap.size w wr) (fun j _ => n - (intOf j).toNat)
  case atStart => exact ⟨0, Nat.zero_le _, rfl, (World.rowIs_made w _ n 20).congr (fun j _ => by simp), (Below.refl _ _).alloc (Nat.le_refl _) _⟩
  case round =>
    clear hmk
    obtain ⟨k, hk, rfl, hrow, hb⟩ := hrel
    by_cases hlt : k < n
    · rcases H.out with ⟨_, h0, _⟩ | ⟨x, rfl, hx⟩
      · omega
      have hxl : (x.add k).block < w.heap.size := block_lt_of_cell (hx k hlt)
      have hc : wr.cell? (x.add k) = some (.string (s k)) := (hb.cell hxl).trans (hx k hlt)
      clear hx
      have hd := hrow.cell hlt
      have hf := hrow.frozen k
      rw [if_neg (by omega)] at hd
      go_wp2_with fail
      go_roundw
      case rel =>
        refine ⟨k + 1, by omega, by go_num, (hrow.set k _).congr (fun j hj => ?_), hb.setCell (p := ⟨w.heap.size, k, none⟩) (Nat.le_refl _) _⟩
        by_cases e : j = k
        · subst e; simp
        · rw [if_neg e]
          by_cases e2 : j < k
          · rw [if_pos e2, if_pos (by omega)]
          · rw [if_neg e2, if_neg (by omega)]
      case measure => simp [intOf]; omega
    · obtain rfl : n = k := by omega
      have hr : wr.rowIs w.heap.size 20 n (fun j => .iface 9 (.string (s j))) := hrow.congr (fun j hj => by rw [if_pos hj])
      clear hrow
      have HRV := Lib.hid (reverse_any w.heap.size n s wr hn hr)
      have HWL := Lib.hid (show w.heap.size < wr.heap.size from hr.lt)
      clear hr
      go_wp2_with fail
      refine HRV.out.mono ?_
      rintro e w1 ⟨rfl, hr1, hb1⟩
      have HR1 := Lib.hid hr1
      have hl1 : wr.heap.size < w1.heap.size := hr1.lt
      have BW : Below w.heap.size w w1 := hb.trans (hb1.mono (by have := HWL.out; omega))
      clear hr1 HRV hb1 HWL hb
      generalize wr.heap.size = G at HR1 hl1 ⊢
      have hmk9 := HMK9.out
      go_wp2_with fail
      clear hmk9
      go_loopw [44] (fun j w2 => ∃ k : Nat, k ≤ n ∧ j = .int .i64 k ∧ w2.rowIs w1.heap.size 9 n (fun j => if j < k then .string (s (n - 1 - j)) else .string ByteArray.empty) ∧ Below w1.heap.size w1 w2) (fun j _ => n - (intOf j).toNat)
      case atStart => exact ⟨0, Nat.zero_le _, rfl, (World.rowIs_made w1 _ n 9).congr (fun j _ => by simp), (Below.refl _ _).alloc (Nat.le_refl _) _⟩
      case round =>
        obtain ⟨k, hk, rfl, hrow, hb2⟩ := hrel
        by_cases hlt : k < n
        · have hc : wr.cell? ⟨G, k, none⟩ = some (.iface 9 (.string (s (n - 1 - k)))) := (hb2.cell (p := ⟨G, k, none⟩) hl1).trans (HR1.out.cell hlt)
          have hd := hrow.cell hlt
          have hf := hrow.frozen k
          rw [if_neg (by omega)] at hd
          go_wp2_with fail
          go_roundw
          case rel =>
            refine ⟨k + 1, by omega, by go_num, (hrow.set k (.string (s (n - 1 - k)))).congr (fun j hj => ?_), hb2.setCell (p := ⟨w1.heap.size, k, none⟩) (Nat.le_refl _) _⟩
            by_cases e : j = k
            · subst e; simp
            · rw [if_neg e]
              by_cases e2 : j < k
              · rw [if_pos e2, if_pos (by omega)]
              · rw [if_neg e2, if_neg (by omega)]
          case measure => simp [intOf]; omega
        · obtain rfl : n = k := by omega
          go_wp2_with fail
          go_ret2
          exact ⟨⟨w1.heap.size, BW.size, rfl, hrow.congr (fun j hj => by rw [if_pos hj])⟩, BW.trans (hb2.mono BW.size)⟩

set_option maxRecDepth 100000 in
/-- From the copy on: the slice is a row of the call's own, or empty. -/
theorem clone_str (x : Addr) (n c : Nat) (s : Nat → ByteArray) (w : World) (hx : ∀ j, j < n → w.cell? (x.add j) = some (.string (s j))) (w0 : World) (hw0 : w0 = w.alloc (.cells (madeCells #[.string ByteArray.empty] n) 9)) :
    ∃ w1, (Builtin.copy_ #[50, 50] 3 #[.slice (some ⟨w.heap.size, 0, none⟩) n n, .slice (some x) n c]).run Try.prog w0 = .ok (.int .i64 n) w1 ∧ w1.rowIs w.heap.size 9 n (fun j => .string (s j)) ∧ Below w.heap.size w w1 := by
  subst hw0
  have hL : ((List.range n).map (fun j => Value.string (s j))).length = n := by simp
  have hms : (madeCells #[.string ByteArray.empty] n).size = n := by simp [madeCells]
  have hrun := run_copy_row (P := Try.prog) (w.alloc (.cells (madeCells #[.string ByteArray.empty] n) 9)) 50 50 3 9 w.heap.size 0 n n x n c (madeCells #[.string ByteArray.empty] n) 9 ((List.range n).map (fun j => Value.string (s j))) Try.underlying50 (by kernel_rfl) (heap_alloc_new w _) (by rw [hL]; exact (Nat.min_self n).symm) (fun j v hj => by
    rw [List.getElem?_map] at hj
    obtain ⟨k, hk, rfl⟩ := Option.map_eq_some_iff.1 hj
    obtain ⟨hlt, e⟩ := List.getElem?_eq_some_iff.1 hk
    simp at e hlt
    subst e
    have h := hx _ hlt
    rw [← h]
    exact ((Below.refl w.heap.size w).alloc (Nat.le_refl _) _).cell (block_lt_of_cell h)) (by rw [hL, hms]; omega) (fun v hv => by obtain ⟨_, _, rfl⟩ := List.mem_map.1 hv; rfl)
  rw [hL] at hrun
  refine ⟨_, hrun, ⟨_, setRow_heap _ _ _ _ 9 _ (heap_alloc_new w _), ?_, fun j hj => ?_⟩, below_setRow ((Below.refl w.heap.size w).alloc (Nat.le_refl _) _) (Nat.le_refl _) _⟩
  · simp [hms]
  · simp [hj, List.getElem?_append]
end Go.Proofs.Ytmifbojmkgibiaa
