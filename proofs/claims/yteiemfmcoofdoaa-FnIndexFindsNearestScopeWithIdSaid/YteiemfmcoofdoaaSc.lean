/- The scopes' law: its helpers zzCloneInts and zzLastWithId. Conditions: at most 4096 ints. -/
import Derived.Test.YteiemfmcoofdoaaInts
import Derived.Laws.CopyOwn
import Derived.OwnWalk
import Derived.Lib.SliceRun
set_option linter.unusedVariables false
namespace Go.Proofs.Yteiemfmcoofdoaa
open Go.RowKit

theorem clone_nil (w : World) : Calls Try.prog 15 #[.slice none 0 0] w fun e w' => e = .returned (.slice none 0 0) ∧ w = w' := by
  have hq := fun W => Lib.run_eql_slice_nil (P := Try.prog) W 27 3 none 0 0 0 0 Try.underlying27
  go_enter Try.func15, Try.ntmps15
  go_wp2
  go_ret
  exact ⟨rfl, rfl⟩
theorem clone_some (x : Addr) (n c : Nat) (f : Nat → Int) (w : World) (hn : n ≤ 1048576) (hx : ∀ j, j < n → w.cell? (x.add j) = some (.int .i64 (f j))) :
    Calls Try.prog 15 #[.slice (some x) n c] w fun e w' => e = .returned (.slice (some ⟨w.heap.size, 0, none⟩) n n) ∧ w'.rowIs w.heap.size 3 n (fun j => .int .i64 (f j)) ∧ Below w.heap.size w w' := by
  have hq := fun W => Lib.run_eql_slice_nil (P := Try.prog) W 27 3 (some x) n c 0 0 Try.underlying27
  have hmk := run_make_row' (P := Try.prog) 27 3 (.int .i64 0) 8 Try.underlying27 Try.info3 rfl .i64 .i64 n (by omega) (by omega)
  have HX := Lib.hid hx
  clear hx
  have hL : ((List.range n).map (fun j => Value.int .i64 (f j))).length = n := by simp
  have HL := Lib.hid hL
  clear hL
  have HMS := Lib.hid (show (madeCells #[.int .i64 0] n).size = n by simp [madeCells])
  go_enter Try.func15, Try.ntmps15
  go_wp2_with (refine wpList_copy_own rfl (.tmp 9) (.tmp 10) 27 27 rfl 3 Try.underlying27 (by kernel_rfl) w.heap.size 0 n n x n c (by simp [Act.eval]) (by simp [Act.eval]) (madeCells #[.int .i64 0] n) 3 (heap_alloc_new w _) ((List.range n).map (fun j => Value.int .i64 (f j))) ?c1 ?c2 ?c3 ?c4 ?_)
  case c1 => rw [HL.out]; exact (Nat.min_self n).symm
  case c2 =>
    intro j v hj
    rw [List.getElem?_map] at hj
    obtain ⟨k, hk, rfl⟩ := Option.map_eq_some_iff.1 hj
    obtain ⟨hlt, e⟩ := List.getElem?_eq_some_iff.1 hk
    simp at e hlt
    subst e
    have h := HX.out _ hlt
    rw [← h]
    exact ((Below.refl w.heap.size w).alloc (Nat.le_refl _) _).cell (block_lt_of_cell h)
  case c3 => rw [HL.out, HMS.out]; omega
  case c4 => intro v hv; obtain ⟨_, _, rfl⟩ := List.mem_map.1 hv; rfl
  have E := Lib.hid (show (madeCells #[.int .i64 0] n).toList.drop n = [] by
    apply List.drop_eq_nil_of_le
    have := HMS.out
    simpa using Nat.le_of_eq this)
  rw [E.out, List.append_nil]
  go_ret
  refine ⟨rfl, ⟨_, setRow_heap _ _ _ _ 3 _ (heap_alloc_new w _), by simp, fun j hj => by simp [hj]⟩, below_setRow ((Below.refl w.heap.size w).alloc (Nat.le_refl _) _) (Nat.le_refl _) _⟩
/-- The clone, nil or not. -/
def Cloned (w w' : World) (n : Nat) (f : Nat → Int) (e : Ending) : Prop :=
  (n = 0 ∧ ∃ a, e = .returned (.slice a 0 0)) ∨ (e = .returned (.slice (some ⟨w.heap.size, 0, none⟩) n n) ∧ w'.rowIs w.heap.size 3 n (fun j => .int .i64 (f j)))
theorem clone_any (a : Option Addr) (n c : Nat) (f : Nat → Int) (w : World) (hn : n ≤ 1048576) (h : (a = none ∧ n = 0 ∧ c = 0) ∨ ∃ x, a = some x ∧ ∀ j, j < n → w.cell? (x.add j) = some (.int .i64 (f j))) :
    Calls Try.prog 15 #[.slice a n c] w fun e w' => Cloned w w' n f e ∧ Below w.heap.size w w' := by
  rcases h with ⟨rfl, rfl, rfl⟩ | ⟨x, rfl, hx⟩
  · refine (clone_nil w).mono ?_
    rintro e w' ⟨rfl, rfl⟩
    exact ⟨Or.inl ⟨rfl, _, rfl⟩, Below.refl _ _⟩
  · refine (clone_some x n c f w hn hx).mono ?_
    rintro e w' ⟨rfl, h1, h2⟩
    exact ⟨Or.inr ⟨rfl, h1⟩, h2⟩

/-- r is the last j below h with f (2 j) = x, or -1. -/
def LastIs (f : Nat → Int) (x : Int) (h : Nat) (r : Int) : Prop :=
  (r = -1 ∧ ∀ m, m < h → f (2 * m) ≠ x) ∨ ∃ k : Nat, k < h ∧ r = k ∧ f (2 * k) = x ∧ ∀ m, k < m → m < h → f (2 * m) ≠ x
theorem LastIs.bd {f : Nat → Int} {x : Int} {h : Nat} {r : Int} (H : LastIs f x h r) : -1 ≤ r ∧ r < h := by
  rcases H with ⟨rfl, _⟩ | ⟨k, hk, rfl, _⟩ <;> omega
theorem LastIs.hit {f : Nat → Int} {x : Int} {h : Nat} (hx : f (2 * h) = x) : LastIs f x (h + 1) h := Or.inr ⟨h, by omega, rfl, hx, fun m h1 h2 => by omega⟩
theorem LastIs.miss {f : Nat → Int} {x : Int} {h : Nat} {r : Int} (H : LastIs f x h r) (hx : f (2 * h) ≠ x) : LastIs f x (h + 1) r := by
  rcases H with ⟨rfl, h1⟩ | ⟨k, hk, rfl, h1, h2⟩
  · refine Or.inl ⟨rfl, fun m hm => ?_⟩
    by_cases e : m = h
    · subst e; exact hx
    · exact h1 m (by omega)
  · refine Or.inr ⟨k, by omega, rfl, h1, fun m h3 h4 => ?_⟩
    by_cases e : m = h
    · subst e; exact hx
    · exact h2 m h3 (by omega)

def lastPost (f : Nat → Int) (x : Int) (h : Nat) (e : Ending) : Prop := ∃ r, e = .returned (.int .i64 r) ∧ LastIs f x h r
set_option maxRecDepth 100000 in
theorem last_row (g n : Nat) (f : Nat → Int) (x : Int) (w : World) (hn : n ≤ 4096) (hr : w.rowIs g 3 n (fun j => .int .i64 (f j))) :
    Calls Try.prog 16 #[.slice (some ⟨g, 0, none⟩) n n, .int .i64 x] w fun e w' => lastPost f x (n / 2) e ∧ w = w' := by
  have HR := Lib.hid hr
  clear hr
  generalize hh : n / 2 = h
  have hh2 : 2 * h ≤ n := by omega
  have hq : ((n : Int).tdiv 2) = (h : Int) := by subst hh; rfl
  clear hh
  go_enter Try.func16, Try.ntmps16
  go_wp2_with fail
  clear hq
  go_loopw [6, 7] (fun r j wr => ∃ (k : Nat) (q : Int), k ≤ h ∧ j = .int .i64 k ∧ r = .int .i64 q ∧ Hid (LastIs f x k q) ∧ w = wr) (fun _ j _ => h - (intOf j).toNat)
  case atStart => exact ⟨0, -1, Nat.zero_le _, rfl, rfl, Or.inl ⟨rfl, fun m hm => by omega⟩, rfl⟩
  case round =>
    obtain ⟨k, q, hk, rfl, rfl, hL, rfl⟩ := hrel
    by_cases hlt : k < h
    · have hc : w.cell? ⟨g, 2 * k, none⟩ = some (.int .i64 (f (2 * k))) := HR.out.cell (by omega)
      have hb : 2 * (k : Int) < n := by omega
      have hb0 : 0 ≤ 2 * (k : Int) := by omega
      have ht : (2 * (k : Int)).toNat = 2 * k := by omega
      by_cases e : f (2 * k) = x
      · have HE := Lib.hid e
        rw [e] at hc
        clear e
        go_wp2_with fail
        go_roundw
        case rel => exact ⟨k + 1, k, by omega, by go_num, rfl, LastIs.hit HE.out, trivial⟩
        case measure => simp [intOf]; omega
      · go_wp2_with fail
        go_roundw
        case rel => exact ⟨k + 1, q, by omega, by go_num, rfl, LastIs.miss hL e, trivial⟩
        case measure => simp [intOf]; omega
    · obtain rfl : h = k := by omega
      go_wp2_with fail
      go_ret
      exact ⟨⟨q, rfl, hL⟩, rfl⟩
end Go.Proofs.Yteiemfmcoofdoaa
