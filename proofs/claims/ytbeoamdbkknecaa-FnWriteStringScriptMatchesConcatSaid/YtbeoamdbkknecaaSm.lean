/- The small helpers of the laws over the limited writer: comparing bytes, copying bytes, the guards. Conditions: as stated. -/
import Derived.Test.YtbeoamdbkknecaaLw
set_option linter.unusedVariables false
namespace Go.Proofs.Ytbeoamdbkknecaa
open Go.RowKit

/-- zzb2SameAsString of bytes that are the string's. -/
theorem same (w : World) (g N cap : Nat) (h : Nat → Int) (s : ByteArray) (hr : w.rowIs g 5 N (fun i => .int .u8 (h i))) (hs : s.size ≤ N) (hN : N ≤ 65536) (he : ∀ i, i < s.size → h i = PlainAid.bt s i) :
    Calls Try.prog 22 #[.slice (some ⟨g, 0, none⟩) s.size cap, .string s] w fun e w' => e = .returned (.bool true) ∧ Qt w w' := by
  have HE := Lib.hid he
  clear he
  have hbt := PlainAid.get_bt s
  go_enter Try.func22, Try.ntmps22
  go_wp2
  go_loopw [5] (fun i wr => ∃ k q : Nat, k ≤ s.size ∧ i = .int .i64 k ∧ wr = w.drewN q) (fun i _ => s.size - (intOf i).toNat)
  case atStart => exact ⟨0, 0, Nat.zero_le _, rfl, rfl⟩
  case round =>
    obtain ⟨k, q, hk, rfl, rfl⟩ := hrel
    by_cases hlt : k < s.size
    · have hc := hr.cell (i := k) (by omega)
      rw [HE.out k hlt] at hc
      have i0 : (0 : Int) ≤ (k : Int) := by omega
      have i1 : (k : Int) < (s.size : Int) := by omega
      go_wp2
      go_quiet (fail)
      go_wp2
      go_roundw
      case rel => exact ⟨k + 1, _, by omega, by go_num, rfl⟩
      case measure => simp [intOf]; omega
    · go_wp2
      go_ret
      exact ⟨rfl, qt _ _⟩

theorem copy_nil (w : World) : Calls Try.prog 15 #[.slice none 0 0] w fun e w' => e = .returned (.slice none 0 0) ∧ w = w' := by
  have hq := fun W => Lib.run_eql_slice_nil (P := Try.prog) W 30 5 none 0 0 0 0 Try.underlying30
  go_enter Try.func15, Try.ntmps15
  go_wp2
  go_ret
  exact ⟨rfl, rfl⟩
theorem copy_some (x : Addr) (n c : Nat) (f : Nat → Int) (w : World) (hn : n ≤ 1048576) (hx : ∀ i, i < n → w.cell? (x.add i) = some (.int .u8 (f i))) :
    Calls Try.prog 15 #[.slice (some x) n c] w fun e w' => e = .returned (.slice (some ⟨w.heap.size, 0, none⟩) n n) ∧ w'.rowIs w.heap.size 5 n (fun i => .int .u8 (f i)) ∧ Below w.heap.size w w' := by
  have hq := fun W => Lib.run_eql_slice_nil (P := Try.prog) W 30 5 (some x) n c 0 0 Try.underlying30
  have hmk := run_make_row' (P := Try.prog) 30 5 (.int .u8 0) 1 Try.underlying30 Try.info5 rfl .i64 .i64 n (by omega) (by omega)
  have HX := Lib.hid hx
  clear hx
  go_enter Try.func15, Try.ntmps15
  go_wp2
  go_loopw [4] (fun i wr => ∃ k : Nat, k ≤ n ∧ i = .int .i64 k ∧ wr.rowIs w.heap.size 5 n (fun j => .int .u8 (if j < k then f j else 0)) ∧ Below w.heap.size w wr) (fun i _ => n - (intOf i).toNat)
  case atStart => exact ⟨0, Nat.zero_le _, rfl, (World.rowIs_made w _ n 5).congr (fun j _ => by simp), (Below.refl _ _).alloc (Nat.le_refl _) _⟩
  case round =>
    obtain ⟨k, hk, rfl, hrow, hb⟩ := hrel
    by_cases hlt : k < n
    · have hxl : (x.add k).block < w.heap.size := block_lt_of_cell (HX.out k hlt)
      have hc : wr.cell? (x.add k) = some (.int .u8 (f k)) := (hb.cell hxl).trans (HX.out k hlt)
      have hd := hrow.cell hlt
      have hf := hrow.frozen k
      go_wp2
      go_roundw
      case rel =>
        refine ⟨k + 1, by omega, by go_num, (hrow.set k (.int .u8 (f k))).congr (fun j hj => ?_), hb.setCell (p := ⟨w.heap.size, k, none⟩) (Nat.le_refl _) _⟩
        by_cases e : j = k
        · subst e; simp
        · rw [if_neg e]; congr 1; by_cases e2 : j < k
          · rw [if_pos e2, if_pos (by omega)]
          · rw [if_neg e2, if_neg (by omega)]
      case measure => simp [intOf]; omega
    · obtain rfl : k = n := by omega
      go_wp2
      go_ret
      exact ⟨rfl, hrow.congr (fun j hj => by rw [if_pos hj]), hb⟩

/-- Bytes that can be read at a slice: nothing, or a row of the call's own from block B on. -/
def BRow (w : World) (B : Nat) (a : Option Addr) (n : Nat) (f : Nat → Int) : Prop :=
  n = 0 ∨ ∃ g, B ≤ g ∧ a = some ⟨g, 0, none⟩ ∧ w.rowIs g 5 n (fun i => .int .u8 (f i))
def RowIn (w : World) (a : Option Addr) (n c : Nat) (f : Nat → Int) : Prop :=
  (a = none ∧ n = 0 ∧ c = 0) ∨ ∃ x, a = some x ∧ ∀ i, i < n → w.cell? (x.add i) = some (.int .u8 (f i))
theorem copy_any (a : Option Addr) (n c : Nat) (f : Nat → Int) (w w0 : World) (hn : n ≤ 1048576) (h : RowIn w0 a n c f) (hb : Below w0.heap.size w0 w) :
    Calls Try.prog 15 #[.slice a n c] w fun e w' => ∃ a' c', e = .returned (.slice a' n c') ∧ BRow w' w.heap.size a' n f ∧ Below w.heap.size w w' := by
  rcases h with ⟨rfl, rfl, rfl⟩ | ⟨x, rfl, hx⟩
  · refine (copy_nil w).mono ?_
    rintro e w' ⟨rfl, rfl⟩
    exact ⟨none, 0, rfl, Or.inl rfl, Below.refl _ _⟩
  · refine (copy_some x n c f w hn (fun i hi => (hb.cell (block_lt_of_cell (hx i hi))).trans (hx i hi))).mono ?_
    rintro e w' ⟨rfl, hr, hb⟩
    exact ⟨_, _, rfl, Or.inr ⟨_, Nat.le_refl _, rfl, hr⟩, hb⟩
theorem BRow.below {w w' : World} {B n : Nat} {a : Option Addr} {f : Nat → Int} (h : BRow w B a n f) (hb : Below w.heap.size w w') : BRow w' B a n f := by
  rcases h with h | ⟨g, h1, h2, hr⟩
  · exact Or.inl h
  · exact Or.inr ⟨g, h1, h2, hr.of_block (hb.block g hr.lt)⟩
theorem BRow.only {w w' : World} {B n b g : Nat} {a : Option Addr} {f : Nat → Int} (h : BRow w B a n f) (hO : Only b g w w') (hne : ∀ k, a = some ⟨k, 0, none⟩ → k ≠ b ∧ k ≠ g) : BRow w' B a n f := by
  rcases h with h | ⟨k, h1, h2, hr⟩
  · exact Or.inl h
  · exact Or.inr ⟨k, h1, h2, hr.of_block (hO.block k hr.lt (hne k h2).1 (hne k h2).2)⟩
theorem BRow.drewN {w : World} {B n : Nat} {a : Option Addr} {f : Nat → Int} (h : BRow w B a n f) (q : Nat) : BRow (w.drewN q) B a n f := h
theorem BRow.qt {w w' : World} {B n : Nat} {a : Option Addr} {f : Nat → Int} (h : BRow w B a n f) (hq : Qt w w') : BRow w' B a n f := by
  obtain ⟨q, rfl⟩ := hq; exact h
theorem BRow.at_ {w : World} {B n k : Nat} {a : Option Addr} {f : Nat → Int} (h : BRow w B a n f) (hk : k < n) : ∃ g, B ≤ g ∧ a = some ⟨g, 0, none⟩ ∧ g < w.heap.size ∧ w.cell? ⟨g, k, none⟩ = some (.int .u8 (f k)) := by
  rcases h with h | ⟨g, h1, h2, hr⟩
  · omega
  · exact ⟨g, h1, h2, hr.lt, hr.cell hk⟩
theorem BRow.cell {w : World} {B n k g : Nat} {f : Nat → Int} (h : BRow w B (some ⟨g, 0, none⟩) n f) (hk : k < n) : w.cell? ⟨g, k, none⟩ = some (.int .u8 (f k)) := by
  obtain ⟨g', _, e, _, hc⟩ := h.at_ hk
  injection e with e
  injection e with e
  rw [e]; exact hc

/-- zzSameBytes of equal bytes. -/
theorem sameBytes (w : World) (g N g' N' n cap cap' : Nat) (h h' : Nat → Int) (hr : w.rowIs g 5 N (fun i => .int .u8 (h i))) (hr' : w.rowIs g' 5 N' (fun i => .int .u8 (h' i))) (hs : n ≤ N) (hs' : n ≤ N') (hN : N ≤ 65536) (he : ∀ i, i < n → h i = h' i) :
    Calls Try.prog 20 #[.slice (some ⟨g, 0, none⟩) n cap, .slice (some ⟨g', 0, none⟩) n cap'] w fun e w' => e = .returned (.bool true) ∧ Qt w w' := by
  have HE := Lib.hid he
  clear he
  go_enter Try.func20, Try.ntmps20
  go_wp2
  go_loopw [5] (fun i wr => ∃ k q : Nat, k ≤ n ∧ i = .int .i64 k ∧ wr = w.drewN q) (fun i _ => n - (intOf i).toNat)
  case atStart => exact ⟨0, 0, Nat.zero_le _, rfl, rfl⟩
  case round =>
    obtain ⟨k, q, hk, rfl, rfl⟩ := hrel
    by_cases hlt : k < n
    · have hc := hr.cell (i := k) (by omega)
      have hc' := hr'.cell (i := k) (by omega)
      rw [HE.out k hlt] at hc
      have i0 : (0 : Int) ≤ (k : Int) := by omega
      have i1 : (k : Int) < (n : Int) := by omega
      go_wp2
      go_quiet (fail)
      go_wp2
      go_roundw
      case rel => exact ⟨k + 1, _, by omega, by go_num, rfl⟩
      case measure => simp [intOf]; omega
    · go_wp2
      go_ret
      exact ⟨rfl, qt _ _⟩

theorem zzb21 (n : Int) (s : ByteArray) (w : World) (h : s.size ≤ 1048576) : Calls Try.prog 21 #[.int .i64 n, .string s] w fun e w' => e = .returned (.bool true) ∧ w = w' := by
  go_enter Try.func21, Try.ntmps21
  go_wp2
  go_ret
  exact ⟨rfl, rfl⟩
theorem zzb23 (n : Int) (s : ByteArray) (w : World) (h : s.size ≤ 1048576) : Calls Try.prog 23 #[.int .i64 n, .string s] w fun e w' => e = .returned (.bool true) ∧ w = w' := by
  go_enter Try.func23, Try.ntmps23
  go_wp2
  go_ret
  exact ⟨rfl, rfl⟩
theorem zzb24 (n : Int) (s t : ByteArray) (w : World) (h : s.size + t.size ≤ 1048576) : Calls Try.prog 24 #[.int .i64 n, .string s, .string t] w fun e w' => e = .returned (.bool true) ∧ w = w' := by
  go_enter Try.func24, Try.ntmps24
  go_wp2
  go_ret
  exact ⟨rfl, rfl⟩
theorem zzb14 (n : Int) (a : Option Addr) (m c : Nat) (w : World) (h : m ≤ 1048576) : Calls Try.prog 14 #[.int .i64 n, .slice a m c] w fun e w' => e = .returned (.bool true) ∧ w = w' := by
  go_enter Try.func14, Try.ntmps14
  go_wp2
  go_ret
  exact ⟨rfl, rfl⟩
theorem zzb25 (n : Int) (a a' : Option Addr) (m c m' c' : Nat) (w : World) (h : m + m' ≤ 1048576) : Calls Try.prog 25 #[.int .i64 n, .slice a m c, .slice a' m' c'] w fun e w' => e = .returned (.bool true) ∧ w = w' := by
  go_enter Try.func25, Try.ntmps25
  go_wp2
  go_ret
  exact ⟨rfl, rfl⟩
theorem zzb26 (n : Int) (a a' : Option Addr) (m c m' c' : Nat) (w : World) (h : m + m' ≤ 1048576) : Calls Try.prog 26 #[.int .i64 n, .slice a m c, .slice a' m' c'] w fun e w' => e = .returned (.bool true) ∧ w = w' := by
  go_enter Try.func26, Try.ntmps26
  go_wp2
  go_ret
  exact ⟨rfl, rfl⟩
end Go.Proofs.Ytbeoamdbkknecaa
