/- The guards of the two term laws; zzCopyBytes; zzLeafTerm. Condition: at most 2^16 bytes of text. -/
import Derived.Test.YtejbdgkcoajpfaaDoorT2
import Derived.Sort.Walk0
import Derived.Deep.OwnRows
import Derived.Lib.LazyBuf
set_option linter.unusedVariables false
namespace Go.Proofs.YtejbdgkcoajpfaaDoor
open Go.Shelf Go.RowKit

/-- Bytes in a slice. -/
def BytIn (w : World) (a : Option Addr) (n c : Nat) (f : Nat → Nat) : Prop := (a = none ∧ n = 0 ∧ c = 0) ∨ ∃ x, a = some x ∧ ∀ i, i < n → w.cell? (x.add i) = some (.int .u8 (f i : Nat))
theorem BytIn.below {w w' : World} {a : Option Addr} {n c : Nat} {f : Nat → Nat} (h : BytIn w a n c f) (hb : Below w.heap.size w w') : BytIn w' a n c f := by
  rcases h with h | ⟨x, rfl, hx⟩
  · exact Or.inl h
  · exact Or.inr ⟨x, rfl, fun i hi => (hb.cell (blk_lt (hx i hi))).trans (hx i hi)⟩

theorem zzB12_yes (c : Int) (s : ByteArray) (a : Option Addr) (n cp : Nat) (w : World) (h : s.size + n ≤ 1048576) :
    Calls Tryd.prog 37 #[.int .u8 c, .string s, .slice a n cp] w fun e w' => e = .returned (.bool true) ∧ w = w' := by
  go_enter Tryd.func37, Tryd.ntmps37
  go_wp2
  go_ret
  exact ⟨rfl, rfl⟩
theorem zzB12_no (c : Int) (s : ByteArray) (a : Option Addr) (n cp : Nat) (w : World) (ms : s.size ≤ 9223372036854775807) (mn : n ≤ 9223372036854775807) (h : ¬ s.size + n ≤ 1048576) :
    Calls Tryd.prog 37 #[.int .u8 c, .string s, .slice a n cp] w fun e w' => e = .returned (.bool false) ∧ w = w' := by
  go_enter Tryd.func37, Tryd.ntmps37
  go_wp2
  all_goals
    go_ret
    exact ⟨rfl, rfl⟩

theorem zzB13_yes (c : Int) (s : ByteArray) (a : Option Addr) (n cp : Nat) (w : World) (h : s.size + n ≤ 1048576) :
    Calls Tryd.prog 41 #[.int .u8 c, .string s, .slice a n cp] w fun e w' => e = .returned (.bool true) ∧ w = w' := by
  go_enter Tryd.func41, Tryd.ntmps41
  go_wp2
  go_ret
  exact ⟨rfl, rfl⟩
theorem zzB13_no (c : Int) (s : ByteArray) (a : Option Addr) (n cp : Nat) (w : World) (ms : s.size ≤ 9223372036854775807) (mn : n ≤ 9223372036854775807) (h : ¬ s.size + n ≤ 1048576) :
    Calls Tryd.prog 41 #[.int .u8 c, .string s, .slice a n cp] w fun e w' => e = .returned (.bool false) ∧ w = w' := by
  go_enter Tryd.func41, Tryd.ntmps41
  go_wp2
  all_goals
    go_ret
    exact ⟨rfl, rfl⟩

theorem copy_nil (w : World) : Calls Tryd.prog 38 #[.slice none 0 0] w fun e w' => e = .returned (.slice none 0 0) ∧ w = w' := by
  have hq := fun W => Lib.run_eql_slice_nil (P := Tryd.prog) W 72 5 none 0 0 0 0 Tryd.underlying72
  go_enter Tryd.func38, Tryd.ntmps38
  go_wp2
  go_ret
  exact ⟨rfl, rfl⟩
set_option maxRecDepth 100000 in
theorem copy_some (x : Addr) (n c : Nat) (f : Nat → Nat) (w : World) (hn : n ≤ 1048576) (hx : ∀ j, j < n → w.cell? (x.add j) = some (.int .u8 (f j : Nat))) :
    Calls Tryd.prog 38 #[.slice (some x) n c] w fun e w' => e = .returned (.slice (some ⟨w.heap.size, 0, none⟩) n n) ∧ w'.rowIs w.heap.size 5 n (fun j => .int .u8 (f j : Nat)) ∧ Below w.heap.size w w' := by
  have hq := fun W => Lib.run_eql_slice_nil (P := Tryd.prog) W 72 5 (some x) n c 0 0 Tryd.underlying72
  have hmk := run_make_row' (P := Tryd.prog) 72 5 (.int .u8 0) 1 Tryd.underlying72 Tryd.infoB rfl .i64 .i64 n (by omega) (by omega)
  have HX := Lib.hid hx
  clear hx
  go_enter Tryd.func38, Tryd.ntmps38
  go_wp2_with fail
  clear hq hmk
  go_loopw [4] (fun j wr => ∃ k : Nat, k ≤ n ∧ j = .int .i64 k ∧ wr.rowIs w.heap.size 5 n (fun j => if j < k then .int .u8 (f j : Nat) else .int .u8 0) ∧ Below w.heap.size w wr) (fun j _ => n - (intOf j).toNat)
  case atStart => exact ⟨0, Nat.zero_le _, rfl, (World.rowIs_made w _ n 5).congr (fun j _ => by simp), (Below.refl _ _).alloc (Nat.le_refl _) _⟩
  case round =>
    obtain ⟨k, hk, rfl, hrow, hb⟩ := hrel
    by_cases hlt : k < n
    · have hxl : (x.add k).block < w.heap.size := blk_lt (HX.out k hlt)
      have hc : wr.cell? (x.add k) = some (.int .u8 (f k : Nat)) := (hb.cell hxl).trans (HX.out k hlt)
      have hd := hrow.cell hlt
      have hf := hrow.frozen k
      rw [if_neg (by omega)] at hd
      go_wp2_with fail
      go_roundw
      case rel =>
        refine ⟨k + 1, by omega, by go_num, (hrow.set k (.int .u8 (f k : Nat))).congr (fun j hj => ?_), hb.setCell (p := ⟨w.heap.size, k, none⟩) (Nat.le_refl _) _⟩
        by_cases e : j = k
        · subst e; simp
        · rw [if_neg e]
          by_cases e2 : j < k
          · rw [if_pos e2, if_pos (by omega)]
          · rw [if_neg e2, if_neg (by omega)]
      case measure => simp [intOf]; omega
    · obtain rfl : n = k := by omega
      go_wp2_with fail
      go_ret
      exact ⟨rfl, hrow.congr (fun j hj => by rw [if_pos hj]), hb⟩
theorem copy_any (a : Option Addr) (n c : Nat) (f : Nat → Nat) (w : World) (hn : n ≤ 1048576) (h : BytIn w a n c f) :
    Calls Tryd.prog 38 #[.slice a n c] w fun e w' => (∃ a' c', e = .returned (.slice a' n c') ∧ BytIn w' a' n c' f) ∧ Below w.heap.size w w' := by
  rcases h with ⟨rfl, rfl, rfl⟩ | ⟨x, rfl, hx⟩
  · refine (copy_nil w).mono ?_
    rintro e w' ⟨rfl, rfl⟩
    exact ⟨⟨none, 0, rfl, Or.inl ⟨rfl, rfl, rfl⟩⟩, Below.refl _ _⟩
  · refine (copy_some x n c f w hn hx).mono ?_
    rintro e w' ⟨rfl, h1, h2⟩
    exact ⟨⟨_, n, rfl, Or.inr ⟨_, rfl, fun j hj => by rw [Go.WideShapes.add_plain, Nat.zero_add]; exact h1.cell hj⟩⟩, h2⟩
/-- The cells of a leaf term, the suffix list apart. -/
def leafC (k : Nat) (s : ByteArray) : List (Nat × Value) :=
  if k = 0 then [(0, .int .i64 1)] else if k = 1 then [(0, .int .i64 2)] else if k = 2 then [(0, .int .i64 3)] else if k = 3 then [(0, .int .i64 4)] else if k = 4 then [(0, .int .i64 5)]
  else if k = 5 then [(0, .int .i64 10), (5, .string s)] else if k = 6 then [(0, .int .i64 19), (14, .string s)] else [(0, .int .i64 12), (7, .string s), (8, .pointer none)]
/-- Its text. -/
def leafB (k : Nat) (s : ByteArray) : ByteArray :=
  if k = 0 then ⟨#[46]⟩ else if k = 1 then ⟨#[46, 46]⟩ else if k = 2 then ⟨#[110, 117, 108, 108]⟩ else if k = 3 then ⟨#[116, 114, 117, 101]⟩ else if k = 4 then ⟨#[102, 97, 108, 115, 101]⟩
  else if k = 5 then s else if k = 6 then ⟨#[98, 114, 101, 97, 107, 32]⟩ ++ s else s
theorem leafB_le (k : Nat) (s : ByteArray) : (leafB k s).size ≤ s.size + 6 := by
  unfold leafB
  repeat' split
  all_goals first
    | (show (_ : Nat) ≤ _; simp [ByteArray.size_append]; done)
    | (rw [ByteArray.size_append, Nat.add_comm]; exact Nat.le_refl _)
    | (show (_ : Nat) ≤ _; exact Nat.le_trans (by decide) (Nat.le_add_left _ _))
def LeafAt (w : World) (k : Nat) (s : ByteArray) (t : Nat) : Prop := t < w.heap.size ∧ ∀ p, p ∈ leafC k s → w.cell? ⟨t, p.1, none⟩ = some p.2
theorem leafC_not16 (k : Nat) (s : ByteArray) : ∀ p, p ∈ leafC k s → p.1 ≠ 16 := by
  intro p hp
  unfold leafC at hp
  repeat' split at hp
  all_goals (simp at hp; first | (subst hp; simp; done) | (rcases hp with rfl | rfl <;> simp; done) | (rcases hp with rfl | rfl | rfl <;> simp; done))
theorem LeafAt.below {w w' : World} {k t : Nat} {s : ByteArray} (h : LeafAt w k s t) (hb : Below w.heap.size w w') : LeafAt w' k s t :=
  ⟨Nat.lt_of_lt_of_le h.1 hb.size, fun p hp => (hb.cell (p := ⟨t, p.1, none⟩) h.1).trans (h.2 p hp)⟩
theorem LeafAt.set {w : World} {k t : Nat} {s : ByteArray} (h : LeafAt w k s t) (v : Value) : LeafAt (w.setCell ⟨t, 16, none⟩ v) k s t :=
  ⟨by simpa using h.1, fun p hp => (World.cell?_setCell_other _ _ _ _ (by have := leafC_not16 k s p hp; simp; try omega)).trans (h.2 p hp)⟩
theorem leaf_prints (w0 : World) (k t : Nat) (s : ByteArray) (a : Option Addr) (n cp : Nat) (f : Nat → Nat) (hn : n ≤ 65536) (h : LeafAt w0 k s t) (c16 : w0.cell? ⟨t, 16, none⟩ = some (.slice a n cp)) (hs : SufIn w0 a n f) :
    Prints 45 w0 ⟨t, 0, none⟩ (fun l => (leafB k s).data.toList ++ sfxN f (l ++ (leafB k s).data.toList) n) := by
  obtain ⟨ht, h⟩ := h
  by_cases e0 : k = 0
  · have q := h
    simp only [leafC, if_pos e0, List.mem_cons, List.not_mem_nil, or_false, forall_eq] at q
    have eB : leafB k s = (⟨#[46]⟩ : ByteArray) := by unfold leafB; rw [if_pos e0]
    rw [eB]
    exact leaf_ident w0 t a n cp f ht hn q c16 hs
  by_cases e1 : k = 1
  · have q := h
    simp only [leafC, if_neg e0, if_pos e1, List.mem_cons, List.not_mem_nil, or_false, forall_eq] at q
    have eB : leafB k s = (⟨#[46, 46]⟩ : ByteArray) := by unfold leafB; rw [if_neg e0]; rw [if_pos e1]
    rw [eB]
    exact leaf_rec w0 t a n cp f ht hn q c16 hs
  by_cases e2 : k = 2
  · have q := h
    simp only [leafC, if_neg e0, if_neg e1, if_pos e2, List.mem_cons, List.not_mem_nil, or_false, forall_eq] at q
    have eB : leafB k s = (⟨#[110, 117, 108, 108]⟩ : ByteArray) := by unfold leafB; rw [if_neg e0]; rw [if_neg e1]; rw [if_pos e2]
    rw [eB]
    exact leaf_null w0 t a n cp f ht hn q c16 hs
  by_cases e3 : k = 3
  · have q := h
    simp only [leafC, if_neg e0, if_neg e1, if_neg e2, if_pos e3, List.mem_cons, List.not_mem_nil, or_false, forall_eq] at q
    have eB : leafB k s = (⟨#[116, 114, 117, 101]⟩ : ByteArray) := by unfold leafB; rw [if_neg e0]; rw [if_neg e1]; rw [if_neg e2]; rw [if_pos e3]
    rw [eB]
    exact leaf_true w0 t a n cp f ht hn q c16 hs
  by_cases e4 : k = 4
  · have q := h
    simp only [leafC, if_neg e0, if_neg e1, if_neg e2, if_neg e3, if_pos e4, List.mem_cons, List.not_mem_nil, or_false, forall_eq] at q
    have eB : leafB k s = (⟨#[102, 97, 108, 115, 101]⟩ : ByteArray) := by unfold leafB; rw [if_neg e0]; rw [if_neg e1]; rw [if_neg e2]; rw [if_neg e3]; rw [if_pos e4]
    rw [eB]
    exact leaf_false w0 t a n cp f ht hn q c16 hs
  by_cases e5 : k = 5
  · have q := h
    simp only [leafC, if_neg e0, if_neg e1, if_neg e2, if_neg e3, if_neg e4, if_pos e5, List.mem_cons, List.not_mem_nil, or_false, forall_eq_or_imp, forall_eq] at q
    have eB : leafB k s = s := by unfold leafB; rw [if_neg e0]; rw [if_neg e1]; rw [if_neg e2]; rw [if_neg e3]; rw [if_neg e4]; rw [if_pos e5]
    rw [eB]
    exact leaf_num w0 t s a n cp f ht hn q.1 q.2 c16 hs
  by_cases e6 : k = 6
  · have q := h
    simp only [leafC, if_neg e0, if_neg e1, if_neg e2, if_neg e3, if_neg e4, if_neg e5, if_pos e6, List.mem_cons, List.not_mem_nil, or_false, forall_eq_or_imp, forall_eq] at q
    have eB : leafB k s = ⟨#[98, 114, 101, 97, 107, 32]⟩ ++ s := by unfold leafB; rw [if_neg e0]; rw [if_neg e1]; rw [if_neg e2]; rw [if_neg e3]; rw [if_neg e4]; rw [if_neg e5]; rw [if_pos e6]
    rw [eB]
    simp only [ByteArray.data_append, Array.toList_append]
    exact leaf_break w0 t s a n cp f ht hn q.1 q.2 c16 hs
  · have q := h
    simp only [leafC, if_neg e0, if_neg e1, if_neg e2, if_neg e3, if_neg e4, if_neg e5, if_neg e6, List.mem_cons, List.not_mem_nil, or_false, forall_eq_or_imp, forall_eq] at q
    have eB : leafB k s = s := by unfold leafB; rw [if_neg e0]; rw [if_neg e1]; rw [if_neg e2]; rw [if_neg e3]; rw [if_neg e4]; rw [if_neg e5]; rw [if_neg e6]
    rw [eB]
    exact leaf_format w0 t s a n cp f ht hn q.1 q.2.1 q.2.2 c16 hs

/-- zzLeafTerm made the term at block t. -/
def MkLeaf (k : Nat) (s : ByteArray) (w : World) (e : Ending) (w' : World) : Prop := ∃ t : Nat, e = .returned (.tuple #[.pointer (some ⟨t, 0, none⟩), .string (leafB k s)]) ∧ w.heap.size ≤ t ∧ LeafAt w' k s t ∧ w'.cell? ⟨t, 16, none⟩ = some (.slice none 0 0) ∧ w'.frozen? ⟨t, 16, none⟩ = false ∧ Below w.heap.size w w'

set_option maxRecDepth 100000 in
theorem mkleaf0 (c : Int) (s : ByteArray) (w : World) (hs : s.size ≤ 65536) (h0 : 0 ≤ c) (h1 : c < 256)  (k0 : (c % 8 == 0) = true) :
    Calls Tryd.prog 39 #[.int .u8 c, .string s] w (MkLeaf 0 s w) := by
  go_enter Tryd.func39, Tryd.ntmps39
  go_wp2
  go_ret2
  refine ⟨w.heap.size, rfl, Nat.le_refl _, ⟨by simp, ?_⟩, by simp [go_sem], by simp [go_sem], below_fresh w _⟩
  intro p hp
  simp [leafC] at hp
  subst hp; simp [go_sem]

set_option maxRecDepth 100000 in
theorem mkleaf1 (c : Int) (s : ByteArray) (w : World) (hs : s.size ≤ 65536) (h0 : 0 ≤ c) (h1 : c < 256) (n0 : (c % 8 == 0) = false) (k1 : (c % 8 == 1) = true) :
    Calls Tryd.prog 39 #[.int .u8 c, .string s] w (MkLeaf 1 s w) := by
  go_enter Tryd.func39, Tryd.ntmps39
  go_wp2
  go_ret2
  refine ⟨w.heap.size, rfl, Nat.le_refl _, ⟨by simp, ?_⟩, by simp [go_sem], by simp [go_sem], below_fresh w _⟩
  intro p hp
  simp [leafC] at hp
  subst hp; simp [go_sem]

set_option maxRecDepth 100000 in
theorem mkleaf2 (c : Int) (s : ByteArray) (w : World) (hs : s.size ≤ 65536) (h0 : 0 ≤ c) (h1 : c < 256) (n0 : (c % 8 == 0) = false) (n1 : (c % 8 == 1) = false) (k2 : (c % 8 == 2) = true) :
    Calls Tryd.prog 39 #[.int .u8 c, .string s] w (MkLeaf 2 s w) := by
  go_enter Tryd.func39, Tryd.ntmps39
  go_wp2
  go_ret2
  refine ⟨w.heap.size, rfl, Nat.le_refl _, ⟨by simp, ?_⟩, by simp [go_sem], by simp [go_sem], below_fresh w _⟩
  intro p hp
  simp [leafC] at hp
  subst hp; simp [go_sem]

set_option maxRecDepth 100000 in
theorem mkleaf3 (c : Int) (s : ByteArray) (w : World) (hs : s.size ≤ 65536) (h0 : 0 ≤ c) (h1 : c < 256) (n0 : (c % 8 == 0) = false) (n1 : (c % 8 == 1) = false) (n2 : (c % 8 == 2) = false) (k3 : (c % 8 == 3) = true) :
    Calls Tryd.prog 39 #[.int .u8 c, .string s] w (MkLeaf 3 s w) := by
  go_enter Tryd.func39, Tryd.ntmps39
  go_wp2
  go_ret2
  refine ⟨w.heap.size, rfl, Nat.le_refl _, ⟨by simp, ?_⟩, by simp [go_sem], by simp [go_sem], below_fresh w _⟩
  intro p hp
  simp [leafC] at hp
  subst hp; simp [go_sem]

set_option maxRecDepth 100000 in
theorem mkleaf4 (c : Int) (s : ByteArray) (w : World) (hs : s.size ≤ 65536) (h0 : 0 ≤ c) (h1 : c < 256) (n0 : (c % 8 == 0) = false) (n1 : (c % 8 == 1) = false) (n2 : (c % 8 == 2) = false) (n3 : (c % 8 == 3) = false) (k4 : (c % 8 == 4) = true) :
    Calls Tryd.prog 39 #[.int .u8 c, .string s] w (MkLeaf 4 s w) := by
  go_enter Tryd.func39, Tryd.ntmps39
  go_wp2
  go_ret2
  refine ⟨w.heap.size, rfl, Nat.le_refl _, ⟨by simp, ?_⟩, by simp [go_sem], by simp [go_sem], below_fresh w _⟩
  intro p hp
  simp [leafC] at hp
  subst hp; simp [go_sem]

set_option maxRecDepth 100000 in
theorem mkleaf5 (c : Int) (s : ByteArray) (w : World) (hs : s.size ≤ 65536) (h0 : 0 ≤ c) (h1 : c < 256) (n0 : (c % 8 == 0) = false) (n1 : (c % 8 == 1) = false) (n2 : (c % 8 == 2) = false) (n3 : (c % 8 == 3) = false) (n4 : (c % 8 == 4) = false) (k5 : (c % 8 == 5) = true) :
    Calls Tryd.prog 39 #[.int .u8 c, .string s] w (MkLeaf 5 s w) := by
  go_enter Tryd.func39, Tryd.ntmps39
  go_wp2
  go_ret2
  refine ⟨w.heap.size, rfl, Nat.le_refl _, ⟨by simp, ?_⟩, by simp [go_sem], by simp [go_sem], below_fresh w _⟩
  intro p hp
  simp [leafC] at hp
  rcases hp with rfl | rfl <;> simp [go_sem]

set_option maxRecDepth 100000 in
theorem mkleaf6 (c : Int) (s : ByteArray) (w : World) (hs : s.size ≤ 65536) (h0 : 0 ≤ c) (h1 : c < 256) (n0 : (c % 8 == 0) = false) (n1 : (c % 8 == 1) = false) (n2 : (c % 8 == 2) = false) (n3 : (c % 8 == 3) = false) (n4 : (c % 8 == 4) = false) (n5 : (c % 8 == 5) = false) (k6 : (c % 8 == 6) = true) :
    Calls Tryd.prog 39 #[.int .u8 c, .string s] w (MkLeaf 6 s w) := by
  go_enter Tryd.func39, Tryd.ntmps39
  go_wp2
  go_ret2
  refine ⟨w.heap.size, rfl, Nat.le_refl _, ⟨by simp, ?_⟩, by simp [go_sem], by simp [go_sem], below_fresh w _⟩
  intro p hp
  simp [leafC] at hp
  rcases hp with rfl | rfl <;> simp [go_sem]

set_option maxRecDepth 100000 in
theorem mkleaf7 (c : Int) (s : ByteArray) (w : World) (hs : s.size ≤ 65536) (h0 : 0 ≤ c) (h1 : c < 256) (n0 : (c % 8 == 0) = false) (n1 : (c % 8 == 1) = false) (n2 : (c % 8 == 2) = false) (n3 : (c % 8 == 3) = false) (n4 : (c % 8 == 4) = false) (n5 : (c % 8 == 5) = false) (n6 : (c % 8 == 6) = false) :
    Calls Tryd.prog 39 #[.int .u8 c, .string s] w (MkLeaf 7 s w) := by
  go_enter Tryd.func39, Tryd.ntmps39
  go_wp2
  go_ret2
  refine ⟨w.heap.size, rfl, Nat.le_refl _, ⟨by simp, ?_⟩, by simp [go_sem], by simp [go_sem], below_fresh w _⟩
  intro p hp
  simp [leafC] at hp
  rcases hp with rfl | rfl | rfl <;> simp [go_sem]

theorem mkleaf (c : Int) (s : ByteArray) (w : World) (hs : s.size ≤ 65536) (h0 : 0 ≤ c) (h1 : c < 256) :
    Calls Tryd.prog 39 #[.int .u8 c, .string s] w (MkLeaf (c % 8).toNat s w) := by
  by_cases e0 : c % 8 = 0
  · rw [e0]; exact mkleaf0 c s w hs h0 h1 (by simp [e0])
  by_cases e1 : c % 8 = 1
  · rw [e1]; exact mkleaf1 c s w hs h0 h1 (by simp [e1]) (by simp [e1])
  by_cases e2 : c % 8 = 2
  · rw [e2]; exact mkleaf2 c s w hs h0 h1 (by simp [e2]) (by simp [e2]) (by simp [e2])
  by_cases e3 : c % 8 = 3
  · rw [e3]; exact mkleaf3 c s w hs h0 h1 (by simp [e3]) (by simp [e3]) (by simp [e3]) (by simp [e3])
  by_cases e4 : c % 8 = 4
  · rw [e4]; exact mkleaf4 c s w hs h0 h1 (by simp [e4]) (by simp [e4]) (by simp [e4]) (by simp [e4]) (by simp [e4])
  by_cases e5 : c % 8 = 5
  · rw [e5]; exact mkleaf5 c s w hs h0 h1 (by simp [e5]) (by simp [e5]) (by simp [e5]) (by simp [e5]) (by simp [e5]) (by simp [e5])
  by_cases e6 : c % 8 = 6
  · rw [e6]; exact mkleaf6 c s w hs h0 h1 (by simp [e6]) (by simp [e6]) (by simp [e6]) (by simp [e6]) (by simp [e6]) (by simp [e6]) (by simp [e6])
  · have e7 : c % 8 = 7 := by omega
    rw [e7]; exact mkleaf7 c s w hs h0 h1 (by simp [e7]) (by simp [e7]) (by simp [e7]) (by simp [e7]) (by simp [e7]) (by simp [e7]) (by simp [e7])

end Go.Proofs.YtejbdgkcoajpfaaDoor
