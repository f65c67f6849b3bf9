/- writeTo of try, of label and of a binary query; Operator.String; in the notion Prints. Condition: the text stays below 2^40 bytes. -/
import Derived.Test.YtejbdgkcoajpfaaDoorComp
set_option linter.unusedVariables false
namespace Go.Proofs.YtejbdgkcoajpfaaDoor
open Go.Shelf Go.RowKit

/-- The spelling of an operator. -/
def opL (k : Int) : List UInt8 :=
  if k = 1 then [124] else if k = 2 then [44] else if k = 3 then [43] else if k = 4 then [45] else if k = 5 then [42] else if k = 6 then [47] else if k = 7 then [37] else if k = 8 then [61, 61] else if k = 9 then [33, 61] else if k = 10 then [62] else if k = 11 then [60] else if k = 12 then [62, 61] else if k = 13 then [60, 61] else if k = 14 then [97, 110, 100] else if k = 15 then [111, 114] else if k = 16 then [47, 47] else if k = 17 then [61] else if k = 18 then [124, 61] else if k = 19 then [43, 61] else if k = 20 then [45, 61] else if k = 21 then [42, 61] else if k = 22 then [47, 61] else if k = 23 then [37, 61] else [47, 47, 61]

theorem ite_len {c : Prop} [Decidable c] {x y : List UInt8} {n : Nat} (hx : x.length ≤ n) (hy : y.length ≤ n) : (if c then x else y).length ≤ n := by
  split <;> assumption
theorem opL_len (k : Int) : (opL k).length ≤ 3 := by
  unfold opL
  repeat (refine ite_len (by decide) ?_)
  decide

set_option maxRecDepth 100000 in
theorem op_String (k : Int) (h1 : 1 ≤ k) (h2 : k ≤ 24) (w : World) :
    Calls Tryd.prog 65 #[.int .i64 k] w fun e w' => e = .returned (.string ⟨(opL k).toArray⟩) ∧ w = w' := by
  have h : k = 1 ∨ k = 2 ∨ k = 3 ∨ k = 4 ∨ k = 5 ∨ k = 6 ∨ k = 7 ∨ k = 8 ∨ k = 9 ∨ k = 10 ∨ k = 11 ∨ k = 12 ∨ k = 13 ∨ k = 14 ∨ k = 15 ∨ k = 16 ∨ k = 17 ∨ k = 18 ∨ k = 19 ∨ k = 20 ∨ k = 21 ∨ k = 22 ∨ k = 23 ∨ k = 24 := by omega
  clear h1 h2
  rcases h with rfl | rfl | rfl | rfl | rfl | rfl | rfl | rfl | rfl | rfl | rfl | rfl | rfl | rfl | rfl | rfl | rfl | rfl | rfl | rfl | rfl | rfl | rfl | rfl <;>
    (go_enter Tryd.func65, Tryd.ntmps65
     go_wp2
     go_ret
     exact ⟨rfl, rfl⟩)

/-- The blank behind the left side. -/
def opGap (k : Int) : List UInt8 := if k = 2 then [] else [32]
def fBin (k : Int) (f g : List UInt8 → List UInt8) (l : List UInt8) : List UInt8 := f l ++ opGap k ++ opL k ++ [32] ++ g (l ++ f l ++ opGap k ++ opL k ++ [32])

set_option maxRecDepth 100000 in
theorem query_bin_comma (w0 : World) (q : Nat) (x y : Addr) (f g : List UInt8 → List UInt8) (hq : q < w0.heap.size)
    (c0 : w0.cell? ⟨q, 0, none⟩ = some (.pointer none)) (c1 : w0.cell? ⟨q, 1, none⟩ = some (.slice none 0 0)) (c2 : w0.cell? ⟨q, 2, none⟩ = some (.slice none 0 0)) (c3 : w0.cell? ⟨q, 3, none⟩ = some (.pointer none))
    (c4 : w0.cell? ⟨q, 4, none⟩ = some (.pointer (some x))) (c5 : w0.cell? ⟨q, 5, none⟩ = some (.pointer (some y))) (c6 : w0.cell? ⟨q, 6, none⟩ = some (.slice none 0 0)) (c7 : w0.cell? ⟨q, 7, none⟩ = some (.int .i64 2))
    (hx : Prints 46 w0 x f) (hy : Prints 46 w0 y g) : Prints 46 w0 ⟨q, 0, none⟩ (fBin 2 f g) := by
  intro B b l w hB hbw hbb hlen
  have HL := Lib.hid hlen
  clear hlen
  have o2 := Lib.hid (show opL 2 = [44] from rfl)
  have hq' : q < B := Nat.lt_of_lt_of_le hq hB
  have d0 : w.cell? ⟨q, 0, none⟩ = some (.pointer none) := (hbw.cell (p := ⟨q, 0, none⟩) hq).trans c0
  have d1 : w.cell? ⟨q, 1, none⟩ = some (.slice none 0 0) := (hbw.cell (p := ⟨q, 1, none⟩) hq).trans c1
  have d2 : w.cell? ⟨q, 2, none⟩ = some (.slice none 0 0) := (hbw.cell (p := ⟨q, 2, none⟩) hq).trans c2
  have d3 : w.cell? ⟨q, 3, none⟩ = some (.pointer none) := (hbw.cell (p := ⟨q, 3, none⟩) hq).trans c3
  have d4 : w.cell? ⟨q, 4, none⟩ = some (.pointer (some x)) := (hbw.cell (p := ⟨q, 4, none⟩) hq).trans c4
  have d5 : w.cell? ⟨q, 5, none⟩ = some (.pointer (some y)) := (hbw.cell (p := ⟨q, 5, none⟩) hq).trans c5
  have d6 : w.cell? ⟨q, 6, none⟩ = some (.slice none 0 0) := (hbw.cell (p := ⟨q, 6, none⟩) hq).trans c6
  have d7 : w.cell? ⟨q, 7, none⟩ = some (.int .i64 2) := (hbw.cell (p := ⟨q, 7, none⟩) hq).trans c7
  clear c0 c1 c2 c3 c4 c5 c6 c7
  go_enter Tryd.func46, Tryd.ntmps46
  go_wp2
  refine wp_loop_rounds 1 ?_
  rw [rounds_succ]
  go_wp2
  refine wp_loop_rounds 1 ?_
  rw [rounds_succ]
  go_wp2_with fail
  refine (hx B b l _ hB hbw hbb (by have := HL.out; simp only [fBin, List.length_append] at this; omega)).mono ?_
  rintro e w1 ⟨rfl, h1, b1⟩
  have e5 : w1.cell? ⟨q, 5, none⟩ = some (.pointer (some y)) := (b1.cell (p := ⟨q, 5, none⟩) hq').trans d5
  have e6 : w1.cell? ⟨q, 6, none⟩ = some (.slice none 0 0) := (b1.cell (p := ⟨q, 6, none⟩) hq').trans d6
  have e7 : w1.cell? ⟨q, 7, none⟩ = some (.int .i64 2) := (b1.cell (p := ⟨q, 7, none⟩) hq').trans d7
  clear d0 d1 d2 d3 d4 d5 d6 d7
  go_wp2_with fail
  refine wp_loop_rounds 1 ?_
  rw [rounds_succ]
  go_wp2_with fail
  refine (op_String 2 (by decide) (by decide) _).mono ?_
  rintro e w2 ⟨rfl, rfl⟩
  go_wp2_with fail
  refine (bb_WriteString B b _ ⟨(opL 2).toArray⟩ _ h1 (by have := HL.out; simp only [fBin, List.length_append] at this ⊢; omega)).mono ?_
  rintro e w3 ⟨rfl, h3, b3⟩
  have g5 : w3.cell? ⟨q, 5, none⟩ = some (.pointer (some y)) := (b3.cell (p := ⟨q, 5, none⟩) hq').trans e5
  clear e5 e6 e7
  go_wp2_with fail
  refine (bb_WriteByte B b _ 32 32 _ h3 rfl (by have := HL.out; simp only [fBin, List.length_append, List.length_cons, List.length_nil] at this ⊢; omega)).mono ?_
  rintro e w4 ⟨rfl, h4, b4⟩
  have k5 : w4.cell? ⟨q, 5, none⟩ = some (.pointer (some y)) := (b4.cell (p := ⟨q, 5, none⟩) hq').trans g5
  clear g5
  have eq4 : l ++ f l ++ opL 2 ++ [32] = l ++ f l ++ opGap 2 ++ opL 2 ++ [32] := by simp [opGap]
  have h4' : BB B b (l ++ f l ++ opGap 2 ++ opL 2 ++ [32]) w4 := eq4 ▸ h4
  clear h4 eq4
  go_wp2_with fail
  refine (hy B b _ _ hB (hbw.trans ((b1.trans (b3.trans b4)).mono hB)) h4' (by have := HL.out; simp only [fBin, List.length_append] at this ⊢; omega)).mono ?_
  rintro e w5 ⟨rfl, h5, b5⟩
  go_wp2_with fail
  go_end0
  refine ⟨rfl, ?_, b1.trans (b3.trans (b4.trans b5))⟩
  simpa only [fBin, List.append_assoc] using h5

set_option maxRecDepth 100000 in
theorem query_bin_op (w0 : World) (q : Nat) (x y : Addr) (k : Int) (f g : List UInt8 → List UInt8) (hq : q < w0.heap.size) (k1 : 1 ≤ k) (k2 : k ≤ 24) (kn : (k == 2) = false)
    (c0 : w0.cell? ⟨q, 0, none⟩ = some (.pointer none)) (c1 : w0.cell? ⟨q, 1, none⟩ = some (.slice none 0 0)) (c2 : w0.cell? ⟨q, 2, none⟩ = some (.slice none 0 0)) (c3 : w0.cell? ⟨q, 3, none⟩ = some (.pointer none))
    (c4 : w0.cell? ⟨q, 4, none⟩ = some (.pointer (some x))) (c5 : w0.cell? ⟨q, 5, none⟩ = some (.pointer (some y))) (c6 : w0.cell? ⟨q, 6, none⟩ = some (.slice none 0 0)) (c7 : w0.cell? ⟨q, 7, none⟩ = some (.int .i64 k))
    (hx : Prints 46 w0 x f) (hy : Prints 46 w0 y g) : Prints 46 w0 ⟨q, 0, none⟩ (fBin k f g) := by
  intro B b l w hB hbw hbb hlen
  have og : opGap k = [32] := by unfold opGap; rw [if_neg (by simpa using kn)]
  have HG := Lib.hid og
  have HL := Lib.hid hlen
  clear hlen og
  have hq' : q < B := Nat.lt_of_lt_of_le hq hB
  have d0 : w.cell? ⟨q, 0, none⟩ = some (.pointer none) := (hbw.cell (p := ⟨q, 0, none⟩) hq).trans c0
  have d1 : w.cell? ⟨q, 1, none⟩ = some (.slice none 0 0) := (hbw.cell (p := ⟨q, 1, none⟩) hq).trans c1
  have d2 : w.cell? ⟨q, 2, none⟩ = some (.slice none 0 0) := (hbw.cell (p := ⟨q, 2, none⟩) hq).trans c2
  have d3 : w.cell? ⟨q, 3, none⟩ = some (.pointer none) := (hbw.cell (p := ⟨q, 3, none⟩) hq).trans c3
  have d4 : w.cell? ⟨q, 4, none⟩ = some (.pointer (some x)) := (hbw.cell (p := ⟨q, 4, none⟩) hq).trans c4
  have d5 : w.cell? ⟨q, 5, none⟩ = some (.pointer (some y)) := (hbw.cell (p := ⟨q, 5, none⟩) hq).trans c5
  have d6 : w.cell? ⟨q, 6, none⟩ = some (.slice none 0 0) := (hbw.cell (p := ⟨q, 6, none⟩) hq).trans c6
  have d7 : w.cell? ⟨q, 7, none⟩ = some (.int .i64 k) := (hbw.cell (p := ⟨q, 7, none⟩) hq).trans c7
  clear c0 c1 c2 c3 c4 c5 c6 c7
  go_enter Tryd.func46, Tryd.ntmps46
  go_wp2
  refine wp_loop_rounds 1 ?_
  rw [rounds_succ]
  go_wp2
  refine wp_loop_rounds 1 ?_
  rw [rounds_succ]
  go_wp2_with fail
  refine (hx B b l _ hB hbw hbb (by have := HL.out; simp only [fBin, List.length_append] at this; omega)).mono ?_
  rintro e w1 ⟨rfl, h1, b1⟩
  have e5 : w1.cell? ⟨q, 5, none⟩ = some (.pointer (some y)) := (b1.cell (p := ⟨q, 5, none⟩) hq').trans d5
  have e6 : w1.cell? ⟨q, 6, none⟩ = some (.slice none 0 0) := (b1.cell (p := ⟨q, 6, none⟩) hq').trans d6
  have e7 : w1.cell? ⟨q, 7, none⟩ = some (.int .i64 k) := (b1.cell (p := ⟨q, 7, none⟩) hq').trans d7
  clear d0 d1 d2 d3 d4 d5 d6 d7
  go_wp2_with fail
  refine (bb_WriteByte B b _ 32 32 _ h1 rfl (by have := HL.out; simp only [fBin, HG.out, List.length_append, List.length_cons, List.length_nil] at this ⊢; omega)).mono ?_
  rintro e w2 ⟨rfl, h2, b2⟩
  have h2' : BB B b (l ++ f l ++ opGap k) w2 := by rw [HG.out]; exact h2
  clear h2
  have i5 : w2.cell? ⟨q, 5, none⟩ = some (.pointer (some y)) := (b2.cell (p := ⟨q, 5, none⟩) hq').trans e5
  have i6 : w2.cell? ⟨q, 6, none⟩ = some (.slice none 0 0) := (b2.cell (p := ⟨q, 6, none⟩) hq').trans e6
  have i7 : w2.cell? ⟨q, 7, none⟩ = some (.int .i64 k) := (b2.cell (p := ⟨q, 7, none⟩) hq').trans e7
  clear e5 e6 e7
  go_wp2_with fail
  refine wp_loop_rounds 1 ?_
  rw [rounds_succ]
  go_wp2_with fail
  refine (op_String k k1 k2 _).mono ?_
  rintro e w3 ⟨rfl, rfl⟩
  go_wp2_with fail
  refine (bb_WriteString B b _ ⟨(opL k).toArray⟩ _ h2' (by have := HL.out; simp only [fBin, List.length_append] at this ⊢; omega)).mono ?_
  rintro e w3 ⟨rfl, h3, b3⟩
  have g5 : w3.cell? ⟨q, 5, none⟩ = some (.pointer (some y)) := (b3.cell (p := ⟨q, 5, none⟩) hq').trans i5
  clear i5 i6 i7
  go_wp2_with fail
  refine (bb_WriteByte B b _ 32 32 _ h3 rfl (by have := HL.out; simp only [fBin, List.length_append, List.length_cons, List.length_nil] at this ⊢; omega)).mono ?_
  rintro e w4 ⟨rfl, h4, b4⟩
  have k5 : w4.cell? ⟨q, 5, none⟩ = some (.pointer (some y)) := (b4.cell (p := ⟨q, 5, none⟩) hq').trans g5
  clear g5
  go_wp2_with fail
  refine (hy B b _ _ hB (hbw.trans ((b1.trans (b2.trans (b3.trans b4))).mono hB)) h4 (by have := HL.out; simp only [fBin, List.length_append] at this ⊢; omega)).mono ?_
  rintro e w5 ⟨rfl, h5, b5⟩
  go_wp2_with fail
  go_end0
  refine ⟨rfl, ?_, b1.trans (b2.trans (b3.trans (b4.trans b5)))⟩
  simpa only [fBin, List.append_assoc] using h5

theorem query_bin (w0 : World) (q : Nat) (x y : Addr) (k : Int) (f g : List UInt8 → List UInt8) (hq : q < w0.heap.size) (k1 : 1 ≤ k) (k2 : k ≤ 24)
    (c0 : w0.cell? ⟨q, 0, none⟩ = some (.pointer none)) (c1 : w0.cell? ⟨q, 1, none⟩ = some (.slice none 0 0)) (c2 : w0.cell? ⟨q, 2, none⟩ = some (.slice none 0 0)) (c3 : w0.cell? ⟨q, 3, none⟩ = some (.pointer none))
    (c4 : w0.cell? ⟨q, 4, none⟩ = some (.pointer (some x))) (c5 : w0.cell? ⟨q, 5, none⟩ = some (.pointer (some y))) (c6 : w0.cell? ⟨q, 6, none⟩ = some (.slice none 0 0)) (c7 : w0.cell? ⟨q, 7, none⟩ = some (.int .i64 k))
    (hx : Prints 46 w0 x f) (hy : Prints 46 w0 y g) : Prints 46 w0 ⟨q, 0, none⟩ (fBin k f g) := by
  by_cases h : k = 2
  · subst h; exact query_bin_comma w0 q x y f g hq c0 c1 c2 c3 c4 c5 c6 c7 hx hy
  · exact query_bin_op w0 q x y k f g hq k1 k2 (by simpa using h) c0 c1 c2 c3 c4 c5 c6 c7 hx hy
end Go.Proofs.YtejbdgkcoajpfaaDoor
