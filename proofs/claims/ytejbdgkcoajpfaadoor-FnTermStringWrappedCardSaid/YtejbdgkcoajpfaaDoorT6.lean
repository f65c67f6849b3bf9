/- Terms around a term: an array, parentheses, a unary minus. Condition: the text stays below 2^40 bytes. -/
import Derived.Test.YtejbdgkcoajpfaaDoorT5
import Derived.Test.YtejbdgkcoajpfaaDoorCmp2
set_option linter.unusedVariables false
namespace Go.Proofs.YtejbdgkcoajpfaaDoor
open Go.Shelf Go.RowKit

theorem gap_app (L : List UInt8) (h : gap L = []) (X : List UInt8) : gap (L ++ X) = gap X := by
  rcases List.eq_nil_or_concat X with rfl | ⟨Y, c, rfl⟩
  · rw [List.append_nil, h]; rfl
  · rw [List.concat_eq_append, ← List.append_assoc, gap, gap, gapB_snoc, gapB_snoc]
theorem sfxAdd_app (L : List UInt8) (h : gap L = []) (X : List UInt8) (c : Nat) : sfxAdd (L ++ X) c = sfxAdd X c := by
  unfold sfxAdd; rw [gap_app L h X]
theorem sfxN_app (f : Nat → Nat) (L : List UInt8) (h : gap L = []) (X : List UInt8) : ∀ n, sfxN f (L ++ X) n = sfxN f X n
  | 0 => rfl
  | n + 1 => by rw [sfxN, sfxN, sfxN_app f L h X n, List.append_assoc, sfxAdd_app L h]

set_option maxRecDepth 100000 in
theorem array_q (w0 : World) (a : Nat) (x : Addr) (f : List UInt8 → List UInt8) (ha : a < w0.heap.size) (c0 : w0.cell? ⟨a, 0, none⟩ = some (.pointer (some x))) (hx : Prints 46 w0 x f) :
    Prints 54 w0 ⟨a, 0, none⟩ (fun l => [91] ++ f (l ++ [91]) ++ [93]) := by
  intro B b l w hB hbw hbb hlen
  have HL := Lib.hid (show l.length + ([91] ++ f (l ++ [91]) ++ [93]).length ≤ 1099511627776 from hlen)
  clear hlen
  have d0 : w.cell? ⟨a, 0, none⟩ = some (.pointer (some x)) := (hbw.cell (p := ⟨a, 0, none⟩) ha).trans c0
  have D0 := Lib.hid d0
  clear d0
  go_enter Tryd.func54, Tryd.ntmps54
  go_wp2_with fail
  refine (bb_WriteByte B b l 91 91 _ hbb rfl (by have := HL.out; simp only [List.length_append, List.length_cons, List.length_nil] at this; omega)).mono ?_
  rintro e w1 ⟨rfl, h1, b1⟩
  have d1 : w1.cell? ⟨a, 0, none⟩ = some (.pointer (some x)) := (b1.cell (p := ⟨a, 0, none⟩) (Nat.lt_of_lt_of_le ha hB)).trans D0.out
  go_wp2_with fail
  refine (hx B b (l ++ [91]) _ hB (hbw.trans (b1.mono hB)) h1 (by have := HL.out; simp only [List.length_append, List.length_cons, List.length_nil] at this ⊢; omega)).mono ?_
  rintro e w2 ⟨rfl, h2, b2⟩
  go_wp2_with fail
  refine (bb_WriteByte B b _ 93 93 _ h2 rfl (by have := HL.out; simp only [List.length_append, List.length_cons, List.length_nil] at this ⊢; omega)).mono ?_
  rintro e w3 ⟨rfl, h3, b3⟩
  go_wp2_with fail
  go_end0
  exact ⟨rfl, by simpa only [List.append_assoc, List.cons_append, List.nil_append] using h3, (b1.trans b2).trans b3⟩
set_option maxRecDepth 100000 in
theorem unary_t (w0 : World) (a : Nat) (x : Addr) (f : List UInt8 → List UInt8) (ha : a < w0.heap.size) (c0 : w0.cell? ⟨a, 0, none⟩ = some (.int .i64 4)) (c1 : w0.cell? ⟨a, 1, none⟩ = some (.pointer (some x))) (hx : Prints 45 w0 x f) :
    Prints 55 w0 ⟨a, 0, none⟩ (fun l => [45] ++ f (l ++ [45])) := by
  intro B b l w hB hbw hbb hlen
  have HL := Lib.hid (show l.length + ([45] ++ f (l ++ [45])).length ≤ 1099511627776 from hlen)
  clear hlen
  have d0 : w.cell? ⟨a, 0, none⟩ = some (.int .i64 4) := (hbw.cell (p := ⟨a, 0, none⟩) ha).trans c0
  have d1 : w.cell? ⟨a, 1, none⟩ = some (.pointer (some x)) := (hbw.cell (p := ⟨a, 1, none⟩) ha).trans c1
  have D1 := Lib.hid d1
  clear d1
  go_enter Tryd.func55, Tryd.ntmps55
  go_wp2_with fail
  refine (op_String 4 (by decide) (by decide) _).mono ?_
  rintro e w1 ⟨rfl, rfl⟩
  go_wp2_with fail
  refine (bb_WriteString B b l ⟨#[45]⟩ _ hbb (by have := HL.out; simp only [List.length_append, List.length_cons, List.length_nil] at this ⊢; omega)).mono ?_
  rintro e w1 ⟨rfl, h1, b1⟩
  have d1 : w1.cell? ⟨a, 1, none⟩ = some (.pointer (some x)) := (b1.cell (p := ⟨a, 1, none⟩) (Nat.lt_of_lt_of_le ha hB)).trans D1.out
  go_wp2_with fail
  refine (hx B b (l ++ [45]) _ hB (hbw.trans (b1.mono hB)) h1 (by have := HL.out; simp only [List.length_append, List.length_cons, List.length_nil] at this ⊢; omega)).mono ?_
  rintro e w2 ⟨rfl, h2, b2⟩
  go_wp2_with fail
  go_end0
  exact ⟨rfl, by simpa only [List.append_assoc, List.cons_append, List.nil_append] using h2, b1.trans b2⟩
set_option maxRecDepth 100000 in
theorem term_array (w0 : World) (t : Nat) (x : Addr) (f : List UInt8 → List UInt8) (ht : t < w0.heap.size) (c0 : w0.cell? ⟨t, 0, none⟩ = some (.int .i64 9)) (c1 : w0.cell? ⟨t, 4, none⟩ = some (.pointer (some x))) (c16 : w0.cell? ⟨t, 16, none⟩ = some (.slice none 0 0)) (hx : Prints 54 w0 x f) :
    Prints 45 w0 ⟨t, 0, none⟩ f := by
  intro B b l w hB hbw hbb hlen
  have d0 : w.cell? ⟨t, 0, none⟩ = some (.int .i64 9) := (hbw.cell (p := ⟨t, 0, none⟩) ht).trans c0
  have d1 : w.cell? ⟨t, 4, none⟩ = some (.pointer (some x)) := (hbw.cell (p := ⟨t, 4, none⟩) ht).trans c1
  have D16 := Lib.hid ((hbw.cell (p := ⟨t, 16, none⟩) ht).trans c16)
  have ht' : t < B := Nat.lt_of_lt_of_le ht hB
  clear c0 c1 c16
  go_enter Tryd.func45, Tryd.ntmps45
  go_wp2_with fail
  refine (hx B b l _ hB hbw hbb hlen).mono ?_
  rintro e w1 ⟨rfl, h1, b1⟩
  have e16 := (b1.cell (p := ⟨t, 16, none⟩) ht').trans D16.out
  clear d0 d1
  go_wp2_with fail
  refine wp_loop_rounds 1 ?_
  rw [rounds_succ]
  go_wp2_with fail
  go_end0
  exact ⟨rfl, h1, b1⟩
set_option maxRecDepth 100000 in
theorem term_unary (w0 : World) (t : Nat) (x : Addr) (f : List UInt8 → List UInt8) (ht : t < w0.heap.size) (c0 : w0.cell? ⟨t, 0, none⟩ = some (.int .i64 11)) (c1 : w0.cell? ⟨t, 6, none⟩ = some (.pointer (some x))) (c16 : w0.cell? ⟨t, 16, none⟩ = some (.slice none 0 0)) (hx : Prints 55 w0 x f) :
    Prints 45 w0 ⟨t, 0, none⟩ f := by
  intro B b l w hB hbw hbb hlen
  have d0 : w.cell? ⟨t, 0, none⟩ = some (.int .i64 11) := (hbw.cell (p := ⟨t, 0, none⟩) ht).trans c0
  have d1 : w.cell? ⟨t, 6, none⟩ = some (.pointer (some x)) := (hbw.cell (p := ⟨t, 6, none⟩) ht).trans c1
  have D16 := Lib.hid ((hbw.cell (p := ⟨t, 16, none⟩) ht).trans c16)
  have ht' : t < B := Nat.lt_of_lt_of_le ht hB
  clear c0 c1 c16
  go_enter Tryd.func45, Tryd.ntmps45
  go_wp2_with fail
  refine (hx B b l _ hB hbw hbb hlen).mono ?_
  rintro e w1 ⟨rfl, h1, b1⟩
  have e16 := (b1.cell (p := ⟨t, 16, none⟩) ht').trans D16.out
  clear d0 d1
  go_wp2_with fail
  refine wp_loop_rounds 1 ?_
  rw [rounds_succ]
  go_wp2_with fail
  go_end0
  exact ⟨rfl, h1, b1⟩
set_option maxRecDepth 100000 in
theorem term_par (w0 : World) (t : Nat) (x : Addr) (f : List UInt8 → List UInt8) (ht : t < w0.heap.size) (c0 : w0.cell? ⟨t, 0, none⟩ = some (.int .i64 20)) (c1 : w0.cell? ⟨t, 15, none⟩ = some (.pointer (some x))) (c16 : w0.cell? ⟨t, 16, none⟩ = some (.slice none 0 0)) (hx : Prints 46 w0 x f) :
    Prints 45 w0 ⟨t, 0, none⟩ (fun l => [40] ++ f (l ++ [40]) ++ [41]) := by
  intro B b l w hB hbw hbb hlen
  have HL := Lib.hid (show l.length + ([40] ++ f (l ++ [40]) ++ [41]).length ≤ 1099511627776 from hlen)
  clear hlen
  have d0 : w.cell? ⟨t, 0, none⟩ = some (.int .i64 20) := (hbw.cell (p := ⟨t, 0, none⟩) ht).trans c0
  have D1 := Lib.hid ((hbw.cell (p := ⟨t, 15, none⟩) ht).trans c1)
  have D16 := Lib.hid ((hbw.cell (p := ⟨t, 16, none⟩) ht).trans c16)
  have ht' : t < B := Nat.lt_of_lt_of_le ht hB
  clear c0 c1 c16
  go_enter Tryd.func45, Tryd.ntmps45
  go_wp2_with fail
  refine (bb_WriteByte B b l 40 40 _ hbb rfl (by have := HL.out; simp only [List.length_append, List.length_cons, List.length_nil] at this; omega)).mono ?_
  rintro e w1 ⟨rfl, h1, b1⟩
  have e15 := (b1.cell (p := ⟨t, 15, none⟩) ht').trans D1.out
  clear d0
  go_wp2_with fail
  refine (hx B b (l ++ [40]) _ hB (hbw.trans (b1.mono hB)) h1 (by have := HL.out; simp only [List.length_append, List.length_cons, List.length_nil] at this ⊢; omega)).mono ?_
  rintro e w2 ⟨rfl, h2, b2⟩
  clear e15
  go_wp2_with fail
  refine (bb_WriteByte B b _ 41 41 _ h2 rfl (by have := HL.out; simp only [List.length_append, List.length_cons, List.length_nil] at this ⊢; omega)).mono ?_
  rintro e w3 ⟨rfl, h3, b3⟩
  have bb := (b1.trans b2).trans b3
  have e16 := (bb.cell (p := ⟨t, 16, none⟩) ht').trans D16.out
  go_wp2_with fail
  refine wp_loop_rounds 1 ?_
  rw [rounds_succ]
  go_wp2_with fail
  go_end0
  exact ⟨rfl, by simpa only [List.append_assoc, List.cons_append, List.nil_append] using h3, bb⟩
end Go.Proofs.YtejbdgkcoajpfaaDoor
