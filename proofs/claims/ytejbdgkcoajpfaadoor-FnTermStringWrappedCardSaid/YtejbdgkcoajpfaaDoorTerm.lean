/- Term.writeTo of leaf terms without suffixes, in the notion Prints. Condition: the text stays below 2^40 bytes. -/
import Derived.Test.YtejbdgkcoajpfaaDoorIdx
set_option linter.unusedVariables false
namespace Go.Proofs.YtejbdgkcoajpfaaDoor
open Go.Shelf Go.RowKit

set_option maxRecDepth 100000 in
theorem term_index (w0 : World) (t : Nat) (x : Addr) (f : List UInt8 → List UInt8) (ht : t < w0.heap.size) (c0 : w0.cell? ⟨t, 0, none⟩ = some (.int .i64 6)) (c1 : w0.cell? ⟨t, 1, none⟩ = some (.pointer (some x))) (c16 : w0.cell? ⟨t, 16, none⟩ = some (.slice none 0 0)) (hx : Prints 51 w0 x f) :
    Prints 45 w0 ⟨t, 0, none⟩ (f) := by
  intro B b l w hB hbw hbb hlen
  have d0 : w.cell? ⟨t, 0, none⟩ = some (.int .i64 6) := (hbw.cell (p := ⟨t, 0, none⟩) ht).trans c0
  have d1 : w.cell? ⟨t, 1, none⟩ = some (.pointer (some x)) := (hbw.cell (p := ⟨t, 1, none⟩) ht).trans c1
  have d16 : w.cell? ⟨t, 16, none⟩ = some (.slice none 0 0) := (hbw.cell (p := ⟨t, 16, none⟩) ht).trans c16
  have ht' : t < B := Nat.lt_of_lt_of_le ht hB
  clear c0 c1 c16
  go_enter Tryd.func45, Tryd.ntmps45
  go_wp2_with fail
  refine (hx B b l _ hB hbw hbb hlen).mono ?_
  rintro e w1 ⟨rfl, h1, b1⟩
  have e16 : w1.cell? ⟨t, 16, none⟩ = some (.slice none 0 0) := (b1.cell (p := ⟨t, 16, none⟩) ht').trans d16
  go_wp2_with fail
  refine wp_loop_rounds 1 ?_
  rw [rounds_succ]
  go_wp2_with fail
  go_end0
  exact ⟨rfl, h1, b1⟩

set_option maxRecDepth 100000 in
theorem term_func (w0 : World) (t : Nat) (x : Addr) (f : List UInt8 → List UInt8) (ht : t < w0.heap.size) (c0 : w0.cell? ⟨t, 0, none⟩ = some (.int .i64 7)) (c2 : w0.cell? ⟨t, 2, none⟩ = some (.pointer (some x))) (c16 : w0.cell? ⟨t, 16, none⟩ = some (.slice none 0 0)) (hx : Prints 52 w0 x f) :
    Prints 45 w0 ⟨t, 0, none⟩ (f) := by
  intro B b l w hB hbw hbb hlen
  have d0 : w.cell? ⟨t, 0, none⟩ = some (.int .i64 7) := (hbw.cell (p := ⟨t, 0, none⟩) ht).trans c0
  have d2 : w.cell? ⟨t, 2, none⟩ = some (.pointer (some x)) := (hbw.cell (p := ⟨t, 2, none⟩) ht).trans c2
  have d16 : w.cell? ⟨t, 16, none⟩ = some (.slice none 0 0) := (hbw.cell (p := ⟨t, 16, none⟩) ht).trans c16
  have ht' : t < B := Nat.lt_of_lt_of_le ht hB
  clear c0 c2 c16
  go_enter Tryd.func45, Tryd.ntmps45
  go_wp2_with fail
  refine (hx B b l _ hB hbw hbb hlen).mono ?_
  rintro e w1 ⟨rfl, h1, b1⟩
  have e16 : w1.cell? ⟨t, 16, none⟩ = some (.slice none 0 0) := (b1.cell (p := ⟨t, 16, none⟩) ht').trans d16
  go_wp2_with fail
  refine wp_loop_rounds 1 ?_
  rw [rounds_succ]
  go_wp2_with fail
  go_end0
  exact ⟨rfl, h1, b1⟩

set_option maxRecDepth 100000 in
theorem term_number (w0 : World) (t : Nat) (s : ByteArray) (ht : t < w0.heap.size) (c0 : w0.cell? ⟨t, 0, none⟩ = some (.int .i64 10)) (c5 : w0.cell? ⟨t, 5, none⟩ = some (.string s)) (c16 : w0.cell? ⟨t, 16, none⟩ = some (.slice none 0 0))  :
    Prints 45 w0 ⟨t, 0, none⟩ (fun _ => s.data.toList) := by
  intro B b l w hB hbw hbb hlen
  have d0 : w.cell? ⟨t, 0, none⟩ = some (.int .i64 10) := (hbw.cell (p := ⟨t, 0, none⟩) ht).trans c0
  have d5 : w.cell? ⟨t, 5, none⟩ = some (.string s) := (hbw.cell (p := ⟨t, 5, none⟩) ht).trans c5
  have d16 : w.cell? ⟨t, 16, none⟩ = some (.slice none 0 0) := (hbw.cell (p := ⟨t, 16, none⟩) ht).trans c16
  have ht' : t < B := Nat.lt_of_lt_of_le ht hB
  clear c0 c5 c16
  go_enter Tryd.func45, Tryd.ntmps45
  go_wp2_with fail
  refine (bb_WriteString B b l s _ hbb hlen).mono ?_
  rintro e w1 ⟨rfl, h1, b1⟩
  have e16 : w1.cell? ⟨t, 16, none⟩ = some (.slice none 0 0) := (b1.cell (p := ⟨t, 16, none⟩) ht').trans d16
  go_wp2_with fail
  refine wp_loop_rounds 1 ?_
  rw [rounds_succ]
  go_wp2_with fail
  go_end0
  exact ⟨rfl, h1, b1⟩

set_option maxRecDepth 100000 in
theorem term_ident (w0 : World) (t : Nat)  (ht : t < w0.heap.size) (c0 : w0.cell? ⟨t, 0, none⟩ = some (.int .i64 1)) (c16 : w0.cell? ⟨t, 16, none⟩ = some (.slice none 0 0))  :
    Prints 45 w0 ⟨t, 0, none⟩ (fun _ => [46]) := by
  intro B b l w hB hbw hbb hlen
  have d0 : w.cell? ⟨t, 0, none⟩ = some (.int .i64 1) := (hbw.cell (p := ⟨t, 0, none⟩) ht).trans c0
  have d16 : w.cell? ⟨t, 16, none⟩ = some (.slice none 0 0) := (hbw.cell (p := ⟨t, 16, none⟩) ht).trans c16
  have ht' : t < B := Nat.lt_of_lt_of_le ht hB
  clear c0 c16
  go_enter Tryd.func45, Tryd.ntmps45
  go_wp2_with fail
  refine (bb_WriteByte B b l 46 46 _ hbb rfl hlen).mono ?_
  rintro e w1 ⟨rfl, h1, b1⟩
  have e16 : w1.cell? ⟨t, 16, none⟩ = some (.slice none 0 0) := (b1.cell (p := ⟨t, 16, none⟩) ht').trans d16
  go_wp2_with fail
  refine wp_loop_rounds 1 ?_
  rw [rounds_succ]
  go_wp2_with fail
  go_end0
  exact ⟨rfl, h1, b1⟩

set_option maxRecDepth 100000 in
theorem term_label (w0 : World) (t : Nat) (x : Addr) (f : List UInt8 → List UInt8) (ht : t < w0.heap.size) (c0 : w0.cell? ⟨t, 0, none⟩ = some (.int .i64 18)) (c13 : w0.cell? ⟨t, 13, none⟩ = some (.pointer (some x))) (c16 : w0.cell? ⟨t, 16, none⟩ = some (.slice none 0 0)) (hx : Prints 43 w0 x f) :
    Prints 45 w0 ⟨t, 0, none⟩ (f) := by
  intro B b l w hB hbw hbb hlen
  have d0 : w.cell? ⟨t, 0, none⟩ = some (.int .i64 18) := (hbw.cell (p := ⟨t, 0, none⟩) ht).trans c0
  have d13 : w.cell? ⟨t, 13, none⟩ = some (.pointer (some x)) := (hbw.cell (p := ⟨t, 13, none⟩) ht).trans c13
  have d16 : w.cell? ⟨t, 16, none⟩ = some (.slice none 0 0) := (hbw.cell (p := ⟨t, 16, none⟩) ht).trans c16
  have ht' : t < B := Nat.lt_of_lt_of_le ht hB
  clear c0 c13 c16
  go_enter Tryd.func45, Tryd.ntmps45
  go_wp2_with fail
  refine (hx B b l _ hB hbw hbb hlen).mono ?_
  rintro e w1 ⟨rfl, h1, b1⟩
  have e16 : w1.cell? ⟨t, 16, none⟩ = some (.slice none 0 0) := (b1.cell (p := ⟨t, 16, none⟩) ht').trans d16
  go_wp2_with fail
  refine wp_loop_rounds 1 ?_
  rw [rounds_succ]
  go_wp2_with fail
  go_end0
  exact ⟨rfl, h1, b1⟩

end Go.Proofs.YtejbdgkcoajpfaaDoor
