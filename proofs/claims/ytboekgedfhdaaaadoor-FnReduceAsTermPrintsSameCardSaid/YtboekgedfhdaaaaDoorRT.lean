/- Terms of a reduce and of a foreach, bare or with one suffix []; a query of one term. Condition: the text stays below 2^40 bytes. -/
import Derived.Test.YtboekgedfhdaaaaDoorRB
set_option linter.unusedVariables false
namespace Go.Proofs.YtboekgedfhdaaaaDoor
open Go.Shelf Go.RowKit


set_option maxRecDepth 100000 in
theorem suffix_iter (w0 : World) (a : Nat) (ha : a < w0.heap.size) (c0 : w0.cell? ⟨a, 0, none⟩ = some (.pointer none)) (c1 : w0.cell? ⟨a, 1, none⟩ = some (.bool true)) :
    Prints 59 w0 ⟨a, 0, none⟩ (fun _ => [91, 93]) := by
  intro B b l w hB hbw hbb hlen
  have d0 : w.cell? ⟨a, 0, none⟩ = some (.pointer none) := (hbw.cell (p := ⟨a, 0, none⟩) ha).trans c0
  have d1 : w.cell? ⟨a, 1, none⟩ = some (.bool true) := (hbw.cell (p := ⟨a, 1, none⟩) ha).trans c1
  clear c0 c1
  go_enter Tryd.func59, Tryd.ntmps59
  go_wp2_with fail
  refine (bb_WriteString B b l ⟨#[91, 93]⟩ _ hbb hlen).mono ?_
  rintro e w1 ⟨rfl, h1, b1⟩
  go_wp2_with fail
  go_end0
  exact ⟨rfl, h1, b1⟩
theorem calls_name {P : Program} {f : FuncId} {args : Array Value} {w : World} {Q : Ending → World → Prop} (h : ∀ W, W = w → Calls P f args W Q) : Calls P f args w Q := h w rfl

set_option maxRecDepth 100000 in
theorem term_reduce (w0 : World) (t : Nat) (x : Addr) (T : List UInt8) (ht : t < w0.heap.size) (c0 : w0.cell? ⟨t, 0, none⟩ = some (.int .i64 16)) (c1 : w0.cell? ⟨t, 11, none⟩ = some (.pointer (some x))) (c16 : w0.cell? ⟨t, 16, none⟩ = some (.slice none 0 0)) (hx : Prints 34 w0 x (fun _ => T)) :
    Prints 44 w0 ⟨t, 0, none⟩ (fun _ => T) := by
  intro B b l w hB hbw hbb hlen
  have HL := Lib.hid (show l.length + (T).length ≤ 1099511627776 from hlen)
  clear hlen
  have d0 : w.cell? ⟨t, 0, none⟩ = some (.int .i64 16) := (hbw.cell (p := ⟨t, 0, none⟩) ht).trans c0
  have d1 : w.cell? ⟨t, 11, none⟩ = some (.pointer (some x)) := (hbw.cell (p := ⟨t, 11, none⟩) ht).trans c1
  have d16 : w.cell? ⟨t, 16, none⟩ = some (.slice none 0 0) := (hbw.cell (p := ⟨t, 16, none⟩) ht).trans c16
  have ht' : t < B := Nat.lt_of_lt_of_le ht hB
  clear c0 c1 c16
  go_enter Tryd.func44, Tryd.ntmps44
  go_wp2_with fail
  refine (hx B b l _ hB hbw hbb (by have := HL.out; show l.length + T.length ≤ _; omega)).mono ?_
  rintro e w1 ⟨rfl, h1, b1⟩
  have e16 : w1.cell? ⟨t, 16, none⟩ = some (.slice none 0 0) := (b1.cell (p := ⟨t, 16, none⟩) ht').trans d16
  clear d0 d1 d16
  go_wp2_with fail
  refine wp_loop_rounds 1 ?_
  rw [rounds_succ]
  go_wp2_with fail
  go_end0
  exact ⟨rfl, h1, b1⟩

set_option maxRecDepth 100000 in
theorem term_reduce_iter (w0 : World) (t : Nat) (x : Addr) (T : List UInt8) (ht : t < w0.heap.size) (g cc sx : Nat) (hg : g < w0.heap.size) (cg : w0.cell? ⟨g, 0, none⟩ = some (.pointer (some ⟨sx, 0, none⟩))) (hs : Prints 59 w0 ⟨sx, 0, none⟩ (fun _ => [91, 93])) (c0 : w0.cell? ⟨t, 0, none⟩ = some (.int .i64 16)) (c1 : w0.cell? ⟨t, 11, none⟩ = some (.pointer (some x))) (c16 : w0.cell? ⟨t, 16, none⟩ = some (.slice (some ⟨g, 0, none⟩) 1 cc)) (hx : Prints 34 w0 x (fun _ => T)) :
    Prints 44 w0 ⟨t, 0, none⟩ (fun _ => T ++ [91, 93]) := by
  intro B b l w hB hbw hbb hlen
  have HL := Lib.hid (show l.length + (T ++ [91, 93]).length ≤ 1099511627776 from hlen)
  clear hlen
  have d0 : w.cell? ⟨t, 0, none⟩ = some (.int .i64 16) := (hbw.cell (p := ⟨t, 0, none⟩) ht).trans c0
  have d1 : w.cell? ⟨t, 11, none⟩ = some (.pointer (some x)) := (hbw.cell (p := ⟨t, 11, none⟩) ht).trans c1
  have d16 : w.cell? ⟨t, 16, none⟩ = some (.slice (some ⟨g, 0, none⟩) 1 cc) := (hbw.cell (p := ⟨t, 16, none⟩) ht).trans c16
  have ht' : t < B := Nat.lt_of_lt_of_le ht hB
  clear c0 c1 c16
  go_enter Tryd.func44, Tryd.ntmps44
  go_wp2_with fail
  refine (hx B b l _ hB hbw hbb (by have := HL.out; simp only [List.length_append] at this; show l.length + T.length ≤ _; omega)).mono ?_
  rintro e w1 ⟨rfl, h1, b1⟩
  have e16 : w1.cell? ⟨t, 16, none⟩ = some (.slice (some ⟨g, 0, none⟩) 1 cc) := (b1.cell (p := ⟨t, 16, none⟩) ht').trans d16
  clear d0 d1 d16
  have eg : w1.cell? ⟨g, 0, none⟩ = some (.pointer (some ⟨sx, 0, none⟩)) := (b1.cell (p := ⟨g, 0, none⟩) (Nat.lt_of_lt_of_le hg hB)).trans ((hbw.cell (p := ⟨g, 0, none⟩) hg).trans cg)
  clear cg
  go_wp2_with fail
  refine wp_loop_rounds 2 ?_
  rw [rounds_succ]
  go_wp2_with fail
  refine (hs B b (l ++ T) _ hB (hbw.trans (b1.mono hB)) h1 (by have := HL.out; simp only [List.length_append] at this ⊢; omega)).mono ?_
  rintro e w2 ⟨rfl, h2, b2⟩
  go_wp2_with fail
  rw [rounds_succ]
  go_wp2_with fail
  go_end0
  exact ⟨rfl, by simpa only [List.append_assoc] using h2, b1.trans b2⟩

set_option maxRecDepth 100000 in
theorem term_foreach (w0 : World) (t : Nat) (x : Addr) (T : List UInt8) (ht : t < w0.heap.size) (c0 : w0.cell? ⟨t, 0, none⟩ = some (.int .i64 17)) (c1 : w0.cell? ⟨t, 12, none⟩ = some (.pointer (some x))) (c16 : w0.cell? ⟨t, 16, none⟩ = some (.slice none 0 0)) (hx : Prints 36 w0 x (fun _ => T)) :
    Prints 44 w0 ⟨t, 0, none⟩ (fun _ => T) := by
  intro B b l w hB hbw hbb hlen
  have HL := Lib.hid (show l.length + (T).length ≤ 1099511627776 from hlen)
  clear hlen
  have d0 : w.cell? ⟨t, 0, none⟩ = some (.int .i64 17) := (hbw.cell (p := ⟨t, 0, none⟩) ht).trans c0
  have d1 : w.cell? ⟨t, 12, none⟩ = some (.pointer (some x)) := (hbw.cell (p := ⟨t, 12, none⟩) ht).trans c1
  have d16 : w.cell? ⟨t, 16, none⟩ = some (.slice none 0 0) := (hbw.cell (p := ⟨t, 16, none⟩) ht).trans c16
  have ht' : t < B := Nat.lt_of_lt_of_le ht hB
  clear c0 c1 c16
  go_enter Tryd.func44, Tryd.ntmps44
  go_wp2_with fail
  refine (hx B b l _ hB hbw hbb (by have := HL.out; show l.length + T.length ≤ _; omega)).mono ?_
  rintro e w1 ⟨rfl, h1, b1⟩
  have e16 : w1.cell? ⟨t, 16, none⟩ = some (.slice none 0 0) := (b1.cell (p := ⟨t, 16, none⟩) ht').trans d16
  clear d0 d1 d16
  go_wp2_with fail
  refine wp_loop_rounds 1 ?_
  rw [rounds_succ]
  go_wp2_with fail
  go_end0
  exact ⟨rfl, h1, b1⟩
end Go.Proofs.YtboekgedfhdaaaaDoor
