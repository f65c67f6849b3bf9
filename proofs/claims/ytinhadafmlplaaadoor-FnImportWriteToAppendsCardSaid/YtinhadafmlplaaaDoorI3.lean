/- jsonEncodeString; writeTo of constant terms, of the laws' metadata and of an import, in the notion Prints. Conditions: strings of at most 2^20 bytes; the text stays below 2^40 bytes; the two tables of unicode/utf8 stand. -/
import Derived.Test.YtinhadafmlplaaaDoorI2
set_option linter.unusedVariables false
namespace Go.Proofs.YtinhadafmlplaaaDoor
open Go.Shelf Go.RowKit

theorem calls_name {P : Program} {f : FuncId} {args : Array Value} {w : World} {Q : Ending → World → Prop} (h : ∀ W, W = w → Calls P f args W Q) : Calls P f args w Q := h w rfl
theorem heap_new (w : World) (o : Obj) : (w.alloc o).heap[w.heap.size]? = some o := by first | exact World.alloc_heap_new w o | exact (Go.MapKept.heap_alloc w o).1 | simp
def encQ (s : ByteArray) : List UInt8 := [34] ++ encT s ++ [34]
theorem encQ_len (s : ByteArray) : (encQ s).length = (encT s).length + 2 := by unfold encQ; simp only [List.length_append, List.length_cons, List.length_nil]; omega
theorem bb_lt {B b : Nat} {l : List UInt8} {w : World} (h : BB B b l w) : b < w.heap.size := by
  rcases h.1 with h1 | h1 <;> exact h1.lt
theorem tabs_two {w : World} (h : Lib.Utf8Tabs 0 1 w) : 2 ≤ w.heap.size := by
  have h1 := (h.2 0 (by decide)).1
  have := block_lt_of_cell h1
  simp at this
  omega

@[go_sem] theorem zero_enc (w : World) : (zeroValue 68).run Tryd.prog w = .ok (.agg #[.nilIface, .int .u8 0, .int .u8 0, .int .u8 0, .int .u8 0, .int .u8 0, .int .u8 0, .int .u8 0, .int .u8 0, .int .u8 0, .int .u8 0, .int .u8 0, .int .u8 0, .int .u8 0, .int .u8 0, .int .u8 0, .int .u8 0, .int .u8 0, .int .u8 0, .int .u8 0, .int .u8 0, .int .u8 0, .int .u8 0, .int .u8 0, .int .u8 0, .int .u8 0, .int .u8 0, .int .u8 0, .int .u8 0, .int .u8 0, .int .u8 0, .int .u8 0, .int .u8 0, .int .u8 0, .int .u8 0, .int .u8 0, .int .u8 0, .int .u8 0, .int .u8 0, .int .u8 0, .int .u8 0, .int .u8 0, .int .u8 0, .int .u8 0, .int .u8 0, .int .u8 0, .int .u8 0, .int .u8 0, .int .u8 0, .int .u8 0, .int .u8 0, .int .u8 0, .int .u8 0, .int .u8 0, .int .u8 0, .int .u8 0, .int .u8 0, .int .u8 0, .int .u8 0, .int .u8 0, .int .u8 0, .int .u8 0, .int .u8 0, .int .u8 0, .int .u8 0]) w := by kernel_rfl
set_option maxRecDepth 100000 in
theorem json_any (B b : Nat) (l : List UInt8) (s : ByteArray) (w : World) (hs : s.size ≤ 1048576) (h2 : 2 ≤ B) (hT : Lib.Utf8Tabs 0 1 w) (h : BB B b l w) (hlen : l.length + (encQ s).length ≤ 1099511627776) :
    Calls Tryd.prog 24 #[.pointer (some ⟨b, 0, none⟩), .string s] w fun e w' => e = .returned (.tuple #[]) ∧ BB B b (l ++ encQ s) w' ∧ Below B w w' := by
  rw [encQ_len] at hlen
  have hb := bb_lt h
  have hBw := h.2
  have HB := Lib.hid hb
  have HLEN := Lib.hid hlen
  clear hb hlen
  go_enter Tryd.func24, Tryd.ntmps24
  go_wp2_with fail
  refine calls_name fun W hW => ?_
  have hlow : Below w.heap.size w W := by rw [hW]; exact below_fresh w _
  have hE : EncAt W w.heap.size b := by
    rw [hW]
    exact ⟨_, 68, (0, 0), heap_new w _, by decide, rfl⟩
  have hq : w.heap.size ≠ b := by have := HB.out; omega
  clear hW
  have HC := Lib.hid (enc_any B b w.heap.size l s W hq hs h2 (tabs_kept hT hlow (Nat.le_trans h2 hBw)) (h.below hlow) hE (by have := HLEN.out; omega))
  have HLOW := Lib.hid (hlow.mono hBw)
  clear hlow hE
  refine HC.out.mono ?_
  rintro e w2 ⟨rfl, h2', b2⟩
  go_wp2_with fail
  go_end0
  exact ⟨rfl, by simpa only [encQ, List.append_assoc] using h2', HLOW.out.trans b2⟩

def sNull : List UInt8 := [110, 117, 108, 108]
set_option maxRecDepth 100000 in
theorem const_str (w0 : World) (a : Nat) (s : ByteArray) (ha : a < w0.heap.size) (hs : s.size ≤ 1048576) (hT : Lib.Utf8Tabs 0 1 w0)
    (c0 : w0.cell? ⟨a, 0, none⟩ = some (.pointer none)) (c1 : w0.cell? ⟨a, 1, none⟩ = some (.pointer none)) (c2 : w0.cell? ⟨a, 2, none⟩ = some (.string ⟨#[]⟩)) (c3 : w0.cell? ⟨a, 3, none⟩ = some (.string s)) (c4 : w0.cell? ⟨a, 4, none⟩ = some (.bool false)) (c5 : w0.cell? ⟨a, 5, none⟩ = some (.bool false)) (c6 : w0.cell? ⟨a, 6, none⟩ = some (.bool false)) :
    Prints 19 w0 ⟨a, 0, none⟩ (fun _ => encQ s) := by
  intro B b l w hB hbw hbb hlen
  have d0 : w.cell? ⟨a, 0, none⟩ = some (.pointer none) := (hbw.cell (p := ⟨a, 0, none⟩) ha).trans c0
  have d1 : w.cell? ⟨a, 1, none⟩ = some (.pointer none) := (hbw.cell (p := ⟨a, 1, none⟩) ha).trans c1
  have d2 : w.cell? ⟨a, 2, none⟩ = some (.string ⟨#[]⟩) := (hbw.cell (p := ⟨a, 2, none⟩) ha).trans c2
  have d3 : w.cell? ⟨a, 3, none⟩ = some (.string s) := (hbw.cell (p := ⟨a, 3, none⟩) ha).trans c3
  have d4 : w.cell? ⟨a, 4, none⟩ = some (.bool false) := (hbw.cell (p := ⟨a, 4, none⟩) ha).trans c4
  have d5 : w.cell? ⟨a, 5, none⟩ = some (.bool false) := (hbw.cell (p := ⟨a, 5, none⟩) ha).trans c5
  have d6 : w.cell? ⟨a, 6, none⟩ = some (.bool false) := (hbw.cell (p := ⟨a, 6, none⟩) ha).trans c6
  have HC := Lib.hid (json_any B b l s w hs (Nat.le_trans (tabs_two hT) hB) (tabs_kept hT hbw (tabs_two hT)) hbb hlen)
  clear c0 c1 c2 c3 c4 c5 c6 hlen
  go_enter Tryd.func19, Tryd.ntmps19
  go_wp2_with fail
  refine HC.out.mono ?_
  rintro e w1 ⟨rfl, h1, b1⟩
  go_wp2_with fail
  go_end0
  exact ⟨rfl, h1, b1⟩
set_option maxRecDepth 100000 in
theorem const_null (w0 : World) (a : Nat) (ha : a < w0.heap.size)
    (c0 : w0.cell? ⟨a, 0, none⟩ = some (.pointer none)) (c1 : w0.cell? ⟨a, 1, none⟩ = some (.pointer none)) (c2 : w0.cell? ⟨a, 2, none⟩ = some (.string ⟨#[]⟩)) (c4 : w0.cell? ⟨a, 4, none⟩ = some (.bool true)) :
    Prints 19 w0 ⟨a, 0, none⟩ (fun _ => sNull) := by
  intro B b l w hB hbw hbb hlen
  have d0 : w.cell? ⟨a, 0, none⟩ = some (.pointer none) := (hbw.cell (p := ⟨a, 0, none⟩) ha).trans c0
  have d1 : w.cell? ⟨a, 1, none⟩ = some (.pointer none) := (hbw.cell (p := ⟨a, 1, none⟩) ha).trans c1
  have d2 : w.cell? ⟨a, 2, none⟩ = some (.string ⟨#[]⟩) := (hbw.cell (p := ⟨a, 2, none⟩) ha).trans c2
  have d4 : w.cell? ⟨a, 4, none⟩ = some (.bool true) := (hbw.cell (p := ⟨a, 4, none⟩) ha).trans c4
  clear c0 c1 c2 c4
  go_enter Tryd.func19, Tryd.ntmps19
  go_wp2_with fail
  refine (bb_WriteString B b l ⟨sNull.toArray⟩ _ hbb hlen).mono ?_
  rintro e w1 ⟨rfl, h1, b1⟩
  go_wp2_with fail
  go_end0
  exact ⟨rfl, h1, b1⟩

def sColon : List UInt8 := [58, 32]
set_option maxRecDepth 100000 in
theorem keyval_any (w0 : World) (a : Nat) (x : Addr) (k : ByteArray) (T : List UInt8) (ha : a < w0.heap.size) (hk : k.toList.isEmpty = false)
    (c0 : w0.cell? ⟨a, 0, none⟩ = some (.string k)) (c2 : w0.cell? ⟨a, 2, none⟩ = some (.pointer (some x))) (hx : Prints 19 w0 x (fun _ => T)) :
    Prints 27 w0 ⟨a, 0, none⟩ (fun _ => k.data.toList ++ sColon ++ T) := by
  intro B b l w hB hbw hbb hlen
  have HL := Lib.hid (show l.length + (k.data.toList ++ sColon ++ T).length ≤ 1099511627776 from hlen)
  clear hlen
  have ha' : a < B := Nat.lt_of_lt_of_le ha hB
  have d0 : w.cell? ⟨a, 0, none⟩ = some (.string k) := (hbw.cell (p := ⟨a, 0, none⟩) ha).trans c0
  have d2 : w.cell? ⟨a, 2, none⟩ = some (.pointer (some x)) := (hbw.cell (p := ⟨a, 2, none⟩) ha).trans c2
  have hk2 : (k.toList == []) = false := by cases h : k.toList <;> simp_all
  clear c0 c2
  go_enter Tryd.func27, Tryd.ntmps27
  go_wp2_with fail
  refine (bb_WriteString B b l k _ hbb (by have := HL.out; simp only [List.length_append] at this ⊢; omega)).mono ?_
  rintro e w1 ⟨rfl, h1, b1⟩
  have e2 := (b1.cell (p := ⟨a, 2, none⟩) ha').trans d2
  go_wp2_with fail
  refine (bb_WriteString B b (l ++ k.data.toList) ⟨sColon.toArray⟩ _ h1 (by have := HL.out; simp only [List.length_append] at this ⊢; omega)).mono ?_
  rintro e w2 ⟨rfl, h2, b2⟩
  have g2 := (b2.cell (p := ⟨a, 2, none⟩) ha').trans e2
  clear d0 d2 e2
  go_wp2_with fail
  refine (hx B b (l ++ k.data.toList ++ sColon) _ hB (hbw.trans ((b1.trans b2).mono hB)) h2 (by have := HL.out; simp only [List.length_append] at this ⊢; omega)).mono ?_
  rintro e w3 ⟨rfl, h3, b3⟩
  go_wp2_with fail
  go_end0
  exact ⟨rfl, by simpa only [List.append_assoc] using h3, b1.trans (b2.trans b3)⟩

set_option maxRecDepth 100000 in
theorem object_empty (w0 : World) (a : Nat) (ha : a < w0.heap.size) (c0 : w0.cell? ⟨a, 0, none⟩ = some (.slice none 0 0)) :
    Prints 22 w0 ⟨a, 0, none⟩ (fun _ => [123, 125]) := by
  intro B b l w hB hbw hbb hlen
  have d0 : w.cell? ⟨a, 0, none⟩ = some (.slice none 0 0) := (hbw.cell (p := ⟨a, 0, none⟩) ha).trans c0
  clear c0
  go_enter Tryd.func22, Tryd.ntmps22
  go_wp2_with fail
  refine (bb_WriteString B b l ⟨#[123, 125]⟩ _ hbb hlen).mono ?_
  rintro e w1 ⟨rfl, h1, b1⟩
  go_wp2_with fail
  exact bodyPost_ret (v := .tuple #[]) (results_none rfl _ _ _) rfl ⟨rfl, h1, b1⟩
set_option maxRecDepth 100000 in
theorem object_one (w0 : World) (a g c : Nat) (x : Addr) (T : List UInt8) (ha : a < w0.heap.size) (hg : g < w0.heap.size) (c0 : w0.cell? ⟨a, 0, none⟩ = some (.slice (some ⟨g, 0, none⟩) 1 c)) (cg : w0.cell? ⟨g, 0, none⟩ = some (.pointer (some x))) (hx : Prints 27 w0 x (fun _ => T)) :
    Prints 22 w0 ⟨a, 0, none⟩ (fun _ => [123, 32] ++ T ++ [32, 125]) := by
  intro B b l w hB hbw hbb hlen
  have HL := Lib.hid (show l.length + ([123, 32] ++ T ++ [32, 125]).length ≤ 1099511627776 from hlen)
  clear hlen
  have ha' : a < B := Nat.lt_of_lt_of_le ha hB
  have d0 : w.cell? ⟨a, 0, none⟩ = some (.slice (some ⟨g, 0, none⟩) 1 c) := (hbw.cell (p := ⟨a, 0, none⟩) ha).trans c0
  clear c0
  go_enter Tryd.func22, Tryd.ntmps22
  go_wp2_with fail
  refine (bb_WriteString B b l ⟨#[123, 32]⟩ _ hbb (by have := HL.out; simp only [List.length_append, List.length_cons, List.length_nil] at this ⊢; omega)).mono ?_
  rintro e w1 ⟨rfl, h1, b1⟩
  have e0 := (b1.cell (p := ⟨a, 0, none⟩) ha').trans d0
  have eg : w1.cell? ⟨g, 0, none⟩ = some (.pointer (some x)) := (b1.cell (p := ⟨g, 0, none⟩) (Nat.lt_of_lt_of_le hg hB)).trans ((hbw.cell (p := ⟨g, 0, none⟩) hg).trans cg)
  clear d0 cg
  go_wp2_with fail
  refine wp_loop_rounds 2 ?_
  rw [rounds_succ]
  go_wp2_with fail
  refine (hx B b (l ++ [123, 32]) _ hB (hbw.trans (b1.mono hB)) h1 (by have := HL.out; simp only [List.length_append, List.length_cons, List.length_nil] at this ⊢; omega)).mono ?_
  rintro e w2 ⟨rfl, h2, b2⟩
  go_wp2_with fail
  rw [rounds_succ]
  go_wp2_with fail
  refine (bb_WriteString B b (l ++ [123, 32] ++ T) ⟨#[32, 125]⟩ _ h2 (by have := HL.out; simp only [List.length_append, List.length_cons, List.length_nil] at this ⊢; omega)).mono ?_
  rintro e w3 ⟨rfl, h3, b3⟩
  go_wp2_with fail
  go_end0
  exact ⟨rfl, by simpa only [List.append_assoc, List.cons_append, List.nil_append] using h3, b1.trans (b2.trans b3)⟩

def sImport : List UInt8 := [105, 109, 112, 111, 114, 116, 32]
def sAs : List UInt8 := [32, 97, 115, 32]
def sInclude : List UInt8 := [105, 110, 99, 108, 117, 100, 101, 32]
def sEnd : List UInt8 := [59, 10]
def metaT (m : Option (List UInt8)) : List UInt8 := match m with | none => [] | some T => [32] ++ T
/-- The metadata's pointer, and what it prints. -/
def MetaAt (w0 : World) (m : Option Addr) (T : Option (List UInt8)) : Prop := (m = none ∧ T = none) ∨ ∃ x U, m = some x ∧ T = some U ∧ Prints 22 w0 x (fun _ => U)
def impT (p al ic : ByteArray) (T : Option (List UInt8)) : List UInt8 :=
  if p.size = 0 then sInclude ++ encQ ic ++ metaT T ++ sEnd else sImport ++ encQ p ++ sAs ++ al.data.toList ++ metaT T ++ sEnd
end Go.Proofs.YtinhadafmlplaaaDoor
