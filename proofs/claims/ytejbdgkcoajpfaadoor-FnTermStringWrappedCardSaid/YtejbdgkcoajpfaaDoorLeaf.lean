/- writeTo of a bare function call, of a field index and of leaf terms, in the notion Prints. Condition: the text stays below 2^40 bytes. -/
import Derived.Test.YtejbdgkcoajpfaaDoorPr
import Derived.WalkLawsBesides
import Derived.Outline
set_option linter.unusedVariables false
namespace Go.Proofs.YtejbdgkcoajpfaaDoor
open Go.Shelf Go.RowKit

/-- Func.writeTo of a call without arguments: its name. -/
theorem func_name (w0 : World) (a : Nat) (s : ByteArray) (ha : a < w0.heap.size)
    (c0 : w0.cell? ⟨a, 0, none⟩ = some (.string s)) (c1 : w0.cell? ⟨a, 1, none⟩ = some (.slice none 0 0)) :
    Prints 52 w0 ⟨a, 0, none⟩ (fun _ => s.data.toList) := by
  intro B b l w hB hbw hbb hlen
  have d0 : w.cell? ⟨a, 0, none⟩ = some (.string s) := (hbw.cell (p := ⟨a, 0, none⟩) ha).trans c0
  have d1 : w.cell? ⟨a, 1, none⟩ = some (.slice none 0 0) := (hbw.cell (p := ⟨a, 1, none⟩) ha).trans c1
  have ha' : a < B := Nat.lt_of_lt_of_le ha hB
  clear c0 c1
  go_enter Tryd.func52, Tryd.ntmps52
  go_wp2_with fail
  refine (bb_WriteString B b l s _ hbb hlen).mono ?_
  rintro e w1 ⟨rfl, h1, b1⟩
  have e1 : w1.cell? ⟨a, 1, none⟩ = some (.slice none 0 0) := (b1.cell (p := ⟨a, 1, none⟩) ha').trans d1
  go_wp2_with fail
  go_end0
  exact ⟨rfl, h1, b1⟩

/-- The blank that Index.writeTo lays behind a text that ends in a dot or a digit. -/
def gapB (l : List UInt8) : Bool := match l.getLast? with
  | some c => c == 46 || (48 ≤ c && c ≤ 57)
  | none => false
def gap (l : List UInt8) : List UInt8 := if gapB l then [32] else []

/-- Index.writeSuffixTo of a field name that is not empty: the name. -/
theorem index_suffix (w0 : World) (a : Nat) (s : ByteArray) (ha : a < w0.heap.size) (hs : s.toList.isEmpty = false)
    (c0 : w0.cell? ⟨a, 0, none⟩ = some (.string s)) :
    Prints 68 w0 ⟨a, 0, none⟩ (fun _ => s.data.toList) := by
  intro B b l w hB hbw hbb hlen
  have d0 : w.cell? ⟨a, 0, none⟩ = some (.string s) := (hbw.cell (p := ⟨a, 0, none⟩) ha).trans c0
  have hs2 : (s.toList == []) = false := by cases h : s.toList <;> simp_all
  clear c0
  go_enter Tryd.func68, Tryd.ntmps68
  go_wp2_with fail
  refine (bb_WriteString B b l s _ hbb hlen).mono ?_
  rintro e w1 ⟨rfl, h1, b1⟩
  go_wp2_with fail
  go_end0
  exact ⟨rfl, h1, b1⟩
end Go.Proofs.YtejbdgkcoajpfaaDoor
