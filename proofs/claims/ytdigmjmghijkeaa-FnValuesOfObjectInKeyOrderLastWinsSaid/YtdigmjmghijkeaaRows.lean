/-
  No cell of these rows narrows 'for every input' (looked for: loops, veiled, ifaces, maps, wideKeys, modest, calm, conditions, laid).
  DERIVED. THE GIVEN ROWS OF THIS SEAT. 4 by the template 'for every input the law returns true; each argument reads behind the call as it read before'; 0 by the template 'total and deterministic' (their statements: YtdigmjmghijkeaaTotals.lean).
  GIVEN WITH THE SEED: the statements are not yours to turn. If you find one false, say at which input.
  Laid BY PROGRAM, IN A SANDBOX (cutbox-rows.mjs): the forced cells as the released guide's own fill.sh prints them over the translation 8e2c8c7e9611cb16… (all of the seat's roots in one cut). By AI agents, Wed Nov 11 2026. No macro, syntax, notation, axiom, sorry.
-/
import Derived.Test.YtdigmjmghijkeaaChecked
import GoSem.Claim
import GoSem.ClaimJoined
import GoSem.ClaimMapViews
import Derived.JoinedTies
import Derived.KernelRfl
namespace Go.Proofs.Ytdigmjmghijkeaa
/- THE CELL 'sum', in the pinned program and in every row, IS THE sha256 OF THE DUMP (.gsa) THAT YtdigmjmghijkeaaProg.lean LOADS. Nothing in Lean hashes anything: it is a label: what it is worth is what the hold of that sum in a sandbox is worth. -/
noncomputable def Try.pinned : Pinned := { name := "ytdigmjmghijkeaa", sum := "8e2c8c7e9611cb160037497b1e102a865da6f6b00b27e32f44b5c9f01c338798", checked := Try.checked }
namespace Rows
def none {H : Type} : Left H := { results := [], args := [] }

/-- 'n001_17.FnKeysIgnoreOrderAndRepeats': WHATEVER THE INPUT: true; the input reads as it did. -/
def fnKeysIgnoreOrderAndRepeatsSpec : ChangeSpec := { name := "fnKeysIgnoreOrderAndRepeats", fn := fun _ => fun
  | [d] => { results := [.lit (.bool true)], args := [d] }
  | _ => none }
def fnKeysIgnoreOrderAndRepeatsRow : OpenClaim := { program := "ytdigmjmghijkeaa", sum := "8e2c8c7e9611cb160037497b1e102a865da6f6b00b27e32f44b5c9f01c338798", func := "github.com/itchyny/gojq/n001_17.FnKeysIgnoreOrderAndRepeats", spec := "fnKeysIgnoreOrderAndRepeats", recurses := true, apart := false }
def FnKeysIgnoreOrderAndRepeatsSaid : Prop := fnKeysIgnoreOrderAndRepeatsRow.holds Try.pinned (OpenSpec.ofChange fnKeysIgnoreOrderAndRepeatsSpec)

/-- ITS FALSE NEIGHBOUR: 'it returns false'. Refute it at one input. -/
def fnKeysIgnoreOrderAndRepeatsWrong : ChangeSpec := { name := "fnKeysIgnoreOrderAndRepeats", fn := fun _ => fun
  | [d] => { results := [.lit (.bool false)], args := [d] }
  | _ => none }
def FnKeysIgnoreOrderAndRepeatsWrongFalsely : Prop := fnKeysIgnoreOrderAndRepeatsRow.holds Try.pinned (OpenSpec.ofChange fnKeysIgnoreOrderAndRepeatsWrong)

/-- 'n001_17.FnKeysAreTheSortedDistinctInputKeys': WHATEVER THE INPUT: true; the input reads as it did. -/
def fnKeysAreTheSortedDistinctInputKeysSpec : ChangeSpec := { name := "fnKeysAreTheSortedDistinctInputKeys", fn := fun _ => fun
  | [d] => { results := [.lit (.bool true)], args := [d] }
  | _ => none }
def fnKeysAreTheSortedDistinctInputKeysRow : OpenClaim := { program := "ytdigmjmghijkeaa", sum := "8e2c8c7e9611cb160037497b1e102a865da6f6b00b27e32f44b5c9f01c338798", func := "github.com/itchyny/gojq/n001_17.FnKeysAreTheSortedDistinctInputKeys", spec := "fnKeysAreTheSortedDistinctInputKeys", recurses := true, apart := false }
def FnKeysAreTheSortedDistinctInputKeysSaid : Prop := fnKeysAreTheSortedDistinctInputKeysRow.holds Try.pinned (OpenSpec.ofChange fnKeysAreTheSortedDistinctInputKeysSpec)

/-- ITS FALSE NEIGHBOUR: 'it returns false'. Refute it at one input. -/
def fnKeysAreTheSortedDistinctInputKeysWrong : ChangeSpec := { name := "fnKeysAreTheSortedDistinctInputKeys", fn := fun _ => fun
  | [d] => { results := [.lit (.bool false)], args := [d] }
  | _ => none }
def FnKeysAreTheSortedDistinctInputKeysWrongFalsely : Prop := fnKeysAreTheSortedDistinctInputKeysRow.holds Try.pinned (OpenSpec.ofChange fnKeysAreTheSortedDistinctInputKeysWrong)

/-- 'n001_17.FnValuesOfObjectInKeyOrderLastWins': WHATEVER THE INPUT: true; the input reads as it did. -/
def fnValuesOfObjectInKeyOrderLastWinsSpec : ChangeSpec := { name := "fnValuesOfObjectInKeyOrderLastWins", fn := fun _ => fun
  | [d1, d2] => { results := [.lit (.bool true)], args := [d1, d2] }
  | _ => none }
def fnValuesOfObjectInKeyOrderLastWinsRow : OpenClaim := { program := "ytdigmjmghijkeaa", sum := "8e2c8c7e9611cb160037497b1e102a865da6f6b00b27e32f44b5c9f01c338798", func := "github.com/itchyny/gojq/n001_17.FnValuesOfObjectInKeyOrderLastWins", spec := "fnValuesOfObjectInKeyOrderLastWins", recurses := true, apart := false }
def FnValuesOfObjectInKeyOrderLastWinsSaid : Prop := fnValuesOfObjectInKeyOrderLastWinsRow.holds Try.pinned (OpenSpec.ofChange fnValuesOfObjectInKeyOrderLastWinsSpec)

/-- ITS FALSE NEIGHBOUR: 'it returns false'. Refute it at one input. -/
def fnValuesOfObjectInKeyOrderLastWinsWrong : ChangeSpec := { name := "fnValuesOfObjectInKeyOrderLastWins", fn := fun _ => fun
  | [d1, d2] => { results := [.lit (.bool false)], args := [d1, d2] }
  | _ => none }
def FnValuesOfObjectInKeyOrderLastWinsWrongFalsely : Prop := fnValuesOfObjectInKeyOrderLastWinsRow.holds Try.pinned (OpenSpec.ofChange fnValuesOfObjectInKeyOrderLastWinsWrong)

/-- 'n001_17.FnValuesCaseTable': WHATEVER THE INPUT: true; the input reads as it did. -/
def fnValuesCaseTableSpec : ChangeSpec := { name := "fnValuesCaseTable", fn := fun _ => fun
  | [d1, d2, d3, d4, d5] => { results := [.lit (.bool true)], args := [d1, d2, d3, d4, d5] }
  | _ => none }
def fnValuesCaseTableRow : OpenClaim := { program := "ytdigmjmghijkeaa", sum := "8e2c8c7e9611cb160037497b1e102a865da6f6b00b27e32f44b5c9f01c338798", func := "github.com/itchyny/gojq/n001_17.FnValuesCaseTable", spec := "fnValuesCaseTable", recurses := true, apart := false }
def FnValuesCaseTableSaid : Prop := fnValuesCaseTableRow.holds Try.pinned (OpenSpec.ofChange fnValuesCaseTableSpec)

/-- ITS FALSE NEIGHBOUR: 'it returns false'. Refute it at one input. -/
def fnValuesCaseTableWrong : ChangeSpec := { name := "fnValuesCaseTable", fn := fun _ => fun
  | [d1, d2, d3, d4, d5] => { results := [.lit (.bool false)], args := [d1, d2, d3, d4, d5] }
  | _ => none }
def FnValuesCaseTableWrongFalsely : Prop := fnValuesCaseTableRow.holds Try.pinned (OpenSpec.ofChange fnValuesCaseTableWrong)

/- THE SECOND FORM. 'bulk': how many values and letters a reading holds, each counted each time it is reached (what is shared counts as often as it is met; a slice's spare places count too). A statement '..UptoSaid' is the law's where the arguments, and the package variables that the reading takes, are together of bulk at most 1048576: NARROWER than '..Said'. Prove '..Said' where nothing that the law and all that it calls make is longer than what came in: it says more and counts as full. Else prove '..UptoSaid'. A law counts once. -/
mutual
def uptoBulk {H : Type} : DataW H → Nat
  | .lit (.string bytes) => bytes.length + 1
  | .lit _ => 1
  | .nil => 1
  | .ptr d => uptoBulk d + 1
  | .slice elems spare => uptoBulkAll elems + uptoBulkAll spare + 1
  | .agg parts => uptoBulkAll parts + 1
  | .iface _ d => uptoBulk d + 1
  | .map entries => uptoBulkEntries entries + 1
  | .held _ => 1
def uptoBulkAll {H : Type} : List (DataW H) → Nat
  | [] => 0
  | d :: r => uptoBulk d + uptoBulkAll r
def uptoBulkEntries {H : Type} : List (Lit × DataW H) → Nat
  | [] => 0
  | x :: r => uptoBulkEntry x + uptoBulkEntries r
def uptoBulkEntry {H : Type} : Lit × DataW H → Nat
  | (.string bytes, d) => bytes.length + uptoBulk d + 1
  | (_, d) => uptoBulk d + 1
 end
def uptoSmall : (H : Type) → List (DataW H) → Bool := fun _ ds => decide (uptoBulkAll ds ≤ 1048576)
def OpenSpec.upto (s : _root_.Go.ChangeSpec) : _root_.Go.OpenSpec := { _root_.Go.OpenSpec.ofChange s with cond := some uptoSmall }

/-- 'n001_17.FnKeysIgnoreOrderAndRepeats', WHERE WHAT IT READS IS OF BULK AT MOST 1048576: true; the input reads as it did. -/
def fnKeysIgnoreOrderAndRepeatsUptoRow : OpenClaim := { program := "ytdigmjmghijkeaa", sum := "8e2c8c7e9611cb160037497b1e102a865da6f6b00b27e32f44b5c9f01c338798", func := "github.com/itchyny/gojq/n001_17.FnKeysIgnoreOrderAndRepeats", spec := "fnKeysIgnoreOrderAndRepeats", recurses := true, apart := false, narrowed := true }
def FnKeysIgnoreOrderAndRepeatsUptoSaid : Prop := fnKeysIgnoreOrderAndRepeatsUptoRow.holds Try.pinned (OpenSpec.upto fnKeysIgnoreOrderAndRepeatsSpec)

/-- 'n001_17.FnKeysAreTheSortedDistinctInputKeys', WHERE WHAT IT READS IS OF BULK AT MOST 1048576: true; the input reads as it did. -/
def fnKeysAreTheSortedDistinctInputKeysUptoRow : OpenClaim := { program := "ytdigmjmghijkeaa", sum := "8e2c8c7e9611cb160037497b1e102a865da6f6b00b27e32f44b5c9f01c338798", func := "github.com/itchyny/gojq/n001_17.FnKeysAreTheSortedDistinctInputKeys", spec := "fnKeysAreTheSortedDistinctInputKeys", recurses := true, apart := false, narrowed := true }
def FnKeysAreTheSortedDistinctInputKeysUptoSaid : Prop := fnKeysAreTheSortedDistinctInputKeysUptoRow.holds Try.pinned (OpenSpec.upto fnKeysAreTheSortedDistinctInputKeysSpec)

/-- 'n001_17.FnValuesOfObjectInKeyOrderLastWins', WHERE WHAT IT READS IS OF BULK AT MOST 1048576: true; the input reads as it did. -/
def fnValuesOfObjectInKeyOrderLastWinsUptoRow : OpenClaim := { program := "ytdigmjmghijkeaa", sum := "8e2c8c7e9611cb160037497b1e102a865da6f6b00b27e32f44b5c9f01c338798", func := "github.com/itchyny/gojq/n001_17.FnValuesOfObjectInKeyOrderLastWins", spec := "fnValuesOfObjectInKeyOrderLastWins", recurses := true, apart := false, narrowed := true }
def FnValuesOfObjectInKeyOrderLastWinsUptoSaid : Prop := fnValuesOfObjectInKeyOrderLastWinsUptoRow.holds Try.pinned (OpenSpec.upto fnValuesOfObjectInKeyOrderLastWinsSpec)

/-- 'n001_17.FnValuesCaseTable', WHERE WHAT IT READS IS OF BULK AT MOST 1048576: true; the input reads as it did. -/
def fnValuesCaseTableUptoRow : OpenClaim := { program := "ytdigmjmghijkeaa", sum := "8e2c8c7e9611cb160037497b1e102a865da6f6b00b27e32f44b5c9f01c338798", func := "github.com/itchyny/gojq/n001_17.FnValuesCaseTable", spec := "fnValuesCaseTable", recurses := true, apart := false, narrowed := true }
def FnValuesCaseTableUptoSaid : Prop := fnValuesCaseTableUptoRow.holds Try.pinned (OpenSpec.upto fnValuesCaseTableSpec)

end Rows
end Go.Proofs.Ytdigmjmghijkeaa
