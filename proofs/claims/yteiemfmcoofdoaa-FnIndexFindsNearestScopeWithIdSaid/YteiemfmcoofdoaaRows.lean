/-
  No cell of these rows narrows 'for every input' (looked for: loops, veiled, ifaces, maps, wideKeys, modest, calm, conditions, laid).
  DERIVED. THE GIVEN ROWS OF THIS SEAT. 5 by the template 'for every input the law returns true; each argument reads behind the call as it read before'; 0 by the template 'total and deterministic' (their statements: YteiemfmcoofdoaaTotals.lean).
  GIVEN WITH THE SEED: the statements are not yours to turn. If you find one false, say at which input.
  Laid BY PROGRAM, IN A SANDBOX (cutbox-rows.mjs): the forced cells as the released guide's own fill.sh prints them over the translation 0c9d34e9e6fd54b7… (all of the seat's roots in one cut). By AI agents, Wed Nov 11 2026. No macro, syntax, notation, axiom, sorry.
-/
import Derived.Test.YteiemfmcoofdoaaChecked
import GoSem.Claim
import GoSem.ClaimJoined
import GoSem.ClaimMapViews
import Derived.JoinedTies
import Derived.KernelRfl
namespace Go.Proofs.Yteiemfmcoofdoaa
/- THE CELL 'sum', in the pinned program and in every row, IS THE sha256 OF THE DUMP (.gsa) THAT YteiemfmcoofdoaaProg.lean LOADS. Nothing in Lean hashes anything: it is a label: what it is worth is what the hold of that sum in a sandbox is worth. -/
noncomputable def Try.pinned : Pinned := { name := "yteiemfmcoofdoaa", sum := "0c9d34e9e6fd54b70679981bdd06194e6d7199d309f0523061c438f1472c62c5", checked := Try.checked }
namespace Rows
def none {H : Type} : Left H := { results := [], args := [] }

/-- 'n001_16.FnIndexStringMatchesRuneTable': WHATEVER THE INPUT: true; the input reads as it did. -/
def fnIndexStringMatchesRuneTableSpec : ChangeSpec := { name := "fnIndexStringMatchesRuneTable", fn := fun _ => fun
  | [d1, d2] => { results := [.lit (.bool true)], args := [d1, d2] }
  | _ => none }
def fnIndexStringMatchesRuneTableRow : OpenClaim := { program := "yteiemfmcoofdoaa", sum := "0c9d34e9e6fd54b70679981bdd06194e6d7199d309f0523061c438f1472c62c5", func := "github.com/itchyny/gojq/n001_16.FnIndexStringMatchesRuneTable", spec := "fnIndexStringMatchesRuneTable", apart := false }
def FnIndexStringMatchesRuneTableSaid : Prop := fnIndexStringMatchesRuneTableRow.holds Try.pinned (OpenSpec.ofChange fnIndexStringMatchesRuneTableSpec)

/-- ITS FALSE NEIGHBOUR: 'it returns false'. Refute it at one input. -/
def fnIndexStringMatchesRuneTableWrong : ChangeSpec := { name := "fnIndexStringMatchesRuneTable", fn := fun _ => fun
  | [d1, d2] => { results := [.lit (.bool false)], args := [d1, d2] }
  | _ => none }
def FnIndexStringMatchesRuneTableWrongFalsely : Prop := fnIndexStringMatchesRuneTableRow.holds Try.pinned (OpenSpec.ofChange fnIndexStringMatchesRuneTableWrong)

/-- 'n001_16.FnIndexMatchesCaseTable': WHATEVER THE INPUT: true; the input reads as it did. -/
def fnIndexMatchesCaseTableSpec : ChangeSpec := { name := "fnIndexMatchesCaseTable", fn := fun _ => fun
  | [d1, d2] => { results := [.lit (.bool true)], args := [d1, d2] }
  | _ => none }
def fnIndexMatchesCaseTableRow : OpenClaim := { program := "yteiemfmcoofdoaa", sum := "0c9d34e9e6fd54b70679981bdd06194e6d7199d309f0523061c438f1472c62c5", func := "github.com/itchyny/gojq/n001_16.FnIndexMatchesCaseTable", spec := "fnIndexMatchesCaseTable", apart := false }
def FnIndexMatchesCaseTableSaid : Prop := fnIndexMatchesCaseTableRow.holds Try.pinned (OpenSpec.ofChange fnIndexMatchesCaseTableSpec)

/-- ITS FALSE NEIGHBOUR: 'it returns false'. Refute it at one input. -/
def fnIndexMatchesCaseTableWrong : ChangeSpec := { name := "fnIndexMatchesCaseTable", fn := fun _ => fun
  | [d1, d2] => { results := [.lit (.bool false)], args := [d1, d2] }
  | _ => none }
def FnIndexMatchesCaseTableWrongFalsely : Prop := fnIndexMatchesCaseTableRow.holds Try.pinned (OpenSpec.ofChange fnIndexMatchesCaseTableWrong)

/-- 'n001_16.FnIndexAgreesWithIndexString': WHATEVER THE INPUT: true; the input reads as it did. -/
def fnIndexAgreesWithIndexStringSpec : ChangeSpec := { name := "fnIndexAgreesWithIndexString", fn := fun _ => fun
  | [d1, d2] => { results := [.lit (.bool true)], args := [d1, d2] }
  | _ => none }
def fnIndexAgreesWithIndexStringRow : OpenClaim := { program := "yteiemfmcoofdoaa", sum := "0c9d34e9e6fd54b70679981bdd06194e6d7199d309f0523061c438f1472c62c5", func := "github.com/itchyny/gojq/n001_16.FnIndexAgreesWithIndexString", spec := "fnIndexAgreesWithIndexString", apart := false }
def FnIndexAgreesWithIndexStringSaid : Prop := fnIndexAgreesWithIndexStringRow.holds Try.pinned (OpenSpec.ofChange fnIndexAgreesWithIndexStringSpec)

/-- ITS FALSE NEIGHBOUR: 'it returns false'. Refute it at one input. -/
def fnIndexAgreesWithIndexStringWrong : ChangeSpec := { name := "fnIndexAgreesWithIndexString", fn := fun _ => fun
  | [d1, d2] => { results := [.lit (.bool false)], args := [d1, d2] }
  | _ => none }
def FnIndexAgreesWithIndexStringWrongFalsely : Prop := fnIndexAgreesWithIndexStringRow.holds Try.pinned (OpenSpec.ofChange fnIndexAgreesWithIndexStringWrong)

/-- 'n001_18.FnIndexFindsNearestScopeWithId': WHATEVER THE INPUT: true; the input reads as it did. -/
def fnIndexFindsNearestScopeWithIdSpec : ChangeSpec := { name := "fnIndexFindsNearestScopeWithId", fn := fun _ => fun
  | [d1, d2, d3] => { results := [.lit (.bool true)], args := [d1, d2, d3] }
  | _ => none }
def fnIndexFindsNearestScopeWithIdRow : OpenClaim := { program := "yteiemfmcoofdoaa", sum := "0c9d34e9e6fd54b70679981bdd06194e6d7199d309f0523061c438f1472c62c5", func := "github.com/itchyny/gojq/n001_18.FnIndexFindsNearestScopeWithId", spec := "fnIndexFindsNearestScopeWithId", apart := false }
def FnIndexFindsNearestScopeWithIdSaid : Prop := fnIndexFindsNearestScopeWithIdRow.holds Try.pinned (OpenSpec.ofChange fnIndexFindsNearestScopeWithIdSpec)

/-- ITS FALSE NEIGHBOUR: 'it returns false'. Refute it at one input. -/
def fnIndexFindsNearestScopeWithIdWrong : ChangeSpec := { name := "fnIndexFindsNearestScopeWithId", fn := fun _ => fun
  | [d1, d2, d3] => { results := [.lit (.bool false)], args := [d1, d2, d3] }
  | _ => none }
def FnIndexFindsNearestScopeWithIdWrongFalsely : Prop := fnIndexFindsNearestScopeWithIdRow.holds Try.pinned (OpenSpec.ofChange fnIndexFindsNearestScopeWithIdWrong)

/-- 'n001_16.FnIndexStringRebuildsString': WHATEVER THE INPUT: true; the input reads as it did. -/
def fnIndexStringRebuildsStringSpec : ChangeSpec := { name := "fnIndexStringRebuildsString", fn := fun _ => fun
  | [d] => { results := [.lit (.bool true)], args := [d] }
  | _ => none }
def fnIndexStringRebuildsStringRow : OpenClaim := { program := "yteiemfmcoofdoaa", sum := "0c9d34e9e6fd54b70679981bdd06194e6d7199d309f0523061c438f1472c62c5", func := "github.com/itchyny/gojq/n001_16.FnIndexStringRebuildsString", spec := "fnIndexStringRebuildsString", apart := false }
def FnIndexStringRebuildsStringSaid : Prop := fnIndexStringRebuildsStringRow.holds Try.pinned (OpenSpec.ofChange fnIndexStringRebuildsStringSpec)

/-- ITS FALSE NEIGHBOUR: 'it returns false'. Refute it at one input. -/
def fnIndexStringRebuildsStringWrong : ChangeSpec := { name := "fnIndexStringRebuildsString", fn := fun _ => fun
  | [d] => { results := [.lit (.bool false)], args := [d] }
  | _ => none }
def FnIndexStringRebuildsStringWrongFalsely : Prop := fnIndexStringRebuildsStringRow.holds Try.pinned (OpenSpec.ofChange fnIndexStringRebuildsStringWrong)

/- THE SECOND FORM. 'bulk': how many values and letters a reading holds, each counted each time it is reached (what is shared counts as often as it is met; a slice's spare places count too). A statement '..UptoSaid' is the law's where the arguments, and the package variables that the reading takes, are together of bulk at most 1048576: NARROWER than '..Said'. Prove '..Said' where nothing that the law and all that it calls make is longer than what came in: it says more and counts as full. Else prove '..UptoSaid'. A law counts once. -/
mutual
def uptoBulk {H : Type} : DataW H → Nat
  | .lit (.string bytes) => bytes.length + 1
  | .lit _ => 1
  | .nil => 1
  | .ptr d => uptoBulk d + 1
  | .slice elems spare => uptoBulkAll elems + uptoBulkAll spare + 1
  | .agg parts => uptoBulkAll parts + 1
  | .iface _ d => uptoBulk d + 1
  | .map entries => uptoBulkEntries entries + 1
  | .held _ => 1
def uptoBulkAll {H : Type} : List (DataW H) → Nat
  | [] => 0
  | d :: r => uptoBulk d + uptoBulkAll r
def uptoBulkEntries {H : Type} : List (Lit × DataW H) → Nat
  | [] => 0
  | x :: r => uptoBulkEntry x + uptoBulkEntries r
def uptoBulkEntry {H : Type} : Lit × DataW H → Nat
  | (.string bytes, d) => bytes.length + uptoBulk d + 1
  | (_, d) => uptoBulk d + 1
 end
def uptoSmall : (H : Type) → List (DataW H) → Bool := fun _ ds => decide (uptoBulkAll ds ≤ 1048576)
def OpenSpec.upto (s : _root_.Go.ChangeSpec) : _root_.Go.OpenSpec := { _root_.Go.OpenSpec.ofChange s with cond := some uptoSmall }

/-- 'n001_16.FnIndexStringMatchesRuneTable', WHERE WHAT IT READS IS OF BULK AT MOST 1048576: true; the input reads as it did. -/
def fnIndexStringMatchesRuneTableUptoRow : OpenClaim := { program := "yteiemfmcoofdoaa", sum := "0c9d34e9e6fd54b70679981bdd06194e6d7199d309f0523061c438f1472c62c5", func := "github.com/itchyny/gojq/n001_16.FnIndexStringMatchesRuneTable", spec := "fnIndexStringMatchesRuneTable", apart := false, narrowed := true }
def FnIndexStringMatchesRuneTableUptoSaid : Prop := fnIndexStringMatchesRuneTableUptoRow.holds Try.pinned (OpenSpec.upto fnIndexStringMatchesRuneTableSpec)

/-- 'n001_16.FnIndexMatchesCaseTable', WHERE WHAT IT READS IS OF BULK AT MOST 1048576: true; the input reads as it did. -/
def fnIndexMatchesCaseTableUptoRow : OpenClaim := { program := "yteiemfmcoofdoaa", sum := "0c9d34e9e6fd54b70679981bdd06194e6d7199d309f0523061c438f1472c62c5", func := "github.com/itchyny/gojq/n001_16.FnIndexMatchesCaseTable", spec := "fnIndexMatchesCaseTable", apart := false, narrowed := true }
def FnIndexMatchesCaseTableUptoSaid : Prop := fnIndexMatchesCaseTableUptoRow.holds Try.pinned (OpenSpec.upto fnIndexMatchesCaseTableSpec)

/-- 'n001_16.FnIndexAgreesWithIndexString', WHERE WHAT IT READS IS OF BULK AT MOST 1048576: true; the input reads as it did. -/
def fnIndexAgreesWithIndexStringUptoRow : OpenClaim := { program := "yteiemfmcoofdoaa", sum := "0c9d34e9e6fd54b70679981bdd06194e6d7199d309f0523061c438f1472c62c5", func := "github.com/itchyny/gojq/n001_16.FnIndexAgreesWithIndexString", spec := "fnIndexAgreesWithIndexString", apart := false, narrowed := true }
def FnIndexAgreesWithIndexStringUptoSaid : Prop := fnIndexAgreesWithIndexStringUptoRow.holds Try.pinned (OpenSpec.upto fnIndexAgreesWithIndexStringSpec)

/-- 'n001_18.FnIndexFindsNearestScopeWithId', WHERE WHAT IT READS IS OF BULK AT MOST 1048576: true; the input reads as it did. -/
def fnIndexFindsNearestScopeWithIdUptoRow : OpenClaim := { program := "yteiemfmcoofdoaa", sum := "0c9d34e9e6fd54b70679981bdd06194e6d7199d309f0523061c438f1472c62c5", func := "github.com/itchyny/gojq/n001_18.FnIndexFindsNearestScopeWithId", spec := "fnIndexFindsNearestScopeWithId", apart := false, narrowed := true }
def FnIndexFindsNearestScopeWithIdUptoSaid : Prop := fnIndexFindsNearestScopeWithIdUptoRow.holds Try.pinned (OpenSpec.upto fnIndexFindsNearestScopeWithIdSpec)

/-- 'n001_16.FnIndexStringRebuildsString', WHERE WHAT IT READS IS OF BULK AT MOST 1048576: true; the input reads as it did. -/
def fnIndexStringRebuildsStringUptoRow : OpenClaim := { program := "yteiemfmcoofdoaa", sum := "0c9d34e9e6fd54b70679981bdd06194e6d7199d309f0523061c438f1472c62c5", func := "github.com/itchyny/gojq/n001_16.FnIndexStringRebuildsString", spec := "fnIndexStringRebuildsString", apart := false, narrowed := true }
def FnIndexStringRebuildsStringUptoSaid : Prop := fnIndexStringRebuildsStringUptoRow.holds Try.pinned (OpenSpec.upto fnIndexStringRebuildsStringSpec)

end Rows
end Go.Proofs.Yteiemfmcoofdoaa
