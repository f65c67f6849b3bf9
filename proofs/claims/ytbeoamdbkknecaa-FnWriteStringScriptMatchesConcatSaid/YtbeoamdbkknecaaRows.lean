/-
  No cell of these rows narrows 'for every input' (looked for: loops, veiled, ifaces, maps, wideKeys, modest, calm, conditions, laid).
  DERIVED. THE GIVEN ROWS OF THIS SEAT. 7 by the template 'for every input the law returns true; each argument reads behind the call as it read before'; 0 by the template 'total and deterministic' (their statements: YtbeoamdbkknecaaTotals.lean).
  GIVEN WITH THE SEED: the statements are not yours to turn. If you find one false, say at which input.
  Laid BY PROGRAM, IN A SANDBOX (cutbox-rows.mjs): the forced cells as the released guide's own fill.sh prints them over the translation 23a158c41aaf1e65… (all of the seat's roots in one cut). By AI agents, Wed Nov 11 2026. No macro, syntax, notation, axiom, sorry.
-/
import Derived.Test.YtbeoamdbkknecaaChecked
import GoSem.Claim
import GoSem.ClaimJoined
import GoSem.ClaimMapViews
import Derived.JoinedTies
import Derived.KernelRfl
namespace Go.Proofs.Ytbeoamdbkknecaa
/- THE CELL 'sum', in the pinned program and in every row, IS THE sha256 OF THE DUMP (.gsa) THAT YtbeoamdbkknecaaProg.lean LOADS. Nothing in Lean hashes anything: it is a label: what it is worth is what the hold of that sum in a sandbox is worth. -/
noncomputable def Try.pinned : Pinned := { name := "ytbeoamdbkknecaa", sum := "23a158c41aaf1e65762dd2c291138d6d176c17753d1cc1b3a5ae4dd113ef93a8", checked := Try.checked }
namespace Rows
def none {H : Type} : Left H := { results := [], args := [] }

/-- 'n001_11.FnWriteStringScriptMatchesConcat': WHATEVER THE INPUT: true; the input reads as it did. -/
def fnWriteStringScriptMatchesConcatSpec : ChangeSpec := { name := "fnWriteStringScriptMatchesConcat", fn := fun _ => fun
  | [d1, d2] => { results := [.lit (.bool true)], args := [d1, d2] }
  | _ => none }
def fnWriteStringScriptMatchesConcatRow : OpenClaim := { program := "ytbeoamdbkknecaa", sum := "23a158c41aaf1e65762dd2c291138d6d176c17753d1cc1b3a5ae4dd113ef93a8", func := "github.com/itchyny/gojq/n001_11.FnWriteStringScriptMatchesConcat", spec := "fnWriteStringScriptMatchesConcat", apart := false }
def FnWriteStringScriptMatchesConcatSaid : Prop := fnWriteStringScriptMatchesConcatRow.holds Try.pinned (OpenSpec.ofChange fnWriteStringScriptMatchesConcatSpec)

/-- ITS FALSE NEIGHBOUR: 'it returns false'. Refute it at one input. -/
def fnWriteStringScriptMatchesConcatWrong : ChangeSpec := { name := "fnWriteStringScriptMatchesConcat", fn := fun _ => fun
  | [d1, d2] => { results := [.lit (.bool false)], args := [d1, d2] }
  | _ => none }
def FnWriteStringScriptMatchesConcatWrongFalsely : Prop := fnWriteStringScriptMatchesConcatRow.holds Try.pinned (OpenSpec.ofChange fnWriteStringScriptMatchesConcatWrong)

/-- 'n001_106.FnLimitedWriterWriteAgreesWithWriteBytes': WHATEVER THE INPUT: true; the input reads as it did. -/
def fnLimitedWriterWriteAgreesWithWriteBytesSpec : ChangeSpec := { name := "fnLimitedWriterWriteAgreesWithWriteBytes", fn := fun _ => fun
  | [d1, d2] => { results := [.lit (.bool true)], args := [d1, d2] }
  | _ => none }
def fnLimitedWriterWriteAgreesWithWriteBytesRow : OpenClaim := { program := "ytbeoamdbkknecaa", sum := "23a158c41aaf1e65762dd2c291138d6d176c17753d1cc1b3a5ae4dd113ef93a8", func := "github.com/itchyny/gojq/n001_106.FnLimitedWriterWriteAgreesWithWriteBytes", spec := "fnLimitedWriterWriteAgreesWithWriteBytes", apart := false }
def FnLimitedWriterWriteAgreesWithWriteBytesSaid : Prop := fnLimitedWriterWriteAgreesWithWriteBytesRow.holds Try.pinned (OpenSpec.ofChange fnLimitedWriterWriteAgreesWithWriteBytesSpec)

/-- ITS FALSE NEIGHBOUR: 'it returns false'. Refute it at one input. -/
def fnLimitedWriterWriteAgreesWithWriteBytesWrong : ChangeSpec := { name := "fnLimitedWriterWriteAgreesWithWriteBytes", fn := fun _ => fun
  | [d1, d2] => { results := [.lit (.bool false)], args := [d1, d2] }
  | _ => none }
def FnLimitedWriterWriteAgreesWithWriteBytesWrongFalsely : Prop := fnLimitedWriterWriteAgreesWithWriteBytesRow.holds Try.pinned (OpenSpec.ofChange fnLimitedWriterWriteAgreesWithWriteBytesWrong)

/-- 'n001_11.FnBytesFreshEmptyAndObservationFree': WHATEVER THE INPUT: true; the input reads as it did. -/
def fnBytesFreshEmptyAndObservationFreeSpec : ChangeSpec := { name := "fnBytesFreshEmptyAndObservationFree", fn := fun _ => fun
  | [d1, d2] => { results := [.lit (.bool true)], args := [d1, d2] }
  | _ => none }
def fnBytesFreshEmptyAndObservationFreeRow : OpenClaim := { program := "ytbeoamdbkknecaa", sum := "23a158c41aaf1e65762dd2c291138d6d176c17753d1cc1b3a5ae4dd113ef93a8", func := "github.com/itchyny/gojq/n001_11.FnBytesFreshEmptyAndObservationFree", spec := "fnBytesFreshEmptyAndObservationFree", apart := false }
def FnBytesFreshEmptyAndObservationFreeSaid : Prop := fnBytesFreshEmptyAndObservationFreeRow.holds Try.pinned (OpenSpec.ofChange fnBytesFreshEmptyAndObservationFreeSpec)

/-- ITS FALSE NEIGHBOUR: 'it returns false'. Refute it at one input. -/
def fnBytesFreshEmptyAndObservationFreeWrong : ChangeSpec := { name := "fnBytesFreshEmptyAndObservationFree", fn := fun _ => fun
  | [d1, d2] => { results := [.lit (.bool false)], args := [d1, d2] }
  | _ => none }
def FnBytesFreshEmptyAndObservationFreeWrongFalsely : Prop := fnBytesFreshEmptyAndObservationFreeRow.holds Try.pinned (OpenSpec.ofChange fnBytesFreshEmptyAndObservationFreeWrong)

/-- 'n001_11.FnWriteStringEmptyIsNoOp': WHATEVER THE INPUT: true; the input reads as it did. -/
def fnWriteStringEmptyIsNoOpSpec : ChangeSpec := { name := "fnWriteStringEmptyIsNoOp", fn := fun _ => fun
  | [d1, d2] => { results := [.lit (.bool true)], args := [d1, d2] }
  | _ => none }
def fnWriteStringEmptyIsNoOpRow : OpenClaim := { program := "ytbeoamdbkknecaa", sum := "23a158c41aaf1e65762dd2c291138d6d176c17753d1cc1b3a5ae4dd113ef93a8", func := "github.com/itchyny/gojq/n001_11.FnWriteStringEmptyIsNoOp", spec := "fnWriteStringEmptyIsNoOp", apart := false }
def FnWriteStringEmptyIsNoOpSaid : Prop := fnWriteStringEmptyIsNoOpRow.holds Try.pinned (OpenSpec.ofChange fnWriteStringEmptyIsNoOpSpec)

/-- ITS FALSE NEIGHBOUR: 'it returns false'. Refute it at one input. -/
def fnWriteStringEmptyIsNoOpWrong : ChangeSpec := { name := "fnWriteStringEmptyIsNoOp", fn := fun _ => fun
  | [d1, d2] => { results := [.lit (.bool false)], args := [d1, d2] }
  | _ => none }
def FnWriteStringEmptyIsNoOpWrongFalsely : Prop := fnWriteStringEmptyIsNoOpRow.holds Try.pinned (OpenSpec.ofChange fnWriteStringEmptyIsNoOpWrong)

/-- 'n001_11.FnBytesEarlierViewIsStablePrefix': WHATEVER THE INPUT: true; the input reads as it did. -/
def fnBytesEarlierViewIsStablePrefixSpec : ChangeSpec := { name := "fnBytesEarlierViewIsStablePrefix", fn := fun _ => fun
  | [d1, d2, d3] => { results := [.lit (.bool true)], args := [d1, d2, d3] }
  | _ => none }
def fnBytesEarlierViewIsStablePrefixRow : OpenClaim := { program := "ytbeoamdbkknecaa", sum := "23a158c41aaf1e65762dd2c291138d6d176c17753d1cc1b3a5ae4dd113ef93a8", func := "github.com/itchyny/gojq/n001_11.FnBytesEarlierViewIsStablePrefix", spec := "fnBytesEarlierViewIsStablePrefix", apart := false }
def FnBytesEarlierViewIsStablePrefixSaid : Prop := fnBytesEarlierViewIsStablePrefixRow.holds Try.pinned (OpenSpec.ofChange fnBytesEarlierViewIsStablePrefixSpec)

/-- ITS FALSE NEIGHBOUR: 'it returns false'. Refute it at one input. -/
def fnBytesEarlierViewIsStablePrefixWrong : ChangeSpec := { name := "fnBytesEarlierViewIsStablePrefix", fn := fun _ => fun
  | [d1, d2, d3] => { results := [.lit (.bool false)], args := [d1, d2, d3] }
  | _ => none }
def FnBytesEarlierViewIsStablePrefixWrongFalsely : Prop := fnBytesEarlierViewIsStablePrefixRow.holds Try.pinned (OpenSpec.ofChange fnBytesEarlierViewIsStablePrefixWrong)

/-- 'n001_106.FnLimitedWriterWriteAppends': WHATEVER THE INPUT: true; the input reads as it did. -/
def fnLimitedWriterWriteAppendsSpec : ChangeSpec := { name := "fnLimitedWriterWriteAppends", fn := fun _ => fun
  | [d1, d2, d3] => { results := [.lit (.bool true)], args := [d1, d2, d3] }
  | _ => none }
def fnLimitedWriterWriteAppendsRow : OpenClaim := { program := "ytbeoamdbkknecaa", sum := "23a158c41aaf1e65762dd2c291138d6d176c17753d1cc1b3a5ae4dd113ef93a8", func := "github.com/itchyny/gojq/n001_106.FnLimitedWriterWriteAppends", spec := "fnLimitedWriterWriteAppends", apart := false }
def FnLimitedWriterWriteAppendsSaid : Prop := fnLimitedWriterWriteAppendsRow.holds Try.pinned (OpenSpec.ofChange fnLimitedWriterWriteAppendsSpec)

/-- ITS FALSE NEIGHBOUR: 'it returns false'. Refute it at one input. -/
def fnLimitedWriterWriteAppendsWrong : ChangeSpec := { name := "fnLimitedWriterWriteAppends", fn := fun _ => fun
  | [d1, d2, d3] => { results := [.lit (.bool false)], args := [d1, d2, d3] }
  | _ => none }
def FnLimitedWriterWriteAppendsWrongFalsely : Prop := fnLimitedWriterWriteAppendsRow.holds Try.pinned (OpenSpec.ofChange fnLimitedWriterWriteAppendsWrong)

/-- 'n001_106.FnLimitedWriterWriteBytesThenWrite': WHATEVER THE INPUT: true; the input reads as it did. -/
def fnLimitedWriterWriteBytesThenWriteSpec : ChangeSpec := { name := "fnLimitedWriterWriteBytesThenWrite", fn := fun _ => fun
  | [d1, d2, d3] => { results := [.lit (.bool true)], args := [d1, d2, d3] }
  | _ => none }
def fnLimitedWriterWriteBytesThenWriteRow : OpenClaim := { program := "ytbeoamdbkknecaa", sum := "23a158c41aaf1e65762dd2c291138d6d176c17753d1cc1b3a5ae4dd113ef93a8", func := "github.com/itchyny/gojq/n001_106.FnLimitedWriterWriteBytesThenWrite", spec := "fnLimitedWriterWriteBytesThenWrite", apart := false }
def FnLimitedWriterWriteBytesThenWriteSaid : Prop := fnLimitedWriterWriteBytesThenWriteRow.holds Try.pinned (OpenSpec.ofChange fnLimitedWriterWriteBytesThenWriteSpec)

/-- ITS FALSE NEIGHBOUR: 'it returns false'. Refute it at one input. -/
def fnLimitedWriterWriteBytesThenWriteWrong : ChangeSpec := { name := "fnLimitedWriterWriteBytesThenWrite", fn := fun _ => fun
  | [d1, d2, d3] => { results := [.lit (.bool false)], args := [d1, d2, d3] }
  | _ => none }
def FnLimitedWriterWriteBytesThenWriteWrongFalsely : Prop := fnLimitedWriterWriteBytesThenWriteRow.holds Try.pinned (OpenSpec.ofChange fnLimitedWriterWriteBytesThenWriteWrong)

/- THE SECOND FORM. 'bulk': how many values and letters a reading holds, each counted each time it is reached (what is shared counts as often as it is met; a slice's spare places count too). A statement '..UptoSaid' is the law's where the arguments, and the package variables that the reading takes, are together of bulk at most 1048576: NARROWER than '..Said'. Prove '..Said' where nothing that the law and all that it calls make is longer than what came in: it says more and counts as full. Else prove '..UptoSaid'. A law counts once. -/
mutual
def uptoBulk {H : Type} : DataW H → Nat
  | .lit (.string bytes) => bytes.length + 1
  | .lit _ => 1
  | .nil => 1
  | .ptr d => uptoBulk d + 1
  | .slice elems spare => uptoBulkAll elems + uptoBulkAll spare + 1
  | .agg parts => uptoBulkAll parts + 1
  | .iface _ d => uptoBulk d + 1
  | .map entries => uptoBulkEntries entries + 1
  | .held _ => 1
def uptoBulkAll {H : Type} : List (DataW H) → Nat
  | [] => 0
  | d :: r => uptoBulk d + uptoBulkAll r
def uptoBulkEntries {H : Type} : List (Lit × DataW H) → Nat
  | [] => 0
  | x :: r => uptoBulkEntry x + uptoBulkEntries r
def uptoBulkEntry {H : Type} : Lit × DataW H → Nat
  | (.string bytes, d) => bytes.length + uptoBulk d + 1
  | (_, d) => uptoBulk d + 1
 end
def uptoSmall : (H : Type) → List (DataW H) → Bool := fun _ ds => decide (uptoBulkAll ds ≤ 1048576)
def OpenSpec.upto (s : _root_.Go.ChangeSpec) : _root_.Go.OpenSpec := { _root_.Go.OpenSpec.ofChange s with cond := some uptoSmall }

/-- 'n001_11.FnWriteStringScriptMatchesConcat', WHERE WHAT IT READS IS OF BULK AT MOST 1048576: true; the input reads as it did. -/
def fnWriteStringScriptMatchesConcatUptoRow : OpenClaim := { program := "ytbeoamdbkknecaa", sum := "23a158c41aaf1e65762dd2c291138d6d176c17753d1cc1b3a5ae4dd113ef93a8", func := "github.com/itchyny/gojq/n001_11.FnWriteStringScriptMatchesConcat", spec := "fnWriteStringScriptMatchesConcat", apart := false, narrowed := true }
def FnWriteStringScriptMatchesConcatUptoSaid : Prop := fnWriteStringScriptMatchesConcatUptoRow.holds Try.pinned (OpenSpec.upto fnWriteStringScriptMatchesConcatSpec)

/-- 'n001_106.FnLimitedWriterWriteAgreesWithWriteBytes', WHERE WHAT IT READS IS OF BULK AT MOST 1048576: true; the input reads as it did. -/
def fnLimitedWriterWriteAgreesWithWriteBytesUptoRow : OpenClaim := { program := "ytbeoamdbkknecaa", sum := "23a158c41aaf1e65762dd2c291138d6d176c17753d1cc1b3a5ae4dd113ef93a8", func := "github.com/itchyny/gojq/n001_106.FnLimitedWriterWriteAgreesWithWriteBytes", spec := "fnLimitedWriterWriteAgreesWithWriteBytes", apart := false, narrowed := true }
def FnLimitedWriterWriteAgreesWithWriteBytesUptoSaid : Prop := fnLimitedWriterWriteAgreesWithWriteBytesUptoRow.holds Try.pinned (OpenSpec.upto fnLimitedWriterWriteAgreesWithWriteBytesSpec)

/-- 'n001_11.FnBytesFreshEmptyAndObservationFree', WHERE WHAT IT READS IS OF BULK AT MOST 1048576: true; the input reads as it did. -/
def fnBytesFreshEmptyAndObservationFreeUptoRow : OpenClaim := { program := "ytbeoamdbkknecaa", sum := "23a158c41aaf1e65762dd2c291138d6d176c17753d1cc1b3a5ae4dd113ef93a8", func := "github.com/itchyny/gojq/n001_11.FnBytesFreshEmptyAndObservationFree", spec := "fnBytesFreshEmptyAndObservationFree", apart := false, narrowed := true }
def FnBytesFreshEmptyAndObservationFreeUptoSaid : Prop := fnBytesFreshEmptyAndObservationFreeUptoRow.holds Try.pinned (OpenSpec.upto fnBytesFreshEmptyAndObservationFreeSpec)

/-- 'n001_11.FnWriteStringEmptyIsNoOp', WHERE WHAT IT READS IS OF BULK AT MOST 1048576: true; the input reads as it did. -/
def fnWriteStringEmptyIsNoOpUptoRow : OpenClaim := { program := "ytbeoamdbkknecaa", sum := "23a158c41aaf1e65762dd2c291138d6d176c17753d1cc1b3a5ae4dd113ef93a8", func := "github.com/itchyny/gojq/n001_11.FnWriteStringEmptyIsNoOp", spec := "fnWriteStringEmptyIsNoOp", apart := false, narrowed := true }
def FnWriteStringEmptyIsNoOpUptoSaid : Prop := fnWriteStringEmptyIsNoOpUptoRow.holds Try.pinned (OpenSpec.upto fnWriteStringEmptyIsNoOpSpec)

/-- 'n001_11.FnBytesEarlierViewIsStablePrefix', WHERE WHAT IT READS IS OF BULK AT MOST 1048576: true; the input reads as it did. -/
def fnBytesEarlierViewIsStablePrefixUptoRow : OpenClaim := { program := "ytbeoamdbkknecaa", sum := "23a158c41aaf1e65762dd2c291138d6d176c17753d1cc1b3a5ae4dd113ef93a8", func := "github.com/itchyny/gojq/n001_11.FnBytesEarlierViewIsStablePrefix", spec := "fnBytesEarlierViewIsStablePrefix", apart := false, narrowed := true }
def FnBytesEarlierViewIsStablePrefixUptoSaid : Prop := fnBytesEarlierViewIsStablePrefixUptoRow.holds Try.pinned (OpenSpec.upto fnBytesEarlierViewIsStablePrefixSpec)

/-- 'n001_106.FnLimitedWriterWriteAppends', WHERE WHAT IT READS IS OF BULK AT MOST 1048576: true; the input reads as it did. -/
def fnLimitedWriterWriteAppendsUptoRow : OpenClaim := { program := "ytbeoamdbkknecaa", sum := "23a158c41aaf1e65762dd2c291138d6d176c17753d1cc1b3a5ae4dd113ef93a8", func := "github.com/itchyny/gojq/n001_106.FnLimitedWriterWriteAppends", spec := "fnLimitedWriterWriteAppends", apart := false, narrowed := true }
def FnLimitedWriterWriteAppendsUptoSaid : Prop := fnLimitedWriterWriteAppendsUptoRow.holds Try.pinned (OpenSpec.upto fnLimitedWriterWriteAppendsSpec)

/-- 'n001_106.FnLimitedWriterWriteBytesThenWrite', WHERE WHAT IT READS IS OF BULK AT MOST 1048576: true; the input reads as it did. -/
def fnLimitedWriterWriteBytesThenWriteUptoRow : OpenClaim := { program := "ytbeoamdbkknecaa", sum := "23a158c41aaf1e65762dd2c291138d6d176c17753d1cc1b3a5ae4dd113ef93a8", func := "github.com/itchyny/gojq/n001_106.FnLimitedWriterWriteBytesThenWrite", spec := "fnLimitedWriterWriteBytesThenWrite", apart := false, narrowed := true }
def FnLimitedWriterWriteBytesThenWriteUptoSaid : Prop := fnLimitedWriterWriteBytesThenWriteUptoRow.holds Try.pinned (OpenSpec.upto fnLimitedWriterWriteBytesThenWriteSpec)

end Rows
end Go.Proofs.Ytbeoamdbkknecaa
