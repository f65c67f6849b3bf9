/-
  No cell of these rows narrows 'for every input' (looked for: loops, veiled, ifaces, maps, wideKeys, modest, calm, conditions, laid).
  DERIVED. THE GIVEN ROWS OF THIS SEAT. 7 by the template 'for every input the law returns true; each argument reads behind the call as it read before'; 0 by the template 'total and deterministic' (their statements: YtgfahahiekfjgaaTotals.lean).
  GIVEN WITH THE SEED: the statements are not yours to turn. If you find one false, say at which input.
  Laid BY PROGRAM, IN A SANDBOX (cutbox-rows.mjs): the forced cells as the released guide's own fill.sh prints them over the translation 0507d952d500f81c… (all of the seat's roots in one cut). By AI agents, Wed Nov 11 2026. No macro, syntax, notation, axiom, sorry.
-/
import Derived.Test.YtgfahahiekfjgaaChecked
import GoSem.Claim
import GoSem.ClaimJoined
import GoSem.ClaimMapViews
import Derived.JoinedTies
import Derived.KernelRfl
namespace Go.Proofs.Ytgfahahiekfjgaa
/- THE CELL 'sum', in the pinned program and in every row, IS THE sha256 OF THE DUMP (.gsa) THAT YtgfahahiekfjgaaProg.lean LOADS. Nothing in Lean hashes anything: it is a label: what it is worth is what the hold of that sum in a sandbox is worth. -/
noncomputable def Try.pinned : Pinned := { name := "ytgfahahiekfjgaa", sum := "0507d952d500f81c898ad621d57080742d090374f0a589dada8e85468ca2d4df", checked := Try.checked }
namespace Rows
def none {H : Type} : Left H := { results := [], args := [] }

/-- 'n001_102.FnUnitIterYieldsExactlyOnce': WHATEVER THE INPUT: true; the input reads as it did. -/
def fnUnitIterYieldsExactlyOnceSpec : ChangeSpec := { name := "fnUnitIterYieldsExactlyOnce", fn := fun _ => fun
  | [d1, d2] => { results := [.lit (.bool true)], args := [d1, d2] }
  | _ => none }
def fnUnitIterYieldsExactlyOnceRow : OpenClaim := { program := "ytgfahahiekfjgaa", sum := "0507d952d500f81c898ad621d57080742d090374f0a589dada8e85468ca2d4df", func := "github.com/itchyny/gojq/n001_102.FnUnitIterYieldsExactlyOnce", spec := "fnUnitIterYieldsExactlyOnce", apart := false }
def FnUnitIterYieldsExactlyOnceSaid : Prop := fnUnitIterYieldsExactlyOnceRow.holds Try.pinned (OpenSpec.ofChange fnUnitIterYieldsExactlyOnceSpec)

/-- ITS FALSE NEIGHBOUR: 'it returns false'. Refute it at one input. -/
def fnUnitIterYieldsExactlyOnceWrong : ChangeSpec := { name := "fnUnitIterYieldsExactlyOnce", fn := fun _ => fun
  | [d1, d2] => { results := [.lit (.bool false)], args := [d1, d2] }
  | _ => none }
def FnUnitIterYieldsExactlyOnceWrongFalsely : Prop := fnUnitIterYieldsExactlyOnceRow.holds Try.pinned (OpenSpec.ofChange fnUnitIterYieldsExactlyOnceWrong)

/-- 'n001_102.FnExhaustedIterAgreesWithEmpty': WHATEVER THE INPUT: true; the input reads as it did. -/
def fnExhaustedIterAgreesWithEmptySpec : ChangeSpec := { name := "fnExhaustedIterAgreesWithEmpty", fn := fun _ => fun
  | [d1, d2] => { results := [.lit (.bool true)], args := [d1, d2] }
  | _ => none }
def fnExhaustedIterAgreesWithEmptyRow : OpenClaim := { program := "ytgfahahiekfjgaa", sum := "0507d952d500f81c898ad621d57080742d090374f0a589dada8e85468ca2d4df", func := "github.com/itchyny/gojq/n001_102.FnExhaustedIterAgreesWithEmpty", spec := "fnExhaustedIterAgreesWithEmpty", unfollowed := true, recurses := true, apart := false }
def FnExhaustedIterAgreesWithEmptySaid : Prop := fnExhaustedIterAgreesWithEmptyRow.holds Try.pinned (OpenSpec.ofChange fnExhaustedIterAgreesWithEmptySpec)

/-- ITS FALSE NEIGHBOUR: 'it returns false'. Refute it at one input. -/
def fnExhaustedIterAgreesWithEmptyWrong : ChangeSpec := { name := "fnExhaustedIterAgreesWithEmpty", fn := fun _ => fun
  | [d1, d2] => { results := [.lit (.bool false)], args := [d1, d2] }
  | _ => none }
def FnExhaustedIterAgreesWithEmptyWrongFalsely : Prop := fnExhaustedIterAgreesWithEmptyRow.holds Try.pinned (OpenSpec.ofChange fnExhaustedIterAgreesWithEmptyWrong)

/-- 'n001_102.FnNewIterYieldsValuesInOrder': WHATEVER THE INPUT: true; the input reads as it did. -/
def fnNewIterYieldsValuesInOrderSpec : ChangeSpec := { name := "fnNewIterYieldsValuesInOrder", fn := fun _ => fun
  | [d1, d2] => { results := [.lit (.bool true)], args := [d1, d2] }
  | _ => none }
def fnNewIterYieldsValuesInOrderRow : OpenClaim := { program := "ytgfahahiekfjgaa", sum := "0507d952d500f81c898ad621d57080742d090374f0a589dada8e85468ca2d4df", func := "github.com/itchyny/gojq/n001_102.FnNewIterYieldsValuesInOrder", spec := "fnNewIterYieldsValuesInOrder", unfollowed := true, recurses := true, apart := false }
def FnNewIterYieldsValuesInOrderSaid : Prop := fnNewIterYieldsValuesInOrderRow.holds Try.pinned (OpenSpec.ofChange fnNewIterYieldsValuesInOrderSpec)

/-- ITS FALSE NEIGHBOUR: 'it returns false'. Refute it at one input. -/
def fnNewIterYieldsValuesInOrderWrong : ChangeSpec := { name := "fnNewIterYieldsValuesInOrder", fn := fun _ => fun
  | [d1, d2] => { results := [.lit (.bool false)], args := [d1, d2] }
  | _ => none }
def FnNewIterYieldsValuesInOrderWrongFalsely : Prop := fnNewIterYieldsValuesInOrderRow.holds Try.pinned (OpenSpec.ofChange fnNewIterYieldsValuesInOrderWrong)

/-- 'n001_102.FnSliceIterYieldsValuesInOrder': WHATEVER THE INPUT: true; the input reads as it did. -/
def fnSliceIterYieldsValuesInOrderSpec : ChangeSpec := { name := "fnSliceIterYieldsValuesInOrder", fn := fun _ => fun
  | [d1, d2] => { results := [.lit (.bool true)], args := [d1, d2] }
  | _ => none }
def fnSliceIterYieldsValuesInOrderRow : OpenClaim := { program := "ytgfahahiekfjgaa", sum := "0507d952d500f81c898ad621d57080742d090374f0a589dada8e85468ca2d4df", func := "github.com/itchyny/gojq/n001_102.FnSliceIterYieldsValuesInOrder", spec := "fnSliceIterYieldsValuesInOrder", apart := false }
def FnSliceIterYieldsValuesInOrderSaid : Prop := fnSliceIterYieldsValuesInOrderRow.holds Try.pinned (OpenSpec.ofChange fnSliceIterYieldsValuesInOrderSpec)

/-- ITS FALSE NEIGHBOUR: 'it returns false'. Refute it at one input. -/
def fnSliceIterYieldsValuesInOrderWrong : ChangeSpec := { name := "fnSliceIterYieldsValuesInOrder", fn := fun _ => fun
  | [d1, d2] => { results := [.lit (.bool false)], args := [d1, d2] }
  | _ => none }
def FnSliceIterYieldsValuesInOrderWrongFalsely : Prop := fnSliceIterYieldsValuesInOrderRow.holds Try.pinned (OpenSpec.ofChange fnSliceIterYieldsValuesInOrderWrong)

/-- 'n001_102.FnSliceIterConsumesOnePerCall': WHATEVER THE INPUT: true; the input reads as it did. -/
def fnSliceIterConsumesOnePerCallSpec : ChangeSpec := { name := "fnSliceIterConsumesOnePerCall", fn := fun _ => fun
  | [d1, d2] => { results := [.lit (.bool true)], args := [d1, d2] }
  | _ => none }
def fnSliceIterConsumesOnePerCallRow : OpenClaim := { program := "ytgfahahiekfjgaa", sum := "0507d952d500f81c898ad621d57080742d090374f0a589dada8e85468ca2d4df", func := "github.com/itchyny/gojq/n001_102.FnSliceIterConsumesOnePerCall", spec := "fnSliceIterConsumesOnePerCall", apart := false }
def FnSliceIterConsumesOnePerCallSaid : Prop := fnSliceIterConsumesOnePerCallRow.holds Try.pinned (OpenSpec.ofChange fnSliceIterConsumesOnePerCallSpec)

/-- ITS FALSE NEIGHBOUR: 'it returns false'. Refute it at one input. -/
def fnSliceIterConsumesOnePerCallWrong : ChangeSpec := { name := "fnSliceIterConsumesOnePerCall", fn := fun _ => fun
  | [d1, d2] => { results := [.lit (.bool false)], args := [d1, d2] }
  | _ => none }
def FnSliceIterConsumesOnePerCallWrongFalsely : Prop := fnSliceIterConsumesOnePerCallRow.holds Try.pinned (OpenSpec.ofChange fnSliceIterConsumesOnePerCallWrong)

/-- 'n001_102.FnUnitIterAgreesWithNewIterOfOne': WHATEVER THE INPUT: true; the input reads as it did. -/
def fnUnitIterAgreesWithNewIterOfOneSpec : ChangeSpec := { name := "fnUnitIterAgreesWithNewIterOfOne", fn := fun _ => fun
  | [d1, d2] => { results := [.lit (.bool true)], args := [d1, d2] }
  | _ => none }
def fnUnitIterAgreesWithNewIterOfOneRow : OpenClaim := { program := "ytgfahahiekfjgaa", sum := "0507d952d500f81c898ad621d57080742d090374f0a589dada8e85468ca2d4df", func := "github.com/itchyny/gojq/n001_102.FnUnitIterAgreesWithNewIterOfOne", spec := "fnUnitIterAgreesWithNewIterOfOne", unfollowed := true, recurses := true, apart := false }
def FnUnitIterAgreesWithNewIterOfOneSaid : Prop := fnUnitIterAgreesWithNewIterOfOneRow.holds Try.pinned (OpenSpec.ofChange fnUnitIterAgreesWithNewIterOfOneSpec)

/-- ITS FALSE NEIGHBOUR: 'it returns false'. Refute it at one input. -/
def fnUnitIterAgreesWithNewIterOfOneWrong : ChangeSpec := { name := "fnUnitIterAgreesWithNewIterOfOne", fn := fun _ => fun
  | [d1, d2] => { results := [.lit (.bool false)], args := [d1, d2] }
  | _ => none }
def FnUnitIterAgreesWithNewIterOfOneWrongFalsely : Prop := fnUnitIterAgreesWithNewIterOfOneRow.holds Try.pinned (OpenSpec.ofChange fnUnitIterAgreesWithNewIterOfOneWrong)

/-- 'n001_102.FnNewIterIteratorsAreIndependent': WHATEVER THE INPUT: true; the input reads as it did. -/
def fnNewIterIteratorsAreIndependentSpec : ChangeSpec := { name := "fnNewIterIteratorsAreIndependent", fn := fun _ => fun
  | [d] => { results := [.lit (.bool true)], args := [d] }
  | _ => none }
def fnNewIterIteratorsAreIndependentRow : OpenClaim := { program := "ytgfahahiekfjgaa", sum := "0507d952d500f81c898ad621d57080742d090374f0a589dada8e85468ca2d4df", func := "github.com/itchyny/gojq/n001_102.FnNewIterIteratorsAreIndependent", spec := "fnNewIterIteratorsAreIndependent", unfollowed := true, recurses := true, apart := false }
def FnNewIterIteratorsAreIndependentSaid : Prop := fnNewIterIteratorsAreIndependentRow.holds Try.pinned (OpenSpec.ofChange fnNewIterIteratorsAreIndependentSpec)

/-- ITS FALSE NEIGHBOUR: 'it returns false'. Refute it at one input. -/
def fnNewIterIteratorsAreIndependentWrong : ChangeSpec := { name := "fnNewIterIteratorsAreIndependent", fn := fun _ => fun
  | [d] => { results := [.lit (.bool false)], args := [d] }
  | _ => none }
def FnNewIterIteratorsAreIndependentWrongFalsely : Prop := fnNewIterIteratorsAreIndependentRow.holds Try.pinned (OpenSpec.ofChange fnNewIterIteratorsAreIndependentWrong)

/- THE SECOND FORM. 'bulk': how many values and letters a reading holds, each counted each time it is reached (what is shared counts as often as it is met; a slice's spare places count too). A statement '..UptoSaid' is the law's where the arguments, and the package variables that the reading takes, are together of bulk at most 1048576: NARROWER than '..Said'. Prove '..Said' where nothing that the law and all that it calls make is longer than what came in: it says more and counts as full. Else prove '..UptoSaid'. A law counts once. -/
mutual
def uptoBulk {H : Type} : DataW H → Nat
  | .lit (.string bytes) => bytes.length + 1
  | .lit _ => 1
  | .nil => 1
  | .ptr d => uptoBulk d + 1
  | .slice elems spare => uptoBulkAll elems + uptoBulkAll spare + 1
  | .agg parts => uptoBulkAll parts + 1
  | .iface _ d => uptoBulk d + 1
  | .map entries => uptoBulkEntries entries + 1
  | .held _ => 1
def uptoBulkAll {H : Type} : List (DataW H) → Nat
  | [] => 0
  | d :: r => uptoBulk d + uptoBulkAll r
def uptoBulkEntries {H : Type} : List (Lit × DataW H) → Nat
  | [] => 0
  | x :: r => uptoBulkEntry x + uptoBulkEntries r
def uptoBulkEntry {H : Type} : Lit × DataW H → Nat
  | (.string bytes, d) => bytes.length + uptoBulk d + 1
  | (_, d) => uptoBulk d + 1
 end
def uptoSmall : (H : Type) → List (DataW H) → Bool := fun _ ds => decide (uptoBulkAll ds ≤ 1048576)
def OpenSpec.upto (s : _root_.Go.ChangeSpec) : _root_.Go.OpenSpec := { _root_.Go.OpenSpec.ofChange s with cond := some uptoSmall }

/-- 'n001_102.FnUnitIterYieldsExactlyOnce', WHERE WHAT IT READS IS OF BULK AT MOST 1048576: true; the input reads as it did. -/
def fnUnitIterYieldsExactlyOnceUptoRow : OpenClaim := { program := "ytgfahahiekfjgaa", sum := "0507d952d500f81c898ad621d57080742d090374f0a589dada8e85468ca2d4df", func := "github.com/itchyny/gojq/n001_102.FnUnitIterYieldsExactlyOnce", spec := "fnUnitIterYieldsExactlyOnce", apart := false, narrowed := true }
def FnUnitIterYieldsExactlyOnceUptoSaid : Prop := fnUnitIterYieldsExactlyOnceUptoRow.holds Try.pinned (OpenSpec.upto fnUnitIterYieldsExactlyOnceSpec)

/-- 'n001_102.FnExhaustedIterAgreesWithEmpty', WHERE WHAT IT READS IS OF BULK AT MOST 1048576: true; the input reads as it did. -/
def fnExhaustedIterAgreesWithEmptyUptoRow : OpenClaim := { program := "ytgfahahiekfjgaa", sum := "0507d952d500f81c898ad621d57080742d090374f0a589dada8e85468ca2d4df", func := "github.com/itchyny/gojq/n001_102.FnExhaustedIterAgreesWithEmpty", spec := "fnExhaustedIterAgreesWithEmpty", unfollowed := true, recurses := true, apart := false, narrowed := true }
def FnExhaustedIterAgreesWithEmptyUptoSaid : Prop := fnExhaustedIterAgreesWithEmptyUptoRow.holds Try.pinned (OpenSpec.upto fnExhaustedIterAgreesWithEmptySpec)

/-- 'n001_102.FnNewIterYieldsValuesInOrder', WHERE WHAT IT READS IS OF BULK AT MOST 1048576: true; the input reads as it did. -/
def fnNewIterYieldsValuesInOrderUptoRow : OpenClaim := { program := "ytgfahahiekfjgaa", sum := "0507d952d500f81c898ad621d57080742d090374f0a589dada8e85468ca2d4df", func := "github.com/itchyny/gojq/n001_102.FnNewIterYieldsValuesInOrder", spec := "fnNewIterYieldsValuesInOrder", unfollowed := true, recurses := true, apart := false, narrowed := true }
def FnNewIterYieldsValuesInOrderUptoSaid : Prop := fnNewIterYieldsValuesInOrderUptoRow.holds Try.pinned (OpenSpec.upto fnNewIterYieldsValuesInOrderSpec)

/-- 'n001_102.FnSliceIterYieldsValuesInOrder', WHERE WHAT IT READS IS OF BULK AT MOST 1048576: true; the input reads as it did. -/
def fnSliceIterYieldsValuesInOrderUptoRow : OpenClaim := { program := "ytgfahahiekfjgaa", sum := "0507d952d500f81c898ad621d57080742d090374f0a589dada8e85468ca2d4df", func := "github.com/itchyny/gojq/n001_102.FnSliceIterYieldsValuesInOrder", spec := "fnSliceIterYieldsValuesInOrder", apart := false, narrowed := true }
def FnSliceIterYieldsValuesInOrderUptoSaid : Prop := fnSliceIterYieldsValuesInOrderUptoRow.holds Try.pinned (OpenSpec.upto fnSliceIterYieldsValuesInOrderSpec)

/-- 'n001_102.FnSliceIterConsumesOnePerCall', WHERE WHAT IT READS IS OF BULK AT MOST 1048576: true; the input reads as it did. -/
def fnSliceIterConsumesOnePerCallUptoRow : OpenClaim := { program := "ytgfahahiekfjgaa", sum := "0507d952d500f81c898ad621d57080742d090374f0a589dada8e85468ca2d4df", func := "github.com/itchyny/gojq/n001_102.FnSliceIterConsumesOnePerCall", spec := "fnSliceIterConsumesOnePerCall", apart := false, narrowed := true }
def FnSliceIterConsumesOnePerCallUptoSaid : Prop := fnSliceIterConsumesOnePerCallUptoRow.holds Try.pinned (OpenSpec.upto fnSliceIterConsumesOnePerCallSpec)

/-- 'n001_102.FnUnitIterAgreesWithNewIterOfOne', WHERE WHAT IT READS IS OF BULK AT MOST 1048576: true; the input reads as it did. -/
def fnUnitIterAgreesWithNewIterOfOneUptoRow : OpenClaim := { program := "ytgfahahiekfjgaa", sum := "0507d952d500f81c898ad621d57080742d090374f0a589dada8e85468ca2d4df", func := "github.com/itchyny/gojq/n001_102.FnUnitIterAgreesWithNewIterOfOne", spec := "fnUnitIterAgreesWithNewIterOfOne", unfollowed := true, recurses := true, apart := false, narrowed := true }
def FnUnitIterAgreesWithNewIterOfOneUptoSaid : Prop := fnUnitIterAgreesWithNewIterOfOneUptoRow.holds Try.pinned (OpenSpec.upto fnUnitIterAgreesWithNewIterOfOneSpec)

/-- 'n001_102.FnNewIterIteratorsAreIndependent', WHERE WHAT IT READS IS OF BULK AT MOST 1048576: true; the input reads as it did. -/
def fnNewIterIteratorsAreIndependentUptoRow : OpenClaim := { program := "ytgfahahiekfjgaa", sum := "0507d952d500f81c898ad621d57080742d090374f0a589dada8e85468ca2d4df", func := "github.com/itchyny/gojq/n001_102.FnNewIterIteratorsAreIndependent", spec := "fnNewIterIteratorsAreIndependent", unfollowed := true, recurses := true, apart := false, narrowed := true }
def FnNewIterIteratorsAreIndependentUptoSaid : Prop := fnNewIterIteratorsAreIndependentUptoRow.holds Try.pinned (OpenSpec.upto fnNewIterIteratorsAreIndependentSpec)

end Rows
end Go.Proofs.Ytgfahahiekfjgaa
