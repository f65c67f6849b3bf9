/-
  No cell of these rows narrows 'for every input' (looked for: loops, veiled, ifaces, maps, wideKeys, modest, calm, conditions, laid).
  DERIVED. THE GIVEN ROWS OF THIS SEAT. 4 by the template 'for every input the law returns true; each argument reads behind the call as it read before'; 0 by the template 'total and deterministic' (their statements: YteoaillidaglbaaTotals.lean).
  GIVEN WITH THE SEED: the statements are not yours to turn. If you find one false, say at which input.
  Laid BY PROGRAM, IN A SANDBOX (cutbox-rows.mjs): the forced cells as the released guide's own fill.sh prints them over the translation 4d83ffb9955c0f36… (all of the seat's roots in one cut). By AI agents, Wed Nov 11 2026. No macro, syntax, notation, axiom, sorry.
-/
import Derived.Test.YteoaillidaglbaaChecked
import GoSem.Claim
import GoSem.ClaimJoined
import GoSem.ClaimMapViews
import Derived.JoinedTies
import Derived.KernelRfl
namespace Go.Proofs.Yteoaillidaglbaa
/- THE CELL 'sum', in the pinned program and in every row, IS THE sha256 OF THE DUMP (.gsa) THAT YteoaillidaglbaaProg.lean LOADS. Nothing in Lean hashes anything: it is a label: what it is worth is what the hold of that sum in a sandbox is worth. -/
noncomputable def Try.pinned : Pinned := { name := "yteoaillidaglbaa", sum := "4d83ffb9955c0f3679153ff7b3746baaaf3880d2961a13d451e474b0bc3d19da", checked := Try.checked }
namespace Rows
def none {H : Type} : Left H := { results := [], args := [] }

/-- 'n001_14.FnStackRestoreForgetsTheMiddle': WHATEVER THE INPUT: true; the input reads as it did. -/
def fnStackRestoreForgetsTheMiddleSpec : ChangeSpec := { name := "fnStackRestoreForgetsTheMiddle", fn := fun _ => fun
  | [d1, d2, d3, d4] => { results := [.lit (.bool true)], args := [d1, d2, d3, d4] }
  | _ => none }
def fnStackRestoreForgetsTheMiddleRow : OpenClaim := { program := "yteoaillidaglbaa", sum := "4d83ffb9955c0f3679153ff7b3746baaaf3880d2961a13d451e474b0bc3d19da", func := "github.com/itchyny/gojq/n001_14.FnStackRestoreForgetsTheMiddle", spec := "fnStackRestoreForgetsTheMiddle", apart := false }
def FnStackRestoreForgetsTheMiddleSaid : Prop := fnStackRestoreForgetsTheMiddleRow.holds Try.pinned (OpenSpec.ofChange fnStackRestoreForgetsTheMiddleSpec)

/-- ITS FALSE NEIGHBOUR: 'it returns false'. Refute it at one input. -/
def fnStackRestoreForgetsTheMiddleWrong : ChangeSpec := { name := "fnStackRestoreForgetsTheMiddle", fn := fun _ => fun
  | [d1, d2, d3, d4] => { results := [.lit (.bool false)], args := [d1, d2, d3, d4] }
  | _ => none }
def FnStackRestoreForgetsTheMiddleWrongFalsely : Prop := fnStackRestoreForgetsTheMiddleRow.holds Try.pinned (OpenSpec.ofChange fnStackRestoreForgetsTheMiddleWrong)

/-- 'n001_14.FnStackScriptMatchesPersistentList': WHATEVER THE INPUT: true; the input reads as it did. -/
def fnStackScriptMatchesPersistentListSpec : ChangeSpec := { name := "fnStackScriptMatchesPersistentList", fn := fun _ => fun
  | [d1, d2] => { results := [.lit (.bool true)], args := [d1, d2] }
  | _ => none }
def fnStackScriptMatchesPersistentListRow : OpenClaim := { program := "yteoaillidaglbaa", sum := "4d83ffb9955c0f3679153ff7b3746baaaf3880d2961a13d451e474b0bc3d19da", func := "github.com/itchyny/gojq/n001_14.FnStackScriptMatchesPersistentList", spec := "fnStackScriptMatchesPersistentList", apart := false }
def FnStackScriptMatchesPersistentListSaid : Prop := fnStackScriptMatchesPersistentListRow.holds Try.pinned (OpenSpec.ofChange fnStackScriptMatchesPersistentListSpec)

/-- ITS FALSE NEIGHBOUR: 'it returns false'. Refute it at one input. -/
def fnStackScriptMatchesPersistentListWrong : ChangeSpec := { name := "fnStackScriptMatchesPersistentList", fn := fun _ => fun
  | [d1, d2] => { results := [.lit (.bool false)], args := [d1, d2] }
  | _ => none }
def FnStackScriptMatchesPersistentListWrongFalsely : Prop := fnStackScriptMatchesPersistentListRow.holds Try.pinned (OpenSpec.ofChange fnStackScriptMatchesPersistentListWrong)

/-- 'n001_14.FnStackSaveIsInvisible': WHATEVER THE INPUT: true; the input reads as it did. -/
def fnStackSaveIsInvisibleSpec : ChangeSpec := { name := "fnStackSaveIsInvisible", fn := fun _ => fun
  | [d1, d2] => { results := [.lit (.bool true)], args := [d1, d2] }
  | _ => none }
def fnStackSaveIsInvisibleRow : OpenClaim := { program := "yteoaillidaglbaa", sum := "4d83ffb9955c0f3679153ff7b3746baaaf3880d2961a13d451e474b0bc3d19da", func := "github.com/itchyny/gojq/n001_14.FnStackSaveIsInvisible", spec := "fnStackSaveIsInvisible", apart := false }
def FnStackSaveIsInvisibleSaid : Prop := fnStackSaveIsInvisibleRow.holds Try.pinned (OpenSpec.ofChange fnStackSaveIsInvisibleSpec)

/-- ITS FALSE NEIGHBOUR: 'it returns false'. Refute it at one input. -/
def fnStackSaveIsInvisibleWrong : ChangeSpec := { name := "fnStackSaveIsInvisible", fn := fun _ => fun
  | [d1, d2] => { results := [.lit (.bool false)], args := [d1, d2] }
  | _ => none }
def FnStackSaveIsInvisibleWrongFalsely : Prop := fnStackSaveIsInvisibleRow.holds Try.pinned (OpenSpec.ofChange fnStackSaveIsInvisibleWrong)

/-- 'n001_14.FnStackEmptyExactlyWhenCountZero': WHATEVER THE INPUT: true; the input reads as it did. -/
def fnStackEmptyExactlyWhenCountZeroSpec : ChangeSpec := { name := "fnStackEmptyExactlyWhenCountZero", fn := fun _ => fun
  | [d] => { results := [.lit (.bool true)], args := [d] }
  | _ => none }
def fnStackEmptyExactlyWhenCountZeroRow : OpenClaim := { program := "yteoaillidaglbaa", sum := "4d83ffb9955c0f3679153ff7b3746baaaf3880d2961a13d451e474b0bc3d19da", func := "github.com/itchyny/gojq/n001_14.FnStackEmptyExactlyWhenCountZero", spec := "fnStackEmptyExactlyWhenCountZero", apart := false }
def FnStackEmptyExactlyWhenCountZeroSaid : Prop := fnStackEmptyExactlyWhenCountZeroRow.holds Try.pinned (OpenSpec.ofChange fnStackEmptyExactlyWhenCountZeroSpec)

/-- ITS FALSE NEIGHBOUR: 'it returns false'. Refute it at one input. -/
def fnStackEmptyExactlyWhenCountZeroWrong : ChangeSpec := { name := "fnStackEmptyExactlyWhenCountZero", fn := fun _ => fun
  | [d] => { results := [.lit (.bool false)], args := [d] }
  | _ => none }
def FnStackEmptyExactlyWhenCountZeroWrongFalsely : Prop := fnStackEmptyExactlyWhenCountZeroRow.holds Try.pinned (OpenSpec.ofChange fnStackEmptyExactlyWhenCountZeroWrong)

/- THE SECOND FORM. 'bulk': how many values and letters a reading holds, each counted each time it is reached (what is shared counts as often as it is met; a slice's spare places count too). A statement '..UptoSaid' is the law's where the arguments, and the package variables that the reading takes, are together of bulk at most 1048576: NARROWER than '..Said'. Prove '..Said' where nothing that the law and all that it calls make is longer than what came in: it says more and counts as full. Else prove '..UptoSaid'. A law counts once. -/
mutual
def uptoBulk {H : Type} : DataW H → Nat
  | .lit (.string bytes) => bytes.length + 1
  | .lit _ => 1
  | .nil => 1
  | .ptr d => uptoBulk d + 1
  | .slice elems spare => uptoBulkAll elems + uptoBulkAll spare + 1
  | .agg parts => uptoBulkAll parts + 1
  | .iface _ d => uptoBulk d + 1
  | .map entries => uptoBulkEntries entries + 1
  | .held _ => 1
def uptoBulkAll {H : Type} : List (DataW H) → Nat
  | [] => 0
  | d :: r => uptoBulk d + uptoBulkAll r
def uptoBulkEntries {H : Type} : List (Lit × DataW H) → Nat
  | [] => 0
  | x :: r => uptoBulkEntry x + uptoBulkEntries r
def uptoBulkEntry {H : Type} : Lit × DataW H → Nat
  | (.string bytes, d) => bytes.length + uptoBulk d + 1
  | (_, d) => uptoBulk d + 1
 end
def uptoSmall : (H : Type) → List (DataW H) → Bool := fun _ ds => decide (uptoBulkAll ds ≤ 1048576)
def OpenSpec.upto (s : _root_.Go.ChangeSpec) : _root_.Go.OpenSpec := { _root_.Go.OpenSpec.ofChange s with cond := some uptoSmall }

/-- 'n001_14.FnStackRestoreForgetsTheMiddle', WHERE WHAT IT READS IS OF BULK AT MOST 1048576: true; the input reads as it did. -/
def fnStackRestoreForgetsTheMiddleUptoRow : OpenClaim := { program := "yteoaillidaglbaa", sum := "4d83ffb9955c0f3679153ff7b3746baaaf3880d2961a13d451e474b0bc3d19da", func := "github.com/itchyny/gojq/n001_14.FnStackRestoreForgetsTheMiddle", spec := "fnStackRestoreForgetsTheMiddle", apart := false, narrowed := true }
def FnStackRestoreForgetsTheMiddleUptoSaid : Prop := fnStackRestoreForgetsTheMiddleUptoRow.holds Try.pinned (OpenSpec.upto fnStackRestoreForgetsTheMiddleSpec)

/-- 'n001_14.FnStackScriptMatchesPersistentList', WHERE WHAT IT READS IS OF BULK AT MOST 1048576: true; the input reads as it did. -/
def fnStackScriptMatchesPersistentListUptoRow : OpenClaim := { program := "yteoaillidaglbaa", sum := "4d83ffb9955c0f3679153ff7b3746baaaf3880d2961a13d451e474b0bc3d19da", func := "github.com/itchyny/gojq/n001_14.FnStackScriptMatchesPersistentList", spec := "fnStackScriptMatchesPersistentList", apart := false, narrowed := true }
def FnStackScriptMatchesPersistentListUptoSaid : Prop := fnStackScriptMatchesPersistentListUptoRow.holds Try.pinned (OpenSpec.upto fnStackScriptMatchesPersistentListSpec)

/-- 'n001_14.FnStackSaveIsInvisible', WHERE WHAT IT READS IS OF BULK AT MOST 1048576: true; the input reads as it did. -/
def fnStackSaveIsInvisibleUptoRow : OpenClaim := { program := "yteoaillidaglbaa", sum := "4d83ffb9955c0f3679153ff7b3746baaaf3880d2961a13d451e474b0bc3d19da", func := "github.com/itchyny/gojq/n001_14.FnStackSaveIsInvisible", spec := "fnStackSaveIsInvisible", apart := false, narrowed := true }
def FnStackSaveIsInvisibleUptoSaid : Prop := fnStackSaveIsInvisibleUptoRow.holds Try.pinned (OpenSpec.upto fnStackSaveIsInvisibleSpec)

/-- 'n001_14.FnStackEmptyExactlyWhenCountZero', WHERE WHAT IT READS IS OF BULK AT MOST 1048576: true; the input reads as it did. -/
def fnStackEmptyExactlyWhenCountZeroUptoRow : OpenClaim := { program := "yteoaillidaglbaa", sum := "4d83ffb9955c0f3679153ff7b3746baaaf3880d2961a13d451e474b0bc3d19da", func := "github.com/itchyny/gojq/n001_14.FnStackEmptyExactlyWhenCountZero", spec := "fnStackEmptyExactlyWhenCountZero", apart := false, narrowed := true }
def FnStackEmptyExactlyWhenCountZeroUptoSaid : Prop := fnStackEmptyExactlyWhenCountZeroUptoRow.holds Try.pinned (OpenSpec.upto fnStackEmptyExactlyWhenCountZeroSpec)

end Rows
end Go.Proofs.Yteoaillidaglbaa
