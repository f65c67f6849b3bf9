/-
  No cell of these rows narrows 'for every input' (looked for: loops, veiled, ifaces, maps, wideKeys, modest, calm, conditions, laid).
  DERIVED. THE GIVEN ROWS OF THIS SEAT. 9 by the template 'for every input the law returns true; each argument reads behind the call as it read before'; 0 by the template 'total and deterministic' (their statements: YtmifbojmkgibiaaTotals.lean).
  GIVEN WITH THE SEED: the statements are not yours to turn. If you find one false, say at which input.
  Laid BY PROGRAM, IN A SANDBOX (cutbox-rows.mjs): the forced cells as the released guide's own fill.sh prints them over the translation 9b38d23a3b5af02b… (all of the seat's roots in one cut). By AI agents, Wed Nov 11 2026. No macro, syntax, notation, axiom, sorry.
-/
import Derived.Test.YtmifbojmkgibiaaChecked
import GoSem.Claim
import GoSem.ClaimJoined
import GoSem.ClaimMapViews
import Derived.JoinedTies
import Derived.KernelRfl
namespace Go.Proofs.Ytmifbojmkgibiaa
/- THE CELL 'sum', in the pinned program and in every row, IS THE sha256 OF THE DUMP (.gsa) THAT YtmifbojmkgibiaaProg.lean LOADS. Nothing in Lean hashes anything: it is a label: what it is worth is what the hold of that sum in a sandbox is worth. -/
noncomputable def Try.pinned : Pinned := { name := "ytmifbojmkgibiaa", sum := "9b38d23a3b5af02bdda7779f9aa05dd5dd38d177455f837da8568dae82b1c97a", checked := Try.checked }
namespace Rows
def none {H : Type} : Left H := { results := [], args := [] }

/-- 'n001_12.FnExitCodeErrorIntAndNilValueRoundTrip': WHATEVER THE INPUT: true; the input reads as it did. -/
def fnExitCodeErrorIntAndNilValueRoundTripSpec : ChangeSpec := { name := "fnExitCodeErrorIntAndNilValueRoundTrip", fn := fun _ => fun
  | [d1, d2] => { results := [.lit (.bool true)], args := [d1, d2] }
  | _ => none }
def fnExitCodeErrorIntAndNilValueRoundTripRow : OpenClaim := { program := "ytmifbojmkgibiaa", sum := "9b38d23a3b5af02bdda7779f9aa05dd5dd38d177455f837da8568dae82b1c97a", func := "github.com/itchyny/gojq/n001_12.FnExitCodeErrorIntAndNilValueRoundTrip", spec := "fnExitCodeErrorIntAndNilValueRoundTrip", apart := false }
def FnExitCodeErrorIntAndNilValueRoundTripSaid : Prop := fnExitCodeErrorIntAndNilValueRoundTripRow.holds Try.pinned (OpenSpec.ofChange fnExitCodeErrorIntAndNilValueRoundTripSpec)

/-- ITS FALSE NEIGHBOUR: 'it returns false'. Refute it at one input. -/
def fnExitCodeErrorIntAndNilValueRoundTripWrong : ChangeSpec := { name := "fnExitCodeErrorIntAndNilValueRoundTrip", fn := fun _ => fun
  | [d1, d2] => { results := [.lit (.bool false)], args := [d1, d2] }
  | _ => none }
def FnExitCodeErrorIntAndNilValueRoundTripWrongFalsely : Prop := fnExitCodeErrorIntAndNilValueRoundTripRow.holds Try.pinned (OpenSpec.ofChange fnExitCodeErrorIntAndNilValueRoundTripWrong)

/-- 'n001_13.FnFormatNotFoundErrorInjective': WHATEVER THE INPUT: true; the input reads as it did. -/
def fnFormatNotFoundErrorInjectiveSpec : ChangeSpec := { name := "fnFormatNotFoundErrorInjective", fn := fun _ => fun
  | [d1, d2] => { results := [.lit (.bool true)], args := [d1, d2] }
  | _ => none }
def fnFormatNotFoundErrorInjectiveRow : OpenClaim := { program := "ytmifbojmkgibiaa", sum := "9b38d23a3b5af02bdda7779f9aa05dd5dd38d177455f837da8568dae82b1c97a", func := "github.com/itchyny/gojq/n001_13.FnFormatNotFoundErrorInjective", spec := "fnFormatNotFoundErrorInjective", apart := false }
def FnFormatNotFoundErrorInjectiveSaid : Prop := fnFormatNotFoundErrorInjectiveRow.holds Try.pinned (OpenSpec.ofChange fnFormatNotFoundErrorInjectiveSpec)

/-- ITS FALSE NEIGHBOUR: 'it returns false'. Refute it at one input. -/
def fnFormatNotFoundErrorInjectiveWrong : ChangeSpec := { name := "fnFormatNotFoundErrorInjective", fn := fun _ => fun
  | [d1, d2] => { results := [.lit (.bool false)], args := [d1, d2] }
  | _ => none }
def FnFormatNotFoundErrorInjectiveWrongFalsely : Prop := fnFormatNotFoundErrorInjectiveRow.holds Try.pinned (OpenSpec.ofChange fnFormatNotFoundErrorInjectiveWrong)

/-- 'n001_12.FnExitCodeErrorExitCodeIsCode': WHATEVER THE INPUT: true; the input reads as it did. -/
def fnExitCodeErrorExitCodeIsCodeSpec : ChangeSpec := { name := "fnExitCodeErrorExitCodeIsCode", fn := fun _ => fun
  | [d1, d2, d3] => { results := [.lit (.bool true)], args := [d1, d2, d3] }
  | _ => none }
def fnExitCodeErrorExitCodeIsCodeRow : OpenClaim := { program := "ytmifbojmkgibiaa", sum := "9b38d23a3b5af02bdda7779f9aa05dd5dd38d177455f837da8568dae82b1c97a", func := "github.com/itchyny/gojq/n001_12.FnExitCodeErrorExitCodeIsCode", spec := "fnExitCodeErrorExitCodeIsCode", apart := false }
def FnExitCodeErrorExitCodeIsCodeSaid : Prop := fnExitCodeErrorExitCodeIsCodeRow.holds Try.pinned (OpenSpec.ofChange fnExitCodeErrorExitCodeIsCodeSpec)

/-- ITS FALSE NEIGHBOUR: 'it returns false'. Refute it at one input. -/
def fnExitCodeErrorExitCodeIsCodeWrong : ChangeSpec := { name := "fnExitCodeErrorExitCodeIsCode", fn := fun _ => fun
  | [d1, d2, d3] => { results := [.lit (.bool false)], args := [d1, d2, d3] }
  | _ => none }
def FnExitCodeErrorExitCodeIsCodeWrongFalsely : Prop := fnExitCodeErrorExitCodeIsCodeRow.holds Try.pinned (OpenSpec.ofChange fnExitCodeErrorExitCodeIsCodeWrong)

/-- 'n001_12.FnExitCodeErrorStringValueRoundTrip': WHATEVER THE INPUT: true; the input reads as it did. -/
def fnExitCodeErrorStringValueRoundTripSpec : ChangeSpec := { name := "fnExitCodeErrorStringValueRoundTrip", fn := fun _ => fun
  | [d1, d2] => { results := [.lit (.bool true)], args := [d1, d2] }
  | _ => none }
def fnExitCodeErrorStringValueRoundTripRow : OpenClaim := { program := "ytmifbojmkgibiaa", sum := "9b38d23a3b5af02bdda7779f9aa05dd5dd38d177455f837da8568dae82b1c97a", func := "github.com/itchyny/gojq/n001_12.FnExitCodeErrorStringValueRoundTrip", spec := "fnExitCodeErrorStringValueRoundTrip", apart := false }
def FnExitCodeErrorStringValueRoundTripSaid : Prop := fnExitCodeErrorStringValueRoundTripRow.holds Try.pinned (OpenSpec.ofChange fnExitCodeErrorStringValueRoundTripSpec)

/-- ITS FALSE NEIGHBOUR: 'it returns false'. Refute it at one input. -/
def fnExitCodeErrorStringValueRoundTripWrong : ChangeSpec := { name := "fnExitCodeErrorStringValueRoundTrip", fn := fun _ => fun
  | [d1, d2] => { results := [.lit (.bool false)], args := [d1, d2] }
  | _ => none }
def FnExitCodeErrorStringValueRoundTripWrongFalsely : Prop := fnExitCodeErrorStringValueRoundTripRow.holds Try.pinned (OpenSpec.ofChange fnExitCodeErrorStringValueRoundTripWrong)

/-- 'n001_12.FnHaltErrorValueStringRoundTrip': WHATEVER THE INPUT: true; the input reads as it did. -/
def fnHaltErrorValueStringRoundTripSpec : ChangeSpec := { name := "fnHaltErrorValueStringRoundTrip", fn := fun _ => fun
  | [d1, d2] => { results := [.lit (.bool true)], args := [d1, d2] }
  | _ => none }
def fnHaltErrorValueStringRoundTripRow : OpenClaim := { program := "ytmifbojmkgibiaa", sum := "9b38d23a3b5af02bdda7779f9aa05dd5dd38d177455f837da8568dae82b1c97a", func := "github.com/itchyny/gojq/n001_12.FnHaltErrorValueStringRoundTrip", spec := "fnHaltErrorValueStringRoundTrip", apart := false }
def FnHaltErrorValueStringRoundTripSaid : Prop := fnHaltErrorValueStringRoundTripRow.holds Try.pinned (OpenSpec.ofChange fnHaltErrorValueStringRoundTripSpec)

/-- ITS FALSE NEIGHBOUR: 'it returns false'. Refute it at one input. -/
def fnHaltErrorValueStringRoundTripWrong : ChangeSpec := { name := "fnHaltErrorValueStringRoundTrip", fn := fun _ => fun
  | [d1, d2] => { results := [.lit (.bool false)], args := [d1, d2] }
  | _ => none }
def FnHaltErrorValueStringRoundTripWrongFalsely : Prop := fnHaltErrorValueStringRoundTripRow.holds Try.pinned (OpenSpec.ofChange fnHaltErrorValueStringRoundTripWrong)

/-- 'n001_105.FnFloatToIntMonotoneIdempotent': WHATEVER THE INPUT: true; the input reads as it did. -/
def fnFloatToIntMonotoneIdempotentSpec : ChangeSpec := { name := "fnFloatToIntMonotoneIdempotent", fn := fun _ => fun
  | [d1, d2] => { results := [.lit (.bool true)], args := [d1, d2] }
  | _ => none }
def fnFloatToIntMonotoneIdempotentRow : OpenClaim := { program := "ytmifbojmkgibiaa", sum := "9b38d23a3b5af02bdda7779f9aa05dd5dd38d177455f837da8568dae82b1c97a", func := "github.com/itchyny/gojq/n001_105.FnFloatToIntMonotoneIdempotent", spec := "fnFloatToIntMonotoneIdempotent", apart := false }
def FnFloatToIntMonotoneIdempotentSaid : Prop := fnFloatToIntMonotoneIdempotentRow.holds Try.pinned (OpenSpec.ofChange fnFloatToIntMonotoneIdempotentSpec)

/-- ITS FALSE NEIGHBOUR: 'it returns false'. Refute it at one input. -/
def fnFloatToIntMonotoneIdempotentWrong : ChangeSpec := { name := "fnFloatToIntMonotoneIdempotent", fn := fun _ => fun
  | [d1, d2] => { results := [.lit (.bool false)], args := [d1, d2] }
  | _ => none }
def FnFloatToIntMonotoneIdempotentWrongFalsely : Prop := fnFloatToIntMonotoneIdempotentRow.holds Try.pinned (OpenSpec.ofChange fnFloatToIntMonotoneIdempotentWrong)

/-- 'n001_105.FnFloatToIntClampAndTruncate': WHATEVER THE INPUT: true; the input reads as it did. -/
def fnFloatToIntClampAndTruncateSpec : ChangeSpec := { name := "fnFloatToIntClampAndTruncate", fn := fun _ => fun
  | [d] => { results := [.lit (.bool true)], args := [d] }
  | _ => none }
def fnFloatToIntClampAndTruncateRow : OpenClaim := { program := "ytmifbojmkgibiaa", sum := "9b38d23a3b5af02bdda7779f9aa05dd5dd38d177455f837da8568dae82b1c97a", func := "github.com/itchyny/gojq/n001_105.FnFloatToIntClampAndTruncate", spec := "fnFloatToIntClampAndTruncate", apart := false }
def FnFloatToIntClampAndTruncateSaid : Prop := fnFloatToIntClampAndTruncateRow.holds Try.pinned (OpenSpec.ofChange fnFloatToIntClampAndTruncateSpec)

/-- ITS FALSE NEIGHBOUR: 'it returns false'. Refute it at one input. -/
def fnFloatToIntClampAndTruncateWrong : ChangeSpec := { name := "fnFloatToIntClampAndTruncate", fn := fun _ => fun
  | [d] => { results := [.lit (.bool false)], args := [d] }
  | _ => none }
def FnFloatToIntClampAndTruncateWrongFalsely : Prop := fnFloatToIntClampAndTruncateRow.holds Try.pinned (OpenSpec.ofChange fnFloatToIntClampAndTruncateWrong)

/-- 'n001_12.FnHaltErrorAgreesWithExitCodeView': WHATEVER THE INPUT: true; the input reads as it did. -/
def fnHaltErrorAgreesWithExitCodeViewSpec : ChangeSpec := { name := "fnHaltErrorAgreesWithExitCodeView", fn := fun _ => fun
  | [d1, d2, d3] => { results := [.lit (.bool true)], args := [d1, d2, d3] }
  | _ => none }
def fnHaltErrorAgreesWithExitCodeViewRow : OpenClaim := { program := "ytmifbojmkgibiaa", sum := "9b38d23a3b5af02bdda7779f9aa05dd5dd38d177455f837da8568dae82b1c97a", func := "github.com/itchyny/gojq/n001_12.FnHaltErrorAgreesWithExitCodeView", spec := "fnHaltErrorAgreesWithExitCodeView", apart := false }
def FnHaltErrorAgreesWithExitCodeViewSaid : Prop := fnHaltErrorAgreesWithExitCodeViewRow.holds Try.pinned (OpenSpec.ofChange fnHaltErrorAgreesWithExitCodeViewSpec)

/-- ITS FALSE NEIGHBOUR: 'it returns false'. Refute it at one input. -/
def fnHaltErrorAgreesWithExitCodeViewWrong : ChangeSpec := { name := "fnHaltErrorAgreesWithExitCodeView", fn := fun _ => fun
  | [d1, d2, d3] => { results := [.lit (.bool false)], args := [d1, d2, d3] }
  | _ => none }
def FnHaltErrorAgreesWithExitCodeViewWrongFalsely : Prop := fnHaltErrorAgreesWithExitCodeViewRow.holds Try.pinned (OpenSpec.ofChange fnHaltErrorAgreesWithExitCodeViewWrong)

/-- 'n001_108.FnReverseInvolution': WHATEVER THE INPUT: true; the input reads as it did. -/
def fnReverseInvolutionSpec : ChangeSpec := { name := "fnReverseInvolution", fn := fun _ => fun
  | [d] => { results := [.lit (.bool true)], args := [d] }
  | _ => none }
def fnReverseInvolutionRow : OpenClaim := { program := "ytmifbojmkgibiaa", sum := "9b38d23a3b5af02bdda7779f9aa05dd5dd38d177455f837da8568dae82b1c97a", func := "github.com/itchyny/gojq/n001_108.FnReverseInvolution", spec := "fnReverseInvolution", apart := false }
def FnReverseInvolutionSaid : Prop := fnReverseInvolutionRow.holds Try.pinned (OpenSpec.ofChange fnReverseInvolutionSpec)

/-- ITS FALSE NEIGHBOUR: 'it returns false'. Refute it at one input. -/
def fnReverseInvolutionWrong : ChangeSpec := { name := "fnReverseInvolution", fn := fun _ => fun
  | [d] => { results := [.lit (.bool false)], args := [d] }
  | _ => none }
def FnReverseInvolutionWrongFalsely : Prop := fnReverseInvolutionRow.holds Try.pinned (OpenSpec.ofChange fnReverseInvolutionWrong)

/- THE SECOND FORM. 'bulk': how many values and letters a reading holds, each counted each time it is reached (what is shared counts as often as it is met; a slice's spare places count too). A statement '..UptoSaid' is the law's where the arguments, and the package variables that the reading takes, are together of bulk at most 1048576: NARROWER than '..Said'. Prove '..Said' where nothing that the law and all that it calls make is longer than what came in: it says more and counts as full. Else prove '..UptoSaid'. A law counts once. -/
mutual
def uptoBulk {H : Type} : DataW H → Nat
  | .lit (.string bytes) => bytes.length + 1
  | .lit _ => 1
  | .nil => 1
  | .ptr d => uptoBulk d + 1
  | .slice elems spare => uptoBulkAll elems + uptoBulkAll spare + 1
  | .agg parts => uptoBulkAll parts + 1
  | .iface _ d => uptoBulk d + 1
  | .map entries => uptoBulkEntries entries + 1
  | .held _ => 1
def uptoBulkAll {H : Type} : List (DataW H) → Nat
  | [] => 0
  | d :: r => uptoBulk d + uptoBulkAll r
def uptoBulkEntries {H : Type} : List (Lit × DataW H) → Nat
  | [] => 0
  | x :: r => uptoBulkEntry x + uptoBulkEntries r
def uptoBulkEntry {H : Type} : Lit × DataW H → Nat
  | (.string bytes, d) => bytes.length + uptoBulk d + 1
  | (_, d) => uptoBulk d + 1
 end
def uptoSmall : (H : Type) → List (DataW H) → Bool := fun _ ds => decide (uptoBulkAll ds ≤ 1048576)
def OpenSpec.upto (s : _root_.Go.ChangeSpec) : _root_.Go.OpenSpec := { _root_.Go.OpenSpec.ofChange s with cond := some uptoSmall }

/-- 'n001_12.FnExitCodeErrorIntAndNilValueRoundTrip', WHERE WHAT IT READS IS OF BULK AT MOST 1048576: true; the input reads as it did. -/
def fnExitCodeErrorIntAndNilValueRoundTripUptoRow : OpenClaim := { program := "ytmifbojmkgibiaa", sum := "9b38d23a3b5af02bdda7779f9aa05dd5dd38d177455f837da8568dae82b1c97a", func := "github.com/itchyny/gojq/n001_12.FnExitCodeErrorIntAndNilValueRoundTrip", spec := "fnExitCodeErrorIntAndNilValueRoundTrip", apart := false, narrowed := true }
def FnExitCodeErrorIntAndNilValueRoundTripUptoSaid : Prop := fnExitCodeErrorIntAndNilValueRoundTripUptoRow.holds Try.pinned (OpenSpec.upto fnExitCodeErrorIntAndNilValueRoundTripSpec)

/-- 'n001_13.FnFormatNotFoundErrorInjective', WHERE WHAT IT READS IS OF BULK AT MOST 1048576: true; the input reads as it did. -/
def fnFormatNotFoundErrorInjectiveUptoRow : OpenClaim := { program := "ytmifbojmkgibiaa", sum := "9b38d23a3b5af02bdda7779f9aa05dd5dd38d177455f837da8568dae82b1c97a", func := "github.com/itchyny/gojq/n001_13.FnFormatNotFoundErrorInjective", spec := "fnFormatNotFoundErrorInjective", apart := false, narrowed := true }
def FnFormatNotFoundErrorInjectiveUptoSaid : Prop := fnFormatNotFoundErrorInjectiveUptoRow.holds Try.pinned (OpenSpec.upto fnFormatNotFoundErrorInjectiveSpec)

/-- 'n001_12.FnExitCodeErrorExitCodeIsCode', WHERE WHAT IT READS IS OF BULK AT MOST 1048576: true; the input reads as it did. -/
def fnExitCodeErrorExitCodeIsCodeUptoRow : OpenClaim := { program := "ytmifbojmkgibiaa", sum := "9b38d23a3b5af02bdda7779f9aa05dd5dd38d177455f837da8568dae82b1c97a", func := "github.com/itchyny/gojq/n001_12.FnExitCodeErrorExitCodeIsCode", spec := "fnExitCodeErrorExitCodeIsCode", apart := false, narrowed := true }
def FnExitCodeErrorExitCodeIsCodeUptoSaid : Prop := fnExitCodeErrorExitCodeIsCodeUptoRow.holds Try.pinned (OpenSpec.upto fnExitCodeErrorExitCodeIsCodeSpec)

/-- 'n001_12.FnExitCodeErrorStringValueRoundTrip', WHERE WHAT IT READS IS OF BULK AT MOST 1048576: true; the input reads as it did. -/
def fnExitCodeErrorStringValueRoundTripUptoRow : OpenClaim := { program := "ytmifbojmkgibiaa", sum := "9b38d23a3b5af02bdda7779f9aa05dd5dd38d177455f837da8568dae82b1c97a", func := "github.com/itchyny/gojq/n001_12.FnExitCodeErrorStringValueRoundTrip", spec := "fnExitCodeErrorStringValueRoundTrip", apart := false, narrowed := true }
def FnExitCodeErrorStringValueRoundTripUptoSaid : Prop := fnExitCodeErrorStringValueRoundTripUptoRow.holds Try.pinned (OpenSpec.upto fnExitCodeErrorStringValueRoundTripSpec)

/-- 'n001_12.FnHaltErrorValueStringRoundTrip', WHERE WHAT IT READS IS OF BULK AT MOST 1048576: true; the input reads as it did. -/
def fnHaltErrorValueStringRoundTripUptoRow : OpenClaim := { program := "ytmifbojmkgibiaa", sum := "9b38d23a3b5af02bdda7779f9aa05dd5dd38d177455f837da8568dae82b1c97a", func := "github.com/itchyny/gojq/n001_12.FnHaltErrorValueStringRoundTrip", spec := "fnHaltErrorValueStringRoundTrip", apart := false, narrowed := true }
def FnHaltErrorValueStringRoundTripUptoSaid : Prop := fnHaltErrorValueStringRoundTripUptoRow.holds Try.pinned (OpenSpec.upto fnHaltErrorValueStringRoundTripSpec)

/-- 'n001_105.FnFloatToIntMonotoneIdempotent', WHERE WHAT IT READS IS OF BULK AT MOST 1048576: true; the input reads as it did. -/
def fnFloatToIntMonotoneIdempotentUptoRow : OpenClaim := { program := "ytmifbojmkgibiaa", sum := "9b38d23a3b5af02bdda7779f9aa05dd5dd38d177455f837da8568dae82b1c97a", func := "github.com/itchyny/gojq/n001_105.FnFloatToIntMonotoneIdempotent", spec := "fnFloatToIntMonotoneIdempotent", apart := false, narrowed := true }
def FnFloatToIntMonotoneIdempotentUptoSaid : Prop := fnFloatToIntMonotoneIdempotentUptoRow.holds Try.pinned (OpenSpec.upto fnFloatToIntMonotoneIdempotentSpec)

/-- 'n001_105.FnFloatToIntClampAndTruncate', WHERE WHAT IT READS IS OF BULK AT MOST 1048576: true; the input reads as it did. -/
def fnFloatToIntClampAndTruncateUptoRow : OpenClaim := { program := "ytmifbojmkgibiaa", sum := "9b38d23a3b5af02bdda7779f9aa05dd5dd38d177455f837da8568dae82b1c97a", func := "github.com/itchyny/gojq/n001_105.FnFloatToIntClampAndTruncate", spec := "fnFloatToIntClampAndTruncate", apart := false, narrowed := true }
def FnFloatToIntClampAndTruncateUptoSaid : Prop := fnFloatToIntClampAndTruncateUptoRow.holds Try.pinned (OpenSpec.upto fnFloatToIntClampAndTruncateSpec)

/-- 'n001_12.FnHaltErrorAgreesWithExitCodeView', WHERE WHAT IT READS IS OF BULK AT MOST 1048576: true; the input reads as it did. -/
def fnHaltErrorAgreesWithExitCodeViewUptoRow : OpenClaim := { program := "ytmifbojmkgibiaa", sum := "9b38d23a3b5af02bdda7779f9aa05dd5dd38d177455f837da8568dae82b1c97a", func := "github.com/itchyny/gojq/n001_12.FnHaltErrorAgreesWithExitCodeView", spec := "fnHaltErrorAgreesWithExitCodeView", apart := false, narrowed := true }
def FnHaltErrorAgreesWithExitCodeViewUptoSaid : Prop := fnHaltErrorAgreesWithExitCodeViewUptoRow.holds Try.pinned (OpenSpec.upto fnHaltErrorAgreesWithExitCodeViewSpec)

/-- 'n001_108.FnReverseInvolution', WHERE WHAT IT READS IS OF BULK AT MOST 1048576: true; the input reads as it did. -/
def fnReverseInvolutionUptoRow : OpenClaim := { program := "ytmifbojmkgibiaa", sum := "9b38d23a3b5af02bdda7779f9aa05dd5dd38d177455f837da8568dae82b1c97a", func := "github.com/itchyny/gojq/n001_108.FnReverseInvolution", spec := "fnReverseInvolution", apart := false, narrowed := true }
def FnReverseInvolutionUptoSaid : Prop := fnReverseInvolutionUptoRow.holds Try.pinned (OpenSpec.upto fnReverseInvolutionSpec)

end Rows
end Go.Proofs.Ytmifbojmkgibiaa
