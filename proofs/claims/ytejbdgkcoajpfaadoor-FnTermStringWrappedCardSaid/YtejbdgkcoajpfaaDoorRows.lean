/-
  NARROWER THAN 'FOR EVERY INPUT', by the rows' own cells (each row's printed sentence says how): FnLabelWriteToAgreesWithTermAndQuery: laid · FnIfElifStringModel: laid · FnIfElifWriteToModel: laid · FnTryStringModel: laid · FnIfElifStringInjective: laid · FnTryWriteToModel: laid · FnIfElifWriteToAgreesString: laid · FnTryWriteToAgreesString: laid · FnTryStringInjective: laid · FnTermStringLeafModel: laid · FnTermStringWrapped: laid.
  DERIVED. THE GIVEN ROWS OF THIS SEAT. 11 by the template 'for every input the law returns true; each argument reads behind the call as it read before'; 0 by the template 'total and deterministic' (their statements: YtejbdgkcoajpfaaDoorTotals.lean).
  GIVEN WITH THE SEED: the statements are not yours to turn. If you find one false, say at which input.
  Laid BY PROGRAM, IN A SANDBOX (cutbox-rows.mjs): the forced cells as the released guide's own fill.sh prints them over the translation 2d8e50cd5f49defd… (all of the seat's roots in one cut). By AI agents, Wed Nov 11 2026. No macro, syntax, notation, axiom, sorry.
-/
import Derived.Test.YtejbdgkcoajpfaaDoorChecked
import GoSem.PinnedTables
import GoSem.Claim
import GoSem.ClaimJoined
import GoSem.ClaimMapViews
import Derived.JoinedTies
import Derived.KernelRfl
namespace Go.Proofs.YtejbdgkcoajpfaaDoor
/- THE CELL 'sum', in the pinned program and in every row, IS THE sha256 OF THE DUMP (.gsa) THAT YtejbdgkcoajpfaaDoorProg.lean LOADS. Nothing in Lean hashes anything: it is a label: what it is worth is what the hold of that sum in a sandbox is worth. -/
noncomputable def Tryd.pinned : Pinned := { name := "ytejbdgkcoajpfaadoor", sum := "2d8e50cd5f49defd291a552b2464b2f809f13d446d65bfa0ae6cf059d7dc5a9b", checked := Tryd.checked }
namespace Rows
def none {H : Type} : Left H := { results := [], args := [] }

/- WHAT THE LISTED PACKAGE-LEVEL VARIABLES READ AS WHEN THE CALL BEGINS. Each datum BY PROGRAM (the guide's laid-datum.mjs) off the statement by which the dump's own 'gosem.cut.vars' lays the variable. In a bare row this is a premise. The card (YtejbdgkcoajpfaaDoorCards.lean) ties it to the program's text. -/
def laid_unicode_utf8_acceptRanges {H : Type} : DataW H := .agg [.agg [.lit (.int .u8 128), .lit (.int .u8 191)], .agg [.lit (.int .u8 160), .lit (.int .u8 191)], .agg [.lit (.int .u8 128), .lit (.int .u8 159)], .agg [.lit (.int .u8 144), .lit (.int .u8 191)], .agg [.lit (.int .u8 128), .lit (.int .u8 143)], .agg [.lit (.int .u8 0), .lit (.int .u8 0)], .agg [.lit (.int .u8 0), .lit (.int .u8 0)], .agg [.lit (.int .u8 0), .lit (.int .u8 0)], .agg [.lit (.int .u8 0), .lit (.int .u8 0)], .agg [.lit (.int .u8 0), .lit (.int .u8 0)], .agg [.lit (.int .u8 0), .lit (.int .u8 0)], .agg [.lit (.int .u8 0), .lit (.int .u8 0)], .agg [.lit (.int .u8 0), .lit (.int .u8 0)], .agg [.lit (.int .u8 0), .lit (.int .u8 0)], .agg [.lit (.int .u8 0), .lit (.int .u8 0)], .agg [.lit (.int .u8 0), .lit (.int .u8 0)]]
/-- One of Go's own tables, pinned by name: the form's constant. -/
def laid_unicode_utf8_first : DataW Unit := Go.Pinned.utf8First

/-- 'n001_15.FnLabelWriteToAgreesWithTermAndQuery': WHATEVER THE INPUT: true; the input reads as it did. -/
def fnLabelWriteToAgreesWithTermAndQuerySpec : ChangeSpec := { name := "fnLabelWriteToAgreesWithTermAndQuery", fn := fun _ => fun
  | [d1, d2] => { results := [.lit (.bool true)], args := [d1, d2] }
  | _ => none }
def fnLabelWriteToAgreesWithTermAndQueryRow : OpenClaim := { program := "ytejbdgkcoajpfaadoor", sum := "2d8e50cd5f49defd291a552b2464b2f809f13d446d65bfa0ae6cf059d7dc5a9b", func := "github.com/itchyny/gojq/n001_15.FnLabelWriteToAgreesWithTermAndQuery", spec := "fnLabelWriteToAgreesWithTermAndQuery", inPlace := ["internal/abi.NoEscape"], unfollowed := true, recurses := true, named := ["unicode/utf8.first", "unicode/utf8.acceptRanges"], apart := false, laid := [("unicode/utf8.acceptRanges", laid_unicode_utf8_acceptRanges), ("unicode/utf8.first", laid_unicode_utf8_first)] }
def FnLabelWriteToAgreesWithTermAndQuerySaid : Prop := fnLabelWriteToAgreesWithTermAndQueryRow.holds Tryd.pinned (OpenSpec.ofChange fnLabelWriteToAgreesWithTermAndQuerySpec)

/-- ITS FALSE NEIGHBOUR: 'it returns false'. Refute it at one input. -/
def fnLabelWriteToAgreesWithTermAndQueryWrong : ChangeSpec := { name := "fnLabelWriteToAgreesWithTermAndQuery", fn := fun _ => fun
  | [d1, d2] => { results := [.lit (.bool false)], args := [d1, d2] }
  | _ => none }
def FnLabelWriteToAgreesWithTermAndQueryWrongFalsely : Prop := fnLabelWriteToAgreesWithTermAndQueryRow.holds Tryd.pinned (OpenSpec.ofChange fnLabelWriteToAgreesWithTermAndQueryWrong)

/-- 'n001_104.FnIfElifStringModel': WHATEVER THE INPUT: true; the input reads as it did. -/
def fnIfElifStringModelSpec : ChangeSpec := { name := "fnIfElifStringModel", fn := fun _ => fun
  | [d1, d2, d3, d4] => { results := [.lit (.bool true)], args := [d1, d2, d3, d4] }
  | _ => none }
def fnIfElifStringModelRow : OpenClaim := { program := "ytejbdgkcoajpfaadoor", sum := "2d8e50cd5f49defd291a552b2464b2f809f13d446d65bfa0ae6cf059d7dc5a9b", func := "github.com/itchyny/gojq/n001_104.FnIfElifStringModel", spec := "fnIfElifStringModel", inPlace := ["internal/abi.NoEscape"], unfollowed := true, recurses := true, named := ["unicode/utf8.first", "unicode/utf8.acceptRanges"], apart := false, laid := [("unicode/utf8.acceptRanges", laid_unicode_utf8_acceptRanges), ("unicode/utf8.first", laid_unicode_utf8_first)] }
def FnIfElifStringModelSaid : Prop := fnIfElifStringModelRow.holds Tryd.pinned (OpenSpec.ofChange fnIfElifStringModelSpec)

/-- ITS FALSE NEIGHBOUR: 'it returns false'. Refute it at one input. -/
def fnIfElifStringModelWrong : ChangeSpec := { name := "fnIfElifStringModel", fn := fun _ => fun
  | [d1, d2, d3, d4] => { results := [.lit (.bool false)], args := [d1, d2, d3, d4] }
  | _ => none }
def FnIfElifStringModelWrongFalsely : Prop := fnIfElifStringModelRow.holds Tryd.pinned (OpenSpec.ofChange fnIfElifStringModelWrong)

/-- 'n001_104.FnIfElifWriteToModel': WHATEVER THE INPUT: true; the input reads as it did. -/
def fnIfElifWriteToModelSpec : ChangeSpec := { name := "fnIfElifWriteToModel", fn := fun _ => fun
  | [d1, d2, d3, d4, d5] => { results := [.lit (.bool true)], args := [d1, d2, d3, d4, d5] }
  | _ => none }
def fnIfElifWriteToModelRow : OpenClaim := { program := "ytejbdgkcoajpfaadoor", sum := "2d8e50cd5f49defd291a552b2464b2f809f13d446d65bfa0ae6cf059d7dc5a9b", func := "github.com/itchyny/gojq/n001_104.FnIfElifWriteToModel", spec := "fnIfElifWriteToModel", inPlace := ["internal/abi.NoEscape"], unfollowed := true, recurses := true, named := ["unicode/utf8.first", "unicode/utf8.acceptRanges"], apart := false, laid := [("unicode/utf8.acceptRanges", laid_unicode_utf8_acceptRanges), ("unicode/utf8.first", laid_unicode_utf8_first)] }
def FnIfElifWriteToModelSaid : Prop := fnIfElifWriteToModelRow.holds Tryd.pinned (OpenSpec.ofChange fnIfElifWriteToModelSpec)

/-- ITS FALSE NEIGHBOUR: 'it returns false'. Refute it at one input. -/
def fnIfElifWriteToModelWrong : ChangeSpec := { name := "fnIfElifWriteToModel", fn := fun _ => fun
  | [d1, d2, d3, d4, d5] => { results := [.lit (.bool false)], args := [d1, d2, d3, d4, d5] }
  | _ => none }
def FnIfElifWriteToModelWrongFalsely : Prop := fnIfElifWriteToModelRow.holds Tryd.pinned (OpenSpec.ofChange fnIfElifWriteToModelWrong)

/-- 'n001_104.FnTryStringModel': WHATEVER THE INPUT: true; the input reads as it did. -/
def fnTryStringModelSpec : ChangeSpec := { name := "fnTryStringModel", fn := fun _ => fun
  | [d1, d2, d3, d4, d5] => { results := [.lit (.bool true)], args := [d1, d2, d3, d4, d5] }
  | _ => none }
def fnTryStringModelRow : OpenClaim := { program := "ytejbdgkcoajpfaadoor", sum := "2d8e50cd5f49defd291a552b2464b2f809f13d446d65bfa0ae6cf059d7dc5a9b", func := "github.com/itchyny/gojq/n001_104.FnTryStringModel", spec := "fnTryStringModel", inPlace := ["internal/abi.NoEscape"], unfollowed := true, recurses := true, named := ["unicode/utf8.first", "unicode/utf8.acceptRanges"], apart := false, laid := [("unicode/utf8.acceptRanges", laid_unicode_utf8_acceptRanges), ("unicode/utf8.first", laid_unicode_utf8_first)] }
def FnTryStringModelSaid : Prop := fnTryStringModelRow.holds Tryd.pinned (OpenSpec.ofChange fnTryStringModelSpec)

/-- ITS FALSE NEIGHBOUR: 'it returns false'. Refute it at one input. -/
def fnTryStringModelWrong : ChangeSpec := { name := "fnTryStringModel", fn := fun _ => fun
  | [d1, d2, d3, d4, d5] => { results := [.lit (.bool false)], args := [d1, d2, d3, d4, d5] }
  | _ => none }
def FnTryStringModelWrongFalsely : Prop := fnTryStringModelRow.holds Tryd.pinned (OpenSpec.ofChange fnTryStringModelWrong)

/-- 'n001_104.FnIfElifStringInjective': WHATEVER THE INPUT: true; the input reads as it did. -/
def fnIfElifStringInjectiveSpec : ChangeSpec := { name := "fnIfElifStringInjective", fn := fun _ => fun
  | [d1, d2, d3, d4] => { results := [.lit (.bool true)], args := [d1, d2, d3, d4] }
  | _ => none }
def fnIfElifStringInjectiveRow : OpenClaim := { program := "ytejbdgkcoajpfaadoor", sum := "2d8e50cd5f49defd291a552b2464b2f809f13d446d65bfa0ae6cf059d7dc5a9b", func := "github.com/itchyny/gojq/n001_104.FnIfElifStringInjective", spec := "fnIfElifStringInjective", inPlace := ["internal/abi.NoEscape"], unfollowed := true, recurses := true, named := ["unicode/utf8.first", "unicode/utf8.acceptRanges"], apart := false, laid := [("unicode/utf8.acceptRanges", laid_unicode_utf8_acceptRanges), ("unicode/utf8.first", laid_unicode_utf8_first)] }
def FnIfElifStringInjectiveSaid : Prop := fnIfElifStringInjectiveRow.holds Tryd.pinned (OpenSpec.ofChange fnIfElifStringInjectiveSpec)

/-- ITS FALSE NEIGHBOUR: 'it returns false'. Refute it at one input. -/
def fnIfElifStringInjectiveWrong : ChangeSpec := { name := "fnIfElifStringInjective", fn := fun _ => fun
  | [d1, d2, d3, d4] => { results := [.lit (.bool false)], args := [d1, d2, d3, d4] }
  | _ => none }
def FnIfElifStringInjectiveWrongFalsely : Prop := fnIfElifStringInjectiveRow.holds Tryd.pinned (OpenSpec.ofChange fnIfElifStringInjectiveWrong)

/-- 'n001_104.FnTryWriteToModel': WHATEVER THE INPUT: true; the input reads as it did. -/
def fnTryWriteToModelSpec : ChangeSpec := { name := "fnTryWriteToModel", fn := fun _ => fun
  | [d1, d2, d3, d4, d5, d6] => { results := [.lit (.bool true)], args := [d1, d2, d3, d4, d5, d6] }
  | _ => none }
def fnTryWriteToModelRow : OpenClaim := { program := "ytejbdgkcoajpfaadoor", sum := "2d8e50cd5f49defd291a552b2464b2f809f13d446d65bfa0ae6cf059d7dc5a9b", func := "github.com/itchyny/gojq/n001_104.FnTryWriteToModel", spec := "fnTryWriteToModel", inPlace := ["internal/abi.NoEscape"], unfollowed := true, recurses := true, named := ["unicode/utf8.first", "unicode/utf8.acceptRanges"], apart := false, laid := [("unicode/utf8.acceptRanges", laid_unicode_utf8_acceptRanges), ("unicode/utf8.first", laid_unicode_utf8_first)] }
def FnTryWriteToModelSaid : Prop := fnTryWriteToModelRow.holds Tryd.pinned (OpenSpec.ofChange fnTryWriteToModelSpec)

/-- ITS FALSE NEIGHBOUR: 'it returns false'. Refute it at one input. -/
def fnTryWriteToModelWrong : ChangeSpec := { name := "fnTryWriteToModel", fn := fun _ => fun
  | [d1, d2, d3, d4, d5, d6] => { results := [.lit (.bool false)], args := [d1, d2, d3, d4, d5, d6] }
  | _ => none }
def FnTryWriteToModelWrongFalsely : Prop := fnTryWriteToModelRow.holds Tryd.pinned (OpenSpec.ofChange fnTryWriteToModelWrong)

/-- 'n001_104.FnIfElifWriteToAgreesString': WHATEVER THE INPUT: true; the input reads as it did. -/
def fnIfElifWriteToAgreesStringSpec : ChangeSpec := { name := "fnIfElifWriteToAgreesString", fn := fun _ => fun
  | [d1, d2, d3, d4, d5, d6, d7, d8] => { results := [.lit (.bool true)], args := [d1, d2, d3, d4, d5, d6, d7, d8] }
  | _ => none }
def fnIfElifWriteToAgreesStringRow : OpenClaim := { program := "ytejbdgkcoajpfaadoor", sum := "2d8e50cd5f49defd291a552b2464b2f809f13d446d65bfa0ae6cf059d7dc5a9b", func := "github.com/itchyny/gojq/n001_104.FnIfElifWriteToAgreesString", spec := "fnIfElifWriteToAgreesString", inPlace := ["internal/abi.NoEscape"], unfollowed := true, recurses := true, named := ["unicode/utf8.first", "unicode/utf8.acceptRanges"], apart := false, laid := [("unicode/utf8.acceptRanges", laid_unicode_utf8_acceptRanges), ("unicode/utf8.first", laid_unicode_utf8_first)] }
def FnIfElifWriteToAgreesStringSaid : Prop := fnIfElifWriteToAgreesStringRow.holds Tryd.pinned (OpenSpec.ofChange fnIfElifWriteToAgreesStringSpec)

/-- ITS FALSE NEIGHBOUR: 'it returns false'. Refute it at one input. -/
def fnIfElifWriteToAgreesStringWrong : ChangeSpec := { name := "fnIfElifWriteToAgreesString", fn := fun _ => fun
  | [d1, d2, d3, d4, d5, d6, d7, d8] => { results := [.lit (.bool false)], args := [d1, d2, d3, d4, d5, d6, d7, d8] }
  | _ => none }
def FnIfElifWriteToAgreesStringWrongFalsely : Prop := fnIfElifWriteToAgreesStringRow.holds Tryd.pinned (OpenSpec.ofChange fnIfElifWriteToAgreesStringWrong)

/-- 'n001_104.FnTryWriteToAgreesString': WHATEVER THE INPUT: true; the input reads as it did. -/
def fnTryWriteToAgreesStringSpec : ChangeSpec := { name := "fnTryWriteToAgreesString", fn := fun _ => fun
  | [d1, d2, d3, d4, d5, d6, d7, d8, d9] => { results := [.lit (.bool true)], args := [d1, d2, d3, d4, d5, d6, d7, d8, d9] }
  | _ => none }
def fnTryWriteToAgreesStringRow : OpenClaim := { program := "ytejbdgkcoajpfaadoor", sum := "2d8e50cd5f49defd291a552b2464b2f809f13d446d65bfa0ae6cf059d7dc5a9b", func := "github.com/itchyny/gojq/n001_104.FnTryWriteToAgreesString", spec := "fnTryWriteToAgreesString", inPlace := ["internal/abi.NoEscape"], unfollowed := true, recurses := true, named := ["unicode/utf8.first", "unicode/utf8.acceptRanges"], apart := false, laid := [("unicode/utf8.acceptRanges", laid_unicode_utf8_acceptRanges), ("unicode/utf8.first", laid_unicode_utf8_first)] }
def FnTryWriteToAgreesStringSaid : Prop := fnTryWriteToAgreesStringRow.holds Tryd.pinned (OpenSpec.ofChange fnTryWriteToAgreesStringSpec)

/-- ITS FALSE NEIGHBOUR: 'it returns false'. Refute it at one input. -/
def fnTryWriteToAgreesStringWrong : ChangeSpec := { name := "fnTryWriteToAgreesString", fn := fun _ => fun
  | [d1, d2, d3, d4, d5, d6, d7, d8, d9] => { results := [.lit (.bool false)], args := [d1, d2, d3, d4, d5, d6, d7, d8, d9] }
  | _ => none }
def FnTryWriteToAgreesStringWrongFalsely : Prop := fnTryWriteToAgreesStringRow.holds Tryd.pinned (OpenSpec.ofChange fnTryWriteToAgreesStringWrong)

/-- 'n001_104.FnTryStringInjective': WHATEVER THE INPUT: true; the input reads as it did. -/
def fnTryStringInjectiveSpec : ChangeSpec := { name := "fnTryStringInjective", fn := fun _ => fun
  | [d1, d2, d3, d4, d5, d6] => { results := [.lit (.bool true)], args := [d1, d2, d3, d4, d5, d6] }
  | _ => none }
def fnTryStringInjectiveRow : OpenClaim := { program := "ytejbdgkcoajpfaadoor", sum := "2d8e50cd5f49defd291a552b2464b2f809f13d446d65bfa0ae6cf059d7dc5a9b", func := "github.com/itchyny/gojq/n001_104.FnTryStringInjective", spec := "fnTryStringInjective", inPlace := ["internal/abi.NoEscape"], unfollowed := true, recurses := true, named := ["unicode/utf8.first", "unicode/utf8.acceptRanges"], apart := false, laid := [("unicode/utf8.acceptRanges", laid_unicode_utf8_acceptRanges), ("unicode/utf8.first", laid_unicode_utf8_first)] }
def FnTryStringInjectiveSaid : Prop := fnTryStringInjectiveRow.holds Tryd.pinned (OpenSpec.ofChange fnTryStringInjectiveSpec)

/-- ITS FALSE NEIGHBOUR: 'it returns false'. Refute it at one input. -/
def fnTryStringInjectiveWrong : ChangeSpec := { name := "fnTryStringInjective", fn := fun _ => fun
  | [d1, d2, d3, d4, d5, d6] => { results := [.lit (.bool false)], args := [d1, d2, d3, d4, d5, d6] }
  | _ => none }
def FnTryStringInjectiveWrongFalsely : Prop := fnTryStringInjectiveRow.holds Tryd.pinned (OpenSpec.ofChange fnTryStringInjectiveWrong)

/-- 'n001_103.FnTermStringLeafModel': WHATEVER THE INPUT: true; the input reads as it did. -/
def fnTermStringLeafModelSpec : ChangeSpec := { name := "fnTermStringLeafModel", fn := fun _ => fun
  | [d1, d2, d3] => { results := [.lit (.bool true)], args := [d1, d2, d3] }
  | _ => none }
def fnTermStringLeafModelRow : OpenClaim := { program := "ytejbdgkcoajpfaadoor", sum := "2d8e50cd5f49defd291a552b2464b2f809f13d446d65bfa0ae6cf059d7dc5a9b", func := "github.com/itchyny/gojq/n001_103.FnTermStringLeafModel", spec := "fnTermStringLeafModel", inPlace := ["internal/abi.NoEscape"], unfollowed := true, recurses := true, named := ["unicode/utf8.first", "unicode/utf8.acceptRanges"], apart := false, laid := [("unicode/utf8.acceptRanges", laid_unicode_utf8_acceptRanges), ("unicode/utf8.first", laid_unicode_utf8_first)] }
def FnTermStringLeafModelSaid : Prop := fnTermStringLeafModelRow.holds Tryd.pinned (OpenSpec.ofChange fnTermStringLeafModelSpec)

/-- ITS FALSE NEIGHBOUR: 'it returns false'. Refute it at one input. -/
def fnTermStringLeafModelWrong : ChangeSpec := { name := "fnTermStringLeafModel", fn := fun _ => fun
  | [d1, d2, d3] => { results := [.lit (.bool false)], args := [d1, d2, d3] }
  | _ => none }
def FnTermStringLeafModelWrongFalsely : Prop := fnTermStringLeafModelRow.holds Tryd.pinned (OpenSpec.ofChange fnTermStringLeafModelWrong)

/-- 'n001_103.FnTermStringWrapped': WHATEVER THE INPUT: true; the input reads as it did. -/
def fnTermStringWrappedSpec : ChangeSpec := { name := "fnTermStringWrapped", fn := fun _ => fun
  | [d1, d2, d3] => { results := [.lit (.bool true)], args := [d1, d2, d3] }
  | _ => none }
def fnTermStringWrappedRow : OpenClaim := { program := "ytejbdgkcoajpfaadoor", sum := "2d8e50cd5f49defd291a552b2464b2f809f13d446d65bfa0ae6cf059d7dc5a9b", func := "github.com/itchyny/gojq/n001_103.FnTermStringWrapped", spec := "fnTermStringWrapped", inPlace := ["internal/abi.NoEscape"], unfollowed := true, recurses := true, named := ["unicode/utf8.first", "unicode/utf8.acceptRanges"], apart := false, laid := [("unicode/utf8.acceptRanges", laid_unicode_utf8_acceptRanges), ("unicode/utf8.first", laid_unicode_utf8_first)] }
def FnTermStringWrappedSaid : Prop := fnTermStringWrappedRow.holds Tryd.pinned (OpenSpec.ofChange fnTermStringWrappedSpec)

/-- ITS FALSE NEIGHBOUR: 'it returns false'. Refute it at one input. -/
def fnTermStringWrappedWrong : ChangeSpec := { name := "fnTermStringWrapped", fn := fun _ => fun
  | [d1, d2, d3] => { results := [.lit (.bool false)], args := [d1, d2, d3] }
  | _ => none }
def FnTermStringWrappedWrongFalsely : Prop := fnTermStringWrappedRow.holds Tryd.pinned (OpenSpec.ofChange fnTermStringWrappedWrong)

/- THE SECOND FORM. 'bulk': how many values and letters a reading holds, each counted each time it is reached (what is shared counts as often as it is met; a slice's spare places count too). A statement '..UptoSaid' is the law's where the arguments, and the package variables that the reading takes, are together of bulk at most 1048576: NARROWER than '..Said'. Prove '..Said' where nothing that the law and all that it calls make is longer than what came in: it says more and counts as full. Else prove '..UptoSaid'. A law counts once. -/
mutual
def uptoBulk {H : Type} : DataW H → Nat
  | .lit (.string bytes) => bytes.length + 1
  | .lit _ => 1
  | .nil => 1
  | .ptr d => uptoBulk d + 1
  | .slice elems spare => uptoBulkAll elems + uptoBulkAll spare + 1
  | .agg parts => uptoBulkAll parts + 1
  | .iface _ d => uptoBulk d + 1
  | .map entries => uptoBulkEntries entries + 1
  | .held _ => 1
def uptoBulkAll {H : Type} : List (DataW H) → Nat
  | [] => 0
  | d :: r => uptoBulk d + uptoBulkAll r
def uptoBulkEntries {H : Type} : List (Lit × DataW H) → Nat
  | [] => 0
  | x :: r => uptoBulkEntry x + uptoBulkEntries r
def uptoBulkEntry {H : Type} : Lit × DataW H → Nat
  | (.string bytes, d) => bytes.length + uptoBulk d + 1
  | (_, d) => uptoBulk d + 1
 end
def uptoSmall : (H : Type) → List (DataW H) → Bool := fun _ ds => decide (uptoBulkAll ds ≤ 1048576)
def OpenSpec.upto (s : _root_.Go.ChangeSpec) : _root_.Go.OpenSpec := { _root_.Go.OpenSpec.ofChange s with cond := some uptoSmall }

/-- 'n001_15.FnLabelWriteToAgreesWithTermAndQuery', WHERE WHAT IT READS IS OF BULK AT MOST 1048576: true; the input reads as it did. -/
def fnLabelWriteToAgreesWithTermAndQueryUptoRow : OpenClaim := { program := "ytejbdgkcoajpfaadoor", sum := "2d8e50cd5f49defd291a552b2464b2f809f13d446d65bfa0ae6cf059d7dc5a9b", func := "github.com/itchyny/gojq/n001_15.FnLabelWriteToAgreesWithTermAndQuery", spec := "fnLabelWriteToAgreesWithTermAndQuery", inPlace := ["internal/abi.NoEscape"], unfollowed := true, recurses := true, named := ["unicode/utf8.first", "unicode/utf8.acceptRanges"], apart := false, laid := [("unicode/utf8.acceptRanges", laid_unicode_utf8_acceptRanges), ("unicode/utf8.first", laid_unicode_utf8_first)], narrowed := true }
def FnLabelWriteToAgreesWithTermAndQueryUptoSaid : Prop := fnLabelWriteToAgreesWithTermAndQueryUptoRow.holds Tryd.pinned (OpenSpec.upto fnLabelWriteToAgreesWithTermAndQuerySpec)

/-- 'n001_104.FnIfElifStringModel', WHERE WHAT IT READS IS OF BULK AT MOST 1048576: true; the input reads as it did. -/
def fnIfElifStringModelUptoRow : OpenClaim := { program := "ytejbdgkcoajpfaadoor", sum := "2d8e50cd5f49defd291a552b2464b2f809f13d446d65bfa0ae6cf059d7dc5a9b", func := "github.com/itchyny/gojq/n001_104.FnIfElifStringModel", spec := "fnIfElifStringModel", inPlace := ["internal/abi.NoEscape"], unfollowed := true, recurses := true, named := ["unicode/utf8.first", "unicode/utf8.acceptRanges"], apart := false, laid := [("unicode/utf8.acceptRanges", laid_unicode_utf8_acceptRanges), ("unicode/utf8.first", laid_unicode_utf8_first)], narrowed := true }
def FnIfElifStringModelUptoSaid : Prop := fnIfElifStringModelUptoRow.holds Tryd.pinned (OpenSpec.upto fnIfElifStringModelSpec)

/-- 'n001_104.FnIfElifWriteToModel', WHERE WHAT IT READS IS OF BULK AT MOST 1048576: true; the input reads as it did. -/
def fnIfElifWriteToModelUptoRow : OpenClaim := { program := "ytejbdgkcoajpfaadoor", sum := "2d8e50cd5f49defd291a552b2464b2f809f13d446d65bfa0ae6cf059d7dc5a9b", func := "github.com/itchyny/gojq/n001_104.FnIfElifWriteToModel", spec := "fnIfElifWriteToModel", inPlace := ["internal/abi.NoEscape"], unfollowed := true, recurses := true, named := ["unicode/utf8.first", "unicode/utf8.acceptRanges"], apart := false, laid := [("unicode/utf8.acceptRanges", laid_unicode_utf8_acceptRanges), ("unicode/utf8.first", laid_unicode_utf8_first)], narrowed := true }
def FnIfElifWriteToModelUptoSaid : Prop := fnIfElifWriteToModelUptoRow.holds Tryd.pinned (OpenSpec.upto fnIfElifWriteToModelSpec)

/-- 'n001_104.FnTryStringModel', WHERE WHAT IT READS IS OF BULK AT MOST 1048576: true; the input reads as it did. -/
def fnTryStringModelUptoRow : OpenClaim := { program := "ytejbdgkcoajpfaadoor", sum := "2d8e50cd5f49defd291a552b2464b2f809f13d446d65bfa0ae6cf059d7dc5a9b", func := "github.com/itchyny/gojq/n001_104.FnTryStringModel", spec := "fnTryStringModel", inPlace := ["internal/abi.NoEscape"], unfollowed := true, recurses := true, named := ["unicode/utf8.first", "unicode/utf8.acceptRanges"], apart := false, laid := [("unicode/utf8.acceptRanges", laid_unicode_utf8_acceptRanges), ("unicode/utf8.first", laid_unicode_utf8_first)], narrowed := true }
def FnTryStringModelUptoSaid : Prop := fnTryStringModelUptoRow.holds Tryd.pinned (OpenSpec.upto fnTryStringModelSpec)

/-- 'n001_104.FnIfElifStringInjective', WHERE WHAT IT READS IS OF BULK AT MOST 1048576: true; the input reads as it did. -/
def fnIfElifStringInjectiveUptoRow : OpenClaim := { program := "ytejbdgkcoajpfaadoor", sum := "2d8e50cd5f49defd291a552b2464b2f809f13d446d65bfa0ae6cf059d7dc5a9b", func := "github.com/itchyny/gojq/n001_104.FnIfElifStringInjective", spec := "fnIfElifStringInjective", inPlace := ["internal/abi.NoEscape"], unfollowed := true, recurses := true, named := ["unicode/utf8.first", "unicode/utf8.acceptRanges"], apart := false, laid := [("unicode/utf8.acceptRanges", laid_unicode_utf8_acceptRanges), ("unicode/utf8.first", laid_unicode_utf8_first)], narrowed := true }
def FnIfElifStringInjectiveUptoSaid : Prop := fnIfElifStringInjectiveUptoRow.holds Tryd.pinned (OpenSpec.upto fnIfElifStringInjectiveSpec)

/-- 'n001_104.FnTryWriteToModel', WHERE WHAT IT READS IS OF BULK AT MOST 1048576: true; the input reads as it did. -/
def fnTryWriteToModelUptoRow : OpenClaim := { program := "ytejbdgkcoajpfaadoor", sum := "2d8e50cd5f49defd291a552b2464b2f809f13d446d65bfa0ae6cf059d7dc5a9b", func := "github.com/itchyny/gojq/n001_104.FnTryWriteToModel", spec := "fnTryWriteToModel", inPlace := ["internal/abi.NoEscape"], unfollowed := true, recurses := true, named := ["unicode/utf8.first", "unicode/utf8.acceptRanges"], apart := false, laid := [("unicode/utf8.acceptRanges", laid_unicode_utf8_acceptRanges), ("unicode/utf8.first", laid_unicode_utf8_first)], narrowed := true }
def FnTryWriteToModelUptoSaid : Prop := fnTryWriteToModelUptoRow.holds Tryd.pinned (OpenSpec.upto fnTryWriteToModelSpec)

/-- 'n001_104.FnIfElifWriteToAgreesString', WHERE WHAT IT READS IS OF BULK AT MOST 1048576: true; the input reads as it did. -/
def fnIfElifWriteToAgreesStringUptoRow : OpenClaim := { program := "ytejbdgkcoajpfaadoor", sum := "2d8e50cd5f49defd291a552b2464b2f809f13d446d65bfa0ae6cf059d7dc5a9b", func := "github.com/itchyny/gojq/n001_104.FnIfElifWriteToAgreesString", spec := "fnIfElifWriteToAgreesString", inPlace := ["internal/abi.NoEscape"], unfollowed := true, recurses := true, named := ["unicode/utf8.first", "unicode/utf8.acceptRanges"], apart := false, laid := [("unicode/utf8.acceptRanges", laid_unicode_utf8_acceptRanges), ("unicode/utf8.first", laid_unicode_utf8_first)], narrowed := true }
def FnIfElifWriteToAgreesStringUptoSaid : Prop := fnIfElifWriteToAgreesStringUptoRow.holds Tryd.pinned (OpenSpec.upto fnIfElifWriteToAgreesStringSpec)

/-- 'n001_104.FnTryWriteToAgreesString', WHERE WHAT IT READS IS OF BULK AT MOST 1048576: true; the input reads as it did. -/
def fnTryWriteToAgreesStringUptoRow : OpenClaim := { program := "ytejbdgkcoajpfaadoor", sum := "2d8e50cd5f49defd291a552b2464b2f809f13d446d65bfa0ae6cf059d7dc5a9b", func := "github.com/itchyny/gojq/n001_104.FnTryWriteToAgreesString", spec := "fnTryWriteToAgreesString", inPlace := ["internal/abi.NoEscape"], unfollowed := true, recurses := true, named := ["unicode/utf8.first", "unicode/utf8.acceptRanges"], apart := false, laid := [("unicode/utf8.acceptRanges", laid_unicode_utf8_acceptRanges), ("unicode/utf8.first", laid_unicode_utf8_first)], narrowed := true }
def FnTryWriteToAgreesStringUptoSaid : Prop := fnTryWriteToAgreesStringUptoRow.holds Tryd.pinned (OpenSpec.upto fnTryWriteToAgreesStringSpec)

/-- 'n001_104.FnTryStringInjective', WHERE WHAT IT READS IS OF BULK AT MOST 1048576: true; the input reads as it did. -/
def fnTryStringInjectiveUptoRow : OpenClaim := { program := "ytejbdgkcoajpfaadoor", sum := "2d8e50cd5f49defd291a552b2464b2f809f13d446d65bfa0ae6cf059d7dc5a9b", func := "github.com/itchyny/gojq/n001_104.FnTryStringInjective", spec := "fnTryStringInjective", inPlace := ["internal/abi.NoEscape"], unfollowed := true, recurses := true, named := ["unicode/utf8.first", "unicode/utf8.acceptRanges"], apart := false, laid := [("unicode/utf8.acceptRanges", laid_unicode_utf8_acceptRanges), ("unicode/utf8.first", laid_unicode_utf8_first)], narrowed := true }
def FnTryStringInjectiveUptoSaid : Prop := fnTryStringInjectiveUptoRow.holds Tryd.pinned (OpenSpec.upto fnTryStringInjectiveSpec)

/-- 'n001_103.FnTermStringLeafModel', WHERE WHAT IT READS IS OF BULK AT MOST 1048576: true; the input reads as it did. -/
def fnTermStringLeafModelUptoRow : OpenClaim := { program := "ytejbdgkcoajpfaadoor", sum := "2d8e50cd5f49defd291a552b2464b2f809f13d446d65bfa0ae6cf059d7dc5a9b", func := "github.com/itchyny/gojq/n001_103.FnTermStringLeafModel", spec := "fnTermStringLeafModel", inPlace := ["internal/abi.NoEscape"], unfollowed := true, recurses := true, named := ["unicode/utf8.first", "unicode/utf8.acceptRanges"], apart := false, laid := [("unicode/utf8.acceptRanges", laid_unicode_utf8_acceptRanges), ("unicode/utf8.first", laid_unicode_utf8_first)], narrowed := true }
def FnTermStringLeafModelUptoSaid : Prop := fnTermStringLeafModelUptoRow.holds Tryd.pinned (OpenSpec.upto fnTermStringLeafModelSpec)

/-- 'n001_103.FnTermStringWrapped', WHERE WHAT IT READS IS OF BULK AT MOST 1048576: true; the input reads as it did. -/
def fnTermStringWrappedUptoRow : OpenClaim := { program := "ytejbdgkcoajpfaadoor", sum := "2d8e50cd5f49defd291a552b2464b2f809f13d446d65bfa0ae6cf059d7dc5a9b", func := "github.com/itchyny/gojq/n001_103.FnTermStringWrapped", spec := "fnTermStringWrapped", inPlace := ["internal/abi.NoEscape"], unfollowed := true, recurses := true, named := ["unicode/utf8.first", "unicode/utf8.acceptRanges"], apart := false, laid := [("unicode/utf8.acceptRanges", laid_unicode_utf8_acceptRanges), ("unicode/utf8.first", laid_unicode_utf8_first)], narrowed := true }
def FnTermStringWrappedUptoSaid : Prop := fnTermStringWrappedUptoRow.holds Tryd.pinned (OpenSpec.upto fnTermStringWrappedSpec)

end Rows
end Go.Proofs.YtejbdgkcoajpfaaDoor
