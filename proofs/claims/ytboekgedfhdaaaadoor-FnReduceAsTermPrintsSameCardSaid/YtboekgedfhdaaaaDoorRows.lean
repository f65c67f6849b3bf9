/-
  NARROWER THAN 'FOR EVERY INPUT', by the rows' own cells (each row's printed sentence says how): FnReduceWriteToAppendsToAnyPrefix: laid · FnForeachWriteToAppendsToAnyPrefix: laid · FnReduceStringMatchesModel: laid · FnForeachAsPipeHeadPrintsSame: laid · FnForeachWithoutExtractIsReduceRetitled: laid · FnForeachStringMatchesModel: laid · FnReduceAsTermPrintsSame: laid.
  DERIVED. THE GIVEN ROWS OF THIS SEAT. 7 by the template 'for every input the law returns true; each argument reads behind the call as it read before'; 0 by the template 'total and deterministic' (their statements: YtboekgedfhdaaaaDoorTotals.lean).
  GIVEN WITH THE SEED: the statements are not yours to turn. If you find one false, say at which input.
  Laid BY PROGRAM, IN A SANDBOX (cutbox-rows.mjs): the forced cells as the released guide's own fill.sh prints them over the translation e9acf8fe78860f5c… (all of the seat's roots in one cut). By AI agents, Wed Nov 11 2026. No macro, syntax, notation, axiom, sorry.
-/
import Derived.Test.YtboekgedfhdaaaaDoorChecked
import GoSem.PinnedTables
import GoSem.Claim
import GoSem.ClaimJoined
import GoSem.ClaimMapViews
import Derived.JoinedTies
import Derived.KernelRfl
namespace Go.Proofs.YtboekgedfhdaaaaDoor
/- THE CELL 'sum', in the pinned program and in every row, IS THE sha256 OF THE DUMP (.gsa) THAT YtboekgedfhdaaaaDoorProg.lean LOADS. Nothing in Lean hashes anything: it is a label: what it is worth is what the hold of that sum in a sandbox is worth. -/
noncomputable def Tryd.pinned : Pinned := { name := "ytboekgedfhdaaaadoor", sum := "e9acf8fe78860f5c9f9267dbf34c9d9aa948de408d6e06d11bf389724dec730c", checked := Tryd.checked }
namespace Rows
def none {H : Type} : Left H := { results := [], args := [] }

/- WHAT THE LISTED PACKAGE-LEVEL VARIABLES READ AS WHEN THE CALL BEGINS. Each datum BY PROGRAM (the guide's laid-datum.mjs) off the statement by which the dump's own 'gosem.cut.vars' lays the variable. In a bare row this is a premise. The card (YtboekgedfhdaaaaDoorCards.lean) ties it to the program's text. -/
def laid_unicode_utf8_acceptRanges {H : Type} : DataW H := .agg [.agg [.lit (.int .u8 128), .lit (.int .u8 191)], .agg [.lit (.int .u8 160), .lit (.int .u8 191)], .agg [.lit (.int .u8 128), .lit (.int .u8 159)], .agg [.lit (.int .u8 144), .lit (.int .u8 191)], .agg [.lit (.int .u8 128), .lit (.int .u8 143)], .agg [.lit (.int .u8 0), .lit (.int .u8 0)], .agg [.lit (.int .u8 0), .lit (.int .u8 0)], .agg [.lit (.int .u8 0), .lit (.int .u8 0)], .agg [.lit (.int .u8 0), .lit (.int .u8 0)], .agg [.lit (.int .u8 0), .lit (.int .u8 0)], .agg [.lit (.int .u8 0), .lit (.int .u8 0)], .agg [.lit (.int .u8 0), .lit (.int .u8 0)], .agg [.lit (.int .u8 0), .lit (.int .u8 0)], .agg [.lit (.int .u8 0), .lit (.int .u8 0)], .agg [.lit (.int .u8 0), .lit (.int .u8 0)], .agg [.lit (.int .u8 0), .lit (.int .u8 0)]]
/-- One of Go's own tables, pinned by name: the form's constant. -/
def laid_unicode_utf8_first : DataW Unit := Go.Pinned.utf8First

/-- 'n001_100.FnReduceWriteToAppendsToAnyPrefix': WHATEVER THE INPUT: true; the input reads as it did. -/
def fnReduceWriteToAppendsToAnyPrefixSpec : ChangeSpec := { name := "fnReduceWriteToAppendsToAnyPrefix", fn := fun _ => fun
  | [d1, d2, d3, d4, d5, d6] => { results := [.lit (.bool true)], args := [d1, d2, d3, d4, d5, d6] }
  | _ => none }
def fnReduceWriteToAppendsToAnyPrefixRow : OpenClaim := { program := "ytboekgedfhdaaaadoor", sum := "e9acf8fe78860f5c9f9267dbf34c9d9aa948de408d6e06d11bf389724dec730c", func := "github.com/itchyny/gojq/n001_100.FnReduceWriteToAppendsToAnyPrefix", spec := "fnReduceWriteToAppendsToAnyPrefix", inPlace := ["internal/abi.NoEscape"], unfollowed := true, recurses := true, named := ["unicode/utf8.first", "unicode/utf8.acceptRanges"], apart := false, laid := [("unicode/utf8.acceptRanges", laid_unicode_utf8_acceptRanges), ("unicode/utf8.first", laid_unicode_utf8_first)] }
def FnReduceWriteToAppendsToAnyPrefixSaid : Prop := fnReduceWriteToAppendsToAnyPrefixRow.holds Tryd.pinned (OpenSpec.ofChange fnReduceWriteToAppendsToAnyPrefixSpec)

/-- ITS FALSE NEIGHBOUR: 'it returns false'. Refute it at one input. -/
def fnReduceWriteToAppendsToAnyPrefixWrong : ChangeSpec := { name := "fnReduceWriteToAppendsToAnyPrefix", fn := fun _ => fun
  | [d1, d2, d3, d4, d5, d6] => { results := [.lit (.bool false)], args := [d1, d2, d3, d4, d5, d6] }
  | _ => none }
def FnReduceWriteToAppendsToAnyPrefixWrongFalsely : Prop := fnReduceWriteToAppendsToAnyPrefixRow.holds Tryd.pinned (OpenSpec.ofChange fnReduceWriteToAppendsToAnyPrefixWrong)

/-- 'n001_100.FnForeachWriteToAppendsToAnyPrefix': WHATEVER THE INPUT: true; the input reads as it did. -/
def fnForeachWriteToAppendsToAnyPrefixSpec : ChangeSpec := { name := "fnForeachWriteToAppendsToAnyPrefix", fn := fun _ => fun
  | [d1, d2, d3, d4, d5, d6, d7, d8] => { results := [.lit (.bool true)], args := [d1, d2, d3, d4, d5, d6, d7, d8] }
  | _ => none }
def fnForeachWriteToAppendsToAnyPrefixRow : OpenClaim := { program := "ytboekgedfhdaaaadoor", sum := "e9acf8fe78860f5c9f9267dbf34c9d9aa948de408d6e06d11bf389724dec730c", func := "github.com/itchyny/gojq/n001_100.FnForeachWriteToAppendsToAnyPrefix", spec := "fnForeachWriteToAppendsToAnyPrefix", inPlace := ["internal/abi.NoEscape"], unfollowed := true, recurses := true, named := ["unicode/utf8.first", "unicode/utf8.acceptRanges"], apart := false, laid := [("unicode/utf8.acceptRanges", laid_unicode_utf8_acceptRanges), ("unicode/utf8.first", laid_unicode_utf8_first)] }
def FnForeachWriteToAppendsToAnyPrefixSaid : Prop := fnForeachWriteToAppendsToAnyPrefixRow.holds Tryd.pinned (OpenSpec.ofChange fnForeachWriteToAppendsToAnyPrefixSpec)

/-- ITS FALSE NEIGHBOUR: 'it returns false'. Refute it at one input. -/
def fnForeachWriteToAppendsToAnyPrefixWrong : ChangeSpec := { name := "fnForeachWriteToAppendsToAnyPrefix", fn := fun _ => fun
  | [d1, d2, d3, d4, d5, d6, d7, d8] => { results := [.lit (.bool false)], args := [d1, d2, d3, d4, d5, d6, d7, d8] }
  | _ => none }
def FnForeachWriteToAppendsToAnyPrefixWrongFalsely : Prop := fnForeachWriteToAppendsToAnyPrefixRow.holds Tryd.pinned (OpenSpec.ofChange fnForeachWriteToAppendsToAnyPrefixWrong)

/-- 'n001_100.FnReduceStringMatchesModel': WHATEVER THE INPUT: true; the input reads as it did. -/
def fnReduceStringMatchesModelSpec : ChangeSpec := { name := "fnReduceStringMatchesModel", fn := fun _ => fun
  | [d1, d2, d3, d4, d5] => { results := [.lit (.bool true)], args := [d1, d2, d3, d4, d5] }
  | _ => none }
def fnReduceStringMatchesModelRow : OpenClaim := { program := "ytboekgedfhdaaaadoor", sum := "e9acf8fe78860f5c9f9267dbf34c9d9aa948de408d6e06d11bf389724dec730c", func := "github.com/itchyny/gojq/n001_100.FnReduceStringMatchesModel", spec := "fnReduceStringMatchesModel", inPlace := ["internal/abi.NoEscape"], unfollowed := true, recurses := true, named := ["unicode/utf8.first", "unicode/utf8.acceptRanges"], apart := false, laid := [("unicode/utf8.acceptRanges", laid_unicode_utf8_acceptRanges), ("unicode/utf8.first", laid_unicode_utf8_first)] }
def FnReduceStringMatchesModelSaid : Prop := fnReduceStringMatchesModelRow.holds Tryd.pinned (OpenSpec.ofChange fnReduceStringMatchesModelSpec)

/-- ITS FALSE NEIGHBOUR: 'it returns false'. Refute it at one input. -/
def fnReduceStringMatchesModelWrong : ChangeSpec := { name := "fnReduceStringMatchesModel", fn := fun _ => fun
  | [d1, d2, d3, d4, d5] => { results := [.lit (.bool false)], args := [d1, d2, d3, d4, d5] }
  | _ => none }
def FnReduceStringMatchesModelWrongFalsely : Prop := fnReduceStringMatchesModelRow.holds Tryd.pinned (OpenSpec.ofChange fnReduceStringMatchesModelWrong)

/-- 'n001_100.FnForeachAsPipeHeadPrintsSame': WHATEVER THE INPUT: true; the input reads as it did. -/
def fnForeachAsPipeHeadPrintsSameSpec : ChangeSpec := { name := "fnForeachAsPipeHeadPrintsSame", fn := fun _ => fun
  | [d1, d2, d3, d4, d5, d6, d7, d8] => { results := [.lit (.bool true)], args := [d1, d2, d3, d4, d5, d6, d7, d8] }
  | _ => none }
def fnForeachAsPipeHeadPrintsSameRow : OpenClaim := { program := "ytboekgedfhdaaaadoor", sum := "e9acf8fe78860f5c9f9267dbf34c9d9aa948de408d6e06d11bf389724dec730c", func := "github.com/itchyny/gojq/n001_100.FnForeachAsPipeHeadPrintsSame", spec := "fnForeachAsPipeHeadPrintsSame", inPlace := ["internal/abi.NoEscape"], unfollowed := true, recurses := true, named := ["unicode/utf8.first", "unicode/utf8.acceptRanges"], apart := false, laid := [("unicode/utf8.acceptRanges", laid_unicode_utf8_acceptRanges), ("unicode/utf8.first", laid_unicode_utf8_first)] }
def FnForeachAsPipeHeadPrintsSameSaid : Prop := fnForeachAsPipeHeadPrintsSameRow.holds Tryd.pinned (OpenSpec.ofChange fnForeachAsPipeHeadPrintsSameSpec)

/-- ITS FALSE NEIGHBOUR: 'it returns false'. Refute it at one input. -/
def fnForeachAsPipeHeadPrintsSameWrong : ChangeSpec := { name := "fnForeachAsPipeHeadPrintsSame", fn := fun _ => fun
  | [d1, d2, d3, d4, d5, d6, d7, d8] => { results := [.lit (.bool false)], args := [d1, d2, d3, d4, d5, d6, d7, d8] }
  | _ => none }
def FnForeachAsPipeHeadPrintsSameWrongFalsely : Prop := fnForeachAsPipeHeadPrintsSameRow.holds Tryd.pinned (OpenSpec.ofChange fnForeachAsPipeHeadPrintsSameWrong)

/-- 'n001_100.FnForeachWithoutExtractIsReduceRetitled': WHATEVER THE INPUT: true; the input reads as it did. -/
def fnForeachWithoutExtractIsReduceRetitledSpec : ChangeSpec := { name := "fnForeachWithoutExtractIsReduceRetitled", fn := fun _ => fun
  | [d1, d2, d3, d4, d5] => { results := [.lit (.bool true)], args := [d1, d2, d3, d4, d5] }
  | _ => none }
def fnForeachWithoutExtractIsReduceRetitledRow : OpenClaim := { program := "ytboekgedfhdaaaadoor", sum := "e9acf8fe78860f5c9f9267dbf34c9d9aa948de408d6e06d11bf389724dec730c", func := "github.com/itchyny/gojq/n001_100.FnForeachWithoutExtractIsReduceRetitled", spec := "fnForeachWithoutExtractIsReduceRetitled", inPlace := ["internal/abi.NoEscape"], unfollowed := true, recurses := true, named := ["unicode/utf8.first", "unicode/utf8.acceptRanges"], apart := false, laid := [("unicode/utf8.acceptRanges", laid_unicode_utf8_acceptRanges), ("unicode/utf8.first", laid_unicode_utf8_first)] }
def FnForeachWithoutExtractIsReduceRetitledSaid : Prop := fnForeachWithoutExtractIsReduceRetitledRow.holds Tryd.pinned (OpenSpec.ofChange fnForeachWithoutExtractIsReduceRetitledSpec)

/-- ITS FALSE NEIGHBOUR: 'it returns false'. Refute it at one input. -/
def fnForeachWithoutExtractIsReduceRetitledWrong : ChangeSpec := { name := "fnForeachWithoutExtractIsReduceRetitled", fn := fun _ => fun
  | [d1, d2, d3, d4, d5] => { results := [.lit (.bool false)], args := [d1, d2, d3, d4, d5] }
  | _ => none }
def FnForeachWithoutExtractIsReduceRetitledWrongFalsely : Prop := fnForeachWithoutExtractIsReduceRetitledRow.holds Tryd.pinned (OpenSpec.ofChange fnForeachWithoutExtractIsReduceRetitledWrong)

/-- 'n001_100.FnForeachStringMatchesModel': WHATEVER THE INPUT: true; the input reads as it did. -/
def fnForeachStringMatchesModelSpec : ChangeSpec := { name := "fnForeachStringMatchesModel", fn := fun _ => fun
  | [d1, d2, d3, d4, d5, d6, d7] => { results := [.lit (.bool true)], args := [d1, d2, d3, d4, d5, d6, d7] }
  | _ => none }
def fnForeachStringMatchesModelRow : OpenClaim := { program := "ytboekgedfhdaaaadoor", sum := "e9acf8fe78860f5c9f9267dbf34c9d9aa948de408d6e06d11bf389724dec730c", func := "github.com/itchyny/gojq/n001_100.FnForeachStringMatchesModel", spec := "fnForeachStringMatchesModel", inPlace := ["internal/abi.NoEscape"], unfollowed := true, recurses := true, named := ["unicode/utf8.first", "unicode/utf8.acceptRanges"], apart := false, laid := [("unicode/utf8.acceptRanges", laid_unicode_utf8_acceptRanges), ("unicode/utf8.first", laid_unicode_utf8_first)] }
def FnForeachStringMatchesModelSaid : Prop := fnForeachStringMatchesModelRow.holds Tryd.pinned (OpenSpec.ofChange fnForeachStringMatchesModelSpec)

/-- ITS FALSE NEIGHBOUR: 'it returns false'. Refute it at one input. -/
def fnForeachStringMatchesModelWrong : ChangeSpec := { name := "fnForeachStringMatchesModel", fn := fun _ => fun
  | [d1, d2, d3, d4, d5, d6, d7] => { results := [.lit (.bool false)], args := [d1, d2, d3, d4, d5, d6, d7] }
  | _ => none }
def FnForeachStringMatchesModelWrongFalsely : Prop := fnForeachStringMatchesModelRow.holds Tryd.pinned (OpenSpec.ofChange fnForeachStringMatchesModelWrong)

/-- 'n001_100.FnReduceAsTermPrintsSame': WHATEVER THE INPUT: true; the input reads as it did. -/
def fnReduceAsTermPrintsSameSpec : ChangeSpec := { name := "fnReduceAsTermPrintsSame", fn := fun _ => fun
  | [d1, d2, d3, d4, d5, d6] => { results := [.lit (.bool true)], args := [d1, d2, d3, d4, d5, d6] }
  | _ => none }
def fnReduceAsTermPrintsSameRow : OpenClaim := { program := "ytboekgedfhdaaaadoor", sum := "e9acf8fe78860f5c9f9267dbf34c9d9aa948de408d6e06d11bf389724dec730c", func := "github.com/itchyny/gojq/n001_100.FnReduceAsTermPrintsSame", spec := "fnReduceAsTermPrintsSame", inPlace := ["internal/abi.NoEscape"], unfollowed := true, recurses := true, named := ["unicode/utf8.first", "unicode/utf8.acceptRanges"], apart := false, laid := [("unicode/utf8.acceptRanges", laid_unicode_utf8_acceptRanges), ("unicode/utf8.first", laid_unicode_utf8_first)] }
def FnReduceAsTermPrintsSameSaid : Prop := fnReduceAsTermPrintsSameRow.holds Tryd.pinned (OpenSpec.ofChange fnReduceAsTermPrintsSameSpec)

/-- ITS FALSE NEIGHBOUR: 'it returns false'. Refute it at one input. -/
def fnReduceAsTermPrintsSameWrong : ChangeSpec := { name := "fnReduceAsTermPrintsSame", fn := fun _ => fun
  | [d1, d2, d3, d4, d5, d6] => { results := [.lit (.bool false)], args := [d1, d2, d3, d4, d5, d6] }
  | _ => none }
def FnReduceAsTermPrintsSameWrongFalsely : Prop := fnReduceAsTermPrintsSameRow.holds Tryd.pinned (OpenSpec.ofChange fnReduceAsTermPrintsSameWrong)

/- THE SECOND FORM. 'bulk': how many values and letters a reading holds, each counted each time it is reached (what is shared counts as often as it is met; a slice's spare places count too). A statement '..UptoSaid' is the law's where the arguments, and the package variables that the reading takes, are together of bulk at most 1048576: NARROWER than '..Said'. Prove '..Said' where nothing that the law and all that it calls make is longer than what came in: it says more and counts as full. Else prove '..UptoSaid'. A law counts once. -/
mutual
def uptoBulk {H : Type} : DataW H → Nat
  | .lit (.string bytes) => bytes.length + 1
  | .lit _ => 1
  | .nil => 1
  | .ptr d => uptoBulk d + 1
  | .slice elems spare => uptoBulkAll elems + uptoBulkAll spare + 1
  | .agg parts => uptoBulkAll parts + 1
  | .iface _ d => uptoBulk d + 1
  | .map entries => uptoBulkEntries entries + 1
  | .held _ => 1
def uptoBulkAll {H : Type} : List (DataW H) → Nat
  | [] => 0
  | d :: r => uptoBulk d + uptoBulkAll r
def uptoBulkEntries {H : Type} : List (Lit × DataW H) → Nat
  | [] => 0
  | x :: r => uptoBulkEntry x + uptoBulkEntries r
def uptoBulkEntry {H : Type} : Lit × DataW H → Nat
  | (.string bytes, d) => bytes.length + uptoBulk d + 1
  | (_, d) => uptoBulk d + 1
 end
def uptoSmall : (H : Type) → List (DataW H) → Bool := fun _ ds => decide (uptoBulkAll ds ≤ 1048576)
def OpenSpec.upto (s : _root_.Go.ChangeSpec) : _root_.Go.OpenSpec := { _root_.Go.OpenSpec.ofChange s with cond := some uptoSmall }

/-- 'n001_100.FnReduceWriteToAppendsToAnyPrefix', WHERE WHAT IT READS IS OF BULK AT MOST 1048576: true; the input reads as it did. -/
def fnReduceWriteToAppendsToAnyPrefixUptoRow : OpenClaim := { program := "ytboekgedfhdaaaadoor", sum := "e9acf8fe78860f5c9f9267dbf34c9d9aa948de408d6e06d11bf389724dec730c", func := "github.com/itchyny/gojq/n001_100.FnReduceWriteToAppendsToAnyPrefix", spec := "fnReduceWriteToAppendsToAnyPrefix", inPlace := ["internal/abi.NoEscape"], unfollowed := true, recurses := true, named := ["unicode/utf8.first", "unicode/utf8.acceptRanges"], apart := false, laid := [("unicode/utf8.acceptRanges", laid_unicode_utf8_acceptRanges), ("unicode/utf8.first", laid_unicode_utf8_first)], narrowed := true }
def FnReduceWriteToAppendsToAnyPrefixUptoSaid : Prop := fnReduceWriteToAppendsToAnyPrefixUptoRow.holds Tryd.pinned (OpenSpec.upto fnReduceWriteToAppendsToAnyPrefixSpec)

/-- 'n001_100.FnForeachWriteToAppendsToAnyPrefix', WHERE WHAT IT READS IS OF BULK AT MOST 1048576: true; the input reads as it did. -/
def fnForeachWriteToAppendsToAnyPrefixUptoRow : OpenClaim := { program := "ytboekgedfhdaaaadoor", sum := "e9acf8fe78860f5c9f9267dbf34c9d9aa948de408d6e06d11bf389724dec730c", func := "github.com/itchyny/gojq/n001_100.FnForeachWriteToAppendsToAnyPrefix", spec := "fnForeachWriteToAppendsToAnyPrefix", inPlace := ["internal/abi.NoEscape"], unfollowed := true, recurses := true, named := ["unicode/utf8.first", "unicode/utf8.acceptRanges"], apart := false, laid := [("unicode/utf8.acceptRanges", laid_unicode_utf8_acceptRanges), ("unicode/utf8.first", laid_unicode_utf8_first)], narrowed := true }
def FnForeachWriteToAppendsToAnyPrefixUptoSaid : Prop := fnForeachWriteToAppendsToAnyPrefixUptoRow.holds Tryd.pinned (OpenSpec.upto fnForeachWriteToAppendsToAnyPrefixSpec)

/-- 'n001_100.FnReduceStringMatchesModel', WHERE WHAT IT READS IS OF BULK AT MOST 1048576: true; the input reads as it did. -/
def fnReduceStringMatchesModelUptoRow : OpenClaim := { program := "ytboekgedfhdaaaadoor", sum := "e9acf8fe78860f5c9f9267dbf34c9d9aa948de408d6e06d11bf389724dec730c", func := "github.com/itchyny/gojq/n001_100.FnReduceStringMatchesModel", spec := "fnReduceStringMatchesModel", inPlace := ["internal/abi.NoEscape"], unfollowed := true, recurses := true, named := ["unicode/utf8.first", "unicode/utf8.acceptRanges"], apart := false, laid := [("unicode/utf8.acceptRanges", laid_unicode_utf8_acceptRanges), ("unicode/utf8.first", laid_unicode_utf8_first)], narrowed := true }
def FnReduceStringMatchesModelUptoSaid : Prop := fnReduceStringMatchesModelUptoRow.holds Tryd.pinned (OpenSpec.upto fnReduceStringMatchesModelSpec)

/-- 'n001_100.FnForeachAsPipeHeadPrintsSame', WHERE WHAT IT READS IS OF BULK AT MOST 1048576: true; the input reads as it did. -/
def fnForeachAsPipeHeadPrintsSameUptoRow : OpenClaim := { program := "ytboekgedfhdaaaadoor", sum := "e9acf8fe78860f5c9f9267dbf34c9d9aa948de408d6e06d11bf389724dec730c", func := "github.com/itchyny/gojq/n001_100.FnForeachAsPipeHeadPrintsSame", spec := "fnForeachAsPipeHeadPrintsSame", inPlace := ["internal/abi.NoEscape"], unfollowed := true, recurses := true, named := ["unicode/utf8.first", "unicode/utf8.acceptRanges"], apart := false, laid := [("unicode/utf8.acceptRanges", laid_unicode_utf8_acceptRanges), ("unicode/utf8.first", laid_unicode_utf8_first)], narrowed := true }
def FnForeachAsPipeHeadPrintsSameUptoSaid : Prop := fnForeachAsPipeHeadPrintsSameUptoRow.holds Tryd.pinned (OpenSpec.upto fnForeachAsPipeHeadPrintsSameSpec)

/-- 'n001_100.FnForeachWithoutExtractIsReduceRetitled', WHERE WHAT IT READS IS OF BULK AT MOST 1048576: true; the input reads as it did. -/
def fnForeachWithoutExtractIsReduceRetitledUptoRow : OpenClaim := { program := "ytboekgedfhdaaaadoor", sum := "e9acf8fe78860f5c9f9267dbf34c9d9aa948de408d6e06d11bf389724dec730c", func := "github.com/itchyny/gojq/n001_100.FnForeachWithoutExtractIsReduceRetitled", spec := "fnForeachWithoutExtractIsReduceRetitled", inPlace := ["internal/abi.NoEscape"], unfollowed := true, recurses := true, named := ["unicode/utf8.first", "unicode/utf8.acceptRanges"], apart := false, laid := [("unicode/utf8.acceptRanges", laid_unicode_utf8_acceptRanges), ("unicode/utf8.first", laid_unicode_utf8_first)], narrowed := true }
def FnForeachWithoutExtractIsReduceRetitledUptoSaid : Prop := fnForeachWithoutExtractIsReduceRetitledUptoRow.holds Tryd.pinned (OpenSpec.upto fnForeachWithoutExtractIsReduceRetitledSpec)

/-- 'n001_100.FnForeachStringMatchesModel', WHERE WHAT IT READS IS OF BULK AT MOST 1048576: true; the input reads as it did. -/
def fnForeachStringMatchesModelUptoRow : OpenClaim := { program := "ytboekgedfhdaaaadoor", sum := "e9acf8fe78860f5c9f9267dbf34c9d9aa948de408d6e06d11bf389724dec730c", func := "github.com/itchyny/gojq/n001_100.FnForeachStringMatchesModel", spec := "fnForeachStringMatchesModel", inPlace := ["internal/abi.NoEscape"], unfollowed := true, recurses := true, named := ["unicode/utf8.first", "unicode/utf8.acceptRanges"], apart := false, laid := [("unicode/utf8.acceptRanges", laid_unicode_utf8_acceptRanges), ("unicode/utf8.first", laid_unicode_utf8_first)], narrowed := true }
def FnForeachStringMatchesModelUptoSaid : Prop := fnForeachStringMatchesModelUptoRow.holds Tryd.pinned (OpenSpec.upto fnForeachStringMatchesModelSpec)

/-- 'n001_100.FnReduceAsTermPrintsSame', WHERE WHAT IT READS IS OF BULK AT MOST 1048576: true; the input reads as it did. -/
def fnReduceAsTermPrintsSameUptoRow : OpenClaim := { program := "ytboekgedfhdaaaadoor", sum := "e9acf8fe78860f5c9f9267dbf34c9d9aa948de408d6e06d11bf389724dec730c", func := "github.com/itchyny/gojq/n001_100.FnReduceAsTermPrintsSame", spec := "fnReduceAsTermPrintsSame", inPlace := ["internal/abi.NoEscape"], unfollowed := true, recurses := true, named := ["unicode/utf8.first", "unicode/utf8.acceptRanges"], apart := false, laid := [("unicode/utf8.acceptRanges", laid_unicode_utf8_acceptRanges), ("unicode/utf8.first", laid_unicode_utf8_first)], narrowed := true }
def FnReduceAsTermPrintsSameUptoSaid : Prop := fnReduceAsTermPrintsSameUptoRow.holds Tryd.pinned (OpenSpec.upto fnReduceAsTermPrintsSameSpec)

end Rows
end Go.Proofs.YtboekgedfhdaaaaDoor
