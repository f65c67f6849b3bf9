/-
  DERIVED. GIVEN WITH THE SEED: THE CARDS: each row of YtboekgedfhdaaaaDoorRows.lean that lists a variable, with what it lists TIED to the program's text (the seventh form; the later family's looks); each row that meets fmt, with fmt's text TOLD by the authors' own Lean function (tested against real Go, not proved from fmt's source: count such statements apart). THE CARD IS WHAT COUNTS. Prove the row's statement (the work); the ties are given (YtboekgedfhdaaaaDoorTie.lean); close each card by the builder's one call (the guide's Derived/Test/ToyasCard.lean, 'card_holds'). Laid BY PROGRAM, IN A SANDBOX (cutbox-door.mjs). By AI agents, Wed Nov 11 2026. No macro, syntax, notation, axiom, sorry.
-/
import Derived.Test.YtboekgedfhdaaaaDoorRows
import GoSem.ClaimSeven
namespace Go.Proofs.YtboekgedfhdaaaaDoor
namespace Rows

/-- THE TIED CARD OF 'n001_100.FnReduceWriteToAppendsToAnyPrefix'. -/
def fnReduceWriteToAppendsToAnyPrefixCard : Claim7 := { stood := { row := fnReduceWriteToAppendsToAnyPrefixRow, standIns := [], harness := (true, "de886e15a85fea84b99076fc4337a81d381542e34ba99dcb523c73180f1db70b"), looks := false }, kinds := [], alts := [], laidByText := true, laidKinds := [.data, .pinned], laidTests := true, laidLooks := .later }
def FnReduceWriteToAppendsToAnyPrefixCardSaid : Prop := Claim7.holds Tryd.pinned (.plain (OpenSpec.ofChange fnReduceWriteToAppendsToAnyPrefixSpec)) fnReduceWriteToAppendsToAnyPrefixCard

/-- THE TIED CARD OF 'n001_100.FnForeachWriteToAppendsToAnyPrefix'. -/
def fnForeachWriteToAppendsToAnyPrefixCard : Claim7 := { stood := { row := fnForeachWriteToAppendsToAnyPrefixRow, standIns := [], harness := (true, "de886e15a85fea84b99076fc4337a81d381542e34ba99dcb523c73180f1db70b"), looks := false }, kinds := [], alts := [], laidByText := true, laidKinds := [.data, .pinned], laidTests := true, laidLooks := .later }
def FnForeachWriteToAppendsToAnyPrefixCardSaid : Prop := Claim7.holds Tryd.pinned (.plain (OpenSpec.ofChange fnForeachWriteToAppendsToAnyPrefixSpec)) fnForeachWriteToAppendsToAnyPrefixCard

/-- THE TIED CARD OF 'n001_100.FnReduceStringMatchesModel'. -/
def fnReduceStringMatchesModelCard : Claim7 := { stood := { row := fnReduceStringMatchesModelRow, standIns := [], harness := (true, "de886e15a85fea84b99076fc4337a81d381542e34ba99dcb523c73180f1db70b"), looks := false }, kinds := [], alts := [], laidByText := true, laidKinds := [.data, .pinned], laidTests := true, laidLooks := .later }
def FnReduceStringMatchesModelCardSaid : Prop := Claim7.holds Tryd.pinned (.plain (OpenSpec.ofChange fnReduceStringMatchesModelSpec)) fnReduceStringMatchesModelCard

/-- THE TIED CARD OF 'n001_100.FnForeachAsPipeHeadPrintsSame'. -/
def fnForeachAsPipeHeadPrintsSameCard : Claim7 := { stood := { row := fnForeachAsPipeHeadPrintsSameRow, standIns := [], harness := (true, "de886e15a85fea84b99076fc4337a81d381542e34ba99dcb523c73180f1db70b"), looks := false }, kinds := [], alts := [], laidByText := true, laidKinds := [.data, .pinned], laidTests := true, laidLooks := .later }
def FnForeachAsPipeHeadPrintsSameCardSaid : Prop := Claim7.holds Tryd.pinned (.plain (OpenSpec.ofChange fnForeachAsPipeHeadPrintsSameSpec)) fnForeachAsPipeHeadPrintsSameCard

/-- THE TIED CARD OF 'n001_100.FnForeachWithoutExtractIsReduceRetitled'. -/
def fnForeachWithoutExtractIsReduceRetitledCard : Claim7 := { stood := { row := fnForeachWithoutExtractIsReduceRetitledRow, standIns := [], harness := (true, "de886e15a85fea84b99076fc4337a81d381542e34ba99dcb523c73180f1db70b"), looks := false }, kinds := [], alts := [], laidByText := true, laidKinds := [.data, .pinned], laidTests := true, laidLooks := .later }
def FnForeachWithoutExtractIsReduceRetitledCardSaid : Prop := Claim7.holds Tryd.pinned (.plain (OpenSpec.ofChange fnForeachWithoutExtractIsReduceRetitledSpec)) fnForeachWithoutExtractIsReduceRetitledCard

/-- THE TIED CARD OF 'n001_100.FnForeachStringMatchesModel'. -/
def fnForeachStringMatchesModelCard : Claim7 := { stood := { row := fnForeachStringMatchesModelRow, standIns := [], harness := (true, "de886e15a85fea84b99076fc4337a81d381542e34ba99dcb523c73180f1db70b"), looks := false }, kinds := [], alts := [], laidByText := true, laidKinds := [.data, .pinned], laidTests := true, laidLooks := .later }
def FnForeachStringMatchesModelCardSaid : Prop := Claim7.holds Tryd.pinned (.plain (OpenSpec.ofChange fnForeachStringMatchesModelSpec)) fnForeachStringMatchesModelCard

/-- THE TIED CARD OF 'n001_100.FnReduceAsTermPrintsSame'. -/
def fnReduceAsTermPrintsSameCard : Claim7 := { stood := { row := fnReduceAsTermPrintsSameRow, standIns := [], harness := (true, "de886e15a85fea84b99076fc4337a81d381542e34ba99dcb523c73180f1db70b"), looks := false }, kinds := [], alts := [], laidByText := true, laidKinds := [.data, .pinned], laidTests := true, laidLooks := .later }
def FnReduceAsTermPrintsSameCardSaid : Prop := Claim7.holds Tryd.pinned (.plain (OpenSpec.ofChange fnReduceAsTermPrintsSameSpec)) fnReduceAsTermPrintsSameCard

/-- THE SECOND FORM's CARD OF 'n001_100.FnReduceWriteToAppendsToAnyPrefix'. -/
def fnReduceWriteToAppendsToAnyPrefixUptoCard : Claim7 := { stood := { row := fnReduceWriteToAppendsToAnyPrefixUptoRow, standIns := [], harness := (true, "de886e15a85fea84b99076fc4337a81d381542e34ba99dcb523c73180f1db70b"), looks := false }, kinds := [], alts := [], laidByText := true, laidKinds := [.data, .pinned], laidTests := true, laidLooks := .later }
def FnReduceWriteToAppendsToAnyPrefixUptoCardSaid : Prop := Claim7.holds Tryd.pinned (.plain (OpenSpec.upto fnReduceWriteToAppendsToAnyPrefixSpec)) fnReduceWriteToAppendsToAnyPrefixUptoCard

/-- THE SECOND FORM's CARD OF 'n001_100.FnForeachWriteToAppendsToAnyPrefix'. -/
def fnForeachWriteToAppendsToAnyPrefixUptoCard : Claim7 := { stood := { row := fnForeachWriteToAppendsToAnyPrefixUptoRow, standIns := [], harness := (true, "de886e15a85fea84b99076fc4337a81d381542e34ba99dcb523c73180f1db70b"), looks := false }, kinds := [], alts := [], laidByText := true, laidKinds := [.data, .pinned], laidTests := true, laidLooks := .later }
def FnForeachWriteToAppendsToAnyPrefixUptoCardSaid : Prop := Claim7.holds Tryd.pinned (.plain (OpenSpec.upto fnForeachWriteToAppendsToAnyPrefixSpec)) fnForeachWriteToAppendsToAnyPrefixUptoCard

/-- THE SECOND FORM's CARD OF 'n001_100.FnReduceStringMatchesModel'. -/
def fnReduceStringMatchesModelUptoCard : Claim7 := { stood := { row := fnReduceStringMatchesModelUptoRow, standIns := [], harness := (true, "de886e15a85fea84b99076fc4337a81d381542e34ba99dcb523c73180f1db70b"), looks := false }, kinds := [], alts := [], laidByText := true, laidKinds := [.data, .pinned], laidTests := true, laidLooks := .later }
def FnReduceStringMatchesModelUptoCardSaid : Prop := Claim7.holds Tryd.pinned (.plain (OpenSpec.upto fnReduceStringMatchesModelSpec)) fnReduceStringMatchesModelUptoCard

/-- THE SECOND FORM's CARD OF 'n001_100.FnForeachAsPipeHeadPrintsSame'. -/
def fnForeachAsPipeHeadPrintsSameUptoCard : Claim7 := { stood := { row := fnForeachAsPipeHeadPrintsSameUptoRow, standIns := [], harness := (true, "de886e15a85fea84b99076fc4337a81d381542e34ba99dcb523c73180f1db70b"), looks := false }, kinds := [], alts := [], laidByText := true, laidKinds := [.data, .pinned], laidTests := true, laidLooks := .later }
def FnForeachAsPipeHeadPrintsSameUptoCardSaid : Prop := Claim7.holds Tryd.pinned (.plain (OpenSpec.upto fnForeachAsPipeHeadPrintsSameSpec)) fnForeachAsPipeHeadPrintsSameUptoCard

/-- THE SECOND FORM's CARD OF 'n001_100.FnForeachWithoutExtractIsReduceRetitled'. -/
def fnForeachWithoutExtractIsReduceRetitledUptoCard : Claim7 := { stood := { row := fnForeachWithoutExtractIsReduceRetitledUptoRow, standIns := [], harness := (true, "de886e15a85fea84b99076fc4337a81d381542e34ba99dcb523c73180f1db70b"), looks := false }, kinds := [], alts := [], laidByText := true, laidKinds := [.data, .pinned], laidTests := true, laidLooks := .later }
def FnForeachWithoutExtractIsReduceRetitledUptoCardSaid : Prop := Claim7.holds Tryd.pinned (.plain (OpenSpec.upto fnForeachWithoutExtractIsReduceRetitledSpec)) fnForeachWithoutExtractIsReduceRetitledUptoCard

/-- THE SECOND FORM's CARD OF 'n001_100.FnForeachStringMatchesModel'. -/
def fnForeachStringMatchesModelUptoCard : Claim7 := { stood := { row := fnForeachStringMatchesModelUptoRow, standIns := [], harness := (true, "de886e15a85fea84b99076fc4337a81d381542e34ba99dcb523c73180f1db70b"), looks := false }, kinds := [], alts := [], laidByText := true, laidKinds := [.data, .pinned], laidTests := true, laidLooks := .later }
def FnForeachStringMatchesModelUptoCardSaid : Prop := Claim7.holds Tryd.pinned (.plain (OpenSpec.upto fnForeachStringMatchesModelSpec)) fnForeachStringMatchesModelUptoCard

/-- THE SECOND FORM's CARD OF 'n001_100.FnReduceAsTermPrintsSame'. -/
def fnReduceAsTermPrintsSameUptoCard : Claim7 := { stood := { row := fnReduceAsTermPrintsSameUptoRow, standIns := [], harness := (true, "de886e15a85fea84b99076fc4337a81d381542e34ba99dcb523c73180f1db70b"), looks := false }, kinds := [], alts := [], laidByText := true, laidKinds := [.data, .pinned], laidTests := true, laidLooks := .later }
def FnReduceAsTermPrintsSameUptoCardSaid : Prop := Claim7.holds Tryd.pinned (.plain (OpenSpec.upto fnReduceAsTermPrintsSameSpec)) fnReduceAsTermPrintsSameUptoCard
end Rows
end Go.Proofs.YtboekgedfhdaaaaDoor
