/-
  DERIVED. GIVEN WITH THE SEED: THE CARDS: each row of YtejbdgkcoajpfaaDoorRows.lean that lists a variable, with what it lists TIED to the program's text (the seventh form; the later family's looks); each row that meets fmt, with fmt's text TOLD by the authors' own Lean function (tested against real Go, not proved from fmt's source: count such statements apart). THE CARD IS WHAT COUNTS. Prove the row's statement (the work); the ties are given (YtejbdgkcoajpfaaDoorTie.lean); close each card by the builder's one call (the guide's Derived/Test/ToyasCard.lean, 'card_holds'). Laid BY PROGRAM, IN A SANDBOX (cutbox-door.mjs). By AI agents, Wed Nov 11 2026. No macro, syntax, notation, axiom, sorry.
-/
import Derived.Test.YtejbdgkcoajpfaaDoorRows
import GoSem.ClaimSeven
namespace Go.Proofs.YtejbdgkcoajpfaaDoor
namespace Rows

/-- THE TIED CARD OF 'n001_15.FnLabelWriteToAgreesWithTermAndQuery'. -/
def fnLabelWriteToAgreesWithTermAndQueryCard : Claim7 := { stood := { row := fnLabelWriteToAgreesWithTermAndQueryRow, standIns := [], harness := (true, "c27a38fe3ce133f84f6b6480edcf51fc5cf8ac9fa48b94ce49ef71d3481640b9"), looks := false }, kinds := [], alts := [], laidByText := true, laidKinds := [.data, .pinned], laidTests := true, laidLooks := .later }
def FnLabelWriteToAgreesWithTermAndQueryCardSaid : Prop := Claim7.holds Tryd.pinned (.plain (OpenSpec.ofChange fnLabelWriteToAgreesWithTermAndQuerySpec)) fnLabelWriteToAgreesWithTermAndQueryCard

/-- THE TIED CARD OF 'n001_104.FnIfElifStringModel'. -/
def fnIfElifStringModelCard : Claim7 := { stood := { row := fnIfElifStringModelRow, standIns := [], harness := (true, "c27a38fe3ce133f84f6b6480edcf51fc5cf8ac9fa48b94ce49ef71d3481640b9"), looks := false }, kinds := [], alts := [], laidByText := true, laidKinds := [.data, .pinned], laidTests := true, laidLooks := .later }
def FnIfElifStringModelCardSaid : Prop := Claim7.holds Tryd.pinned (.plain (OpenSpec.ofChange fnIfElifStringModelSpec)) fnIfElifStringModelCard

/-- THE TIED CARD OF 'n001_104.FnIfElifWriteToModel'. -/
def fnIfElifWriteToModelCard : Claim7 := { stood := { row := fnIfElifWriteToModelRow, standIns := [], harness := (true, "c27a38fe3ce133f84f6b6480edcf51fc5cf8ac9fa48b94ce49ef71d3481640b9"), looks := false }, kinds := [], alts := [], laidByText := true, laidKinds := [.data, .pinned], laidTests := true, laidLooks := .later }
def FnIfElifWriteToModelCardSaid : Prop := Claim7.holds Tryd.pinned (.plain (OpenSpec.ofChange fnIfElifWriteToModelSpec)) fnIfElifWriteToModelCard

/-- THE TIED CARD OF 'n001_104.FnTryStringModel'. -/
def fnTryStringModelCard : Claim7 := { stood := { row := fnTryStringModelRow, standIns := [], harness := (true, "c27a38fe3ce133f84f6b6480edcf51fc5cf8ac9fa48b94ce49ef71d3481640b9"), looks := false }, kinds := [], alts := [], laidByText := true, laidKinds := [.data, .pinned], laidTests := true, laidLooks := .later }
def FnTryStringModelCardSaid : Prop := Claim7.holds Tryd.pinned (.plain (OpenSpec.ofChange fnTryStringModelSpec)) fnTryStringModelCard

/-- THE TIED CARD OF 'n001_104.FnIfElifStringInjective'. -/
def fnIfElifStringInjectiveCard : Claim7 := { stood := { row := fnIfElifStringInjectiveRow, standIns := [], harness := (true, "c27a38fe3ce133f84f6b6480edcf51fc5cf8ac9fa48b94ce49ef71d3481640b9"), looks := false }, kinds := [], alts := [], laidByText := true, laidKinds := [.data, .pinned], laidTests := true, laidLooks := .later }
def FnIfElifStringInjectiveCardSaid : Prop := Claim7.holds Tryd.pinned (.plain (OpenSpec.ofChange fnIfElifStringInjectiveSpec)) fnIfElifStringInjectiveCard

/-- THE TIED CARD OF 'n001_104.FnTryWriteToModel'. -/
def fnTryWriteToModelCard : Claim7 := { stood := { row := fnTryWriteToModelRow, standIns := [], harness := (true, "c27a38fe3ce133f84f6b6480edcf51fc5cf8ac9fa48b94ce49ef71d3481640b9"), looks := false }, kinds := [], alts := [], laidByText := true, laidKinds := [.data, .pinned], laidTests := true, laidLooks := .later }
def FnTryWriteToModelCardSaid : Prop := Claim7.holds Tryd.pinned (.plain (OpenSpec.ofChange fnTryWriteToModelSpec)) fnTryWriteToModelCard

/-- THE TIED CARD OF 'n001_104.FnIfElifWriteToAgreesString'. -/
def fnIfElifWriteToAgreesStringCard : Claim7 := { stood := { row := fnIfElifWriteToAgreesStringRow, standIns := [], harness := (true, "c27a38fe3ce133f84f6b6480edcf51fc5cf8ac9fa48b94ce49ef71d3481640b9"), looks := false }, kinds := [], alts := [], laidByText := true, laidKinds := [.data, .pinned], laidTests := true, laidLooks := .later }
def FnIfElifWriteToAgreesStringCardSaid : Prop := Claim7.holds Tryd.pinned (.plain (OpenSpec.ofChange fnIfElifWriteToAgreesStringSpec)) fnIfElifWriteToAgreesStringCard

/-- THE TIED CARD OF 'n001_104.FnTryWriteToAgreesString'. -/
def fnTryWriteToAgreesStringCard : Claim7 := { stood := { row := fnTryWriteToAgreesStringRow, standIns := [], harness := (true, "c27a38fe3ce133f84f6b6480edcf51fc5cf8ac9fa48b94ce49ef71d3481640b9"), looks := false }, kinds := [], alts := [], laidByText := true, laidKinds := [.data, .pinned], laidTests := true, laidLooks := .later }
def FnTryWriteToAgreesStringCardSaid : Prop := Claim7.holds Tryd.pinned (.plain (OpenSpec.ofChange fnTryWriteToAgreesStringSpec)) fnTryWriteToAgreesStringCard

/-- THE TIED CARD OF 'n001_104.FnTryStringInjective'. -/
def fnTryStringInjectiveCard : Claim7 := { stood := { row := fnTryStringInjectiveRow, standIns := [], harness := (true, "c27a38fe3ce133f84f6b6480edcf51fc5cf8ac9fa48b94ce49ef71d3481640b9"), looks := false }, kinds := [], alts := [], laidByText := true, laidKinds := [.data, .pinned], laidTests := true, laidLooks := .later }
def FnTryStringInjectiveCardSaid : Prop := Claim7.holds Tryd.pinned (.plain (OpenSpec.ofChange fnTryStringInjectiveSpec)) fnTryStringInjectiveCard

/-- THE TIED CARD OF 'n001_103.FnTermStringLeafModel'. -/
def fnTermStringLeafModelCard : Claim7 := { stood := { row := fnTermStringLeafModelRow, standIns := [], harness := (true, "c27a38fe3ce133f84f6b6480edcf51fc5cf8ac9fa48b94ce49ef71d3481640b9"), looks := false }, kinds := [], alts := [], laidByText := true, laidKinds := [.data, .pinned], laidTests := true, laidLooks := .later }
def FnTermStringLeafModelCardSaid : Prop := Claim7.holds Tryd.pinned (.plain (OpenSpec.ofChange fnTermStringLeafModelSpec)) fnTermStringLeafModelCard

/-- THE TIED CARD OF 'n001_103.FnTermStringWrapped'. -/
def fnTermStringWrappedCard : Claim7 := { stood := { row := fnTermStringWrappedRow, standIns := [], harness := (true, "c27a38fe3ce133f84f6b6480edcf51fc5cf8ac9fa48b94ce49ef71d3481640b9"), looks := false }, kinds := [], alts := [], laidByText := true, laidKinds := [.data, .pinned], laidTests := true, laidLooks := .later }
def FnTermStringWrappedCardSaid : Prop := Claim7.holds Tryd.pinned (.plain (OpenSpec.ofChange fnTermStringWrappedSpec)) fnTermStringWrappedCard

/-- THE SECOND FORM's CARD OF 'n001_15.FnLabelWriteToAgreesWithTermAndQuery'. -/
def fnLabelWriteToAgreesWithTermAndQueryUptoCard : Claim7 := { stood := { row := fnLabelWriteToAgreesWithTermAndQueryUptoRow, standIns := [], harness := (true, "c27a38fe3ce133f84f6b6480edcf51fc5cf8ac9fa48b94ce49ef71d3481640b9"), looks := false }, kinds := [], alts := [], laidByText := true, laidKinds := [.data, .pinned], laidTests := true, laidLooks := .later }
def FnLabelWriteToAgreesWithTermAndQueryUptoCardSaid : Prop := Claim7.holds Tryd.pinned (.plain (OpenSpec.upto fnLabelWriteToAgreesWithTermAndQuerySpec)) fnLabelWriteToAgreesWithTermAndQueryUptoCard

/-- THE SECOND FORM's CARD OF 'n001_104.FnIfElifStringModel'. -/
def fnIfElifStringModelUptoCard : Claim7 := { stood := { row := fnIfElifStringModelUptoRow, standIns := [], harness := (true, "c27a38fe3ce133f84f6b6480edcf51fc5cf8ac9fa48b94ce49ef71d3481640b9"), looks := false }, kinds := [], alts := [], laidByText := true, laidKinds := [.data, .pinned], laidTests := true, laidLooks := .later }
def FnIfElifStringModelUptoCardSaid : Prop := Claim7.holds Tryd.pinned (.plain (OpenSpec.upto fnIfElifStringModelSpec)) fnIfElifStringModelUptoCard

/-- THE SECOND FORM's CARD OF 'n001_104.FnIfElifWriteToModel'. -/
def fnIfElifWriteToModelUptoCard : Claim7 := { stood := { row := fnIfElifWriteToModelUptoRow, standIns := [], harness := (true, "c27a38fe3ce133f84f6b6480edcf51fc5cf8ac9fa48b94ce49ef71d3481640b9"), looks := false }, kinds := [], alts := [], laidByText := true, laidKinds := [.data, .pinned], laidTests := true, laidLooks := .later }
def FnIfElifWriteToModelUptoCardSaid : Prop := Claim7.holds Tryd.pinned (.plain (OpenSpec.upto fnIfElifWriteToModelSpec)) fnIfElifWriteToModelUptoCard

/-- THE SECOND FORM's CARD OF 'n001_104.FnTryStringModel'. -/
def fnTryStringModelUptoCard : Claim7 := { stood := { row := fnTryStringModelUptoRow, standIns := [], harness := (true, "c27a38fe3ce133f84f6b6480edcf51fc5cf8ac9fa48b94ce49ef71d3481640b9"), looks := false }, kinds := [], alts := [], laidByText := true, laidKinds := [.data, .pinned], laidTests := true, laidLooks := .later }
def FnTryStringModelUptoCardSaid : Prop := Claim7.holds Tryd.pinned (.plain (OpenSpec.upto fnTryStringModelSpec)) fnTryStringModelUptoCard

/-- THE SECOND FORM's CARD OF 'n001_104.FnIfElifStringInjective'. -/
def fnIfElifStringInjectiveUptoCard : Claim7 := { stood := { row := fnIfElifStringInjectiveUptoRow, standIns := [], harness := (true, "c27a38fe3ce133f84f6b6480edcf51fc5cf8ac9fa48b94ce49ef71d3481640b9"), looks := false }, kinds := [], alts := [], laidByText := true, laidKinds := [.data, .pinned], laidTests := true, laidLooks := .later }
def FnIfElifStringInjectiveUptoCardSaid : Prop := Claim7.holds Tryd.pinned (.plain (OpenSpec.upto fnIfElifStringInjectiveSpec)) fnIfElifStringInjectiveUptoCard

/-- THE SECOND FORM's CARD OF 'n001_104.FnTryWriteToModel'. -/
def fnTryWriteToModelUptoCard : Claim7 := { stood := { row := fnTryWriteToModelUptoRow, standIns := [], harness := (true, "c27a38fe3ce133f84f6b6480edcf51fc5cf8ac9fa48b94ce49ef71d3481640b9"), looks := false }, kinds := [], alts := [], laidByText := true, laidKinds := [.data, .pinned], laidTests := true, laidLooks := .later }
def FnTryWriteToModelUptoCardSaid : Prop := Claim7.holds Tryd.pinned (.plain (OpenSpec.upto fnTryWriteToModelSpec)) fnTryWriteToModelUptoCard

/-- THE SECOND FORM's CARD OF 'n001_104.FnIfElifWriteToAgreesString'. -/
def fnIfElifWriteToAgreesStringUptoCard : Claim7 := { stood := { row := fnIfElifWriteToAgreesStringUptoRow, standIns := [], harness := (true, "c27a38fe3ce133f84f6b6480edcf51fc5cf8ac9fa48b94ce49ef71d3481640b9"), looks := false }, kinds := [], alts := [], laidByText := true, laidKinds := [.data, .pinned], laidTests := true, laidLooks := .later }
def FnIfElifWriteToAgreesStringUptoCardSaid : Prop := Claim7.holds Tryd.pinned (.plain (OpenSpec.upto fnIfElifWriteToAgreesStringSpec)) fnIfElifWriteToAgreesStringUptoCard

/-- THE SECOND FORM's CARD OF 'n001_104.FnTryWriteToAgreesString'. -/
def fnTryWriteToAgreesStringUptoCard : Claim7 := { stood := { row := fnTryWriteToAgreesStringUptoRow, standIns := [], harness := (true, "c27a38fe3ce133f84f6b6480edcf51fc5cf8ac9fa48b94ce49ef71d3481640b9"), looks := false }, kinds := [], alts := [], laidByText := true, laidKinds := [.data, .pinned], laidTests := true, laidLooks := .later }
def FnTryWriteToAgreesStringUptoCardSaid : Prop := Claim7.holds Tryd.pinned (.plain (OpenSpec.upto fnTryWriteToAgreesStringSpec)) fnTryWriteToAgreesStringUptoCard

/-- THE SECOND FORM's CARD OF 'n001_104.FnTryStringInjective'. -/
def fnTryStringInjectiveUptoCard : Claim7 := { stood := { row := fnTryStringInjectiveUptoRow, standIns := [], harness := (true, "c27a38fe3ce133f84f6b6480edcf51fc5cf8ac9fa48b94ce49ef71d3481640b9"), looks := false }, kinds := [], alts := [], laidByText := true, laidKinds := [.data, .pinned], laidTests := true, laidLooks := .later }
def FnTryStringInjectiveUptoCardSaid : Prop := Claim7.holds Tryd.pinned (.plain (OpenSpec.upto fnTryStringInjectiveSpec)) fnTryStringInjectiveUptoCard

/-- THE SECOND FORM's CARD OF 'n001_103.FnTermStringLeafModel'. -/
def fnTermStringLeafModelUptoCard : Claim7 := { stood := { row := fnTermStringLeafModelUptoRow, standIns := [], harness := (true, "c27a38fe3ce133f84f6b6480edcf51fc5cf8ac9fa48b94ce49ef71d3481640b9"), looks := false }, kinds := [], alts := [], laidByText := true, laidKinds := [.data, .pinned], laidTests := true, laidLooks := .later }
def FnTermStringLeafModelUptoCardSaid : Prop := Claim7.holds Tryd.pinned (.plain (OpenSpec.upto fnTermStringLeafModelSpec)) fnTermStringLeafModelUptoCard

/-- THE SECOND FORM's CARD OF 'n001_103.FnTermStringWrapped'. -/
def fnTermStringWrappedUptoCard : Claim7 := { stood := { row := fnTermStringWrappedUptoRow, standIns := [], harness := (true, "c27a38fe3ce133f84f6b6480edcf51fc5cf8ac9fa48b94ce49ef71d3481640b9"), looks := false }, kinds := [], alts := [], laidByText := true, laidKinds := [.data, .pinned], laidTests := true, laidLooks := .later }
def FnTermStringWrappedUptoCardSaid : Prop := Claim7.holds Tryd.pinned (.plain (OpenSpec.upto fnTermStringWrappedSpec)) fnTermStringWrappedUptoCard
end Rows
end Go.Proofs.YtejbdgkcoajpfaaDoor
