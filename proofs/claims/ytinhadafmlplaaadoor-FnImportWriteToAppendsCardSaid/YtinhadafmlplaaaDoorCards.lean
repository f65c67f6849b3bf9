/-
  DERIVED. GIVEN WITH THE SEED: THE CARDS: each row of YtinhadafmlplaaaDoorRows.lean that lists a variable, with what it lists TIED to the program's text (the seventh form; the later family's looks); each row that meets fmt, with fmt's text TOLD by the authors' own Lean function (tested against real Go, not proved from fmt's source: count such statements apart). THE CARD IS WHAT COUNTS. Prove the row's statement (the work); the ties are given (YtinhadafmlplaaaDoorTie.lean); close each card by the builder's one call (the guide's Derived/Test/ToyasCard.lean, 'card_holds'). Laid BY PROGRAM, IN A SANDBOX (cutbox-door.mjs). By AI agents, Wed Nov 11 2026. No macro, syntax, notation, axiom, sorry.
-/
import Derived.Test.YtinhadafmlplaaaDoorRows
import GoSem.ClaimSeven
namespace Go.Proofs.YtinhadafmlplaaaDoor
namespace Rows

/-- THE TIED CARD OF 'n001_103.FnImportStringCaseTable'. -/
def fnImportStringCaseTableCard : Claim7 := { stood := { row := fnImportStringCaseTableRow, standIns := [], harness := (true, "71b4a1eedd7c477b79f9fe63e6f1b71ad498e9435a4e900056a58756b1c68ccc"), looks := false }, kinds := [], alts := [], laidByText := true, laidKinds := [.data, .pinned], laidTests := true, laidLooks := .later }
def FnImportStringCaseTableCardSaid : Prop := Claim7.holds Tryd.pinned (.plain (OpenSpec.ofChange fnImportStringCaseTableSpec)) fnImportStringCaseTableCard

/-- THE TIED CARD OF 'n001_103.FnImportStringASCIIModel'. -/
def fnImportStringASCIIModelCard : Claim7 := { stood := { row := fnImportStringASCIIModelRow, standIns := [], harness := (true, "71b4a1eedd7c477b79f9fe63e6f1b71ad498e9435a4e900056a58756b1c68ccc"), looks := false }, kinds := [], alts := [], laidByText := true, laidKinds := [.data, .pinned], laidTests := true, laidLooks := .later }
def FnImportStringASCIIModelCardSaid : Prop := Claim7.holds Tryd.pinned (.plain (OpenSpec.ofChange fnImportStringASCIIModelSpec)) fnImportStringASCIIModelCard

/-- THE TIED CARD OF 'n001_103.FnImportWriteToAppends'. -/
def fnImportWriteToAppendsCard : Claim7 := { stood := { row := fnImportWriteToAppendsRow, standIns := [], harness := (true, "71b4a1eedd7c477b79f9fe63e6f1b71ad498e9435a4e900056a58756b1c68ccc"), looks := false }, kinds := [], alts := [], laidByText := true, laidKinds := [.data, .pinned], laidTests := true, laidLooks := .later }
def FnImportWriteToAppendsCardSaid : Prop := Claim7.holds Tryd.pinned (.plain (OpenSpec.ofChange fnImportWriteToAppendsSpec)) fnImportWriteToAppendsCard

/-- THE SECOND FORM's CARD OF 'n001_103.FnImportStringCaseTable'. -/
def fnImportStringCaseTableUptoCard : Claim7 := { stood := { row := fnImportStringCaseTableUptoRow, standIns := [], harness := (true, "71b4a1eedd7c477b79f9fe63e6f1b71ad498e9435a4e900056a58756b1c68ccc"), looks := false }, kinds := [], alts := [], laidByText := true, laidKinds := [.data, .pinned], laidTests := true, laidLooks := .later }
def FnImportStringCaseTableUptoCardSaid : Prop := Claim7.holds Tryd.pinned (.plain (OpenSpec.upto fnImportStringCaseTableSpec)) fnImportStringCaseTableUptoCard

/-- THE SECOND FORM's CARD OF 'n001_103.FnImportStringASCIIModel'. -/
def fnImportStringASCIIModelUptoCard : Claim7 := { stood := { row := fnImportStringASCIIModelUptoRow, standIns := [], harness := (true, "71b4a1eedd7c477b79f9fe63e6f1b71ad498e9435a4e900056a58756b1c68ccc"), looks := false }, kinds := [], alts := [], laidByText := true, laidKinds := [.data, .pinned], laidTests := true, laidLooks := .later }
def FnImportStringASCIIModelUptoCardSaid : Prop := Claim7.holds Tryd.pinned (.plain (OpenSpec.upto fnImportStringASCIIModelSpec)) fnImportStringASCIIModelUptoCard

/-- THE SECOND FORM's CARD OF 'n001_103.FnImportWriteToAppends'. -/
def fnImportWriteToAppendsUptoCard : Claim7 := { stood := { row := fnImportWriteToAppendsUptoRow, standIns := [], harness := (true, "71b4a1eedd7c477b79f9fe63e6f1b71ad498e9435a4e900056a58756b1c68ccc"), looks := false }, kinds := [], alts := [], laidByText := true, laidKinds := [.data, .pinned], laidTests := true, laidLooks := .later }
def FnImportWriteToAppendsUptoCardSaid : Prop := Claim7.holds Tryd.pinned (.plain (OpenSpec.upto fnImportWriteToAppendsSpec)) fnImportWriteToAppendsUptoCard
end Rows
end Go.Proofs.YtinhadafmlplaaaDoor
