/- Closed facts of this seat's program that every law's frame asks: once for all laws. No condition. -/
import Derived.Test.YtejbdgkcoajpfaaDoorChecked
import Derived.Test.YtejbdgkcoajpfaaDoorRows
import Derived.JoinedCond
import Derived.WalkKit
import Derived.Deep.DeepHandedRow
namespace Go.Proofs.YtejbdgkcoajpfaaDoor
theorem pEnter : Tryd.prog.mayEnter = true := by kernel_rfl
theorem pLift : Tryd.prog.liftsFinal = Rows.fnLabelWriteToAgreesWithTermAndQueryRow.lifted := by kernel_rfl
theorem pMake : Tryd.prog.make = some Rows.fnLabelWriteToAgreesWithTermAndQueryRow.make := by kernel_rfl
theorem pLaid : laidOutB Tryd.prog = true := by kernel_rfl
theorem pMaps : mapsRowed Tryd.prog = true := by kernel_rfl
end Go.Proofs.YtejbdgkcoajpfaaDoor
