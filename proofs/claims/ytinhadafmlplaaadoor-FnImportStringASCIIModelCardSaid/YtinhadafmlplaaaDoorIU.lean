/- The two tables of unicode/utf8, off what the rows list. No condition. -/
import Derived.Test.YtinhadafmlplaaaDoorRows
import Derived.Test.YtinhadafmlplaaaDoorShelf
import Derived.Lib.LaidU8
set_option linter.unusedVariables false
namespace Go.Proofs.YtinhadafmlplaaaDoor
open Go.Shelf Go.RowKit

theorem d_first : Lib.firstData = Rows.laid_unicode_utf8_first := by kernel_rfl
theorem d_accept : Lib.acceptData = Rows.laid_unicode_utf8_acceptRanges := by kernel_rfl
theorem tabs_of {w : World} {l : List (String × DataW Unit)} (hl : l = Rows.fnImportStringCaseTableRow.laid) (h : laidMet Tryd.prog l w) : Lib.Utf8Tabs 0 1 w := by
  subst hl
  exact utf8Tabs_of_reads (ρ := Tryd.lays260_ren) Tryd.lays260 ⟨by kernel_rfl, by kernel_rfl, by kernel_rfl, by kernel_rfl, by kernel_rfl, by kernel_rfl, by kernel_rfl⟩
    (Lib.laidMet.reads h (by rw [d_first]; simp [Rows.fnImportStringCaseTableRow])) (Lib.laidMet.reads h (by rw [d_accept]; simp [Rows.fnImportStringCaseTableRow]))
end Go.Proofs.YtinhadafmlplaaaDoor
