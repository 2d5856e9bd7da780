/- FnLetters: what its listed variables give. -/
import Derived.Test.YtanimdajohpggaaDoorLetLaw
import Derived.Test.YtanimdajohpggaaDoorRows
import Derived.LaidMore
import Derived.ChangeBears2
import Derived.Lib.LaidU8T
import Derived.PinnedBridge
namespace Go.Proofs.YtanimdajohpggaaDoor.Utf0
open Go.ChangeShapes Go.WideShapes Go.ChangeAt Go.RowKit Go.Trav Go.Utf
set_option linter.unusedVariables false
set_option maxRecDepth 100000
theorem first_eq : Rows.laid_unicode_utf8_first = Lib.firstData := Pinned.utf8First_eq
theorem accept_eq : (Rows.laid_unicode_utf8_acceptRanges : DataW Unit) = Lib.acceptData := by kernel_rfl
theorem tabs_of_reads {W : World} (h3 : Lib.VarReads Tryd.prog W "unicode/utf8.first" Rows.laid_unicode_utf8_first) (h4 : Lib.VarReads Tryd.prog W "unicode/utf8.acceptRanges" Rows.laid_unicode_utf8_acceptRanges) : Tabs W := by
  rw [first_eq] at h3
  rw [accept_eq] at h4
  exact utf8Tabs_of_readsT (ρ := Tryd.lays197_ren) { Tryd.lays197 with } ⟨by kernel_rfl, by kernel_rfl, by kernel_rfl, by kernel_rfl, by kernel_rfl, by kernel_rfl, by kernel_rfl⟩ h3 h4
theorem of_laid {W : World} (h : laidMetH Tryd.prog Rows.fnLettersRow.laid W) : Tabs W := by
  rw [MakeChecks.laidMetH_plain _ _ _ (by kernel_rfl)] at h
  exact tabs_of_reads (Lib.laidMet.reads h (.tail _ (.head _))) (Lib.laidMet.reads h (.head _))
end Go.Proofs.YtanimdajohpggaaDoor.Utf0
