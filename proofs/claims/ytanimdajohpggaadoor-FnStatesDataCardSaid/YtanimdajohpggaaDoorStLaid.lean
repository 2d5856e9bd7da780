/- FnStatesData: what its listed variables give. -/
import Derived.Test.YtanimdajohpggaaDoorStData
import Derived.LaidMore
import Derived.ChangeBears2
import Derived.Deep.Slices
namespace Go.Proofs.YtanimdajohpggaaDoor.Buf
open Go.ChangeShapes Go.WideShapes Go.ChangeAt Go.RowKit Go.Trav Go.Pk Go.Proofs.YtanimdajohpggaaDoor.Node Go.Proofs.YtanimdajohpggaaDoor.Common
set_option linter.unusedVariables false
set_option maxRecDepth 100000
theorem of_laid {W : World} (h : laidMetH Tryd.prog Rows.fnStatesDataRow.laid W) : TabAt W 4 T0 := by
  rw [MakeChecks.laidMetH_plain _ _ _ (by kernel_rfl)] at h
  obtain ⟨ps, ⟨g0, t0, cs0, f0, p0, q0, hg0, ht0, hv0, hd0, ⟨g1, t1, cs1, f1, p1, q1, hg1, ht1, hv1, hd1, _, _⟩, _⟩, _, _⟩ := h
  have G1 : Tryd.prog.globalNamed "pub-traverser/pub/vellum.commonInputs" = some 4 := by kernel_rfl
  have R1 : (Tryd.prog.globals[4]?).map (·.type) = some 24 := by kernel_rfl
  obtain rfl := Option.some.inj (G1.symm.trans hg1)
  obtain rfl := Option.some.inj (R1.symm.trans ht1)
  exact tab_of (T := T0) (by unfold T0; decide +kernel) (by kernel_rfl) G1 hv1 hd1
end Go.Proofs.YtanimdajohpggaaDoor.Buf
