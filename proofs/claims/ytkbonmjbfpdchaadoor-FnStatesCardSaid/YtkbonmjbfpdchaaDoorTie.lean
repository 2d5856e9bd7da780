/-
  DERIVED. GIVEN WITH THE SEED: THE PROGRAM's TIES (one call each: nine closed facts by the kernel) AND EACH ROW's TIE, after the 31st guide's Derived/Test/Toyas{Tie, Card}.lean. No idea stands in it: it is a product of the set-up. Laid BY PROGRAM, IN A SANDBOX (cutbox-door.mjs). By AI agents, Wed Nov 11 2026. No macro, syntax, notation, axiom, sorry.
-/
import Derived.Test.YtkbonmjbfpdchaaDoorRows
import Derived.LaidByTextLater
import Derived.SevenTiedAt
import Derived.LaidSub
import Derived.LaidOnce
namespace Go.Proofs.YtkbonmjbfpdchaaDoor
open Go
set_option maxRecDepth 100000
theorem seatTie1 : Tryd.prog.laidByTextLater [("io.ErrShortWrite", Rows.laid_io_ErrShortWrite), ("pub-traverser/pub/vellum.commonInputs", Rows.laid_pub_traverser_pub_vellum_commonInputs), ("pub-traverser/pub/vellum.commonInputsInv", Rows.laid_pub_traverser_pub_vellum_commonInputsInv)] [.sentinel, .data, .data] true :=
  Program.laidByTextLater_by_one 76 8 257 (by kernel_rfl) (by kernel_rfl) (by kernel_rfl) (by kernel_rfl) (by kernel_rfl) (by kernel_rfl) (fun _ _ => by kernel_rfl)
theorem seatTie2 : Tryd.prog.laidByTextLater [("pub-traverser/pub/vellum.commonInputs", Rows.laid_pub_traverser_pub_vellum_commonInputs), ("pub-traverser/pub/vellum.commonInputsInv", Rows.laid_pub_traverser_pub_vellum_commonInputsInv), ("pub-traverser/pub/vellum.ErrIteratorDone", Rows.laid_pub_traverser_pub_vellum_ErrIteratorDone)] [.data, .data, .sentinel] true :=
  Program.laidByTextLater_by_one 76 8 257 (by kernel_rfl) (by kernel_rfl) (by kernel_rfl) (by kernel_rfl) (by kernel_rfl) (by kernel_rfl) (fun _ _ => by kernel_rfl)
theorem noOwnUnsafe : Tryd.pinned.checked.prog.headLifts.contains "ownunsafe" = false := by kernel_rfl
theorem tie : Tryd.prog.laidByTextLater [("io.ErrShortWrite", Rows.laid_io_ErrShortWrite), ("pub-traverser/pub/vellum.commonInputs", Rows.laid_pub_traverser_pub_vellum_commonInputs), ("pub-traverser/pub/vellum.commonInputsInv", Rows.laid_pub_traverser_pub_vellum_commonInputsInv)] [.sentinel, .data, .data] true :=
  Program.laidByTextLater.sub seatTie1 ["io.ErrShortWrite", "pub-traverser/pub/vellum.commonInputs", "pub-traverser/pub/vellum.commonInputsInv"] (by kernel_rfl) (by kernel_rfl)
theorem fnStates_row_tie : Rows.fnStatesRow.laidByTextAt .later Tryd.pinned [.sentinel, .data, .data] true :=
  OpenClaim.laidByTextAt_later rfl rfl tie noOwnUnsafe
theorem tie2 : Tryd.prog.laidByTextLater [("pub-traverser/pub/vellum.commonInputs", Rows.laid_pub_traverser_pub_vellum_commonInputs), ("pub-traverser/pub/vellum.commonInputsInv", Rows.laid_pub_traverser_pub_vellum_commonInputsInv), ("pub-traverser/pub/vellum.ErrIteratorDone", Rows.laid_pub_traverser_pub_vellum_ErrIteratorDone)] [.data, .data, .sentinel] true :=
  Program.laidByTextLater.sub seatTie2 ["pub-traverser/pub/vellum.commonInputs", "pub-traverser/pub/vellum.commonInputsInv", "pub-traverser/pub/vellum.ErrIteratorDone"] (by kernel_rfl) (by kernel_rfl)
theorem fnRead_row_tie : Rows.fnReadRow.laidByTextAt .later Tryd.pinned [.data, .data, .sentinel] true :=
  OpenClaim.laidByTextAt_later rfl rfl tie2 noOwnUnsafe
theorem fnStatesUpto_row_tie : Rows.fnStatesUptoRow.laidByTextAt .later Tryd.pinned [.sentinel, .data, .data] true :=
  OpenClaim.laidByTextAt_later rfl rfl tie noOwnUnsafe
theorem fnReadUpto_row_tie : Rows.fnReadUptoRow.laidByTextAt .later Tryd.pinned [.data, .data, .sentinel] true :=
  OpenClaim.laidByTextAt_later rfl rfl tie2 noOwnUnsafe
end Go.Proofs.YtkbonmjbfpdchaaDoor
