/-
  DERIVED. GIVEN WITH THE SEED: THE PROGRAM's TIES (one call each: nine closed facts by the kernel) AND EACH ROW's TIE, after the 31st guide's Derived/Test/Toyas{Tie, Card}.lean. No idea stands in it: it is a product of the set-up. Laid BY PROGRAM, IN A SANDBOX (cutbox-door.mjs). By AI agents, Wed Nov 11 2026. No macro, syntax, notation, axiom, sorry.
-/
import Derived.Test.YtnfagjemhbgfkaaDoorRows
import Derived.LaidByTextLater
import Derived.SevenTiedAt
import Derived.LaidSub
import Derived.LaidOnce
namespace Go.Proofs.YtnfagjemhbgfkaaDoor
open Go
set_option maxRecDepth 100000
theorem seatTie1 : Tryd.prog.laidByTextLater [("pub-traverser/pub/vellum/levenshtein.ErrTooManyStates", Rows.laid_pub_traverser_pub_vellum_levenshtein_ErrTooManyStates)] [.sentinel] true :=
  Program.laidByTextLater_by_one 33 8 65 (by kernel_rfl) (by kernel_rfl) (by kernel_rfl) (by kernel_rfl) (by kernel_rfl) (by kernel_rfl) (fun _ _ => by kernel_rfl)
theorem noOwnUnsafe : Tryd.pinned.checked.prog.headLifts.contains "ownunsafe" = false := by kernel_rfl
theorem tie : Tryd.prog.laidByTextLater [("pub-traverser/pub/vellum/levenshtein.ErrTooManyStates", Rows.laid_pub_traverser_pub_vellum_levenshtein_ErrTooManyStates)] [.sentinel] true :=
  Program.laidByTextLater.sub seatTie1 ["pub-traverser/pub/vellum/levenshtein.ErrTooManyStates"] (by kernel_rfl) (by kernel_rfl)
theorem fnMaxDistance_row_tie : Rows.fnMaxDistanceRow.laidByTextAt .later Tryd.pinned [.sentinel] true :=
  OpenClaim.laidByTextAt_later rfl rfl tie noOwnUnsafe
theorem fnMaxDistanceUpto_row_tie : Rows.fnMaxDistanceUptoRow.laidByTextAt .later Tryd.pinned [.sentinel] true :=
  OpenClaim.laidByTextAt_later rfl rfl tie noOwnUnsafe
end Go.Proofs.YtnfagjemhbgfkaaDoor
