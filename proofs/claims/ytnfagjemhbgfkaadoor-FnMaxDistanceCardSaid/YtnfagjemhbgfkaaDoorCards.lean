/-
  DERIVED. GIVEN WITH THE SEED: THE CARDS: each row of YtnfagjemhbgfkaaDoorRows.lean that lists a variable, with what it lists TIED to the program's text (the seventh form; the later family's looks); each row that meets fmt, with fmt's text TOLD by the authors' own Lean function (tested against real Go, not proved from fmt's source: count such statements apart). THE CARD IS WHAT COUNTS. Prove the row's statement (the work); the ties are given (YtnfagjemhbgfkaaDoorTie.lean); close each card by the builder's one call (the guide's Derived/Test/ToyasCard.lean, 'card_holds'). Laid BY PROGRAM, IN A SANDBOX (cutbox-door.mjs). By AI agents, Wed Nov 11 2026. No macro, syntax, notation, axiom, sorry.
-/
import Derived.Test.YtnfagjemhbgfkaaDoorRows
import GoSem.ClaimSeven
namespace Go.Proofs.YtnfagjemhbgfkaaDoor
namespace Rows

/-- THE TIED CARD OF 'laws.FnMaxDistance'. -/
def fnMaxDistanceCard : Claim7 := { stood := { row := fnMaxDistanceRow, standIns := [], harness := (true, "7e7d44b7e442aacb94582435164b4969e44d245877e4010b99104af71c92830e"), looks := false }, kinds := [], alts := [], laidByText := true, laidKinds := [.sentinel], laidTests := true, laidLooks := .later }
def FnMaxDistanceCardSaid : Prop := Claim7.holds Tryd.pinned (.plain (OpenSpec.ofChange fnMaxDistanceSpec)) fnMaxDistanceCard

/-- THE SECOND FORM's CARD OF 'laws.FnMaxDistance'. -/
def fnMaxDistanceUptoCard : Claim7 := { stood := { row := fnMaxDistanceUptoRow, standIns := [], harness := (true, "7e7d44b7e442aacb94582435164b4969e44d245877e4010b99104af71c92830e"), looks := false }, kinds := [], alts := [], laidByText := true, laidKinds := [.sentinel], laidTests := true, laidLooks := .later }
def FnMaxDistanceUptoCardSaid : Prop := Claim7.holds Tryd.pinned (.plain (OpenSpec.upto fnMaxDistanceSpec)) fnMaxDistanceUptoCard
end Rows
end Go.Proofs.YtnfagjemhbgfkaaDoor
