/-
  DERIVED. GIVEN WITH THE SEED: THE CARDS: each row of YtfaedkkjpleobaaDoorRows.lean that lists a variable, with what it lists TIED to the program's text (the seventh form; the later family's looks); each row that meets fmt, with fmt's text TOLD by the authors' own Lean function (tested against real Go, not proved from fmt's source: count such statements apart). THE CARD IS WHAT COUNTS. Prove the row's statement (the work); the ties are given (YtfaedkkjpleobaaDoorTie.lean); close each card by the builder's one call (the guide's Derived/Test/ToyasCard.lean, 'card_holds'). Laid BY PROGRAM, IN A SANDBOX (cutbox-door.mjs). By AI agents, Wed Nov 11 2026. No macro, syntax, notation, axiom, sorry.
-/
import Derived.Test.YtfaedkkjpleobaaDoorRows
import GoSem.ClaimSeven
namespace Go.Proofs.YtfaedkkjpleobaaDoor
namespace Rows

/-- THE TIED CARD OF 'laws.FnDedupe'. -/
def fnDedupeCard : Claim7 := { stood := { row := fnDedupeRow, standIns := [], harness := (true, "64821ce06ae0c6aa8935bbdd132fa3cc4afa6566f90faf7bcfa7aa996e671962"), looks := false }, kinds := [], alts := [], laidByText := true, laidKinds := [.data, .pinned], laidTests := true, laidLooks := .later }
def FnDedupeCardSaid : Prop := Claim7.holds Tryd.pinned (.plain (OpenSpec.ofChange fnDedupeSpec)) fnDedupeCard

/-- THE SECOND FORM's CARD OF 'laws.FnDedupe'. -/
def fnDedupeUptoCard : Claim7 := { stood := { row := fnDedupeUptoRow, standIns := [], harness := (true, "64821ce06ae0c6aa8935bbdd132fa3cc4afa6566f90faf7bcfa7aa996e671962"), looks := false }, kinds := [], alts := [], laidByText := true, laidKinds := [.data, .pinned], laidTests := true, laidLooks := .later }
def FnDedupeUptoCardSaid : Prop := Claim7.holds Tryd.pinned (.plain (OpenSpec.upto fnDedupeSpec)) fnDedupeUptoCard
end Rows
end Go.Proofs.YtfaedkkjpleobaaDoor
