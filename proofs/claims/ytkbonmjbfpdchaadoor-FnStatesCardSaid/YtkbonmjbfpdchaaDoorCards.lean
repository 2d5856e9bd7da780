/-
  DERIVED. GIVEN WITH THE SEED: THE CARDS: each row of YtkbonmjbfpdchaaDoorRows.lean that lists a variable, with what it lists TIED to the program's text (the seventh form; the later family's looks); each row that meets fmt, with fmt's text TOLD by the authors' own Lean function (tested against real Go, not proved from fmt's source: count such statements apart). THE CARD IS WHAT COUNTS. Prove the row's statement (the work); the ties are given (YtkbonmjbfpdchaaDoorTie.lean); close each card by the builder's one call (the guide's Derived/Test/ToyasCard.lean, 'card_holds'). Laid BY PROGRAM, IN A SANDBOX (cutbox-door.mjs). By AI agents, Wed Nov 11 2026. No macro, syntax, notation, axiom, sorry.
-/
import Derived.Test.YtkbonmjbfpdchaaDoorRows
import GoSem.ClaimSeven
namespace Go.Proofs.YtkbonmjbfpdchaaDoor
namespace Rows

/-- THE TIED CARD OF 'laws.FnStates'. -/
def fnStatesCard : Claim7 := { stood := { row := fnStatesRow, standIns := [], harness := (true, "bedb30d638123ea878092a091372020d3cdafab15f69b585457ef44372725fc0"), looks := true }, kinds := [], alts := [], laidByText := true, laidKinds := [.sentinel, .data, .data], laidTests := true, laidLooks := .later }
def FnStatesCardSaid : Prop := Claim7.holds Tryd.pinned (.plain (OpenSpec.ofChange fnStatesSpec)) fnStatesCard

/-- THE TIED CARD OF 'laws.FnRead'. -/
def fnReadCard : Claim7 := { stood := { row := fnReadRow, standIns := [], harness := (true, "bedb30d638123ea878092a091372020d3cdafab15f69b585457ef44372725fc0"), looks := true }, kinds := [], alts := [], laidByText := true, laidKinds := [.data, .data, .sentinel], laidTests := true, laidLooks := .later }
def FnReadCardSaid : Prop := Claim7.holds Tryd.pinned (.plain (OpenSpec.ofChange fnReadSpec)) fnReadCard

/-- THE SECOND FORM's CARD OF 'laws.FnStates'. -/
def fnStatesUptoCard : Claim7 := { stood := { row := fnStatesUptoRow, standIns := [], harness := (true, "bedb30d638123ea878092a091372020d3cdafab15f69b585457ef44372725fc0"), looks := true }, kinds := [], alts := [], laidByText := true, laidKinds := [.sentinel, .data, .data], laidTests := true, laidLooks := .later }
def FnStatesUptoCardSaid : Prop := Claim7.holds Tryd.pinned (.plain (OpenSpec.upto fnStatesSpec)) fnStatesUptoCard

/-- THE SECOND FORM's CARD OF 'laws.FnRead'. -/
def fnReadUptoCard : Claim7 := { stood := { row := fnReadUptoRow, standIns := [], harness := (true, "bedb30d638123ea878092a091372020d3cdafab15f69b585457ef44372725fc0"), looks := true }, kinds := [], alts := [], laidByText := true, laidKinds := [.data, .data, .sentinel], laidTests := true, laidLooks := .later }
def FnReadUptoCardSaid : Prop := Claim7.holds Tryd.pinned (.plain (OpenSpec.upto fnReadSpec)) fnReadUptoCard
end Rows
end Go.Proofs.YtkbonmjbfpdchaaDoor
