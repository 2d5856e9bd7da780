/-
  DERIVED. GIVEN WITH THE SEED: THE CARDS: each row of YtanimdajohpggaaDoorRows.lean that lists a variable, with what it lists TIED to the program's text (the seventh form; the later family's looks); each row that meets fmt, with fmt's text TOLD by the authors' own Lean function (tested against real Go, not proved from fmt's source: count such statements apart). THE CARD IS WHAT COUNTS. Prove the row's statement (the work); the ties are given (YtanimdajohpggaaDoorTie.lean); close each card by the builder's one call (the guide's Derived/Test/ToyasCard.lean, 'card_holds'). Laid BY PROGRAM, IN A SANDBOX (cutbox-door.mjs). By AI agents, Wed Nov 11 2026. No macro, syntax, notation, axiom, sorry.
-/
import Derived.Test.YtanimdajohpggaaDoorRows
import GoSem.ClaimSeven
namespace Go.Proofs.YtanimdajohpggaaDoor
namespace Rows

/-- THE TIED CARD OF 'laws.FnPack'. -/
def fnPackCard : Claim7 := { stood := { row := fnPackRow, standIns := [], harness := (true, "608d3d8607d0cc6079e363b95a8ee7c81c6287d40931d27b0273e56f9d608b8c"), looks := true }, kinds := [], alts := [], laidByText := true, laidKinds := [.sentinel], laidTests := true, laidLooks := .later }
def FnPackCardSaid : Prop := Claim7.holds Tryd.pinned (.plain (OpenSpec.ofChange fnPackSpec)) fnPackCard

/-- THE TIED CARD OF 'laws.FnPackOwn'. -/
def fnPackOwnCard : Claim7 := { stood := { row := fnPackOwnRow, standIns := [], harness := (true, "608d3d8607d0cc6079e363b95a8ee7c81c6287d40931d27b0273e56f9d608b8c"), looks := true }, kinds := [], alts := [], laidByText := true, laidKinds := [.sentinel], laidTests := true, laidLooks := .later }
def FnPackOwnCardSaid : Prop := Claim7.holds Tryd.pinned (.plain (OpenSpec.ofChange fnPackOwnSpec)) fnPackOwnCard

/-- THE TIED CARD OF 'laws.FnSequences'. -/
def fnSequencesCard : Claim7 := { stood := { row := fnSequencesRow, standIns := [], harness := (true, "608d3d8607d0cc6079e363b95a8ee7c81c6287d40931d27b0273e56f9d608b8c"), looks := true }, kinds := [], alts := [], laidByText := true, laidKinds := [.data, .data], laidTests := true, laidLooks := .later }
def FnSequencesCardSaid : Prop := Claim7.holds Tryd.pinned (.plain (OpenSpec.ofChange fnSequencesSpec)) fnSequencesCard

/-- THE TIED CARD OF 'laws.FnSequencesCount'. -/
def fnSequencesCountCard : Claim7 := { stood := { row := fnSequencesCountRow, standIns := [], harness := (true, "608d3d8607d0cc6079e363b95a8ee7c81c6287d40931d27b0273e56f9d608b8c"), looks := true }, kinds := [], alts := [], laidByText := true, laidKinds := [.data, .data], laidTests := true, laidLooks := .later }
def FnSequencesCountCardSaid : Prop := Claim7.holds Tryd.pinned (.plain (OpenSpec.ofChange fnSequencesCountSpec)) fnSequencesCountCard

/-- THE TIED CARD OF 'laws.FnSequencesRising'. -/
def fnSequencesRisingCard : Claim7 := { stood := { row := fnSequencesRisingRow, standIns := [], harness := (true, "608d3d8607d0cc6079e363b95a8ee7c81c6287d40931d27b0273e56f9d608b8c"), looks := true }, kinds := [], alts := [], laidByText := true, laidKinds := [.data, .data], laidTests := true, laidLooks := .later }
def FnSequencesRisingCardSaid : Prop := Claim7.holds Tryd.pinned (.plain (OpenSpec.ofChange fnSequencesRisingSpec)) fnSequencesRisingCard

/-- THE TIED CARD OF 'laws.FnStatesData'. -/
def fnStatesDataCard : Claim7 := { stood := { row := fnStatesDataRow, standIns := [], harness := (true, "608d3d8607d0cc6079e363b95a8ee7c81c6287d40931d27b0273e56f9d608b8c"), looks := true }, kinds := [], alts := [], laidByText := true, laidKinds := [.sentinel, .data], laidTests := true, laidLooks := .later }
def FnStatesDataCardSaid : Prop := Claim7.holds Tryd.pinned (.plain (OpenSpec.ofChange fnStatesDataSpec)) fnStatesDataCard

/-- THE TIED CARD OF 'laws.FnLetters'. -/
def fnLettersCard : Claim7 := { stood := { row := fnLettersRow, standIns := [], harness := (true, "608d3d8607d0cc6079e363b95a8ee7c81c6287d40931d27b0273e56f9d608b8c"), looks := true }, kinds := [], alts := [], laidByText := true, laidKinds := [.data, .pinned], laidTests := true, laidLooks := .later }
def FnLettersCardSaid : Prop := Claim7.holds Tryd.pinned (.plain (OpenSpec.ofChange fnLettersSpec)) fnLettersCard

/-- THE SECOND FORM's CARD OF 'laws.FnPack'. -/
def fnPackUptoCard : Claim7 := { stood := { row := fnPackUptoRow, standIns := [], harness := (true, "608d3d8607d0cc6079e363b95a8ee7c81c6287d40931d27b0273e56f9d608b8c"), looks := true }, kinds := [], alts := [], laidByText := true, laidKinds := [.sentinel], laidTests := true, laidLooks := .later }
def FnPackUptoCardSaid : Prop := Claim7.holds Tryd.pinned (.plain (OpenSpec.upto fnPackSpec)) fnPackUptoCard

/-- THE SECOND FORM's CARD OF 'laws.FnPackOwn'. -/
def fnPackOwnUptoCard : Claim7 := { stood := { row := fnPackOwnUptoRow, standIns := [], harness := (true, "608d3d8607d0cc6079e363b95a8ee7c81c6287d40931d27b0273e56f9d608b8c"), looks := true }, kinds := [], alts := [], laidByText := true, laidKinds := [.sentinel], laidTests := true, laidLooks := .later }
def FnPackOwnUptoCardSaid : Prop := Claim7.holds Tryd.pinned (.plain (OpenSpec.upto fnPackOwnSpec)) fnPackOwnUptoCard

/-- THE SECOND FORM's CARD OF 'laws.FnSequences'. -/
def fnSequencesUptoCard : Claim7 := { stood := { row := fnSequencesUptoRow, standIns := [], harness := (true, "608d3d8607d0cc6079e363b95a8ee7c81c6287d40931d27b0273e56f9d608b8c"), looks := true }, kinds := [], alts := [], laidByText := true, laidKinds := [.data, .data], laidTests := true, laidLooks := .later }
def FnSequencesUptoCardSaid : Prop := Claim7.holds Tryd.pinned (.plain (OpenSpec.upto fnSequencesSpec)) fnSequencesUptoCard

/-- THE SECOND FORM's CARD OF 'laws.FnSequencesCount'. -/
def fnSequencesCountUptoCard : Claim7 := { stood := { row := fnSequencesCountUptoRow, standIns := [], harness := (true, "608d3d8607d0cc6079e363b95a8ee7c81c6287d40931d27b0273e56f9d608b8c"), looks := true }, kinds := [], alts := [], laidByText := true, laidKinds := [.data, .data], laidTests := true, laidLooks := .later }
def FnSequencesCountUptoCardSaid : Prop := Claim7.holds Tryd.pinned (.plain (OpenSpec.upto fnSequencesCountSpec)) fnSequencesCountUptoCard

/-- THE SECOND FORM's CARD OF 'laws.FnSequencesRising'. -/
def fnSequencesRisingUptoCard : Claim7 := { stood := { row := fnSequencesRisingUptoRow, standIns := [], harness := (true, "608d3d8607d0cc6079e363b95a8ee7c81c6287d40931d27b0273e56f9d608b8c"), looks := true }, kinds := [], alts := [], laidByText := true, laidKinds := [.data, .data], laidTests := true, laidLooks := .later }
def FnSequencesRisingUptoCardSaid : Prop := Claim7.holds Tryd.pinned (.plain (OpenSpec.upto fnSequencesRisingSpec)) fnSequencesRisingUptoCard

/-- THE SECOND FORM's CARD OF 'laws.FnStatesData'. -/
def fnStatesDataUptoCard : Claim7 := { stood := { row := fnStatesDataUptoRow, standIns := [], harness := (true, "608d3d8607d0cc6079e363b95a8ee7c81c6287d40931d27b0273e56f9d608b8c"), looks := true }, kinds := [], alts := [], laidByText := true, laidKinds := [.sentinel, .data], laidTests := true, laidLooks := .later }
def FnStatesDataUptoCardSaid : Prop := Claim7.holds Tryd.pinned (.plain (OpenSpec.upto fnStatesDataSpec)) fnStatesDataUptoCard

/-- THE SECOND FORM's CARD OF 'laws.FnLetters'. -/
def fnLettersUptoCard : Claim7 := { stood := { row := fnLettersUptoRow, standIns := [], harness := (true, "608d3d8607d0cc6079e363b95a8ee7c81c6287d40931d27b0273e56f9d608b8c"), looks := true }, kinds := [], alts := [], laidByText := true, laidKinds := [.data, .pinned], laidTests := true, laidLooks := .later }
def FnLettersUptoCardSaid : Prop := Claim7.holds Tryd.pinned (.plain (OpenSpec.upto fnLettersSpec)) fnLettersUptoCard
end Rows
end Go.Proofs.YtanimdajohpggaaDoor
