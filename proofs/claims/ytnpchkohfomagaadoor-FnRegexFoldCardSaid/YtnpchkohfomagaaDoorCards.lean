/-
  DERIVED. GIVEN WITH THE SEED: THE CARDS: each row of YtnpchkohfomagaaDoorRows.lean that lists a variable, with what it lists TIED to the program's text (the seventh form; the later family's looks); each row that meets fmt, with fmt's text TOLD by the authors' own Lean function (tested against real Go, not proved from fmt's source: count such statements apart). THE CARD IS WHAT COUNTS. Prove the row's statement (the work); the ties are given (YtnpchkohfomagaaDoorTie.lean); close each card by the builder's one call (the guide's Derived/Test/ToyasCard.lean, 'card_holds'). Laid BY PROGRAM, IN A SANDBOX (cutbox-door.mjs). By AI agents, Wed Nov 11 2026. No macro, syntax, notation, axiom, sorry.
-/
import Derived.Test.YtnpchkohfomagaaDoorRows
import GoSem.ClaimSeven
namespace Go.Proofs.YtnpchkohfomagaaDoor
namespace Rows

/-- THE TIED CARD OF 'laws.FnProgram'. -/
def fnProgramCard : Claim7 := { stood := { row := fnProgramRow, standIns := [], harness := (true, "cc6793a337a58bcf344dd54d7193ca15f8617ab637e78fd8be240d77c3a7b90d"), looks := true }, kinds := [], alts := [], laidByText := true, laidKinds := [.data, .data, .data, .data, .sentinel, .sentinel, .sentinel, .sentinel, .sentinel, .pinned], laidTests := true, laidLooks := .later }
def FnProgramCardSaid : Prop := Claim7.holds Tryd.pinned (.plain (OpenSpec.ofChange fnProgramSpec)) fnProgramCard

/-- THE TIED CARD OF 'laws.FnRegexMatches'. -/
def fnRegexMatchesCard : Claim7 := { stood := { row := fnRegexMatchesRow, standIns := [], harness := (true, "cc6793a337a58bcf344dd54d7193ca15f8617ab637e78fd8be240d77c3a7b90d"), looks := true }, kinds := [], alts := [], laidByText := true, laidKinds := [.data, .data, .data, .data, .sentinel, .sentinel, .sentinel, .sentinel, .sentinel, .pinned], laidTests := true, laidLooks := .later }
def FnRegexMatchesCardSaid : Prop := Claim7.holds Tryd.pinned (.plain (OpenSpec.ofChange fnRegexMatchesSpec)) fnRegexMatchesCard

/-- THE TIED CARD OF 'laws.FnRegexEither'. -/
def fnRegexEitherCard : Claim7 := { stood := { row := fnRegexEitherRow, standIns := [], harness := (true, "cc6793a337a58bcf344dd54d7193ca15f8617ab637e78fd8be240d77c3a7b90d"), looks := true }, kinds := [], alts := [], laidByText := true, laidKinds := [.data, .data, .data, .data, .sentinel, .sentinel, .sentinel, .sentinel, .sentinel, .pinned], laidTests := true, laidLooks := .later }
def FnRegexEitherCardSaid : Prop := Claim7.holds Tryd.pinned (.plain (OpenSpec.ofChange fnRegexEitherSpec)) fnRegexEitherCard

/-- THE TIED CARD OF 'laws.FnRegexFold'. -/
def fnRegexFoldCard : Claim7 := { stood := { row := fnRegexFoldRow, standIns := [], harness := (true, "cc6793a337a58bcf344dd54d7193ca15f8617ab637e78fd8be240d77c3a7b90d"), looks := true }, kinds := [], alts := [], laidByText := true, laidKinds := [.data, .data, .data, .data, .sentinel, .sentinel, .sentinel, .sentinel, .sentinel, .pinned], laidTests := true, laidLooks := .later }
def FnRegexFoldCardSaid : Prop := Claim7.holds Tryd.pinned (.plain (OpenSpec.ofChange fnRegexFoldSpec)) fnRegexFoldCard

/-- THE TIED CARD OF 'laws.FnRegexRefused'. -/
def fnRegexRefusedCard : Claim7 := { stood := { row := fnRegexRefusedRow, standIns := [], harness := (true, "cc6793a337a58bcf344dd54d7193ca15f8617ab637e78fd8be240d77c3a7b90d"), looks := true }, kinds := [], alts := [], laidByText := true, laidKinds := [.data, .data, .data, .data, .sentinel, .sentinel, .sentinel, .sentinel, .sentinel, .pinned], laidTests := true, laidLooks := .later }
def FnRegexRefusedCardSaid : Prop := Claim7.holds Tryd.pinned (.plain (OpenSpec.ofChange fnRegexRefusedSpec)) fnRegexRefusedCard

/-- THE TIED CARD OF 'laws.FnRegexTimes'. -/
def fnRegexTimesCard : Claim7 := { stood := { row := fnRegexTimesRow, standIns := [], harness := (true, "cc6793a337a58bcf344dd54d7193ca15f8617ab637e78fd8be240d77c3a7b90d"), looks := true }, kinds := [], alts := [], laidByText := true, laidKinds := [.data, .data, .data, .data, .sentinel, .sentinel, .sentinel, .sentinel, .sentinel, .pinned], laidTests := true, laidLooks := .later }
def FnRegexTimesCardSaid : Prop := Claim7.holds Tryd.pinned (.plain (OpenSpec.ofChange fnRegexTimesSpec)) fnRegexTimesCard

/-- THE SECOND FORM's CARD OF 'laws.FnProgram'. -/
def fnProgramUptoCard : Claim7 := { stood := { row := fnProgramUptoRow, standIns := [], harness := (true, "cc6793a337a58bcf344dd54d7193ca15f8617ab637e78fd8be240d77c3a7b90d"), looks := true }, kinds := [], alts := [], laidByText := true, laidKinds := [.data, .data, .data, .data, .sentinel, .sentinel, .sentinel, .sentinel, .sentinel, .pinned], laidTests := true, laidLooks := .later }
def FnProgramUptoCardSaid : Prop := Claim7.holds Tryd.pinned (.plain (OpenSpec.upto fnProgramSpec)) fnProgramUptoCard

/-- THE SECOND FORM's CARD OF 'laws.FnRegexMatches'. -/
def fnRegexMatchesUptoCard : Claim7 := { stood := { row := fnRegexMatchesUptoRow, standIns := [], harness := (true, "cc6793a337a58bcf344dd54d7193ca15f8617ab637e78fd8be240d77c3a7b90d"), looks := true }, kinds := [], alts := [], laidByText := true, laidKinds := [.data, .data, .data, .data, .sentinel, .sentinel, .sentinel, .sentinel, .sentinel, .pinned], laidTests := true, laidLooks := .later }
def FnRegexMatchesUptoCardSaid : Prop := Claim7.holds Tryd.pinned (.plain (OpenSpec.upto fnRegexMatchesSpec)) fnRegexMatchesUptoCard

/-- THE SECOND FORM's CARD OF 'laws.FnRegexEither'. -/
def fnRegexEitherUptoCard : Claim7 := { stood := { row := fnRegexEitherUptoRow, standIns := [], harness := (true, "cc6793a337a58bcf344dd54d7193ca15f8617ab637e78fd8be240d77c3a7b90d"), looks := true }, kinds := [], alts := [], laidByText := true, laidKinds := [.data, .data, .data, .data, .sentinel, .sentinel, .sentinel, .sentinel, .sentinel, .pinned], laidTests := true, laidLooks := .later }
def FnRegexEitherUptoCardSaid : Prop := Claim7.holds Tryd.pinned (.plain (OpenSpec.upto fnRegexEitherSpec)) fnRegexEitherUptoCard

/-- THE SECOND FORM's CARD OF 'laws.FnRegexFold'. -/
def fnRegexFoldUptoCard : Claim7 := { stood := { row := fnRegexFoldUptoRow, standIns := [], harness := (true, "cc6793a337a58bcf344dd54d7193ca15f8617ab637e78fd8be240d77c3a7b90d"), looks := true }, kinds := [], alts := [], laidByText := true, laidKinds := [.data, .data, .data, .data, .sentinel, .sentinel, .sentinel, .sentinel, .sentinel, .pinned], laidTests := true, laidLooks := .later }
def FnRegexFoldUptoCardSaid : Prop := Claim7.holds Tryd.pinned (.plain (OpenSpec.upto fnRegexFoldSpec)) fnRegexFoldUptoCard

/-- THE SECOND FORM's CARD OF 'laws.FnRegexRefused'. -/
def fnRegexRefusedUptoCard : Claim7 := { stood := { row := fnRegexRefusedUptoRow, standIns := [], harness := (true, "cc6793a337a58bcf344dd54d7193ca15f8617ab637e78fd8be240d77c3a7b90d"), looks := true }, kinds := [], alts := [], laidByText := true, laidKinds := [.data, .data, .data, .data, .sentinel, .sentinel, .sentinel, .sentinel, .sentinel, .pinned], laidTests := true, laidLooks := .later }
def FnRegexRefusedUptoCardSaid : Prop := Claim7.holds Tryd.pinned (.plain (OpenSpec.upto fnRegexRefusedSpec)) fnRegexRefusedUptoCard

/-- THE SECOND FORM's CARD OF 'laws.FnRegexTimes'. -/
def fnRegexTimesUptoCard : Claim7 := { stood := { row := fnRegexTimesUptoRow, standIns := [], harness := (true, "cc6793a337a58bcf344dd54d7193ca15f8617ab637e78fd8be240d77c3a7b90d"), looks := true }, kinds := [], alts := [], laidByText := true, laidKinds := [.data, .data, .data, .data, .sentinel, .sentinel, .sentinel, .sentinel, .sentinel, .pinned], laidTests := true, laidLooks := .later }
def FnRegexTimesUptoCardSaid : Prop := Claim7.holds Tryd.pinned (.plain (OpenSpec.upto fnRegexTimesSpec)) fnRegexTimesUptoCard
end Rows
end Go.Proofs.YtnpchkohfomagaaDoor
