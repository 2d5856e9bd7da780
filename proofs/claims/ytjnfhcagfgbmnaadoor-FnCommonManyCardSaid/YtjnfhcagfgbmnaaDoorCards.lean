/-
  DERIVED. GIVEN WITH THE SEED: THE CARDS: each row of YtjnfhcagfgbmnaaDoorRows.lean that lists a variable, with what it lists TIED to the program's text (the seventh form; the later family's looks); each row that meets fmt, with fmt's text TOLD by the authors' own Lean function (tested against real Go, not proved from fmt's source: count such statements apart). THE CARD IS WHAT COUNTS. Prove the row's statement (the work); the ties are given (YtjnfhcagfgbmnaaDoorTie.lean); close each card by the builder's one call (the guide's Derived/Test/ToyasCard.lean, 'card_holds'). Laid BY PROGRAM, IN A SANDBOX (cutbox-door.mjs). By AI agents, Wed Nov 11 2026. No macro, syntax, notation, axiom, sorry.
-/
import Derived.Test.YtjnfhcagfgbmnaaDoorRows
import GoSem.ClaimSeven
namespace Go.Proofs.YtjnfhcagfgbmnaaDoor
namespace Rows

/-- THE TIED CARD OF 'laws.FnCommonMany'. -/
def fnCommonManyCard : Claim7 := { stood := { row := fnCommonManyRow, standIns := [], harness := (true, "027cd080e24ad9ee86f06af1d6b7046da3ab758a74cf47240c029870ba9ab795"), looks := false }, kinds := [], alts := [], laidByText := true, laidKinds := [.data, .data], laidTests := true, laidLooks := .later }
def FnCommonManyCardSaid : Prop := Claim7.holds Tryd.pinned (.plain (OpenSpec.ofChange fnCommonManySpec)) fnCommonManyCard

/-- THE TIED CARD OF 'laws.FnScalarASCII'. -/
def fnScalarASCIICard : Claim7 := { stood := { row := fnScalarASCIIRow, standIns := [], harness := (true, "027cd080e24ad9ee86f06af1d6b7046da3ab758a74cf47240c029870ba9ab795"), looks := false }, kinds := [], alts := [], laidByText := true, laidKinds := [.data], laidTests := true, laidLooks := .later }
def FnScalarASCIICardSaid : Prop := Claim7.holds Tryd.pinned (.plain (OpenSpec.ofChange fnScalarASCIISpec)) fnScalarASCIICard

/-- THE TIED CARD OF 'laws.FnScalarSplit'. -/
def fnScalarSplitCard : Claim7 := { stood := { row := fnScalarSplitRow, standIns := [], harness := (true, "027cd080e24ad9ee86f06af1d6b7046da3ab758a74cf47240c029870ba9ab795"), looks := false }, kinds := [], alts := [], laidByText := true, laidKinds := [.data], laidTests := true, laidLooks := .later }
def FnScalarSplitCardSaid : Prop := Claim7.holds Tryd.pinned (.plain (OpenSpec.ofChange fnScalarSplitSpec)) fnScalarSplitCard

/-- THE TIED CARD OF 'laws.FnDedupe'. -/
def fnDedupeCard : Claim7 := { stood := { row := fnDedupeRow, standIns := [], harness := (true, "027cd080e24ad9ee86f06af1d6b7046da3ab758a74cf47240c029870ba9ab795"), looks := false }, kinds := [], alts := [], laidByText := true, laidKinds := [.data, .pinned], laidTests := true, laidLooks := .later }
def FnDedupeCardSaid : Prop := Claim7.holds Tryd.pinned (.plain (OpenSpec.ofChange fnDedupeSpec)) fnDedupeCard

/-- THE SECOND FORM's CARD OF 'laws.FnCommonMany'. -/
def fnCommonManyUptoCard : Claim7 := { stood := { row := fnCommonManyUptoRow, standIns := [], harness := (true, "027cd080e24ad9ee86f06af1d6b7046da3ab758a74cf47240c029870ba9ab795"), looks := false }, kinds := [], alts := [], laidByText := true, laidKinds := [.data, .data], laidTests := true, laidLooks := .later }
def FnCommonManyUptoCardSaid : Prop := Claim7.holds Tryd.pinned (.plain (OpenSpec.upto fnCommonManySpec)) fnCommonManyUptoCard

/-- THE SECOND FORM's CARD OF 'laws.FnScalarASCII'. -/
def fnScalarASCIIUptoCard : Claim7 := { stood := { row := fnScalarASCIIUptoRow, standIns := [], harness := (true, "027cd080e24ad9ee86f06af1d6b7046da3ab758a74cf47240c029870ba9ab795"), looks := false }, kinds := [], alts := [], laidByText := true, laidKinds := [.data], laidTests := true, laidLooks := .later }
def FnScalarASCIIUptoCardSaid : Prop := Claim7.holds Tryd.pinned (.plain (OpenSpec.upto fnScalarASCIISpec)) fnScalarASCIIUptoCard

/-- THE SECOND FORM's CARD OF 'laws.FnScalarSplit'. -/
def fnScalarSplitUptoCard : Claim7 := { stood := { row := fnScalarSplitUptoRow, standIns := [], harness := (true, "027cd080e24ad9ee86f06af1d6b7046da3ab758a74cf47240c029870ba9ab795"), looks := false }, kinds := [], alts := [], laidByText := true, laidKinds := [.data], laidTests := true, laidLooks := .later }
def FnScalarSplitUptoCardSaid : Prop := Claim7.holds Tryd.pinned (.plain (OpenSpec.upto fnScalarSplitSpec)) fnScalarSplitUptoCard

/-- THE SECOND FORM's CARD OF 'laws.FnDedupe'. -/
def fnDedupeUptoCard : Claim7 := { stood := { row := fnDedupeUptoRow, standIns := [], harness := (true, "027cd080e24ad9ee86f06af1d6b7046da3ab758a74cf47240c029870ba9ab795"), looks := false }, kinds := [], alts := [], laidByText := true, laidKinds := [.data, .pinned], laidTests := true, laidLooks := .later }
def FnDedupeUptoCardSaid : Prop := Claim7.holds Tryd.pinned (.plain (OpenSpec.upto fnDedupeSpec)) fnDedupeUptoCard
end Rows
end Go.Proofs.YtjnfhcagfgbmnaaDoor
