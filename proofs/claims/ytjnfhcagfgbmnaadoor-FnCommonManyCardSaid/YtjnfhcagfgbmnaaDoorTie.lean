/-
  DERIVED. GIVEN WITH THE SEED: THE PROGRAM's TIES (one call each: nine closed facts by the kernel) AND EACH ROW's TIE, after the 31st guide's Derived/Test/Toyas{Tie, Card}.lean. No idea stands in it: it is a product of the set-up. Laid BY PROGRAM, IN A SANDBOX (cutbox-door.mjs). By AI agents, Wed Nov 11 2026. No macro, syntax, notation, axiom, sorry.
-/
import Derived.Test.YtjnfhcagfgbmnaaDoorRows
import Derived.LaidByTextLater
import Derived.SevenTiedAt
import Derived.LaidSub
import Derived.LaidOnce
namespace Go.Proofs.YtjnfhcagfgbmnaaDoor
open Go
set_option maxRecDepth 100000
theorem seatTie1 : Tryd.prog.laidByTextLater [("pub-traverser/pub/vellum.commonInputs", Rows.laid_pub_traverser_pub_vellum_commonInputs), ("pub-traverser/pub/vellum.commonInputsInv", Rows.laid_pub_traverser_pub_vellum_commonInputsInv)] [.data, .data] true :=
  Program.laidByTextLater_by_one 39 8 257 (by kernel_rfl) (by kernel_rfl) (by kernel_rfl) (by kernel_rfl) (by kernel_rfl) (by kernel_rfl) (fun _ _ => by kernel_rfl)
theorem seatTie2 : Tryd.prog.laidByTextLater [("unicode/utf8.acceptRanges", Rows.laid_unicode_utf8_acceptRanges), ("pub-traverser/pub/vellum/utf8.nilRange", Rows.laid_pub_traverser_pub_vellum_utf8_nilRange), ("pub-traverser/pub/vellum/utf8.nilScalarRange", Rows.laid_pub_traverser_pub_vellum_utf8_nilScalarRange)] [.data, .data, .data] true :=
  Program.laidByTextLater_by_one 39 8 257 (by kernel_rfl) (by kernel_rfl) (by kernel_rfl) (by kernel_rfl) (by kernel_rfl) (by kernel_rfl) (fun _ _ => by kernel_rfl)
theorem pin_laid_unicode_utf8_first : Tryd.pinned.checked.prog.pinnedFits "unicode/utf8.first" = true := by kernel_rfl
theorem noOwnUnsafe : Tryd.pinned.checked.prog.headLifts.contains "ownunsafe" = false := by kernel_rfl
theorem tie : Tryd.prog.laidByTextLater [("pub-traverser/pub/vellum.commonInputs", Rows.laid_pub_traverser_pub_vellum_commonInputs), ("pub-traverser/pub/vellum.commonInputsInv", Rows.laid_pub_traverser_pub_vellum_commonInputsInv)] [.data, .data] true :=
  Program.laidByTextLater.sub seatTie1 ["pub-traverser/pub/vellum.commonInputs", "pub-traverser/pub/vellum.commonInputsInv"] (by kernel_rfl) (by kernel_rfl)
theorem fnCommonMany_row_tie : Rows.fnCommonManyRow.laidByTextAt .later Tryd.pinned [.data, .data] true :=
  OpenClaim.laidByTextAt_later rfl rfl tie noOwnUnsafe
theorem tie2 : Tryd.prog.laidByTextLater [("pub-traverser/pub/vellum/utf8.nilRange", Rows.laid_pub_traverser_pub_vellum_utf8_nilRange)] [.data] true :=
  Program.laidByTextLater.sub seatTie2 ["pub-traverser/pub/vellum/utf8.nilRange"] (by kernel_rfl) (by kernel_rfl)
theorem fnScalarASCII_row_tie : Rows.fnScalarASCIIRow.laidByTextAt .later Tryd.pinned [.data] true :=
  OpenClaim.laidByTextAt_later rfl rfl tie2 noOwnUnsafe
theorem tie3 : Tryd.prog.laidByTextLater [("pub-traverser/pub/vellum/utf8.nilScalarRange", Rows.laid_pub_traverser_pub_vellum_utf8_nilScalarRange)] [.data] true :=
  Program.laidByTextLater.sub seatTie2 ["pub-traverser/pub/vellum/utf8.nilScalarRange"] (by kernel_rfl) (by kernel_rfl)
theorem fnScalarSplit_row_tie : Rows.fnScalarSplitRow.laidByTextAt .later Tryd.pinned [.data] true :=
  OpenClaim.laidByTextAt_later rfl rfl tie3 noOwnUnsafe
theorem fits4 : Tryd.pinned.checked.prog.listedFits [("unicode/utf8.acceptRanges", Rows.laid_unicode_utf8_acceptRanges), ("unicode/utf8.first", Rows.laid_unicode_utf8_first)] = true := by
  unfold Program.listedFits
  rw [noOwnUnsafe]
  kernel_rfl
theorem tie4 : Tryd.prog.laidByTextLater [("unicode/utf8.acceptRanges", Rows.laid_unicode_utf8_acceptRanges)] [.data] true :=
  Program.laidByTextLater.sub seatTie2 ["unicode/utf8.acceptRanges"] (by kernel_rfl) (by kernel_rfl)
theorem fnDedupe_row_tie : Rows.fnDedupeRow.laidByTextAt .later Tryd.pinned [.data, .pinned] true :=
  OpenClaim.laidByTextAt_pinned rfl rfl tie4 rfl rfl rfl rfl (fun y hy _e => by
    simp only [Rows.fnDedupeRow, List.zip_cons_cons, List.zip_nil_right, List.mem_cons, List.mem_nil_iff, or_false] at hy
    rcases hy with rfl | rfl
    · cases _e
    · exact ⟨pin_laid_unicode_utf8_first, by kernel_rfl⟩) fits4
theorem fnCommonManyUpto_row_tie : Rows.fnCommonManyUptoRow.laidByTextAt .later Tryd.pinned [.data, .data] true :=
  OpenClaim.laidByTextAt_later rfl rfl tie noOwnUnsafe
theorem fnScalarASCIIUpto_row_tie : Rows.fnScalarASCIIUptoRow.laidByTextAt .later Tryd.pinned [.data] true :=
  OpenClaim.laidByTextAt_later rfl rfl tie2 noOwnUnsafe
theorem fnScalarSplitUpto_row_tie : Rows.fnScalarSplitUptoRow.laidByTextAt .later Tryd.pinned [.data] true :=
  OpenClaim.laidByTextAt_later rfl rfl tie3 noOwnUnsafe
theorem fnDedupeUpto_row_tie : Rows.fnDedupeUptoRow.laidByTextAt .later Tryd.pinned [.data, .pinned] true :=
  OpenClaim.laidByTextAt_pinned rfl rfl tie4 rfl rfl rfl rfl (fun y hy _e => by
    simp only [Rows.fnDedupeUptoRow, List.zip_cons_cons, List.zip_nil_right, List.mem_cons, List.mem_nil_iff, or_false] at hy
    rcases hy with rfl | rfl
    · cases _e
    · exact ⟨pin_laid_unicode_utf8_first, by kernel_rfl⟩) fits4
end Go.Proofs.YtjnfhcagfgbmnaaDoor
