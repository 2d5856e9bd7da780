/-
  DERIVED. GIVEN WITH THE SEED: THE PROGRAM's TIES (one call each: nine closed facts by the kernel) AND EACH ROW's TIE, after the 31st guide's Derived/Test/Toyas{Tie, Card}.lean. No idea stands in it: it is a product of the set-up. Laid BY PROGRAM, IN A SANDBOX (cutbox-door.mjs). By AI agents, Wed Nov 11 2026. No macro, syntax, notation, axiom, sorry.
-/
import Derived.Test.YtanimdajohpggaaDoorRows
import Derived.LaidByTextLater
import Derived.SevenTiedAt
import Derived.LaidSub
import Derived.LaidOnce
namespace Go.Proofs.YtanimdajohpggaaDoor
open Go
set_option maxRecDepth 100000
theorem seatTie1 : Tryd.prog.laidByTextLater [("unicode/utf8.acceptRanges", Rows.laid_unicode_utf8_acceptRanges), ("pub-traverser/pub/vellum/utf8.nilRange", Rows.laid_pub_traverser_pub_vellum_utf8_nilRange), ("pub-traverser/pub/vellum/utf8.nilScalarRange", Rows.laid_pub_traverser_pub_vellum_utf8_nilScalarRange), ("io.ErrShortWrite", Rows.laid_io_ErrShortWrite), ("pub-traverser/pub/vellum.commonInputs", Rows.laid_pub_traverser_pub_vellum_commonInputs)] [.data, .data, .data, .sentinel, .data] true :=
  Program.laidByTextLater_by_one 72 8 257 (by kernel_rfl) (by kernel_rfl) (by kernel_rfl) (by kernel_rfl) (by kernel_rfl) (by kernel_rfl) (fun _ _ => by kernel_rfl)
theorem pin_laid_unicode_utf8_first : Tryd.pinned.checked.prog.pinnedFits "unicode/utf8.first" = true := by kernel_rfl
theorem noOwnUnsafe : Tryd.pinned.checked.prog.headLifts.contains "ownunsafe" = false := by kernel_rfl
theorem tie : Tryd.prog.laidByTextLater [("io.ErrShortWrite", Rows.laid_io_ErrShortWrite)] [.sentinel] true :=
  Program.laidByTextLater.sub seatTie1 ["io.ErrShortWrite"] (by kernel_rfl) (by kernel_rfl)
theorem fnPack_row_tie : Rows.fnPackRow.laidByTextAt .later Tryd.pinned [.sentinel] true :=
  OpenClaim.laidByTextAt_later rfl rfl tie noOwnUnsafe
theorem fnPackOwn_row_tie : Rows.fnPackOwnRow.laidByTextAt .later Tryd.pinned [.sentinel] true :=
  OpenClaim.laidByTextAt_later rfl rfl tie noOwnUnsafe
theorem tie2 : Tryd.prog.laidByTextLater [("pub-traverser/pub/vellum/utf8.nilRange", Rows.laid_pub_traverser_pub_vellum_utf8_nilRange), ("pub-traverser/pub/vellum/utf8.nilScalarRange", Rows.laid_pub_traverser_pub_vellum_utf8_nilScalarRange)] [.data, .data] true :=
  Program.laidByTextLater.sub seatTie1 ["pub-traverser/pub/vellum/utf8.nilRange", "pub-traverser/pub/vellum/utf8.nilScalarRange"] (by kernel_rfl) (by kernel_rfl)
theorem fnSequences_row_tie : Rows.fnSequencesRow.laidByTextAt .later Tryd.pinned [.data, .data] true :=
  OpenClaim.laidByTextAt_later rfl rfl tie2 noOwnUnsafe
theorem fnSequencesCount_row_tie : Rows.fnSequencesCountRow.laidByTextAt .later Tryd.pinned [.data, .data] true :=
  OpenClaim.laidByTextAt_later rfl rfl tie2 noOwnUnsafe
theorem fnSequencesRising_row_tie : Rows.fnSequencesRisingRow.laidByTextAt .later Tryd.pinned [.data, .data] true :=
  OpenClaim.laidByTextAt_later rfl rfl tie2 noOwnUnsafe
theorem tie3 : Tryd.prog.laidByTextLater [("io.ErrShortWrite", Rows.laid_io_ErrShortWrite), ("pub-traverser/pub/vellum.commonInputs", Rows.laid_pub_traverser_pub_vellum_commonInputs)] [.sentinel, .data] true :=
  Program.laidByTextLater.sub seatTie1 ["io.ErrShortWrite", "pub-traverser/pub/vellum.commonInputs"] (by kernel_rfl) (by kernel_rfl)
theorem fnStatesData_row_tie : Rows.fnStatesDataRow.laidByTextAt .later Tryd.pinned [.sentinel, .data] true :=
  OpenClaim.laidByTextAt_later rfl rfl tie3 noOwnUnsafe
theorem fits4 : Tryd.pinned.checked.prog.listedFits [("unicode/utf8.acceptRanges", Rows.laid_unicode_utf8_acceptRanges), ("unicode/utf8.first", Rows.laid_unicode_utf8_first)] = true := by
  unfold Program.listedFits
  rw [noOwnUnsafe]
  kernel_rfl
theorem tie4 : Tryd.prog.laidByTextLater [("unicode/utf8.acceptRanges", Rows.laid_unicode_utf8_acceptRanges)] [.data] true :=
  Program.laidByTextLater.sub seatTie1 ["unicode/utf8.acceptRanges"] (by kernel_rfl) (by kernel_rfl)
theorem fnLetters_row_tie : Rows.fnLettersRow.laidByTextAt .later Tryd.pinned [.data, .pinned] true :=
  OpenClaim.laidByTextAt_pinned rfl rfl tie4 rfl rfl rfl rfl (fun y hy _e => by
    simp only [Rows.fnLettersRow, List.zip_cons_cons, List.zip_nil_right, List.mem_cons, List.mem_nil_iff, or_false] at hy
    rcases hy with rfl | rfl
    · cases _e
    · exact ⟨pin_laid_unicode_utf8_first, by kernel_rfl⟩) fits4
theorem fnPackUpto_row_tie : Rows.fnPackUptoRow.laidByTextAt .later Tryd.pinned [.sentinel] true :=
  OpenClaim.laidByTextAt_later rfl rfl tie noOwnUnsafe
theorem fnPackOwnUpto_row_tie : Rows.fnPackOwnUptoRow.laidByTextAt .later Tryd.pinned [.sentinel] true :=
  OpenClaim.laidByTextAt_later rfl rfl tie noOwnUnsafe
theorem fnSequencesUpto_row_tie : Rows.fnSequencesUptoRow.laidByTextAt .later Tryd.pinned [.data, .data] true :=
  OpenClaim.laidByTextAt_later rfl rfl tie2 noOwnUnsafe
theorem fnSequencesCountUpto_row_tie : Rows.fnSequencesCountUptoRow.laidByTextAt .later Tryd.pinned [.data, .data] true :=
  OpenClaim.laidByTextAt_later rfl rfl tie2 noOwnUnsafe
theorem fnSequencesRisingUpto_row_tie : Rows.fnSequencesRisingUptoRow.laidByTextAt .later Tryd.pinned [.data, .data] true :=
  OpenClaim.laidByTextAt_later rfl rfl tie2 noOwnUnsafe
theorem fnStatesDataUpto_row_tie : Rows.fnStatesDataUptoRow.laidByTextAt .later Tryd.pinned [.sentinel, .data] true :=
  OpenClaim.laidByTextAt_later rfl rfl tie3 noOwnUnsafe
theorem fnLettersUpto_row_tie : Rows.fnLettersUptoRow.laidByTextAt .later Tryd.pinned [.data, .pinned] true :=
  OpenClaim.laidByTextAt_pinned rfl rfl tie4 rfl rfl rfl rfl (fun y hy _e => by
    simp only [Rows.fnLettersUptoRow, List.zip_cons_cons, List.zip_nil_right, List.mem_cons, List.mem_nil_iff, or_false] at hy
    rcases hy with rfl | rfl
    · cases _e
    · exact ⟨pin_laid_unicode_utf8_first, by kernel_rfl⟩) fits4
end Go.Proofs.YtanimdajohpggaaDoor
