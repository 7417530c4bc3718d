/-
  DERIVED. GIVEN WITH THE SEED: THE PROGRAM's TIES (one call each: nine closed facts by the kernel) AND EACH ROW's TIE, after the 31st guide's Derived/Test/Toyas{Tie, Card}.lean. No idea stands in it: it is a product of the set-up. Laid BY PROGRAM, IN A SANDBOX (cutbox-door.mjs). By AI agents, Wed Nov 11 2026. No macro, syntax, notation, axiom, sorry.
-/
import Derived.Test.YthhbcnjbnfjiiaaDoorRows
import Derived.LaidByTextLater
import Derived.SevenTiedAt
import Derived.LaidSub
import Derived.LaidOnce
namespace Go.Proofs.YthhbcnjbnfjiiaaDoor
open Go
set_option maxRecDepth 100000
theorem seatTie1 : Tryd.prog.laidByTextLater [("errors.errorType", Rows.laid_errors_errorType)] [.handle] true :=
  Program.laidByTextLater_by_one 35 8 2 (by kernel_rfl) (by kernel_rfl) (by kernel_rfl) (by kernel_rfl) (by kernel_rfl) (by kernel_rfl) (fun _ _ => by kernel_rfl)
theorem noOwnUnsafe : Tryd.pinned.checked.prog.headLifts.contains "ownunsafe" = false := by kernel_rfl
theorem tie : Tryd.prog.laidByTextLater [("errors.errorType", Rows.laid_errors_errorType)] [.handle] true :=
  Program.laidByTextLater.sub seatTie1 ["errors.errorType"] (by kernel_rfl) (by kernel_rfl)
theorem fnSpaces_row_tie : Rows.fnSpacesRow.laidByTextAt .later Tryd.pinned [.handle] true :=
  OpenClaim.laidByTextAt_later rfl rfl tie noOwnUnsafe
theorem fnTail_row_tie : Rows.fnTailRow.laidByTextAt .later Tryd.pinned [.handle] true :=
  OpenClaim.laidByTextAt_later rfl rfl tie noOwnUnsafe
theorem fnCorruptBoth_row_tie : Rows.fnCorruptBothRow.laidByTextAt .later Tryd.pinned [.handle] true :=
  OpenClaim.laidByTextAt_later rfl rfl tie noOwnUnsafe
theorem fnDecodeParts_row_tie : Rows.fnDecodePartsRow.laidByTextAt .later Tryd.pinned [.handle] true :=
  OpenClaim.laidByTextAt_later rfl rfl tie noOwnUnsafe
theorem fnCorrupt_row_tie : Rows.fnCorruptRow.laidByTextAt .later Tryd.pinned [.handle] true :=
  OpenClaim.laidByTextAt_later rfl rfl tie noOwnUnsafe
theorem fnCorruptPlace_row_tie : Rows.fnCorruptPlaceRow.laidByTextAt .later Tryd.pinned [.handle] true :=
  OpenClaim.laidByTextAt_later rfl rfl tie noOwnUnsafe
theorem fnDecode_row_tie : Rows.fnDecodeRow.laidByTextAt .later Tryd.pinned [.handle] true :=
  OpenClaim.laidByTextAt_later rfl rfl tie noOwnUnsafe
theorem fnDecodeMore_row_tie : Rows.fnDecodeMoreRow.laidByTextAt .later Tryd.pinned [.handle] true :=
  OpenClaim.laidByTextAt_later rfl rfl tie noOwnUnsafe
theorem fnTwoDecoders_row_tie : Rows.fnTwoDecodersRow.laidByTextAt .later Tryd.pinned [.handle] true :=
  OpenClaim.laidByTextAt_later rfl rfl tie noOwnUnsafe
theorem fnEncodeDecode_row_tie : Rows.fnEncodeDecodeRow.laidByTextAt .later Tryd.pinned [.handle] true :=
  OpenClaim.laidByTextAt_later rfl rfl tie noOwnUnsafe
theorem fnSpacesUpto_row_tie : Rows.fnSpacesUptoRow.laidByTextAt .later Tryd.pinned [.handle] true :=
  OpenClaim.laidByTextAt_later rfl rfl tie noOwnUnsafe
theorem fnTailUpto_row_tie : Rows.fnTailUptoRow.laidByTextAt .later Tryd.pinned [.handle] true :=
  OpenClaim.laidByTextAt_later rfl rfl tie noOwnUnsafe
theorem fnCorruptBothUpto_row_tie : Rows.fnCorruptBothUptoRow.laidByTextAt .later Tryd.pinned [.handle] true :=
  OpenClaim.laidByTextAt_later rfl rfl tie noOwnUnsafe
theorem fnDecodePartsUpto_row_tie : Rows.fnDecodePartsUptoRow.laidByTextAt .later Tryd.pinned [.handle] true :=
  OpenClaim.laidByTextAt_later rfl rfl tie noOwnUnsafe
theorem fnCorruptUpto_row_tie : Rows.fnCorruptUptoRow.laidByTextAt .later Tryd.pinned [.handle] true :=
  OpenClaim.laidByTextAt_later rfl rfl tie noOwnUnsafe
theorem fnCorruptPlaceUpto_row_tie : Rows.fnCorruptPlaceUptoRow.laidByTextAt .later Tryd.pinned [.handle] true :=
  OpenClaim.laidByTextAt_later rfl rfl tie noOwnUnsafe
theorem fnDecodeUpto_row_tie : Rows.fnDecodeUptoRow.laidByTextAt .later Tryd.pinned [.handle] true :=
  OpenClaim.laidByTextAt_later rfl rfl tie noOwnUnsafe
theorem fnDecodeMoreUpto_row_tie : Rows.fnDecodeMoreUptoRow.laidByTextAt .later Tryd.pinned [.handle] true :=
  OpenClaim.laidByTextAt_later rfl rfl tie noOwnUnsafe
theorem fnTwoDecodersUpto_row_tie : Rows.fnTwoDecodersUptoRow.laidByTextAt .later Tryd.pinned [.handle] true :=
  OpenClaim.laidByTextAt_later rfl rfl tie noOwnUnsafe
theorem fnEncodeDecodeUpto_row_tie : Rows.fnEncodeDecodeUptoRow.laidByTextAt .later Tryd.pinned [.handle] true :=
  OpenClaim.laidByTextAt_later rfl rfl tie noOwnUnsafe
end Go.Proofs.YthhbcnjbnfjiiaaDoor
