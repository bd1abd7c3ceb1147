/-
  DERIVED. GIVEN WITH THE SEED: THE PROGRAM's TIES (one call each: nine closed facts by the kernel) AND EACH ROW's TIE, after the 31st guide's Derived/Test/Toyas{Tie, Card}.lean. No idea stands in it: it is a product of the set-up. Laid BY PROGRAM, IN A SANDBOX (cutbox-door.mjs). By AI agents, Wed Nov 11 2026. No macro, syntax, notation, axiom, sorry.
-/
import Derived.Test.YthfncdfcklbigaaGreatDoorRows
import Derived.LaidByTextLater
import Derived.SevenTiedAt
import Derived.LaidSub
import Derived.LaidOnce
namespace Go.Proofs.YthfncdfcklbigaaGreatDoor
open Go
set_option maxRecDepth 100000
theorem seatTie1 : Tryz.prog.laidByTextLater [("io.ErrShortBuffer", Rows.laid_io_ErrShortBuffer), ("io.EOF", Rows.laid_io_EOF), ("io.ErrUnexpectedEOF", Rows.laid_io_ErrUnexpectedEOF), ("crowbar/pub/inflate.codeOrder", Rows.laid_crowbar_pub_inflate_codeOrder), ("crowbar/pub/zlibread.ErrChecksum", Rows.laid_crowbar_pub_zlibread_ErrChecksum), ("crowbar/pub/zlibread.ErrDictionary", Rows.laid_crowbar_pub_zlibread_ErrDictionary), ("crowbar/pub/zlibread.ErrHeader", Rows.laid_crowbar_pub_zlibread_ErrHeader)] [.sentinel, .sentinel, .sentinel, .data, .sentinel, .sentinel, .sentinel] true :=
  Program.laidByTextLater_by_one 166 8 20 (by kernel_rfl) (by kernel_rfl) (by kernel_rfl) (by kernel_rfl) (by kernel_rfl) (by kernel_rfl) (fun _ _ => by kernel_rfl)
theorem noOwnUnsafe : Tryz.pinned.checked.prog.headLifts.contains "ownunsafe" = false := by kernel_rfl
theorem tie : Tryz.prog.laidByTextLater [("io.ErrShortBuffer", Rows.laid_io_ErrShortBuffer), ("io.EOF", Rows.laid_io_EOF), ("io.ErrUnexpectedEOF", Rows.laid_io_ErrUnexpectedEOF), ("crowbar/pub/inflate.codeOrder", Rows.laid_crowbar_pub_inflate_codeOrder), ("crowbar/pub/zlibread.ErrChecksum", Rows.laid_crowbar_pub_zlibread_ErrChecksum), ("crowbar/pub/zlibread.ErrDictionary", Rows.laid_crowbar_pub_zlibread_ErrDictionary), ("crowbar/pub/zlibread.ErrHeader", Rows.laid_crowbar_pub_zlibread_ErrHeader)] [.sentinel, .sentinel, .sentinel, .data, .sentinel, .sentinel, .sentinel] true :=
  Program.laidByTextLater.sub seatTie1 ["io.ErrShortBuffer", "io.EOF", "io.ErrUnexpectedEOF", "crowbar/pub/inflate.codeOrder", "crowbar/pub/zlibread.ErrChecksum", "crowbar/pub/zlibread.ErrDictionary", "crowbar/pub/zlibread.ErrHeader"] (by kernel_rfl) (by kernel_rfl)
theorem fnUnzlib_row_tie : Rows.fnUnzlibRow.laidByTextAt .later Tryz.pinned [.sentinel, .sentinel, .sentinel, .data, .sentinel, .sentinel, .sentinel] true :=
  OpenClaim.laidByTextAt_later rfl rfl tie noOwnUnsafe
theorem fnReaderAgain_row_tie : Rows.fnReaderAgainRow.laidByTextAt .later Tryz.pinned [.sentinel, .sentinel, .sentinel, .data, .sentinel, .sentinel, .sentinel] true :=
  OpenClaim.laidByTextAt_later rfl rfl tie noOwnUnsafe
theorem fnChecksum_row_tie : Rows.fnChecksumRow.laidByTextAt .later Tryz.pinned [.sentinel, .sentinel, .sentinel, .data, .sentinel, .sentinel, .sentinel] true :=
  OpenClaim.laidByTextAt_later rfl rfl tie noOwnUnsafe
theorem fnHeader_row_tie : Rows.fnHeaderRow.laidByTextAt .later Tryz.pinned [.sentinel, .sentinel, .sentinel, .data, .sentinel, .sentinel, .sentinel] true :=
  OpenClaim.laidByTextAt_later rfl rfl tie noOwnUnsafe
theorem fnIgnored_row_tie : Rows.fnIgnoredRow.laidByTextAt .later Tryz.pinned [.sentinel, .sentinel, .sentinel, .data, .sentinel, .sentinel, .sentinel] true :=
  OpenClaim.laidByTextAt_later rfl rfl tie noOwnUnsafe
theorem fnOtherDictionary_row_tie : Rows.fnOtherDictionaryRow.laidByTextAt .later Tryz.pinned [.sentinel, .sentinel, .sentinel, .data, .sentinel, .sentinel, .sentinel] true :=
  OpenClaim.laidByTextAt_later rfl rfl tie noOwnUnsafe
theorem fnRead_row_tie : Rows.fnReadRow.laidByTextAt .later Tryz.pinned [.sentinel, .sentinel, .sentinel, .data, .sentinel, .sentinel, .sentinel] true :=
  OpenClaim.laidByTextAt_later rfl rfl tie noOwnUnsafe
theorem fnRest_row_tie : Rows.fnRestRow.laidByTextAt .later Tryz.pinned [.sentinel, .sentinel, .sentinel, .data, .sentinel, .sentinel, .sentinel] true :=
  OpenClaim.laidByTextAt_later rfl rfl tie noOwnUnsafe
theorem fnSizes_row_tie : Rows.fnSizesRow.laidByTextAt .later Tryz.pinned [.sentinel, .sentinel, .sentinel, .data, .sentinel, .sentinel, .sentinel] true :=
  OpenClaim.laidByTextAt_later rfl rfl tie noOwnUnsafe
theorem fnStreamCut_row_tie : Rows.fnStreamCutRow.laidByTextAt .later Tryz.pinned [.sentinel, .sentinel, .sentinel, .data, .sentinel, .sentinel, .sentinel] true :=
  OpenClaim.laidByTextAt_later rfl rfl tie noOwnUnsafe
theorem fnUnzlibUpto_row_tie : Rows.fnUnzlibUptoRow.laidByTextAt .later Tryz.pinned [.sentinel, .sentinel, .sentinel, .data, .sentinel, .sentinel, .sentinel] true :=
  OpenClaim.laidByTextAt_later rfl rfl tie noOwnUnsafe
theorem fnReaderAgainUpto_row_tie : Rows.fnReaderAgainUptoRow.laidByTextAt .later Tryz.pinned [.sentinel, .sentinel, .sentinel, .data, .sentinel, .sentinel, .sentinel] true :=
  OpenClaim.laidByTextAt_later rfl rfl tie noOwnUnsafe
theorem fnChecksumUpto_row_tie : Rows.fnChecksumUptoRow.laidByTextAt .later Tryz.pinned [.sentinel, .sentinel, .sentinel, .data, .sentinel, .sentinel, .sentinel] true :=
  OpenClaim.laidByTextAt_later rfl rfl tie noOwnUnsafe
theorem fnHeaderUpto_row_tie : Rows.fnHeaderUptoRow.laidByTextAt .later Tryz.pinned [.sentinel, .sentinel, .sentinel, .data, .sentinel, .sentinel, .sentinel] true :=
  OpenClaim.laidByTextAt_later rfl rfl tie noOwnUnsafe
theorem fnIgnoredUpto_row_tie : Rows.fnIgnoredUptoRow.laidByTextAt .later Tryz.pinned [.sentinel, .sentinel, .sentinel, .data, .sentinel, .sentinel, .sentinel] true :=
  OpenClaim.laidByTextAt_later rfl rfl tie noOwnUnsafe
theorem fnOtherDictionaryUpto_row_tie : Rows.fnOtherDictionaryUptoRow.laidByTextAt .later Tryz.pinned [.sentinel, .sentinel, .sentinel, .data, .sentinel, .sentinel, .sentinel] true :=
  OpenClaim.laidByTextAt_later rfl rfl tie noOwnUnsafe
theorem fnReadUpto_row_tie : Rows.fnReadUptoRow.laidByTextAt .later Tryz.pinned [.sentinel, .sentinel, .sentinel, .data, .sentinel, .sentinel, .sentinel] true :=
  OpenClaim.laidByTextAt_later rfl rfl tie noOwnUnsafe
theorem fnRestUpto_row_tie : Rows.fnRestUptoRow.laidByTextAt .later Tryz.pinned [.sentinel, .sentinel, .sentinel, .data, .sentinel, .sentinel, .sentinel] true :=
  OpenClaim.laidByTextAt_later rfl rfl tie noOwnUnsafe
theorem fnSizesUpto_row_tie : Rows.fnSizesUptoRow.laidByTextAt .later Tryz.pinned [.sentinel, .sentinel, .sentinel, .data, .sentinel, .sentinel, .sentinel] true :=
  OpenClaim.laidByTextAt_later rfl rfl tie noOwnUnsafe
theorem fnStreamCutUpto_row_tie : Rows.fnStreamCutUptoRow.laidByTextAt .later Tryz.pinned [.sentinel, .sentinel, .sentinel, .data, .sentinel, .sentinel, .sentinel] true :=
  OpenClaim.laidByTextAt_later rfl rfl tie noOwnUnsafe
end Go.Proofs.YthfncdfcklbigaaGreatDoor
