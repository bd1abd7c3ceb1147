/-
  DERIVED. GIVEN WITH THE SEED: THE PROGRAM's TIES (one call each: nine closed facts by the kernel) AND EACH ROW's TIE, after the 31st guide's Derived/Test/Toyas{Tie, Card}.lean. No idea stands in it: it is a product of the set-up. Laid BY PROGRAM, IN A SANDBOX (cutbox-door.mjs). By AI agents, Wed Nov 11 2026. No macro, syntax, notation, axiom, sorry.
-/
import Derived.Test.YthfncdfcklbigaaDoorRows
import Derived.LaidByTextLater
import Derived.SevenTiedAt
import Derived.LaidSub
import Derived.LaidOnce
namespace Go.Proofs.YthfncdfcklbigaaDoor
open Go
set_option maxRecDepth 100000
theorem seatTie1 : Tryd.prog.laidByTextLater [("io.ErrShortBuffer", Rows.laid_io_ErrShortBuffer), ("io.EOF", Rows.laid_io_EOF), ("io.ErrUnexpectedEOF", Rows.laid_io_ErrUnexpectedEOF), ("crowbar/pub/inflate.codeOrder", Rows.laid_crowbar_pub_inflate_codeOrder), ("crowbar/pub/zlibread.ErrChecksum", Rows.laid_crowbar_pub_zlibread_ErrChecksum), ("crowbar/pub/zlibread.ErrDictionary", Rows.laid_crowbar_pub_zlibread_ErrDictionary), ("crowbar/pub/zlibread.ErrHeader", Rows.laid_crowbar_pub_zlibread_ErrHeader)] [.sentinel, .sentinel, .sentinel, .data, .sentinel, .sentinel, .sentinel] true :=
  Program.laidByTextLater_by_one 166 8 20 (by kernel_rfl) (by kernel_rfl) (by kernel_rfl) (by kernel_rfl) (by kernel_rfl) (by kernel_rfl) (fun _ _ => by kernel_rfl)
theorem noOwnUnsafe : Tryd.pinned.checked.prog.headLifts.contains "ownunsafe" = false := by kernel_rfl
theorem tie : Tryd.prog.laidByTextLater [("io.ErrShortBuffer", Rows.laid_io_ErrShortBuffer), ("io.EOF", Rows.laid_io_EOF), ("io.ErrUnexpectedEOF", Rows.laid_io_ErrUnexpectedEOF), ("crowbar/pub/inflate.codeOrder", Rows.laid_crowbar_pub_inflate_codeOrder), ("crowbar/pub/zlibread.ErrChecksum", Rows.laid_crowbar_pub_zlibread_ErrChecksum), ("crowbar/pub/zlibread.ErrDictionary", Rows.laid_crowbar_pub_zlibread_ErrDictionary), ("crowbar/pub/zlibread.ErrHeader", Rows.laid_crowbar_pub_zlibread_ErrHeader)] [.sentinel, .sentinel, .sentinel, .data, .sentinel, .sentinel, .sentinel] true :=
  Program.laidByTextLater.sub seatTie1 ["io.ErrShortBuffer", "io.EOF", "io.ErrUnexpectedEOF", "crowbar/pub/inflate.codeOrder", "crowbar/pub/zlibread.ErrChecksum", "crowbar/pub/zlibread.ErrDictionary", "crowbar/pub/zlibread.ErrHeader"] (by kernel_rfl) (by kernel_rfl)
theorem fnAhead_row_tie : Rows.fnAheadRow.laidByTextAt .later Tryd.pinned [.sentinel, .sentinel, .sentinel, .data, .sentinel, .sentinel, .sentinel] true :=
  OpenClaim.laidByTextAt_later rfl rfl tie noOwnUnsafe
theorem fnBlocks_row_tie : Rows.fnBlocksRow.laidByTextAt .later Tryd.pinned [.sentinel, .sentinel, .sentinel, .data, .sentinel, .sentinel, .sentinel] true :=
  OpenClaim.laidByTextAt_later rfl rfl tie noOwnUnsafe
theorem fnCut_row_tie : Rows.fnCutRow.laidByTextAt .later Tryd.pinned [.sentinel, .sentinel, .sentinel, .data, .sentinel, .sentinel, .sentinel] true :=
  OpenClaim.laidByTextAt_later rfl rfl tie noOwnUnsafe
theorem fnDictionary_row_tie : Rows.fnDictionaryRow.laidByTextAt .later Tryd.pinned [.sentinel, .sentinel, .sentinel, .data, .sentinel, .sentinel, .sentinel] true :=
  OpenClaim.laidByTextAt_later rfl rfl tie noOwnUnsafe
theorem fnWrapped_row_tie : Rows.fnWrappedRow.laidByTextAt .later Tryd.pinned [.sentinel, .sentinel, .sentinel, .data, .sentinel, .sentinel, .sentinel] true :=
  OpenClaim.laidByTextAt_later rfl rfl tie noOwnUnsafe
theorem fnFaults_row_tie : Rows.fnFaultsRow.laidByTextAt .later Tryd.pinned [.sentinel, .sentinel, .sentinel, .data, .sentinel, .sentinel, .sentinel] true :=
  OpenClaim.laidByTextAt_later rfl rfl tie noOwnUnsafe
theorem fnFixedBlock_row_tie : Rows.fnFixedBlockRow.laidByTextAt .later Tryd.pinned [.sentinel, .sentinel, .sentinel, .data, .sentinel, .sentinel, .sentinel] true :=
  OpenClaim.laidByTextAt_later rfl rfl tie noOwnUnsafe
theorem fnInflate_row_tie : Rows.fnInflateRow.laidByTextAt .later Tryd.pinned [.sentinel, .sentinel, .sentinel, .data, .sentinel, .sentinel, .sentinel] true :=
  OpenClaim.laidByTextAt_later rfl rfl tie noOwnUnsafe
theorem fnInflateSizes_row_tie : Rows.fnInflateSizesRow.laidByTextAt .later Tryd.pinned [.sentinel, .sentinel, .sentinel, .data, .sentinel, .sentinel, .sentinel] true :=
  OpenClaim.laidByTextAt_later rfl rfl tie noOwnUnsafe
theorem fnJoined_row_tie : Rows.fnJoinedRow.laidByTextAt .later Tryd.pinned [.sentinel, .sentinel, .sentinel, .data, .sentinel, .sentinel, .sentinel] true :=
  OpenClaim.laidByTextAt_later rfl rfl tie noOwnUnsafe
theorem fnReserved_row_tie : Rows.fnReservedRow.laidByTextAt .later Tryd.pinned [.sentinel, .sentinel, .sentinel, .data, .sentinel, .sentinel, .sentinel] true :=
  OpenClaim.laidByTextAt_later rfl rfl tie noOwnUnsafe
theorem fnStored_row_tie : Rows.fnStoredRow.laidByTextAt .later Tryd.pinned [.sentinel, .sentinel, .sentinel, .data, .sentinel, .sentinel, .sentinel] true :=
  OpenClaim.laidByTextAt_later rfl rfl tie noOwnUnsafe
theorem fnStoredLength_row_tie : Rows.fnStoredLengthRow.laidByTextAt .later Tryd.pinned [.sentinel, .sentinel, .sentinel, .data, .sentinel, .sentinel, .sentinel] true :=
  OpenClaim.laidByTextAt_later rfl rfl tie noOwnUnsafe
theorem fnInflateAgain_row_tie : Rows.fnInflateAgainRow.laidByTextAt .later Tryd.pinned [.sentinel, .sentinel, .sentinel, .data, .sentinel, .sentinel, .sentinel] true :=
  OpenClaim.laidByTextAt_later rfl rfl tie noOwnUnsafe
theorem fnAheadUpto_row_tie : Rows.fnAheadUptoRow.laidByTextAt .later Tryd.pinned [.sentinel, .sentinel, .sentinel, .data, .sentinel, .sentinel, .sentinel] true :=
  OpenClaim.laidByTextAt_later rfl rfl tie noOwnUnsafe
theorem fnBlocksUpto_row_tie : Rows.fnBlocksUptoRow.laidByTextAt .later Tryd.pinned [.sentinel, .sentinel, .sentinel, .data, .sentinel, .sentinel, .sentinel] true :=
  OpenClaim.laidByTextAt_later rfl rfl tie noOwnUnsafe
theorem fnCutUpto_row_tie : Rows.fnCutUptoRow.laidByTextAt .later Tryd.pinned [.sentinel, .sentinel, .sentinel, .data, .sentinel, .sentinel, .sentinel] true :=
  OpenClaim.laidByTextAt_later rfl rfl tie noOwnUnsafe
theorem fnDictionaryUpto_row_tie : Rows.fnDictionaryUptoRow.laidByTextAt .later Tryd.pinned [.sentinel, .sentinel, .sentinel, .data, .sentinel, .sentinel, .sentinel] true :=
  OpenClaim.laidByTextAt_later rfl rfl tie noOwnUnsafe
theorem fnWrappedUpto_row_tie : Rows.fnWrappedUptoRow.laidByTextAt .later Tryd.pinned [.sentinel, .sentinel, .sentinel, .data, .sentinel, .sentinel, .sentinel] true :=
  OpenClaim.laidByTextAt_later rfl rfl tie noOwnUnsafe
theorem fnFaultsUpto_row_tie : Rows.fnFaultsUptoRow.laidByTextAt .later Tryd.pinned [.sentinel, .sentinel, .sentinel, .data, .sentinel, .sentinel, .sentinel] true :=
  OpenClaim.laidByTextAt_later rfl rfl tie noOwnUnsafe
theorem fnFixedBlockUpto_row_tie : Rows.fnFixedBlockUptoRow.laidByTextAt .later Tryd.pinned [.sentinel, .sentinel, .sentinel, .data, .sentinel, .sentinel, .sentinel] true :=
  OpenClaim.laidByTextAt_later rfl rfl tie noOwnUnsafe
theorem fnInflateUpto_row_tie : Rows.fnInflateUptoRow.laidByTextAt .later Tryd.pinned [.sentinel, .sentinel, .sentinel, .data, .sentinel, .sentinel, .sentinel] true :=
  OpenClaim.laidByTextAt_later rfl rfl tie noOwnUnsafe
theorem fnInflateSizesUpto_row_tie : Rows.fnInflateSizesUptoRow.laidByTextAt .later Tryd.pinned [.sentinel, .sentinel, .sentinel, .data, .sentinel, .sentinel, .sentinel] true :=
  OpenClaim.laidByTextAt_later rfl rfl tie noOwnUnsafe
theorem fnJoinedUpto_row_tie : Rows.fnJoinedUptoRow.laidByTextAt .later Tryd.pinned [.sentinel, .sentinel, .sentinel, .data, .sentinel, .sentinel, .sentinel] true :=
  OpenClaim.laidByTextAt_later rfl rfl tie noOwnUnsafe
theorem fnReservedUpto_row_tie : Rows.fnReservedUptoRow.laidByTextAt .later Tryd.pinned [.sentinel, .sentinel, .sentinel, .data, .sentinel, .sentinel, .sentinel] true :=
  OpenClaim.laidByTextAt_later rfl rfl tie noOwnUnsafe
theorem fnStoredUpto_row_tie : Rows.fnStoredUptoRow.laidByTextAt .later Tryd.pinned [.sentinel, .sentinel, .sentinel, .data, .sentinel, .sentinel, .sentinel] true :=
  OpenClaim.laidByTextAt_later rfl rfl tie noOwnUnsafe
theorem fnStoredLengthUpto_row_tie : Rows.fnStoredLengthUptoRow.laidByTextAt .later Tryd.pinned [.sentinel, .sentinel, .sentinel, .data, .sentinel, .sentinel, .sentinel] true :=
  OpenClaim.laidByTextAt_later rfl rfl tie noOwnUnsafe
theorem fnInflateAgainUpto_row_tie : Rows.fnInflateAgainUptoRow.laidByTextAt .later Tryd.pinned [.sentinel, .sentinel, .sentinel, .data, .sentinel, .sentinel, .sentinel] true :=
  OpenClaim.laidByTextAt_later rfl rfl tie noOwnUnsafe
end Go.Proofs.YthfncdfcklbigaaDoor
