/-
  DERIVED. GIVEN WITH THE SEED: THE PROGRAM's TIES (one call each: nine closed facts by the kernel) AND EACH ROW's TIE, after the 31st guide's Derived/Test/Toyas{Tie, Card}.lean. No idea stands in it: it is a product of the set-up. Laid BY PROGRAM, IN A SANDBOX (cutbox-door.mjs). By AI agents, Wed Nov 11 2026. No macro, syntax, notation, axiom, sorry.
-/
import Derived.Test.YtljcdjggjphedaaDoorRows
import Derived.LaidByTextLater
import Derived.SevenTiedAt
import Derived.LaidSub
import Derived.LaidOnce
namespace Go.Proofs.YtljcdjggjphedaaDoor
open Go
set_option maxRecDepth 100000
theorem seatTie1 : Tryd.prog.laidByTextLater [("pub-marram/pub/afero/inner/os.ErrExist", Rows.laid_pub_marram_pub_afero_inner_os_ErrExist), ("pub-marram/pub/afero/inner/os.ErrNotExist", Rows.laid_pub_marram_pub_afero_inner_os_ErrNotExist), ("pub-marram/pub/afero/inner/os.ENOENT", Rows.laid_pub_marram_pub_afero_inner_os_ENOENT), ("pub-marram/pub/afero/inner/os.ENOTDIR", Rows.laid_pub_marram_pub_afero_inner_os_ENOTDIR), ("pub-marram/pub/afero/inner/os.EPERM", Rows.laid_pub_marram_pub_afero_inner_os_EPERM), ("pub-marram/pub/afero/inner/os.EIO", Rows.laid_pub_marram_pub_afero_inner_os_EIO), ("pub-marram/pub/afero/inner/os.EBADFD", Rows.laid_pub_marram_pub_afero_inner_os_EBADFD), ("io.EOF", Rows.laid_io_EOF), ("io.ErrUnexpectedEOF", Rows.laid_io_ErrUnexpectedEOF), ("pub-marram/pub/afero/mem.ErrFileClosed", Rows.laid_pub_marram_pub_afero_mem_ErrFileClosed), ("pub-marram/pub/afero/mem.ErrOutOfRange", Rows.laid_pub_marram_pub_afero_mem_ErrOutOfRange)] [.sentinel, .sentinel, .sentinel, .sentinel, .sentinel, .sentinel, .sentinel, .sentinel, .sentinel, .sentinel, .sentinel] true :=
  Program.laidByTextLater_by_one 218 8 2 (by kernel_rfl) (by kernel_rfl) (by kernel_rfl) (by kernel_rfl) (by kernel_rfl) (by kernel_rfl) (fun _ _ => by kernel_rfl)
theorem noOwnUnsafe : Tryd.pinned.checked.prog.headLifts.contains "ownunsafe" = false := by kernel_rfl
theorem tie : Tryd.prog.laidByTextLater [("pub-marram/pub/afero/inner/os.ErrExist", Rows.laid_pub_marram_pub_afero_inner_os_ErrExist), ("pub-marram/pub/afero/inner/os.ErrNotExist", Rows.laid_pub_marram_pub_afero_inner_os_ErrNotExist), ("pub-marram/pub/afero/inner/os.ENOENT", Rows.laid_pub_marram_pub_afero_inner_os_ENOENT), ("pub-marram/pub/afero/inner/os.ENOTDIR", Rows.laid_pub_marram_pub_afero_inner_os_ENOTDIR), ("pub-marram/pub/afero/inner/os.EPERM", Rows.laid_pub_marram_pub_afero_inner_os_EPERM), ("pub-marram/pub/afero/inner/os.EIO", Rows.laid_pub_marram_pub_afero_inner_os_EIO), ("pub-marram/pub/afero/inner/os.EBADFD", Rows.laid_pub_marram_pub_afero_inner_os_EBADFD), ("io.EOF", Rows.laid_io_EOF), ("io.ErrUnexpectedEOF", Rows.laid_io_ErrUnexpectedEOF), ("pub-marram/pub/afero/mem.ErrFileClosed", Rows.laid_pub_marram_pub_afero_mem_ErrFileClosed), ("pub-marram/pub/afero/mem.ErrOutOfRange", Rows.laid_pub_marram_pub_afero_mem_ErrOutOfRange)] [.sentinel, .sentinel, .sentinel, .sentinel, .sentinel, .sentinel, .sentinel, .sentinel, .sentinel, .sentinel, .sentinel] true :=
  Program.laidByTextLater.sub seatTie1 ["pub-marram/pub/afero/inner/os.ErrExist", "pub-marram/pub/afero/inner/os.ErrNotExist", "pub-marram/pub/afero/inner/os.ENOENT", "pub-marram/pub/afero/inner/os.ENOTDIR", "pub-marram/pub/afero/inner/os.EPERM", "pub-marram/pub/afero/inner/os.EIO", "pub-marram/pub/afero/inner/os.EBADFD", "io.EOF", "io.ErrUnexpectedEOF", "pub-marram/pub/afero/mem.ErrFileClosed", "pub-marram/pub/afero/mem.ErrOutOfRange"] (by kernel_rfl) (by kernel_rfl)
theorem fnClosedHandle_row_tie : Rows.fnClosedHandleRow.laidByTextAt .later Tryd.pinned [.sentinel, .sentinel, .sentinel, .sentinel, .sentinel, .sentinel, .sentinel, .sentinel, .sentinel, .sentinel, .sentinel] true :=
  OpenClaim.laidByTextAt_later rfl rfl tie noOwnUnsafe
theorem fnHandleScript_row_tie : Rows.fnHandleScriptRow.laidByTextAt .later Tryd.pinned [.sentinel, .sentinel, .sentinel, .sentinel, .sentinel, .sentinel, .sentinel, .sentinel, .sentinel, .sentinel, .sentinel] true :=
  OpenClaim.laidByTextAt_later rfl rfl tie noOwnUnsafe
theorem fnHandleSplit_row_tie : Rows.fnHandleSplitRow.laidByTextAt .later Tryd.pinned [.sentinel, .sentinel, .sentinel, .sentinel, .sentinel, .sentinel, .sentinel, .sentinel, .sentinel, .sentinel, .sentinel] true :=
  OpenClaim.laidByTextAt_later rfl rfl tie noOwnUnsafe
theorem fnPlacesAreMoved_row_tie : Rows.fnPlacesAreMovedRow.laidByTextAt .later Tryd.pinned [.sentinel, .sentinel, .sentinel, .sentinel, .sentinel, .sentinel, .sentinel, .sentinel, .sentinel, .sentinel, .sentinel] true :=
  OpenClaim.laidByTextAt_later rfl rfl tie noOwnUnsafe
theorem fnReadAtIsSlicing_row_tie : Rows.fnReadAtIsSlicingRow.laidByTextAt .later Tryd.pinned [.sentinel, .sentinel, .sentinel, .sentinel, .sentinel, .sentinel, .sentinel, .sentinel, .sentinel, .sentinel, .sentinel] true :=
  OpenClaim.laidByTextAt_later rfl rfl tie noOwnUnsafe
theorem fnTruncateTwice_row_tie : Rows.fnTruncateTwiceRow.laidByTextAt .later Tryd.pinned [.sentinel, .sentinel, .sentinel, .sentinel, .sentinel, .sentinel, .sentinel, .sentinel, .sentinel, .sentinel, .sentinel] true :=
  OpenClaim.laidByTextAt_later rfl rfl tie noOwnUnsafe
theorem fnWriteAtIsSeekAndWrite_row_tie : Rows.fnWriteAtIsSeekAndWriteRow.laidByTextAt .later Tryd.pinned [.sentinel, .sentinel, .sentinel, .sentinel, .sentinel, .sentinel, .sentinel, .sentinel, .sentinel, .sentinel, .sentinel] true :=
  OpenClaim.laidByTextAt_later rfl rfl tie noOwnUnsafe
theorem fnUnionPrefix_row_tie : Rows.fnUnionPrefixRow.laidByTextAt .later Tryd.pinned [.sentinel, .sentinel, .sentinel, .sentinel, .sentinel, .sentinel, .sentinel, .sentinel, .sentinel, .sentinel, .sentinel] true :=
  OpenClaim.laidByTextAt_later rfl rfl tie noOwnUnsafe
theorem fnUnionWritesBase_row_tie : Rows.fnUnionWritesBaseRow.laidByTextAt .later Tryd.pinned [.sentinel, .sentinel, .sentinel, .sentinel, .sentinel, .sentinel, .sentinel, .sentinel, .sentinel, .sentinel, .sentinel] true :=
  OpenClaim.laidByTextAt_later rfl rfl tie noOwnUnsafe
theorem fnClosedHandleUpto_row_tie : Rows.fnClosedHandleUptoRow.laidByTextAt .later Tryd.pinned [.sentinel, .sentinel, .sentinel, .sentinel, .sentinel, .sentinel, .sentinel, .sentinel, .sentinel, .sentinel, .sentinel] true :=
  OpenClaim.laidByTextAt_later rfl rfl tie noOwnUnsafe
theorem fnHandleScriptUpto_row_tie : Rows.fnHandleScriptUptoRow.laidByTextAt .later Tryd.pinned [.sentinel, .sentinel, .sentinel, .sentinel, .sentinel, .sentinel, .sentinel, .sentinel, .sentinel, .sentinel, .sentinel] true :=
  OpenClaim.laidByTextAt_later rfl rfl tie noOwnUnsafe
theorem fnHandleSplitUpto_row_tie : Rows.fnHandleSplitUptoRow.laidByTextAt .later Tryd.pinned [.sentinel, .sentinel, .sentinel, .sentinel, .sentinel, .sentinel, .sentinel, .sentinel, .sentinel, .sentinel, .sentinel] true :=
  OpenClaim.laidByTextAt_later rfl rfl tie noOwnUnsafe
theorem fnPlacesAreMovedUpto_row_tie : Rows.fnPlacesAreMovedUptoRow.laidByTextAt .later Tryd.pinned [.sentinel, .sentinel, .sentinel, .sentinel, .sentinel, .sentinel, .sentinel, .sentinel, .sentinel, .sentinel, .sentinel] true :=
  OpenClaim.laidByTextAt_later rfl rfl tie noOwnUnsafe
theorem fnReadAtIsSlicingUpto_row_tie : Rows.fnReadAtIsSlicingUptoRow.laidByTextAt .later Tryd.pinned [.sentinel, .sentinel, .sentinel, .sentinel, .sentinel, .sentinel, .sentinel, .sentinel, .sentinel, .sentinel, .sentinel] true :=
  OpenClaim.laidByTextAt_later rfl rfl tie noOwnUnsafe
theorem fnTruncateTwiceUpto_row_tie : Rows.fnTruncateTwiceUptoRow.laidByTextAt .later Tryd.pinned [.sentinel, .sentinel, .sentinel, .sentinel, .sentinel, .sentinel, .sentinel, .sentinel, .sentinel, .sentinel, .sentinel] true :=
  OpenClaim.laidByTextAt_later rfl rfl tie noOwnUnsafe
theorem fnWriteAtIsSeekAndWriteUpto_row_tie : Rows.fnWriteAtIsSeekAndWriteUptoRow.laidByTextAt .later Tryd.pinned [.sentinel, .sentinel, .sentinel, .sentinel, .sentinel, .sentinel, .sentinel, .sentinel, .sentinel, .sentinel, .sentinel] true :=
  OpenClaim.laidByTextAt_later rfl rfl tie noOwnUnsafe
theorem fnUnionPrefixUpto_row_tie : Rows.fnUnionPrefixUptoRow.laidByTextAt .later Tryd.pinned [.sentinel, .sentinel, .sentinel, .sentinel, .sentinel, .sentinel, .sentinel, .sentinel, .sentinel, .sentinel, .sentinel] true :=
  OpenClaim.laidByTextAt_later rfl rfl tie noOwnUnsafe
theorem fnUnionWritesBaseUpto_row_tie : Rows.fnUnionWritesBaseUptoRow.laidByTextAt .later Tryd.pinned [.sentinel, .sentinel, .sentinel, .sentinel, .sentinel, .sentinel, .sentinel, .sentinel, .sentinel, .sentinel, .sentinel] true :=
  OpenClaim.laidByTextAt_later rfl rfl tie noOwnUnsafe
end Go.Proofs.YtljcdjggjphedaaDoor
