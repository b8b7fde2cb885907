/-
  DERIVED. GIVEN WITH THE SEED: THE PROGRAM's TIES (one call each: nine closed facts by the kernel) AND EACH ROW's TIE, after the 31st guide's Derived/Test/Toyas{Tie, Card}.lean. No idea stands in it: it is a product of the set-up. Laid BY PROGRAM, IN A SANDBOX (cutbox-door.mjs). By AI agents, Wed Nov 11 2026. No macro, syntax, notation, axiom, sorry.
-/
import Derived.Test.YtckjbgneblfceaaDoorRows
import Derived.LaidByTextLater
import Derived.SevenTiedAt
import Derived.LaidSub
import Derived.LaidOnce
namespace Go.Proofs.YtckjbgneblfceaaDoor
open Go
set_option maxRecDepth 100000
theorem seatTie1 : Tryd.prog.laidByTextLater [("pub-marram/pub/hcsshim/ext4/dmverity.ErrSuperBlockReadFailure", Rows.laid_pub_marram_pub_hcsshim_ext4_dmverity_ErrSuperBlockReadFailure), ("pub-marram/pub/hcsshim/ext4/dmverity.ErrSuperBlockParseFailure", Rows.laid_pub_marram_pub_hcsshim_ext4_dmverity_ErrSuperBlockParseFailure), ("pub-marram/pub/hcsshim/ext4/dmverity.ErrRootHashReadFailure", Rows.laid_pub_marram_pub_hcsshim_ext4_dmverity_ErrRootHashReadFailure), ("pub-marram/pub/hcsshim/ext4/dmverity.ErrNotVeritySuperBlock", Rows.laid_pub_marram_pub_hcsshim_ext4_dmverity_ErrNotVeritySuperBlock), ("io.EOF", Rows.laid_io_EOF), ("io.ErrUnexpectedEOF", Rows.laid_io_ErrUnexpectedEOF), ("pub-marram/pub/afero/mem.ErrFileClosed", Rows.laid_pub_marram_pub_afero_mem_ErrFileClosed), ("pub-marram/pub/hcsshim/ext4/inner/compactext4.xattrPrefixes", Rows.laid_pub_marram_pub_hcsshim_ext4_inner_compactext4_xattrPrefixes)] [.sentinel, .sentinel, .sentinel, .sentinel, .sentinel, .sentinel, .sentinel, .data] true :=
  Program.laidByTextLater_by_one 154 8 15 (by kernel_rfl) (by kernel_rfl) (by kernel_rfl) (by kernel_rfl) (by kernel_rfl) (by kernel_rfl) (fun _ _ => by kernel_rfl)
theorem noOwnUnsafe : Tryd.pinned.checked.prog.headLifts.contains "ownunsafe" = false := by kernel_rfl
theorem tie : Tryd.prog.laidByTextLater [("pub-marram/pub/hcsshim/ext4/inner/compactext4.xattrPrefixes", Rows.laid_pub_marram_pub_hcsshim_ext4_inner_compactext4_xattrPrefixes)] [.data] true :=
  Program.laidByTextLater.sub seatTie1 ["pub-marram/pub/hcsshim/ext4/inner/compactext4.xattrPrefixes"] (by kernel_rfl) (by kernel_rfl)
theorem fnFitFirst_row_tie : Rows.fnFitFirstRow.laidByTextAt .later Tryd.pinned [.data] true :=
  OpenClaim.laidByTextAt_later rfl rfl tie noOwnUnsafe
theorem fnAttributesPut_row_tie : Rows.fnAttributesPutRow.laidByTextAt .later Tryd.pinned [.data] true :=
  OpenClaim.laidByTextAt_later rfl rfl tie noOwnUnsafe
theorem tie2 : Tryd.prog.laidByTextLater [("pub-marram/pub/hcsshim/ext4/dmverity.ErrSuperBlockReadFailure", Rows.laid_pub_marram_pub_hcsshim_ext4_dmverity_ErrSuperBlockReadFailure), ("pub-marram/pub/hcsshim/ext4/dmverity.ErrSuperBlockParseFailure", Rows.laid_pub_marram_pub_hcsshim_ext4_dmverity_ErrSuperBlockParseFailure), ("pub-marram/pub/hcsshim/ext4/dmverity.ErrRootHashReadFailure", Rows.laid_pub_marram_pub_hcsshim_ext4_dmverity_ErrRootHashReadFailure), ("pub-marram/pub/hcsshim/ext4/dmverity.ErrNotVeritySuperBlock", Rows.laid_pub_marram_pub_hcsshim_ext4_dmverity_ErrNotVeritySuperBlock)] [.sentinel, .sentinel, .sentinel, .sentinel] true :=
  Program.laidByTextLater.sub seatTie1 ["pub-marram/pub/hcsshim/ext4/dmverity.ErrSuperBlockReadFailure", "pub-marram/pub/hcsshim/ext4/dmverity.ErrSuperBlockParseFailure", "pub-marram/pub/hcsshim/ext4/dmverity.ErrRootHashReadFailure", "pub-marram/pub/hcsshim/ext4/dmverity.ErrNotVeritySuperBlock"] (by kernel_rfl) (by kernel_rfl)
theorem fnVerityRead_row_tie : Rows.fnVerityReadRow.laidByTextAt .later Tryd.pinned [.sentinel, .sentinel, .sentinel, .sentinel] true :=
  OpenClaim.laidByTextAt_later rfl rfl tie2 noOwnUnsafe
theorem tie3 : Tryd.prog.laidByTextLater [("io.EOF", Rows.laid_io_EOF), ("io.ErrUnexpectedEOF", Rows.laid_io_ErrUnexpectedEOF), ("pub-marram/pub/afero/mem.ErrFileClosed", Rows.laid_pub_marram_pub_afero_mem_ErrFileClosed)] [.sentinel, .sentinel, .sentinel] true :=
  Program.laidByTextLater.sub seatTie1 ["io.EOF", "io.ErrUnexpectedEOF", "pub-marram/pub/afero/mem.ErrFileClosed"] (by kernel_rfl) (by kernel_rfl)
theorem fnContainsSlice_row_tie : Rows.fnContainsSliceRow.laidByTextAt .later Tryd.pinned [.sentinel, .sentinel, .sentinel] true :=
  OpenClaim.laidByTextAt_later rfl rfl tie3 noOwnUnsafe
theorem fnFitFirstUpto_row_tie : Rows.fnFitFirstUptoRow.laidByTextAt .later Tryd.pinned [.data] true :=
  OpenClaim.laidByTextAt_later rfl rfl tie noOwnUnsafe
theorem fnVerityReadUpto_row_tie : Rows.fnVerityReadUptoRow.laidByTextAt .later Tryd.pinned [.sentinel, .sentinel, .sentinel, .sentinel] true :=
  OpenClaim.laidByTextAt_later rfl rfl tie2 noOwnUnsafe
theorem fnContainsSliceUpto_row_tie : Rows.fnContainsSliceUptoRow.laidByTextAt .later Tryd.pinned [.sentinel, .sentinel, .sentinel] true :=
  OpenClaim.laidByTextAt_later rfl rfl tie3 noOwnUnsafe
theorem fnAttributesPutUpto_row_tie : Rows.fnAttributesPutUptoRow.laidByTextAt .later Tryd.pinned [.data] true :=
  OpenClaim.laidByTextAt_later rfl rfl tie noOwnUnsafe
end Go.Proofs.YtckjbgneblfceaaDoor
