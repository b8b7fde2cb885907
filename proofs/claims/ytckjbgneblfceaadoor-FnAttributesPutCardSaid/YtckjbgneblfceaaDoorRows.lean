/-
  NARROWER THAN 'FOR EVERY INPUT', by the rows' own cells (each row's printed sentence says how): FnFitFirst: laid · FnVerityRead: laid · FnContainsSlice: laid · FnAttributesPut: laid.
  DERIVED. THE GIVEN ROWS OF THIS SEAT. 4 by the template 'for every input the law returns true; each argument reads behind the call as it read before'; 0 by the template 'total and deterministic' (their statements: YtckjbgneblfceaaDoorTotals.lean).
  GIVEN WITH THE SEED: the statements are not yours to turn. If you find one false, say at which input.
  Laid BY PROGRAM, IN A SANDBOX (cutbox-rows.mjs): the forced cells as the released guide's own fill.sh prints them over the translation c1c60905716cb554… (all of the seat's roots in one cut). By AI agents, Wed Nov 11 2026. No macro, syntax, notation, axiom, sorry.
-/
import Derived.Test.YtckjbgneblfceaaDoorChecked
import GoSem.Claim
import GoSem.ClaimJoined
import GoSem.ClaimMapViews
import Derived.JoinedTies
import Derived.KernelRfl
namespace Go.Proofs.YtckjbgneblfceaaDoor
/- THE CELL 'sum', in the pinned program and in every row, IS THE sha256 OF THE DUMP (.gsa) THAT YtckjbgneblfceaaDoorProg.lean LOADS. Nothing in Lean hashes anything: it is a label: what it is worth is what the hold of that sum in a sandbox is worth. -/
noncomputable def Tryd.pinned : Pinned := { name := "ytckjbgneblfceaadoor", sum := "c1c60905716cb554dd97cf1e6a8d32932c1a93952b5cb6d74c2d8714d2a6641c", checked := Tryd.checked }
namespace Rows
def none {H : Type} : Left H := { results := [], args := [] }

/- WHAT THE LISTED PACKAGE-LEVEL VARIABLES READ AS WHEN THE CALL BEGINS. Each datum BY PROGRAM (the guide's laid-datum.mjs) off the statement by which the dump's own 'gosem.cut.vars' lays the variable. In a bare row this is a premise. The card (YtckjbgneblfceaaDoorCards.lean) ties it to the program's text. -/
def laid_pub_marram_pub_hcsshim_ext4_inner_compactext4_xattrPrefixes {H : Type} : DataW H := .agg [.agg [.lit (.int .u8 2), .lit (.string [115, 121, 115, 116, 101, 109, 46, 112, 111, 115, 105, 120, 95, 97, 99, 108, 95, 97, 99, 99, 101, 115, 115])], .agg [.lit (.int .u8 3), .lit (.string [115, 121, 115, 116, 101, 109, 46, 112, 111, 115, 105, 120, 95, 97, 99, 108, 95, 100, 101, 102, 97, 117, 108, 116])], .agg [.lit (.int .u8 8), .lit (.string [115, 121, 115, 116, 101, 109, 46, 114, 105, 99, 104, 97, 99, 108])], .agg [.lit (.int .u8 7), .lit (.string [115, 121, 115, 116, 101, 109, 46])], .agg [.lit (.int .u8 1), .lit (.string [117, 115, 101, 114, 46])], .agg [.lit (.int .u8 4), .lit (.string [116, 114, 117, 115, 116, 101, 100, 46])], .agg [.lit (.int .u8 6), .lit (.string [115, 101, 99, 117, 114, 105, 116, 121, 46])]]
def laid_pub_marram_pub_hcsshim_ext4_dmverity_ErrSuperBlockReadFailure {H : Type} : DataW H := .iface "*errors.errorString" (.ptr (.agg [.lit (.string [102, 97, 105, 108, 101, 100, 32, 116, 111, 32, 114, 101, 97, 100, 32, 100, 109, 45, 118, 101, 114, 105, 116, 121, 32, 115, 117, 112, 101, 114, 32, 98, 108, 111, 99, 107])]))
def laid_pub_marram_pub_hcsshim_ext4_dmverity_ErrSuperBlockParseFailure {H : Type} : DataW H := .iface "*errors.errorString" (.ptr (.agg [.lit (.string [102, 97, 105, 108, 101, 100, 32, 116, 111, 32, 112, 97, 114, 115, 101, 32, 100, 109, 45, 118, 101, 114, 105, 116, 121, 32, 115, 117, 112, 101, 114, 32, 98, 108, 111, 99, 107])]))
def laid_pub_marram_pub_hcsshim_ext4_dmverity_ErrRootHashReadFailure {H : Type} : DataW H := .iface "*errors.errorString" (.ptr (.agg [.lit (.string [102, 97, 105, 108, 101, 100, 32, 116, 111, 32, 114, 101, 97, 100, 32, 100, 109, 45, 118, 101, 114, 105, 116, 121, 32, 114, 111, 111, 116, 32, 104, 97, 115, 104])]))
def laid_pub_marram_pub_hcsshim_ext4_dmverity_ErrNotVeritySuperBlock {H : Type} : DataW H := .iface "*errors.errorString" (.ptr (.agg [.lit (.string [105, 110, 118, 97, 108, 105, 100, 32, 100, 109, 45, 118, 101, 114, 105, 116, 121, 32, 115, 117, 112, 101, 114, 45, 98, 108, 111, 99, 107, 32, 115, 105, 103, 110, 97, 116, 117, 114, 101])]))
def laid_io_EOF {H : Type} : DataW H := .iface "*errors.errorString" (.ptr (.agg [.lit (.string [69, 79, 70])]))
def laid_io_ErrUnexpectedEOF {H : Type} : DataW H := .iface "*errors.errorString" (.ptr (.agg [.lit (.string [117, 110, 101, 120, 112, 101, 99, 116, 101, 100, 32, 69, 79, 70])]))
def laid_pub_marram_pub_afero_mem_ErrFileClosed {H : Type} : DataW H := .iface "*errors.errorString" (.ptr (.agg [.lit (.string [70, 105, 108, 101, 32, 105, 115, 32, 99, 108, 111, 115, 101, 100])]))

/-- 'laws.FnFitFirst': WHATEVER THE INPUT: true; the input reads as it did. -/
def fnFitFirstSpec : ChangeSpec := { name := "fnFitFirst", fn := fun _ => fun
  | [d1, d2] => { results := [.lit (.bool true)], args := [d1, d2] }
  | _ => none }
def fnFitFirstRow : OpenClaim := { program := "ytckjbgneblfceaadoor", sum := "c1c60905716cb554dd97cf1e6a8d32932c1a93952b5cb6d74c2d8714d2a6641c", func := "pub-marram/laws.FnFitFirst", spec := "fnFitFirst", named := ["pub-marram/pub/hcsshim/ext4/inner/compactext4.xattrPrefixes"], apart := false, laid := [("pub-marram/pub/hcsshim/ext4/inner/compactext4.xattrPrefixes", laid_pub_marram_pub_hcsshim_ext4_inner_compactext4_xattrPrefixes)] }
def FnFitFirstSaid : Prop := fnFitFirstRow.holds Tryd.pinned (OpenSpec.ofChange fnFitFirstSpec)

/-- ITS FALSE NEIGHBOUR: 'it returns false'. Refute it at one input. -/
def fnFitFirstWrong : ChangeSpec := { name := "fnFitFirst", fn := fun _ => fun
  | [d1, d2] => { results := [.lit (.bool false)], args := [d1, d2] }
  | _ => none }
def FnFitFirstWrongFalsely : Prop := fnFitFirstRow.holds Tryd.pinned (OpenSpec.ofChange fnFitFirstWrong)

/-- 'laws.FnVerityRead': WHATEVER THE INPUT: true; the input reads as it did. -/
def fnVerityReadSpec : ChangeSpec := { name := "fnVerityRead", fn := fun _ => fun
  | [d1, d2] => { results := [.lit (.bool true)], args := [d1, d2] }
  | _ => none }
def fnVerityReadRow : OpenClaim := { program := "ytckjbgneblfceaadoor", sum := "c1c60905716cb554dd97cf1e6a8d32932c1a93952b5cb6d74c2d8714d2a6641c", func := "pub-marram/laws.FnVerityRead", spec := "fnVerityRead", unfollowed := true, recurses := true, named := ["pub-marram/pub/hcsshim/ext4/dmverity.ErrSuperBlockReadFailure", "pub-marram/pub/hcsshim/ext4/dmverity.ErrRootHashReadFailure", "pub-marram/pub/hcsshim/ext4/dmverity.ErrNotVeritySuperBlock", "pub-marram/pub/hcsshim/ext4/dmverity.ErrSuperBlockParseFailure"], apart := false, laid := [("pub-marram/pub/hcsshim/ext4/dmverity.ErrSuperBlockReadFailure", laid_pub_marram_pub_hcsshim_ext4_dmverity_ErrSuperBlockReadFailure), ("pub-marram/pub/hcsshim/ext4/dmverity.ErrSuperBlockParseFailure", laid_pub_marram_pub_hcsshim_ext4_dmverity_ErrSuperBlockParseFailure), ("pub-marram/pub/hcsshim/ext4/dmverity.ErrRootHashReadFailure", laid_pub_marram_pub_hcsshim_ext4_dmverity_ErrRootHashReadFailure), ("pub-marram/pub/hcsshim/ext4/dmverity.ErrNotVeritySuperBlock", laid_pub_marram_pub_hcsshim_ext4_dmverity_ErrNotVeritySuperBlock)] }
def FnVerityReadSaid : Prop := fnVerityReadRow.holds Tryd.pinned (OpenSpec.ofChange fnVerityReadSpec)

/-- ITS FALSE NEIGHBOUR: 'it returns false'. Refute it at one input. -/
def fnVerityReadWrong : ChangeSpec := { name := "fnVerityRead", fn := fun _ => fun
  | [d1, d2] => { results := [.lit (.bool false)], args := [d1, d2] }
  | _ => none }
def FnVerityReadWrongFalsely : Prop := fnVerityReadRow.holds Tryd.pinned (OpenSpec.ofChange fnVerityReadWrong)

/-- 'laws.FnContainsSlice': WHATEVER THE INPUT: true; the input reads as it did. -/
def fnContainsSliceSpec : ChangeSpec := { name := "fnContainsSlice", fn := fun _ => fun
  | [d1, d2, d3, d4, d5] => { results := [.lit (.bool true)], args := [d1, d2, d3, d4, d5] }
  | _ => none }
def fnContainsSliceRow : OpenClaim := { program := "ytckjbgneblfceaadoor", sum := "c1c60905716cb554dd97cf1e6a8d32932c1a93952b5cb6d74c2d8714d2a6641c", func := "pub-marram/laws.FnContainsSlice", spec := "fnContainsSlice", named := ["io.EOF", "io.ErrUnexpectedEOF", "pub-marram/pub/afero/mem.ErrFileClosed"], apart := false, laid := [("io.EOF", laid_io_EOF), ("io.ErrUnexpectedEOF", laid_io_ErrUnexpectedEOF), ("pub-marram/pub/afero/mem.ErrFileClosed", laid_pub_marram_pub_afero_mem_ErrFileClosed)] }
def FnContainsSliceSaid : Prop := fnContainsSliceRow.holds Tryd.pinned (OpenSpec.ofChange fnContainsSliceSpec)

/-- ITS FALSE NEIGHBOUR: 'it returns false'. Refute it at one input. -/
def fnContainsSliceWrong : ChangeSpec := { name := "fnContainsSlice", fn := fun _ => fun
  | [d1, d2, d3, d4, d5] => { results := [.lit (.bool false)], args := [d1, d2, d3, d4, d5] }
  | _ => none }
def FnContainsSliceWrongFalsely : Prop := fnContainsSliceRow.holds Tryd.pinned (OpenSpec.ofChange fnContainsSliceWrong)

/-- 'laws.FnAttributesPut': WHATEVER THE INPUT: true; the input reads as it did. -/
def fnAttributesPutSpec : ChangeSpec := { name := "fnAttributesPut", fn := fun _ => fun
  | [d1, d2, d3] => { results := [.lit (.bool true)], args := [d1, d2, d3] }
  | _ => none }
def fnAttributesPutRow : OpenClaim := { program := "ytckjbgneblfceaadoor", sum := "c1c60905716cb554dd97cf1e6a8d32932c1a93952b5cb6d74c2d8714d2a6641c", func := "pub-marram/laws.FnAttributesPut", spec := "fnAttributesPut", named := ["pub-marram/pub/hcsshim/ext4/inner/compactext4.xattrPrefixes"], apart := false, laid := [("pub-marram/pub/hcsshim/ext4/inner/compactext4.xattrPrefixes", laid_pub_marram_pub_hcsshim_ext4_inner_compactext4_xattrPrefixes)] }
def FnAttributesPutSaid : Prop := fnAttributesPutRow.holds Tryd.pinned (OpenSpec.ofChange fnAttributesPutSpec)

/-- ITS FALSE NEIGHBOUR: 'it returns false'. Refute it at one input. -/
def fnAttributesPutWrong : ChangeSpec := { name := "fnAttributesPut", fn := fun _ => fun
  | [d1, d2, d3] => { results := [.lit (.bool false)], args := [d1, d2, d3] }
  | _ => none }
def FnAttributesPutWrongFalsely : Prop := fnAttributesPutRow.holds Tryd.pinned (OpenSpec.ofChange fnAttributesPutWrong)

/- THE SECOND FORM. 'bulk': how many values and letters a reading holds, each counted each time it is reached (what is shared counts as often as it is met; a slice's spare places count too). A statement '..UptoSaid' is the law's where the arguments, and the package variables that the reading takes, are together of bulk at most 1048576: NARROWER than '..Said'. Prove '..Said' where nothing that the law and all that it calls make is longer than what came in: it says more and counts as full. Else prove '..UptoSaid'. A law counts once. -/
mutual
def uptoBulk {H : Type} : DataW H → Nat
  | .lit (.string bytes) => bytes.length + 1
  | .lit _ => 1
  | .nil => 1
  | .ptr d => uptoBulk d + 1
  | .slice elems spare => uptoBulkAll elems + uptoBulkAll spare + 1
  | .agg parts => uptoBulkAll parts + 1
  | .iface _ d => uptoBulk d + 1
  | .map entries => uptoBulkEntries entries + 1
  | .held _ => 1
def uptoBulkAll {H : Type} : List (DataW H) → Nat
  | [] => 0
  | d :: r => uptoBulk d + uptoBulkAll r
def uptoBulkEntries {H : Type} : List (Lit × DataW H) → Nat
  | [] => 0
  | x :: r => uptoBulkEntry x + uptoBulkEntries r
def uptoBulkEntry {H : Type} : Lit × DataW H → Nat
  | (.string bytes, d) => bytes.length + uptoBulk d + 1
  | (_, d) => uptoBulk d + 1
 end
def uptoSmall : (H : Type) → List (DataW H) → Bool := fun _ ds => decide (uptoBulkAll ds ≤ 1048576)
def OpenSpec.upto (s : _root_.Go.ChangeSpec) : _root_.Go.OpenSpec := { _root_.Go.OpenSpec.ofChange s with cond := some uptoSmall }

/-- 'laws.FnFitFirst', WHERE WHAT IT READS IS OF BULK AT MOST 1048576: true; the input reads as it did. -/
def fnFitFirstUptoRow : OpenClaim := { program := "ytckjbgneblfceaadoor", sum := "c1c60905716cb554dd97cf1e6a8d32932c1a93952b5cb6d74c2d8714d2a6641c", func := "pub-marram/laws.FnFitFirst", spec := "fnFitFirst", named := ["pub-marram/pub/hcsshim/ext4/inner/compactext4.xattrPrefixes"], apart := false, laid := [("pub-marram/pub/hcsshim/ext4/inner/compactext4.xattrPrefixes", laid_pub_marram_pub_hcsshim_ext4_inner_compactext4_xattrPrefixes)], narrowed := true }
def FnFitFirstUptoSaid : Prop := fnFitFirstUptoRow.holds Tryd.pinned (OpenSpec.upto fnFitFirstSpec)

/-- 'laws.FnVerityRead', WHERE WHAT IT READS IS OF BULK AT MOST 1048576: true; the input reads as it did. -/
def fnVerityReadUptoRow : OpenClaim := { program := "ytckjbgneblfceaadoor", sum := "c1c60905716cb554dd97cf1e6a8d32932c1a93952b5cb6d74c2d8714d2a6641c", func := "pub-marram/laws.FnVerityRead", spec := "fnVerityRead", unfollowed := true, recurses := true, named := ["pub-marram/pub/hcsshim/ext4/dmverity.ErrSuperBlockReadFailure", "pub-marram/pub/hcsshim/ext4/dmverity.ErrRootHashReadFailure", "pub-marram/pub/hcsshim/ext4/dmverity.ErrNotVeritySuperBlock", "pub-marram/pub/hcsshim/ext4/dmverity.ErrSuperBlockParseFailure"], apart := false, laid := [("pub-marram/pub/hcsshim/ext4/dmverity.ErrSuperBlockReadFailure", laid_pub_marram_pub_hcsshim_ext4_dmverity_ErrSuperBlockReadFailure), ("pub-marram/pub/hcsshim/ext4/dmverity.ErrSuperBlockParseFailure", laid_pub_marram_pub_hcsshim_ext4_dmverity_ErrSuperBlockParseFailure), ("pub-marram/pub/hcsshim/ext4/dmverity.ErrRootHashReadFailure", laid_pub_marram_pub_hcsshim_ext4_dmverity_ErrRootHashReadFailure), ("pub-marram/pub/hcsshim/ext4/dmverity.ErrNotVeritySuperBlock", laid_pub_marram_pub_hcsshim_ext4_dmverity_ErrNotVeritySuperBlock)], narrowed := true }
def FnVerityReadUptoSaid : Prop := fnVerityReadUptoRow.holds Tryd.pinned (OpenSpec.upto fnVerityReadSpec)

/-- 'laws.FnContainsSlice', WHERE WHAT IT READS IS OF BULK AT MOST 1048576: true; the input reads as it did. -/
def fnContainsSliceUptoRow : OpenClaim := { program := "ytckjbgneblfceaadoor", sum := "c1c60905716cb554dd97cf1e6a8d32932c1a93952b5cb6d74c2d8714d2a6641c", func := "pub-marram/laws.FnContainsSlice", spec := "fnContainsSlice", named := ["io.EOF", "io.ErrUnexpectedEOF", "pub-marram/pub/afero/mem.ErrFileClosed"], apart := false, laid := [("io.EOF", laid_io_EOF), ("io.ErrUnexpectedEOF", laid_io_ErrUnexpectedEOF), ("pub-marram/pub/afero/mem.ErrFileClosed", laid_pub_marram_pub_afero_mem_ErrFileClosed)], narrowed := true }
def FnContainsSliceUptoSaid : Prop := fnContainsSliceUptoRow.holds Tryd.pinned (OpenSpec.upto fnContainsSliceSpec)

/-- 'laws.FnAttributesPut', WHERE WHAT IT READS IS OF BULK AT MOST 1048576: true; the input reads as it did. -/
def fnAttributesPutUptoRow : OpenClaim := { program := "ytckjbgneblfceaadoor", sum := "c1c60905716cb554dd97cf1e6a8d32932c1a93952b5cb6d74c2d8714d2a6641c", func := "pub-marram/laws.FnAttributesPut", spec := "fnAttributesPut", named := ["pub-marram/pub/hcsshim/ext4/inner/compactext4.xattrPrefixes"], apart := false, laid := [("pub-marram/pub/hcsshim/ext4/inner/compactext4.xattrPrefixes", laid_pub_marram_pub_hcsshim_ext4_inner_compactext4_xattrPrefixes)], narrowed := true }
def FnAttributesPutUptoSaid : Prop := fnAttributesPutUptoRow.holds Tryd.pinned (OpenSpec.upto fnAttributesPutSpec)

end Rows
end Go.Proofs.YtckjbgneblfceaaDoor
