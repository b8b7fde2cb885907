/-
  DERIVED. GIVEN WITH THE SEED: THE CARDS: each row of YtljcdjggjphedaaDoorRows.lean that lists a variable, with what it lists TIED to the program's text (the seventh form; the later family's looks); each row that meets fmt, with fmt's text TOLD by the authors' own Lean function (tested against real Go, not proved from fmt's source: count such statements apart). THE CARD IS WHAT COUNTS. Prove the row's statement (the work); the ties are given (YtljcdjggjphedaaDoorTie.lean); close each card by the builder's one call (the guide's Derived/Test/ToyasCard.lean, 'card_holds'). Laid BY PROGRAM, IN A SANDBOX (cutbox-door.mjs). By AI agents, Wed Nov 11 2026. No macro, syntax, notation, axiom, sorry.
-/
import Derived.Test.YtljcdjggjphedaaDoorRows
import GoSem.ClaimSeven
namespace Go.Proofs.YtljcdjggjphedaaDoor
namespace Rows

/-- THE TIED CARD OF 'laws.FnClosedHandle'. -/
def fnClosedHandleCard : Claim7 := { stood := { row := fnClosedHandleRow, standIns := [], harness := (true, "082d05495341c122149ceada623044fc8a0a6c8a5b30945a55a332597f3648b7"), looks := true }, kinds := [], alts := [], laidByText := true, laidKinds := [.sentinel, .sentinel, .sentinel, .sentinel, .sentinel, .sentinel, .sentinel, .sentinel, .sentinel, .sentinel, .sentinel], laidTests := true, laidLooks := .later }
def FnClosedHandleCardSaid : Prop := Claim7.holds Tryd.pinned (.plain (OpenSpec.ofChange fnClosedHandleSpec)) fnClosedHandleCard

/-- THE TIED CARD OF 'laws.FnHandleScript'. -/
def fnHandleScriptCard : Claim7 := { stood := { row := fnHandleScriptRow, standIns := [], harness := (true, "082d05495341c122149ceada623044fc8a0a6c8a5b30945a55a332597f3648b7"), looks := true }, kinds := [], alts := [], laidByText := true, laidKinds := [.sentinel, .sentinel, .sentinel, .sentinel, .sentinel, .sentinel, .sentinel, .sentinel, .sentinel, .sentinel, .sentinel], laidTests := true, laidLooks := .later }
def FnHandleScriptCardSaid : Prop := Claim7.holds Tryd.pinned (.plain (OpenSpec.ofChange fnHandleScriptSpec)) fnHandleScriptCard

/-- THE TIED CARD OF 'laws.FnHandleSplit'. -/
def fnHandleSplitCard : Claim7 := { stood := { row := fnHandleSplitRow, standIns := [], harness := (true, "082d05495341c122149ceada623044fc8a0a6c8a5b30945a55a332597f3648b7"), looks := true }, kinds := [], alts := [], laidByText := true, laidKinds := [.sentinel, .sentinel, .sentinel, .sentinel, .sentinel, .sentinel, .sentinel, .sentinel, .sentinel, .sentinel, .sentinel], laidTests := true, laidLooks := .later }
def FnHandleSplitCardSaid : Prop := Claim7.holds Tryd.pinned (.plain (OpenSpec.ofChange fnHandleSplitSpec)) fnHandleSplitCard

/-- THE TIED CARD OF 'laws.FnPlacesAreMoved'. -/
def fnPlacesAreMovedCard : Claim7 := { stood := { row := fnPlacesAreMovedRow, standIns := [], harness := (true, "082d05495341c122149ceada623044fc8a0a6c8a5b30945a55a332597f3648b7"), looks := true }, kinds := [], alts := [], laidByText := true, laidKinds := [.sentinel, .sentinel, .sentinel, .sentinel, .sentinel, .sentinel, .sentinel, .sentinel, .sentinel, .sentinel, .sentinel], laidTests := true, laidLooks := .later }
def FnPlacesAreMovedCardSaid : Prop := Claim7.holds Tryd.pinned (.plain (OpenSpec.ofChange fnPlacesAreMovedSpec)) fnPlacesAreMovedCard

/-- THE TIED CARD OF 'laws.FnReadAtIsSlicing'. -/
def fnReadAtIsSlicingCard : Claim7 := { stood := { row := fnReadAtIsSlicingRow, standIns := [], harness := (true, "082d05495341c122149ceada623044fc8a0a6c8a5b30945a55a332597f3648b7"), looks := true }, kinds := [], alts := [], laidByText := true, laidKinds := [.sentinel, .sentinel, .sentinel, .sentinel, .sentinel, .sentinel, .sentinel, .sentinel, .sentinel, .sentinel, .sentinel], laidTests := true, laidLooks := .later }
def FnReadAtIsSlicingCardSaid : Prop := Claim7.holds Tryd.pinned (.plain (OpenSpec.ofChange fnReadAtIsSlicingSpec)) fnReadAtIsSlicingCard

/-- THE TIED CARD OF 'laws.FnTruncateTwice'. -/
def fnTruncateTwiceCard : Claim7 := { stood := { row := fnTruncateTwiceRow, standIns := [], harness := (true, "082d05495341c122149ceada623044fc8a0a6c8a5b30945a55a332597f3648b7"), looks := true }, kinds := [], alts := [], laidByText := true, laidKinds := [.sentinel, .sentinel, .sentinel, .sentinel, .sentinel, .sentinel, .sentinel, .sentinel, .sentinel, .sentinel, .sentinel], laidTests := true, laidLooks := .later }
def FnTruncateTwiceCardSaid : Prop := Claim7.holds Tryd.pinned (.plain (OpenSpec.ofChange fnTruncateTwiceSpec)) fnTruncateTwiceCard

/-- THE TIED CARD OF 'laws.FnWriteAtIsSeekAndWrite'. -/
def fnWriteAtIsSeekAndWriteCard : Claim7 := { stood := { row := fnWriteAtIsSeekAndWriteRow, standIns := [], harness := (true, "082d05495341c122149ceada623044fc8a0a6c8a5b30945a55a332597f3648b7"), looks := true }, kinds := [], alts := [], laidByText := true, laidKinds := [.sentinel, .sentinel, .sentinel, .sentinel, .sentinel, .sentinel, .sentinel, .sentinel, .sentinel, .sentinel, .sentinel], laidTests := true, laidLooks := .later }
def FnWriteAtIsSeekAndWriteCardSaid : Prop := Claim7.holds Tryd.pinned (.plain (OpenSpec.ofChange fnWriteAtIsSeekAndWriteSpec)) fnWriteAtIsSeekAndWriteCard

/-- THE TIED CARD OF 'laws.FnUnionPrefix'. -/
def fnUnionPrefixCard : Claim7 := { stood := { row := fnUnionPrefixRow, standIns := [], harness := (true, "082d05495341c122149ceada623044fc8a0a6c8a5b30945a55a332597f3648b7"), looks := true }, kinds := [], alts := [], laidByText := true, laidKinds := [.sentinel, .sentinel, .sentinel, .sentinel, .sentinel, .sentinel, .sentinel, .sentinel, .sentinel, .sentinel, .sentinel], laidTests := true, laidLooks := .later }
def FnUnionPrefixCardSaid : Prop := Claim7.holds Tryd.pinned (.plain (OpenSpec.ofChange fnUnionPrefixSpec)) fnUnionPrefixCard

/-- THE TIED CARD OF 'laws.FnUnionWritesBase'. -/
def fnUnionWritesBaseCard : Claim7 := { stood := { row := fnUnionWritesBaseRow, standIns := [], harness := (true, "082d05495341c122149ceada623044fc8a0a6c8a5b30945a55a332597f3648b7"), looks := true }, kinds := [], alts := [], laidByText := true, laidKinds := [.sentinel, .sentinel, .sentinel, .sentinel, .sentinel, .sentinel, .sentinel, .sentinel, .sentinel, .sentinel, .sentinel], laidTests := true, laidLooks := .later }
def FnUnionWritesBaseCardSaid : Prop := Claim7.holds Tryd.pinned (.plain (OpenSpec.ofChange fnUnionWritesBaseSpec)) fnUnionWritesBaseCard

/-- THE SECOND FORM's CARD OF 'laws.FnClosedHandle'. -/
def fnClosedHandleUptoCard : Claim7 := { stood := { row := fnClosedHandleUptoRow, standIns := [], harness := (true, "082d05495341c122149ceada623044fc8a0a6c8a5b30945a55a332597f3648b7"), looks := true }, kinds := [], alts := [], laidByText := true, laidKinds := [.sentinel, .sentinel, .sentinel, .sentinel, .sentinel, .sentinel, .sentinel, .sentinel, .sentinel, .sentinel, .sentinel], laidTests := true, laidLooks := .later }
def FnClosedHandleUptoCardSaid : Prop := Claim7.holds Tryd.pinned (.plain (OpenSpec.upto fnClosedHandleSpec)) fnClosedHandleUptoCard

/-- THE SECOND FORM's CARD OF 'laws.FnHandleScript'. -/
def fnHandleScriptUptoCard : Claim7 := { stood := { row := fnHandleScriptUptoRow, standIns := [], harness := (true, "082d05495341c122149ceada623044fc8a0a6c8a5b30945a55a332597f3648b7"), looks := true }, kinds := [], alts := [], laidByText := true, laidKinds := [.sentinel, .sentinel, .sentinel, .sentinel, .sentinel, .sentinel, .sentinel, .sentinel, .sentinel, .sentinel, .sentinel], laidTests := true, laidLooks := .later }
def FnHandleScriptUptoCardSaid : Prop := Claim7.holds Tryd.pinned (.plain (OpenSpec.upto fnHandleScriptSpec)) fnHandleScriptUptoCard

/-- THE SECOND FORM's CARD OF 'laws.FnHandleSplit'. -/
def fnHandleSplitUptoCard : Claim7 := { stood := { row := fnHandleSplitUptoRow, standIns := [], harness := (true, "082d05495341c122149ceada623044fc8a0a6c8a5b30945a55a332597f3648b7"), looks := true }, kinds := [], alts := [], laidByText := true, laidKinds := [.sentinel, .sentinel, .sentinel, .sentinel, .sentinel, .sentinel, .sentinel, .sentinel, .sentinel, .sentinel, .sentinel], laidTests := true, laidLooks := .later }
def FnHandleSplitUptoCardSaid : Prop := Claim7.holds Tryd.pinned (.plain (OpenSpec.upto fnHandleSplitSpec)) fnHandleSplitUptoCard

/-- THE SECOND FORM's CARD OF 'laws.FnPlacesAreMoved'. -/
def fnPlacesAreMovedUptoCard : Claim7 := { stood := { row := fnPlacesAreMovedUptoRow, standIns := [], harness := (true, "082d05495341c122149ceada623044fc8a0a6c8a5b30945a55a332597f3648b7"), looks := true }, kinds := [], alts := [], laidByText := true, laidKinds := [.sentinel, .sentinel, .sentinel, .sentinel, .sentinel, .sentinel, .sentinel, .sentinel, .sentinel, .sentinel, .sentinel], laidTests := true, laidLooks := .later }
def FnPlacesAreMovedUptoCardSaid : Prop := Claim7.holds Tryd.pinned (.plain (OpenSpec.upto fnPlacesAreMovedSpec)) fnPlacesAreMovedUptoCard

/-- THE SECOND FORM's CARD OF 'laws.FnReadAtIsSlicing'. -/
def fnReadAtIsSlicingUptoCard : Claim7 := { stood := { row := fnReadAtIsSlicingUptoRow, standIns := [], harness := (true, "082d05495341c122149ceada623044fc8a0a6c8a5b30945a55a332597f3648b7"), looks := true }, kinds := [], alts := [], laidByText := true, laidKinds := [.sentinel, .sentinel, .sentinel, .sentinel, .sentinel, .sentinel, .sentinel, .sentinel, .sentinel, .sentinel, .sentinel], laidTests := true, laidLooks := .later }
def FnReadAtIsSlicingUptoCardSaid : Prop := Claim7.holds Tryd.pinned (.plain (OpenSpec.upto fnReadAtIsSlicingSpec)) fnReadAtIsSlicingUptoCard

/-- THE SECOND FORM's CARD OF 'laws.FnTruncateTwice'. -/
def fnTruncateTwiceUptoCard : Claim7 := { stood := { row := fnTruncateTwiceUptoRow, standIns := [], harness := (true, "082d05495341c122149ceada623044fc8a0a6c8a5b30945a55a332597f3648b7"), looks := true }, kinds := [], alts := [], laidByText := true, laidKinds := [.sentinel, .sentinel, .sentinel, .sentinel, .sentinel, .sentinel, .sentinel, .sentinel, .sentinel, .sentinel, .sentinel], laidTests := true, laidLooks := .later }
def FnTruncateTwiceUptoCardSaid : Prop := Claim7.holds Tryd.pinned (.plain (OpenSpec.upto fnTruncateTwiceSpec)) fnTruncateTwiceUptoCard

/-- THE SECOND FORM's CARD OF 'laws.FnWriteAtIsSeekAndWrite'. -/
def fnWriteAtIsSeekAndWriteUptoCard : Claim7 := { stood := { row := fnWriteAtIsSeekAndWriteUptoRow, standIns := [], harness := (true, "082d05495341c122149ceada623044fc8a0a6c8a5b30945a55a332597f3648b7"), looks := true }, kinds := [], alts := [], laidByText := true, laidKinds := [.sentinel, .sentinel, .sentinel, .sentinel, .sentinel, .sentinel, .sentinel, .sentinel, .sentinel, .sentinel, .sentinel], laidTests := true, laidLooks := .later }
def FnWriteAtIsSeekAndWriteUptoCardSaid : Prop := Claim7.holds Tryd.pinned (.plain (OpenSpec.upto fnWriteAtIsSeekAndWriteSpec)) fnWriteAtIsSeekAndWriteUptoCard

/-- THE SECOND FORM's CARD OF 'laws.FnUnionPrefix'. -/
def fnUnionPrefixUptoCard : Claim7 := { stood := { row := fnUnionPrefixUptoRow, standIns := [], harness := (true, "082d05495341c122149ceada623044fc8a0a6c8a5b30945a55a332597f3648b7"), looks := true }, kinds := [], alts := [], laidByText := true, laidKinds := [.sentinel, .sentinel, .sentinel, .sentinel, .sentinel, .sentinel, .sentinel, .sentinel, .sentinel, .sentinel, .sentinel], laidTests := true, laidLooks := .later }
def FnUnionPrefixUptoCardSaid : Prop := Claim7.holds Tryd.pinned (.plain (OpenSpec.upto fnUnionPrefixSpec)) fnUnionPrefixUptoCard

/-- THE SECOND FORM's CARD OF 'laws.FnUnionWritesBase'. -/
def fnUnionWritesBaseUptoCard : Claim7 := { stood := { row := fnUnionWritesBaseUptoRow, standIns := [], harness := (true, "082d05495341c122149ceada623044fc8a0a6c8a5b30945a55a332597f3648b7"), looks := true }, kinds := [], alts := [], laidByText := true, laidKinds := [.sentinel, .sentinel, .sentinel, .sentinel, .sentinel, .sentinel, .sentinel, .sentinel, .sentinel, .sentinel, .sentinel], laidTests := true, laidLooks := .later }
def FnUnionWritesBaseUptoCardSaid : Prop := Claim7.holds Tryd.pinned (.plain (OpenSpec.upto fnUnionWritesBaseSpec)) fnUnionWritesBaseUptoCard
end Rows
end Go.Proofs.YtljcdjggjphedaaDoor
