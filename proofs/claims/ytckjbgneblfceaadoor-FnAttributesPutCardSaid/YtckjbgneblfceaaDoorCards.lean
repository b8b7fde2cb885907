/-
  DERIVED. GIVEN WITH THE SEED: THE CARDS: each row of YtckjbgneblfceaaDoorRows.lean that lists a variable, with what it lists TIED to the program's text (the seventh form; the later family's looks); each row that meets fmt, with fmt's text TOLD by the authors' own Lean function (tested against real Go, not proved from fmt's source: count such statements apart). THE CARD IS WHAT COUNTS. Prove the row's statement (the work); the ties are given (YtckjbgneblfceaaDoorTie.lean); close each card by the builder's one call (the guide's Derived/Test/ToyasCard.lean, 'card_holds'). Laid BY PROGRAM, IN A SANDBOX (cutbox-door.mjs). By AI agents, Wed Nov 11 2026. No macro, syntax, notation, axiom, sorry.
-/
import Derived.Test.YtckjbgneblfceaaDoorRows
import GoSem.ClaimSeven
namespace Go.Proofs.YtckjbgneblfceaaDoor
namespace Rows

/-- THE TIED CARD OF 'laws.FnFitFirst'. -/
def fnFitFirstCard : Claim7 := { stood := { row := fnFitFirstRow, standIns := [], harness := (true, "27ad93f67da15782714a4553ee5475b90bf0b144894fd36f2960d8983790489f"), looks := true }, kinds := [], alts := [], laidByText := true, laidKinds := [.data], laidTests := true, laidLooks := .later }
def FnFitFirstCardSaid : Prop := Claim7.holds Tryd.pinned (.plain (OpenSpec.ofChange fnFitFirstSpec)) fnFitFirstCard

/-- THE TIED CARD OF 'laws.FnVerityRead'. -/
def fnVerityReadCard : Claim7 := { stood := { row := fnVerityReadRow, standIns := [], harness := (true, "27ad93f67da15782714a4553ee5475b90bf0b144894fd36f2960d8983790489f"), looks := true }, kinds := [], alts := [], laidByText := true, laidKinds := [.sentinel, .sentinel, .sentinel, .sentinel], laidTests := true, laidLooks := .later }
def FnVerityReadCardSaid : Prop := Claim7.holds Tryd.pinned (.plain (OpenSpec.ofChange fnVerityReadSpec)) fnVerityReadCard

/-- THE TIED CARD OF 'laws.FnContainsSlice'. -/
def fnContainsSliceCard : Claim7 := { stood := { row := fnContainsSliceRow, standIns := [], harness := (true, "27ad93f67da15782714a4553ee5475b90bf0b144894fd36f2960d8983790489f"), looks := true }, kinds := [], alts := [], laidByText := true, laidKinds := [.sentinel, .sentinel, .sentinel], laidTests := true, laidLooks := .later }
def FnContainsSliceCardSaid : Prop := Claim7.holds Tryd.pinned (.plain (OpenSpec.ofChange fnContainsSliceSpec)) fnContainsSliceCard

/-- THE TIED CARD OF 'laws.FnAttributesPut'. -/
def fnAttributesPutCard : Claim7 := { stood := { row := fnAttributesPutRow, standIns := [], harness := (true, "27ad93f67da15782714a4553ee5475b90bf0b144894fd36f2960d8983790489f"), looks := true }, kinds := [], alts := [], laidByText := true, laidKinds := [.data], laidTests := true, laidLooks := .later }
def FnAttributesPutCardSaid : Prop := Claim7.holds Tryd.pinned (.plain (OpenSpec.ofChange fnAttributesPutSpec)) fnAttributesPutCard

/-- THE SECOND FORM's CARD OF 'laws.FnFitFirst'. -/
def fnFitFirstUptoCard : Claim7 := { stood := { row := fnFitFirstUptoRow, standIns := [], harness := (true, "27ad93f67da15782714a4553ee5475b90bf0b144894fd36f2960d8983790489f"), looks := true }, kinds := [], alts := [], laidByText := true, laidKinds := [.data], laidTests := true, laidLooks := .later }
def FnFitFirstUptoCardSaid : Prop := Claim7.holds Tryd.pinned (.plain (OpenSpec.upto fnFitFirstSpec)) fnFitFirstUptoCard

/-- THE SECOND FORM's CARD OF 'laws.FnVerityRead'. -/
def fnVerityReadUptoCard : Claim7 := { stood := { row := fnVerityReadUptoRow, standIns := [], harness := (true, "27ad93f67da15782714a4553ee5475b90bf0b144894fd36f2960d8983790489f"), looks := true }, kinds := [], alts := [], laidByText := true, laidKinds := [.sentinel, .sentinel, .sentinel, .sentinel], laidTests := true, laidLooks := .later }
def FnVerityReadUptoCardSaid : Prop := Claim7.holds Tryd.pinned (.plain (OpenSpec.upto fnVerityReadSpec)) fnVerityReadUptoCard

/-- THE SECOND FORM's CARD OF 'laws.FnContainsSlice'. -/
def fnContainsSliceUptoCard : Claim7 := { stood := { row := fnContainsSliceUptoRow, standIns := [], harness := (true, "27ad93f67da15782714a4553ee5475b90bf0b144894fd36f2960d8983790489f"), looks := true }, kinds := [], alts := [], laidByText := true, laidKinds := [.sentinel, .sentinel, .sentinel], laidTests := true, laidLooks := .later }
def FnContainsSliceUptoCardSaid : Prop := Claim7.holds Tryd.pinned (.plain (OpenSpec.upto fnContainsSliceSpec)) fnContainsSliceUptoCard

/-- THE SECOND FORM's CARD OF 'laws.FnAttributesPut'. -/
def fnAttributesPutUptoCard : Claim7 := { stood := { row := fnAttributesPutUptoRow, standIns := [], harness := (true, "27ad93f67da15782714a4553ee5475b90bf0b144894fd36f2960d8983790489f"), looks := true }, kinds := [], alts := [], laidByText := true, laidKinds := [.data], laidTests := true, laidLooks := .later }
def FnAttributesPutUptoCardSaid : Prop := Claim7.holds Tryd.pinned (.plain (OpenSpec.upto fnAttributesPutSpec)) fnAttributesPutUptoCard
end Rows
end Go.Proofs.YtckjbgneblfceaaDoor
