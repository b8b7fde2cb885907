/-
  DERIVED. GIVEN WITH THE SEED: THE CARDS: each row of YtedjcbjocgkgnaaDoorRows.lean that lists a variable, with what it lists TIED to the program's text (the seventh form; the later family's looks); each row that meets fmt, with fmt's text TOLD by the authors' own Lean function (tested against real Go, not proved from fmt's source: count such statements apart). THE CARD IS WHAT COUNTS. Prove the row's statement (the work); the ties are given (YtedjcbjocgkgnaaDoorTie.lean); close each card by the builder's one call (the guide's Derived/Test/ToyasCard.lean, 'card_holds'). Laid BY PROGRAM, IN A SANDBOX (cutbox-door.mjs). By AI agents, Wed Nov 11 2026. No macro, syntax, notation, axiom, sorry.
-/
import Derived.Test.YtedjcbjocgkgnaaDoorRows
import GoSem.ClaimSeven
namespace Go.Proofs.YtedjcbjocgkgnaaDoor
namespace Rows

/-- THE TIED CARD OF 'laws.FnContainsSlice'. -/
def fnContainsSliceCard : Claim7 := { stood := { row := fnContainsSliceRow, standIns := [], harness := (true, "f9efc155474f614f48c96fe0e6b7265f0a75ead8a5699074fc8e8de8c96f471c"), looks := true }, kinds := [], alts := [], laidByText := true, laidKinds := [.sentinel, .sentinel, .sentinel], laidTests := true, laidLooks := .later }
def FnContainsSliceCardSaid : Prop := Claim7.holds Tryd.pinned (.plain (OpenSpec.ofChange fnContainsSliceSpec)) fnContainsSliceCard

/-- THE TIED CARD OF 'laws.FnRealPathInside'. -/
def fnRealPathInsideCard : Claim7 := { stood := { row := fnRealPathInsideRow, standIns := [], harness := (true, "f9efc155474f614f48c96fe0e6b7265f0a75ead8a5699074fc8e8de8c96f471c"), looks := true }, kinds := [], alts := [], laidByText := true, laidKinds := [.sentinel, .sentinel, .sentinel, .sentinel, .sentinel, .sentinel, .sentinel, .sentinel, .sentinel, .sentinel, .sentinel], laidTests := true, laidLooks := .later }
def FnRealPathInsideCardSaid : Prop := Claim7.holds Tryd.pinned (.plain (OpenSpec.ofChange fnRealPathInsideSpec)) fnRealPathInsideCard

/-- THE TIED CARD OF 'laws.FnRealPathRoot'. -/
def fnRealPathRootCard : Claim7 := { stood := { row := fnRealPathRootRow, standIns := [], harness := (true, "f9efc155474f614f48c96fe0e6b7265f0a75ead8a5699074fc8e8de8c96f471c"), looks := true }, kinds := [], alts := [], laidByText := true, laidKinds := [.sentinel, .sentinel, .sentinel, .sentinel, .sentinel, .sentinel, .sentinel, .sentinel, .sentinel, .sentinel, .sentinel], laidTests := true, laidLooks := .later }
def FnRealPathRootCardSaid : Prop := Claim7.holds Tryd.pinned (.plain (OpenSpec.ofChange fnRealPathRootSpec)) fnRealPathRootCard

/-- THE TIED CARD OF 'laws.FnRealPathUp'. -/
def fnRealPathUpCard : Claim7 := { stood := { row := fnRealPathUpRow, standIns := [], harness := (true, "f9efc155474f614f48c96fe0e6b7265f0a75ead8a5699074fc8e8de8c96f471c"), looks := true }, kinds := [], alts := [], laidByText := true, laidKinds := [.sentinel, .sentinel, .sentinel, .sentinel, .sentinel, .sentinel, .sentinel, .sentinel, .sentinel, .sentinel, .sentinel], laidTests := true, laidLooks := .later }
def FnRealPathUpCardSaid : Prop := Claim7.holds Tryd.pinned (.plain (OpenSpec.ofChange fnRealPathUpSpec)) fnRealPathUpCard

/-- THE SECOND FORM's CARD OF 'laws.FnContainsSlice'. -/
def fnContainsSliceUptoCard : Claim7 := { stood := { row := fnContainsSliceUptoRow, standIns := [], harness := (true, "f9efc155474f614f48c96fe0e6b7265f0a75ead8a5699074fc8e8de8c96f471c"), looks := true }, kinds := [], alts := [], laidByText := true, laidKinds := [.sentinel, .sentinel, .sentinel], laidTests := true, laidLooks := .later }
def FnContainsSliceUptoCardSaid : Prop := Claim7.holds Tryd.pinned (.plain (OpenSpec.upto fnContainsSliceSpec)) fnContainsSliceUptoCard

/-- THE SECOND FORM's CARD OF 'laws.FnRealPathInside'. -/
def fnRealPathInsideUptoCard : Claim7 := { stood := { row := fnRealPathInsideUptoRow, standIns := [], harness := (true, "f9efc155474f614f48c96fe0e6b7265f0a75ead8a5699074fc8e8de8c96f471c"), looks := true }, kinds := [], alts := [], laidByText := true, laidKinds := [.sentinel, .sentinel, .sentinel, .sentinel, .sentinel, .sentinel, .sentinel, .sentinel, .sentinel, .sentinel, .sentinel], laidTests := true, laidLooks := .later }
def FnRealPathInsideUptoCardSaid : Prop := Claim7.holds Tryd.pinned (.plain (OpenSpec.upto fnRealPathInsideSpec)) fnRealPathInsideUptoCard

/-- THE SECOND FORM's CARD OF 'laws.FnRealPathRoot'. -/
def fnRealPathRootUptoCard : Claim7 := { stood := { row := fnRealPathRootUptoRow, standIns := [], harness := (true, "f9efc155474f614f48c96fe0e6b7265f0a75ead8a5699074fc8e8de8c96f471c"), looks := true }, kinds := [], alts := [], laidByText := true, laidKinds := [.sentinel, .sentinel, .sentinel, .sentinel, .sentinel, .sentinel, .sentinel, .sentinel, .sentinel, .sentinel, .sentinel], laidTests := true, laidLooks := .later }
def FnRealPathRootUptoCardSaid : Prop := Claim7.holds Tryd.pinned (.plain (OpenSpec.upto fnRealPathRootSpec)) fnRealPathRootUptoCard

/-- THE SECOND FORM's CARD OF 'laws.FnRealPathUp'. -/
def fnRealPathUpUptoCard : Claim7 := { stood := { row := fnRealPathUpUptoRow, standIns := [], harness := (true, "f9efc155474f614f48c96fe0e6b7265f0a75ead8a5699074fc8e8de8c96f471c"), looks := true }, kinds := [], alts := [], laidByText := true, laidKinds := [.sentinel, .sentinel, .sentinel, .sentinel, .sentinel, .sentinel, .sentinel, .sentinel, .sentinel, .sentinel, .sentinel], laidTests := true, laidLooks := .later }
def FnRealPathUpUptoCardSaid : Prop := Claim7.holds Tryd.pinned (.plain (OpenSpec.upto fnRealPathUpSpec)) fnRealPathUpUptoCard
end Rows
end Go.Proofs.YtedjcbjocgkgnaaDoor
