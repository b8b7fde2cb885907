/-
  DERIVED. GIVEN WITH THE SEED: THE CARDS: each row of YtlmkmippmjfagaaDoorRows.lean that lists a variable, with what it lists TIED to the program's text (the seventh form; the later family's looks); each row that meets fmt, with fmt's text TOLD by the authors' own Lean function (tested against real Go, not proved from fmt's source: count such statements apart). THE CARD IS WHAT COUNTS. Prove the row's statement (the work); the ties are given (YtlmkmippmjfagaaDoorTie.lean); close each card by the builder's one call (the guide's Derived/Test/ToyasCard.lean, 'card_holds'). Laid BY PROGRAM, IN A SANDBOX (cutbox-door.mjs). By AI agents, Wed Nov 11 2026. No macro, syntax, notation, axiom, sorry.
-/
import Derived.Test.YtlmkmippmjfagaaDoorRows
import GoSem.ClaimSeven
namespace Go.Proofs.YtlmkmippmjfagaaDoor
namespace Rows

/-- THE TIED CARD OF 'laws.FnNameJoined'. -/
def fnNameJoinedCard : Claim7 := { stood := { row := fnNameJoinedRow, standIns := [], harness := (true, "885f8c4f4c50e2086dc9f1f13ff07a5193851048c1944fafaccc4eca82cf3a2e"), looks := false }, kinds := [], alts := [], laidByText := true, laidKinds := [.data], laidTests := true, laidLooks := .later }
def FnNameJoinedCardSaid : Prop := Claim7.holds Tryd.pinned (.plain (OpenSpec.ofChange fnNameJoinedSpec)) fnNameJoinedCard

/-- THE SECOND FORM's CARD OF 'laws.FnNameJoined'. -/
def fnNameJoinedUptoCard : Claim7 := { stood := { row := fnNameJoinedUptoRow, standIns := [], harness := (true, "885f8c4f4c50e2086dc9f1f13ff07a5193851048c1944fafaccc4eca82cf3a2e"), looks := false }, kinds := [], alts := [], laidByText := true, laidKinds := [.data], laidTests := true, laidLooks := .later }
def FnNameJoinedUptoCardSaid : Prop := Claim7.holds Tryd.pinned (.plain (OpenSpec.upto fnNameJoinedSpec)) fnNameJoinedUptoCard
end Rows
end Go.Proofs.YtlmkmippmjfagaaDoor
