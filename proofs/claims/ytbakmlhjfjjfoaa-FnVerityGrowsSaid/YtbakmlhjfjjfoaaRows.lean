/-
  No cell of these rows narrows 'for every input' (looked for: loops, veiled, ifaces, maps, wideKeys, modest, calm, conditions, laid).
  DERIVED. THE GIVEN ROWS OF THIS SEAT. 3 by the template 'for every input the law returns true; each argument reads behind the call as it read before'; 0 by the template 'total and deterministic' (their statements: YtbakmlhjfjjfoaaTotals.lean).
  GIVEN WITH THE SEED: the statements are not yours to turn. If you find one false, say at which input.
  Laid BY PROGRAM, IN A SANDBOX (cutbox-rows.mjs): the forced cells as the released guide's own fill.sh prints them over the translation cdacf39e09e9eb4d… (all of the seat's roots in one cut). By AI agents, Wed Nov 11 2026. No macro, syntax, notation, axiom, sorry.
-/
import Derived.Test.YtbakmlhjfjjfoaaChecked
import GoSem.Claim
import GoSem.ClaimJoined
import GoSem.ClaimMapViews
import Derived.JoinedTies
import Derived.KernelRfl
namespace Go.Proofs.Ytbakmlhjfjjfoaa
/- THE CELL 'sum', in the pinned program and in every row, IS THE sha256 OF THE DUMP (.gsa) THAT YtbakmlhjfjjfoaaProg.lean LOADS. Nothing in Lean hashes anything: it is a label: what it is worth is what the hold of that sum in a sandbox is worth. -/
noncomputable def Try.pinned : Pinned := { name := "ytbakmlhjfjjfoaa", sum := "cdacf39e09e9eb4dc5dfb2898451612b9346a0eb8e64fd26ca2b3fce6978c84a", checked := Try.checked }
namespace Rows
def none {H : Type} : Left H := { results := [], args := [] }

/-- 'laws.FnGroupsHold': WHATEVER THE INPUT: true; the input reads as it did. -/
def fnGroupsHoldSpec : ChangeSpec := { name := "fnGroupsHold", fn := fun _ => fun
  | [d1, d2] => { results := [.lit (.bool true)], args := [d1, d2] }
  | _ => none }
def fnGroupsHoldRow : OpenClaim := { program := "ytbakmlhjfjjfoaa", sum := "cdacf39e09e9eb4dc5dfb2898451612b9346a0eb8e64fd26ca2b3fce6978c84a", func := "pub-marram/laws.FnGroupsHold", spec := "fnGroupsHold", apart := false }
def FnGroupsHoldSaid : Prop := fnGroupsHoldRow.holds Try.pinned (OpenSpec.ofChange fnGroupsHoldSpec)

/-- ITS FALSE NEIGHBOUR: 'it returns false'. Refute it at one input. -/
def fnGroupsHoldWrong : ChangeSpec := { name := "fnGroupsHold", fn := fun _ => fun
  | [d1, d2] => { results := [.lit (.bool false)], args := [d1, d2] }
  | _ => none }
def FnGroupsHoldWrongFalsely : Prop := fnGroupsHoldRow.holds Try.pinned (OpenSpec.ofChange fnGroupsHoldWrong)

/-- 'laws.FnVhdSum': WHATEVER THE INPUT: true; the input reads as it did. -/
def fnVhdSumSpec : ChangeSpec := { name := "fnVhdSum", fn := fun _ => fun
  | [d1, d2, d3] => { results := [.lit (.bool true)], args := [d1, d2, d3] }
  | _ => none }
def fnVhdSumRow : OpenClaim := { program := "ytbakmlhjfjjfoaa", sum := "cdacf39e09e9eb4dc5dfb2898451612b9346a0eb8e64fd26ca2b3fce6978c84a", func := "pub-marram/laws.FnVhdSum", spec := "fnVhdSum", apart := false }
def FnVhdSumSaid : Prop := fnVhdSumRow.holds Try.pinned (OpenSpec.ofChange fnVhdSumSpec)

/-- ITS FALSE NEIGHBOUR: 'it returns false'. Refute it at one input. -/
def fnVhdSumWrong : ChangeSpec := { name := "fnVhdSum", fn := fun _ => fun
  | [d1, d2, d3] => { results := [.lit (.bool false)], args := [d1, d2, d3] }
  | _ => none }
def FnVhdSumWrongFalsely : Prop := fnVhdSumRow.holds Try.pinned (OpenSpec.ofChange fnVhdSumWrong)

/-- 'laws.FnVerityGrows': WHATEVER THE INPUT: true; the input reads as it did. -/
def fnVerityGrowsSpec : ChangeSpec := { name := "fnVerityGrows", fn := fun _ => fun
  | [d1, d2, d3] => { results := [.lit (.bool true)], args := [d1, d2, d3] }
  | _ => none }
def fnVerityGrowsRow : OpenClaim := { program := "ytbakmlhjfjjfoaa", sum := "cdacf39e09e9eb4dc5dfb2898451612b9346a0eb8e64fd26ca2b3fce6978c84a", func := "pub-marram/laws.FnVerityGrows", spec := "fnVerityGrows", unfollowed := true, recurses := true, apart := false }
def FnVerityGrowsSaid : Prop := fnVerityGrowsRow.holds Try.pinned (OpenSpec.ofChange fnVerityGrowsSpec)

/-- ITS FALSE NEIGHBOUR: 'it returns false'. Refute it at one input. -/
def fnVerityGrowsWrong : ChangeSpec := { name := "fnVerityGrows", fn := fun _ => fun
  | [d1, d2, d3] => { results := [.lit (.bool false)], args := [d1, d2, d3] }
  | _ => none }
def FnVerityGrowsWrongFalsely : Prop := fnVerityGrowsRow.holds Try.pinned (OpenSpec.ofChange fnVerityGrowsWrong)

/- THE SECOND FORM. 'bulk': how many values and letters a reading holds, each counted each time it is reached (what is shared counts as often as it is met; a slice's spare places count too). A statement '..UptoSaid' is the law's where the arguments, and the package variables that the reading takes, are together of bulk at most 1048576: NARROWER than '..Said'. Prove '..Said' where nothing that the law and all that it calls make is longer than what came in: it says more and counts as full. Else prove '..UptoSaid'. A law counts once. -/
mutual
def uptoBulk {H : Type} : DataW H → Nat
  | .lit (.string bytes) => bytes.length + 1
  | .lit _ => 1
  | .nil => 1
  | .ptr d => uptoBulk d + 1
  | .slice elems spare => uptoBulkAll elems + uptoBulkAll spare + 1
  | .agg parts => uptoBulkAll parts + 1
  | .iface _ d => uptoBulk d + 1
  | .map entries => uptoBulkEntries entries + 1
  | .held _ => 1
def uptoBulkAll {H : Type} : List (DataW H) → Nat
  | [] => 0
  | d :: r => uptoBulk d + uptoBulkAll r
def uptoBulkEntries {H : Type} : List (Lit × DataW H) → Nat
  | [] => 0
  | x :: r => uptoBulkEntry x + uptoBulkEntries r
def uptoBulkEntry {H : Type} : Lit × DataW H → Nat
  | (.string bytes, d) => bytes.length + uptoBulk d + 1
  | (_, d) => uptoBulk d + 1
 end
def uptoSmall : (H : Type) → List (DataW H) → Bool := fun _ ds => decide (uptoBulkAll ds ≤ 1048576)
def OpenSpec.upto (s : _root_.Go.ChangeSpec) : _root_.Go.OpenSpec := { _root_.Go.OpenSpec.ofChange s with cond := some uptoSmall }

/-- 'laws.FnGroupsHold', WHERE WHAT IT READS IS OF BULK AT MOST 1048576: true; the input reads as it did. -/
def fnGroupsHoldUptoRow : OpenClaim := { program := "ytbakmlhjfjjfoaa", sum := "cdacf39e09e9eb4dc5dfb2898451612b9346a0eb8e64fd26ca2b3fce6978c84a", func := "pub-marram/laws.FnGroupsHold", spec := "fnGroupsHold", apart := false, narrowed := true }
def FnGroupsHoldUptoSaid : Prop := fnGroupsHoldUptoRow.holds Try.pinned (OpenSpec.upto fnGroupsHoldSpec)

/-- 'laws.FnVhdSum', WHERE WHAT IT READS IS OF BULK AT MOST 1048576: true; the input reads as it did. -/
def fnVhdSumUptoRow : OpenClaim := { program := "ytbakmlhjfjjfoaa", sum := "cdacf39e09e9eb4dc5dfb2898451612b9346a0eb8e64fd26ca2b3fce6978c84a", func := "pub-marram/laws.FnVhdSum", spec := "fnVhdSum", apart := false, narrowed := true }
def FnVhdSumUptoSaid : Prop := fnVhdSumUptoRow.holds Try.pinned (OpenSpec.upto fnVhdSumSpec)

/-- 'laws.FnVerityGrows', WHERE WHAT IT READS IS OF BULK AT MOST 1048576: true; the input reads as it did. -/
def fnVerityGrowsUptoRow : OpenClaim := { program := "ytbakmlhjfjjfoaa", sum := "cdacf39e09e9eb4dc5dfb2898451612b9346a0eb8e64fd26ca2b3fce6978c84a", func := "pub-marram/laws.FnVerityGrows", spec := "fnVerityGrows", unfollowed := true, recurses := true, apart := false, narrowed := true }
def FnVerityGrowsUptoSaid : Prop := fnVerityGrowsUptoRow.holds Try.pinned (OpenSpec.upto fnVerityGrowsSpec)

end Rows
end Go.Proofs.Ytbakmlhjfjjfoaa
