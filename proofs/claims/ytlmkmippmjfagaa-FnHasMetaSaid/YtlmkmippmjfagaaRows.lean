/-
  No cell of these rows narrows 'for every input' (looked for: loops, veiled, ifaces, maps, wideKeys, modest, calm, conditions, laid).
  DERIVED. THE GIVEN ROWS OF THIS SEAT. 5 by the template 'for every input the law returns true; each argument reads behind the call as it read before'; 0 by the template 'total and deterministic' (their statements: YtlmkmippmjfagaaTotals.lean).
  GIVEN WITH THE SEED: the statements are not yours to turn. If you find one false, say at which input.
  Laid BY PROGRAM, IN A SANDBOX (cutbox-rows.mjs): the forced cells as the released guide's own fill.sh prints them over the translation 62ad49e72e3f88f8… (all of the seat's roots in one cut). By AI agents, Wed Nov 11 2026. No macro, syntax, notation, axiom, sorry.
-/
import Derived.Test.YtlmkmippmjfagaaChecked
import GoSem.Claim
import GoSem.ClaimJoined
import GoSem.ClaimMapViews
import Derived.JoinedTies
import Derived.KernelRfl
namespace Go.Proofs.Ytlmkmippmjfagaa
/- THE CELL 'sum', in the pinned program and in every row, IS THE sha256 OF THE DUMP (.gsa) THAT YtlmkmippmjfagaaProg.lean LOADS. Nothing in Lean hashes anything: it is a label: what it is worth is what the hold of that sum in a sandbox is worth. -/
noncomputable def Try.pinned : Pinned := { name := "ytlmkmippmjfagaa", sum := "62ad49e72e3f88f8862154b3bcc50e2223357ec2154044999aa2721d8291ea87", checked := Try.checked }
namespace Rows
def none {H : Type} : Left H := { results := [], args := [] }

/-- 'laws.FnTimeLaid': WHATEVER THE INPUT: true; the input reads as it did. -/
def fnTimeLaidSpec : ChangeSpec := { name := "fnTimeLaid", fn := fun _ => fun
  | [d] => { results := [.lit (.bool true)], args := [d] }
  | _ => none }
def fnTimeLaidRow : OpenClaim := { program := "ytlmkmippmjfagaa", sum := "62ad49e72e3f88f8862154b3bcc50e2223357ec2154044999aa2721d8291ea87", func := "pub-marram/laws.FnTimeLaid", spec := "fnTimeLaid", apart := false }
def FnTimeLaidSaid : Prop := fnTimeLaidRow.holds Try.pinned (OpenSpec.ofChange fnTimeLaidSpec)

/-- ITS FALSE NEIGHBOUR: 'it returns false'. Refute it at one input. -/
def fnTimeLaidWrong : ChangeSpec := { name := "fnTimeLaid", fn := fun _ => fun
  | [d] => { results := [.lit (.bool false)], args := [d] }
  | _ => none }
def FnTimeLaidWrongFalsely : Prop := fnTimeLaidRow.holds Try.pinned (OpenSpec.ofChange fnTimeLaidWrong)

/-- 'laws.FnTimeOrder': WHATEVER THE INPUT: true; the input reads as it did. -/
def fnTimeOrderSpec : ChangeSpec := { name := "fnTimeOrder", fn := fun _ => fun
  | [d1, d2] => { results := [.lit (.bool true)], args := [d1, d2] }
  | _ => none }
def fnTimeOrderRow : OpenClaim := { program := "ytlmkmippmjfagaa", sum := "62ad49e72e3f88f8862154b3bcc50e2223357ec2154044999aa2721d8291ea87", func := "pub-marram/laws.FnTimeOrder", spec := "fnTimeOrder", apart := false }
def FnTimeOrderSaid : Prop := fnTimeOrderRow.holds Try.pinned (OpenSpec.ofChange fnTimeOrderSpec)

/-- ITS FALSE NEIGHBOUR: 'it returns false'. Refute it at one input. -/
def fnTimeOrderWrong : ChangeSpec := { name := "fnTimeOrder", fn := fun _ => fun
  | [d1, d2] => { results := [.lit (.bool false)], args := [d1, d2] }
  | _ => none }
def FnTimeOrderWrongFalsely : Prop := fnTimeOrderRow.holds Try.pinned (OpenSpec.ofChange fnTimeOrderWrong)

/-- 'laws.FnHasMeta': WHATEVER THE INPUT: true; the input reads as it did. -/
def fnHasMetaSpec : ChangeSpec := { name := "fnHasMeta", fn := fun _ => fun
  | [d] => { results := [.lit (.bool true)], args := [d] }
  | _ => none }
def fnHasMetaRow : OpenClaim := { program := "ytlmkmippmjfagaa", sum := "62ad49e72e3f88f8862154b3bcc50e2223357ec2154044999aa2721d8291ea87", func := "pub-marram/laws.FnHasMeta", spec := "fnHasMeta", apart := false }
def FnHasMetaSaid : Prop := fnHasMetaRow.holds Try.pinned (OpenSpec.ofChange fnHasMetaSpec)

/-- ITS FALSE NEIGHBOUR: 'it returns false'. Refute it at one input. -/
def fnHasMetaWrong : ChangeSpec := { name := "fnHasMeta", fn := fun _ => fun
  | [d] => { results := [.lit (.bool false)], args := [d] }
  | _ => none }
def FnHasMetaWrongFalsely : Prop := fnHasMetaRow.holds Try.pinned (OpenSpec.ofChange fnHasMetaWrong)

/-- 'laws.FnEntryType': WHATEVER THE INPUT: true; the input reads as it did. -/
def fnEntryTypeSpec : ChangeSpec := { name := "fnEntryType", fn := fun _ => fun
  | [d] => { results := [.lit (.bool true)], args := [d] }
  | _ => none }
def fnEntryTypeRow : OpenClaim := { program := "ytlmkmippmjfagaa", sum := "62ad49e72e3f88f8862154b3bcc50e2223357ec2154044999aa2721d8291ea87", func := "pub-marram/laws.FnEntryType", spec := "fnEntryType", apart := false }
def FnEntryTypeSaid : Prop := fnEntryTypeRow.holds Try.pinned (OpenSpec.ofChange fnEntryTypeSpec)

/-- ITS FALSE NEIGHBOUR: 'it returns false'. Refute it at one input. -/
def fnEntryTypeWrong : ChangeSpec := { name := "fnEntryType", fn := fun _ => fun
  | [d] => { results := [.lit (.bool false)], args := [d] }
  | _ => none }
def FnEntryTypeWrongFalsely : Prop := fnEntryTypeRow.holds Try.pinned (OpenSpec.ofChange fnEntryTypeWrong)

/-- 'laws.FnTypeAlone': WHATEVER THE INPUT: true; the input reads as it did. -/
def fnTypeAloneSpec : ChangeSpec := { name := "fnTypeAlone", fn := fun _ => fun
  | [d1, d2] => { results := [.lit (.bool true)], args := [d1, d2] }
  | _ => none }
def fnTypeAloneRow : OpenClaim := { program := "ytlmkmippmjfagaa", sum := "62ad49e72e3f88f8862154b3bcc50e2223357ec2154044999aa2721d8291ea87", func := "pub-marram/laws.FnTypeAlone", spec := "fnTypeAlone", apart := false }
def FnTypeAloneSaid : Prop := fnTypeAloneRow.holds Try.pinned (OpenSpec.ofChange fnTypeAloneSpec)

/-- ITS FALSE NEIGHBOUR: 'it returns false'. Refute it at one input. -/
def fnTypeAloneWrong : ChangeSpec := { name := "fnTypeAlone", fn := fun _ => fun
  | [d1, d2] => { results := [.lit (.bool false)], args := [d1, d2] }
  | _ => none }
def FnTypeAloneWrongFalsely : Prop := fnTypeAloneRow.holds Try.pinned (OpenSpec.ofChange fnTypeAloneWrong)

/- THE SECOND FORM. 'bulk': how many values and letters a reading holds, each counted each time it is reached (what is shared counts as often as it is met; a slice's spare places count too). A statement '..UptoSaid' is the law's where the arguments, and the package variables that the reading takes, are together of bulk at most 1048576: NARROWER than '..Said'. Prove '..Said' where nothing that the law and all that it calls make is longer than what came in: it says more and counts as full. Else prove '..UptoSaid'. A law counts once. -/
mutual
def uptoBulk {H : Type} : DataW H → Nat
  | .lit (.string bytes) => bytes.length + 1
  | .lit _ => 1
  | .nil => 1
  | .ptr d => uptoBulk d + 1
  | .slice elems spare => uptoBulkAll elems + uptoBulkAll spare + 1
  | .agg parts => uptoBulkAll parts + 1
  | .iface _ d => uptoBulk d + 1
  | .map entries => uptoBulkEntries entries + 1
  | .held _ => 1
def uptoBulkAll {H : Type} : List (DataW H) → Nat
  | [] => 0
  | d :: r => uptoBulk d + uptoBulkAll r
def uptoBulkEntries {H : Type} : List (Lit × DataW H) → Nat
  | [] => 0
  | x :: r => uptoBulkEntry x + uptoBulkEntries r
def uptoBulkEntry {H : Type} : Lit × DataW H → Nat
  | (.string bytes, d) => bytes.length + uptoBulk d + 1
  | (_, d) => uptoBulk d + 1
 end
def uptoSmall : (H : Type) → List (DataW H) → Bool := fun _ ds => decide (uptoBulkAll ds ≤ 1048576)
def OpenSpec.upto (s : _root_.Go.ChangeSpec) : _root_.Go.OpenSpec := { _root_.Go.OpenSpec.ofChange s with cond := some uptoSmall }

/-- 'laws.FnTimeLaid', WHERE WHAT IT READS IS OF BULK AT MOST 1048576: true; the input reads as it did. -/
def fnTimeLaidUptoRow : OpenClaim := { program := "ytlmkmippmjfagaa", sum := "62ad49e72e3f88f8862154b3bcc50e2223357ec2154044999aa2721d8291ea87", func := "pub-marram/laws.FnTimeLaid", spec := "fnTimeLaid", apart := false, narrowed := true }
def FnTimeLaidUptoSaid : Prop := fnTimeLaidUptoRow.holds Try.pinned (OpenSpec.upto fnTimeLaidSpec)

/-- 'laws.FnTimeOrder', WHERE WHAT IT READS IS OF BULK AT MOST 1048576: true; the input reads as it did. -/
def fnTimeOrderUptoRow : OpenClaim := { program := "ytlmkmippmjfagaa", sum := "62ad49e72e3f88f8862154b3bcc50e2223357ec2154044999aa2721d8291ea87", func := "pub-marram/laws.FnTimeOrder", spec := "fnTimeOrder", apart := false, narrowed := true }
def FnTimeOrderUptoSaid : Prop := fnTimeOrderUptoRow.holds Try.pinned (OpenSpec.upto fnTimeOrderSpec)

/-- 'laws.FnHasMeta', WHERE WHAT IT READS IS OF BULK AT MOST 1048576: true; the input reads as it did. -/
def fnHasMetaUptoRow : OpenClaim := { program := "ytlmkmippmjfagaa", sum := "62ad49e72e3f88f8862154b3bcc50e2223357ec2154044999aa2721d8291ea87", func := "pub-marram/laws.FnHasMeta", spec := "fnHasMeta", apart := false, narrowed := true }
def FnHasMetaUptoSaid : Prop := fnHasMetaUptoRow.holds Try.pinned (OpenSpec.upto fnHasMetaSpec)

/-- 'laws.FnEntryType', WHERE WHAT IT READS IS OF BULK AT MOST 1048576: true; the input reads as it did. -/
def fnEntryTypeUptoRow : OpenClaim := { program := "ytlmkmippmjfagaa", sum := "62ad49e72e3f88f8862154b3bcc50e2223357ec2154044999aa2721d8291ea87", func := "pub-marram/laws.FnEntryType", spec := "fnEntryType", apart := false, narrowed := true }
def FnEntryTypeUptoSaid : Prop := fnEntryTypeUptoRow.holds Try.pinned (OpenSpec.upto fnEntryTypeSpec)

/-- 'laws.FnTypeAlone', WHERE WHAT IT READS IS OF BULK AT MOST 1048576: true; the input reads as it did. -/
def fnTypeAloneUptoRow : OpenClaim := { program := "ytlmkmippmjfagaa", sum := "62ad49e72e3f88f8862154b3bcc50e2223357ec2154044999aa2721d8291ea87", func := "pub-marram/laws.FnTypeAlone", spec := "fnTypeAlone", apart := false, narrowed := true }
def FnTypeAloneUptoSaid : Prop := fnTypeAloneUptoRow.holds Try.pinned (OpenSpec.upto fnTypeAloneSpec)

end Rows
end Go.Proofs.Ytlmkmippmjfagaa
