/- Proved: for every mode, FnEntryType answers true (the type that a directory gives an entry is the reference's, or the mode has none of the seven types). -/
import Derived.Test.YtlmkmippmjfagaaPFnEntryTypex1
namespace Go.Proofs.Ytlmkmippmjfagaa.Pure
open Go.RowKit Go.Proofs.Ytlmkmippmjfagaa.PFnEntryType Go.Proofs.YtlmkmippmjfagaaW.PrintWords Go.Proofs.YtlmkmippmjfagaaW.PrintLast

/-- YOURS: ∀ (a0 : Int), (Lit.int .u16 a0).wf = true → laws_FnEntryType.f a0 = some true
What it reaches (each with k first where it has rounds; `.mono`: more rounds tell the same; `.l0`, ..: its loops, with `.mono_l`): spec_kindOf.f, spec_TypeOf.f, compactext4_modeToFileType.f, compactext4_DoorType.f, impl_ModeToType.f, laws_FnEntryType.f -/
theorem FnEntryType : laws_FnEntryType.Pure := by
  intro a _
  unfold laws_FnEntryType.f spec_TypeOf.f impl_ModeToType.f compactext4_DoorType.f compactext4_modeToFileType.f spec_kindOf.f
  generalize Go.bits .and .u16 a 61440 = m
  repeat' split
  all_goals simp_all [IntKind.wrap, IntKind.bits, IntKind.signed]

end Go.Proofs.Ytlmkmippmjfagaa.Pure
