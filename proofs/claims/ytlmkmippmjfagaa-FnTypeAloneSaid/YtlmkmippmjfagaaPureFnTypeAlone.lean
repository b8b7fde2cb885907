/- Proved: for every mode and all bits, FnTypeAlone answers true (the type of an entry hangs on the type bits of the mode alone). -/
import Derived.Test.YtlmkmippmjfagaaPFnTypeAlonex1
namespace Go.Proofs.Ytlmkmippmjfagaa.Pure
open Go.RowKit Go.Proofs.Ytlmkmippmjfagaa.PFnTypeAlone Go.Proofs.YtlmkmippmjfagaaW.PrintWords Go.Proofs.YtlmkmippmjfagaaW.PrintLast

open Go in
theorem ofInt_wrap (v : BitVec 16) : BitVec.ofInt 16 (IntKind.u16.wrap v.toNat) = v := by
  have : IntKind.u16.wrap (v.toNat : Int) = (v.toNat : Int) := by
    simp [IntKind.wrap, IntKind.bits, IntKind.signed]
    have := v.isLt
    omega
  rw [this]; simp
open Go in
theorem bits16 (op : BinOp) (x y : Int) : Go.bits op .u16 x y = IntKind.u16.wrap (match op with
    | .and => BitVec.ofInt 16 x &&& BitVec.ofInt 16 y
    | .or => BitVec.ofInt 16 x ||| BitVec.ofInt 16 y
    | .xor => BitVec.ofInt 16 x ^^^ BitVec.ofInt 16 y
    | _ => BitVec.ofInt 16 x &&& ~~~ BitVec.ofInt 16 y).toNat := rfl
open Go in
theorem and_or_mask (a b : Int) : Go.bits .and .u16 (Go.bits .or .u16 (Go.bits .and .u16 a 61440) (Go.bits .andNot .u16 b 61440)) 61440 = Go.bits .and .u16 a 61440 := by
  simp only [bits16, ofInt_wrap]
  congr 3
  generalize BitVec.ofInt 16 a = x
  generalize BitVec.ofInt 16 b = y
  generalize BitVec.ofInt 16 61440 = z
  ext i hi
  simp only [BitVec.getElem_and, BitVec.getElem_or, BitVec.getElem_not]
  cases x[i] <;> cases y[i] <;> cases z[i] <;> rfl

/-- YOURS: ∀ (a0 : Int) (a1 : Int), (Lit.int .u16 a0).wf = true → (Lit.int .u16 a1).wf = true → laws_FnTypeAlone.f a0 a1 = some true
What it reaches (each with k first where it has rounds; `.mono`: more rounds tell the same; `.l0`, ..: its loops, with `.mono_l`): spec_kindOf.f, spec_TypeOf.f, compactext4_modeToFileType.f, compactext4_DoorType.f, impl_ModeToType.f, laws_FnTypeAlone.f -/
theorem FnTypeAlone : laws_FnTypeAlone.Pure := by
  intro a b _ _
  unfold laws_FnTypeAlone.f spec_TypeOf.f impl_ModeToType.f compactext4_DoorType.f compactext4_modeToFileType.f spec_kindOf.f
  rw [and_or_mask]
  generalize Go.bits .and .u16 a 61440 = m
  repeat' split
  all_goals simp_all

end Go.Proofs.Ytlmkmippmjfagaa.Pure
