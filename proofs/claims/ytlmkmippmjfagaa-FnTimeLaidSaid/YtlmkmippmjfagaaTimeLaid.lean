/- Proved: for every time FnTimeLaid answers true: it is laid as the reference lays it (34 bits of seconds, then nanoseconds; none is 0; one behind the last second is that second), or it is outside what the statement speaks of. -/
import Derived.Test.YtlmkmippmjfagaaRows
import Derived.Test.YtlmkmippmjfagaaAdapter
import Derived.Test.YtlmkmippmjfagaaPFnTimeLaidx1
import Derived.Lib.SmallJoins
namespace Go.Proofs.Ytlmkmippmjfagaa.Tl
open Go.RowKit Go.Joins
open Go.Proofs.Ytlmkmippmjfagaa.PFnTimeLaid
theorem pure (b : Bool) (s n : Int) : ∃ k, laws_FnTimeLaid.f k b s n = some true := by
  refine ⟨1, ?_⟩
  have hT : laws_FnTimeLaid.j0 1 true b s n = some true := rfl
  unfold laws_FnTimeLaid.f
  have hF : (b = true → 0 ≤ s) → laws_FnTimeLaid.j0 1 false b s n = some true := by
    intro h0
    show laws_FnTimeLaid.j0 (0 + 1) false b s n = some true
    rw [laws_FnTimeLaid.j0]
    unfold spec_Laid.f impl_TimeToFs.f impl_toTime.f compactext4_DoorTimeToFs.f compactext4_timeToFsTime.f
    cases b with
    | false =>
      simp only [Bool.false_eq_true, if_false, Option.bind_some]
      exact congrArg some (by decide +kernel)
    | true =>
      have h0' := h0 rfl
      simp only [Bool.false_eq_true, if_false, if_true, Option.bind_some]
      rw [if_neg (show ¬ s < -2147483648 by omega)]
      by_cases h1 : s > 15032385535
      · rw [if_pos h1, if_pos h1]
        simp only [Option.bind_some]
        exact congrArg some (by decide +kernel)
      · rw [if_neg h1, if_neg h1]
        simp
  by_cases hb : b = true
  · rw [if_pos hb]
    by_cases h0 : s < 0
    · rw [if_pos h0]; exact hT
    · rw [if_neg h0]
      by_cases h1 : n < 0
      · rw [if_pos h1]; exact hT
      · rw [if_neg h1]
        by_cases h2 : n ≥ 1000000000
        · rw [decide_eq_true h2]; exact hT
        · rw [decide_eq_false h2]; exact hF (fun _ => by omega)
  · rw [if_neg hb]; exact hF (fun h => absurd h hb)

open Go.ChangeShapes Go.WideShapes Go.ChangeAt
theorem own : ownKnob Try.prog.godebug = none := by kernel_rfl
theorem laidOut : laidOutB Try.prog = true := by kernel_rfl
theorem readable3 : ∀ t ∈ Try.f3.params.toList, Try.prog.readableRec t = true ∧ t < Try.prog.types.size := by
  have h : (Try.f3.params.toList.all fun t => Try.prog.readableRec t && decide (t < Try.prog.types.size)) = true := by kernel_rfl
  intro t ht
  have := List.all_eq_true.1 h t ht
  simpa using this
set_option maxRecDepth 100000 in
theorem lifted (os : Os) (started : os.Started) (H : Type) (enc : TypeId × Value → H) :
    ReturnsInHanded {} Try.checked os 3 .any (Rows.fnTimeLaidSpec.pre6 enc Try.prog Try.f3 Rows.fnTimeLaidRow.domain false) (Rows.fnTimeLaidSpec.post enc Try.prog Try.f3 false true false false) := by
  refine Adapter.law_lifted (C := Try.checked) own started (by kernel_rfl) Try.func3
    (ChangeSpec.witness6 (enc := enc) (C := Try.checked) false ⟨#[], #[.agg #[.bool false, .int .i64 0, .int .i64 0]], []⟩ 8 (by kernel_rfl) (by kernel_rfl) (by kernel_rfl) (by kernel_rfl))
    laidOut readable3 (tb := 4) (by kernel_rfl) (by kernel_rfl) rfl ?_ ?_
  · intro ds hds
    rw [show Try.f3.params.size = 1 from by kernel_rfl] at hds
    match ds, hds with
    | [d1], _ => rfl
  · intro W base args ds p hval hA _ _
    rw [Try.params3] at hA hval
    obtain ⟨v0, vs0, d0, ds0, p0, q0, hargs, rfl, rfl, h0, r0⟩ := trodAll_cons hA
    obtain ⟨rfl, rfl, rfl⟩ := trodAll_nil r0
    obtain rfl : args = #[v0] := by cases args; simp_all
    obtain ⟨c0, c1, c2, y0, y1, y2, m, rfl, rfl, rfl, hy0, hy1, hy2⟩ := open_agg3 Try.underlying23 (by kernel_rfl) (by kernel_rfl) (hval 0 23 v0 rfl rfl) h0
    obtain ⟨b, e0, rfl⟩ := DataW.trod_bool Try.underlying4 hy0
    obtain ⟨s, e1, rfl, ws⟩ := DataW.trod_int Try.underlying2 hy1
    obtain ⟨n, e2, rfl, wn⟩ := DataW.trod_int Try.underlying3 hy2
    simp only [List.cons.injEq, and_true] at e0 e1 e2
    subst e0 e1 e2
    obtain ⟨k, hk⟩ := pure b s n
    exact PFnTimeLaid.laws_FnTimeLaid.calls k b s n true W hk
theorem over : Rows.fnTimeLaidRow.holds Try.pinned (OpenSpec.ofChange Rows.fnTimeLaidSpec) :=
  OpenClaim.holds_of_wide 3 Try.f3 rfl rfl rfl rfl rfl rfl rfl ⟨rfl, rfl, rfl, rfl, rfl⟩ rfl rfl rfl rfl rfl (by kernel_rfl) Try.func3 (by kernel_rfl)
    (of_decide_eq_true (by kernel_rfl)) (by unfold Func.isWrapper; first | (rw [if_pos (by decide +kernel)]; kernel_rfl) | (rw [if_neg (by decide +kernel)]; exact ⟨rfl, rfl⟩))
    (fun os started H enc _ => lifted os started H enc)
theorem holds : Rows.FnTimeLaidSaid := over
#print axioms holds
end Go.Proofs.Ytlmkmippmjfagaa.Tl
