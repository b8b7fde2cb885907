/- Proved: for all entries of two directories FnMergeDirs answers true: what is told of a directory that two file systems have is what the reference tells. No condition. -/
import Derived.Test.YtckjbgneblfceaaRows
import Derived.Test.YtckjbgneblfceaaAdapter
import Derived.OpenShut
import Derived.ChangeSlices
import Derived.Lib.SmallJoins
import Derived.Laws.Rows
import Derived.Test.YtckjbgneblfceaaOg
import Derived.Test.YtckjbgneblfceaaMz
namespace Go.Proofs.Ytckjbgneblfceaa.Mrg
open Go.RowKit Go.Proofs.YtckjbgneblfceaaW.PrintWords Go.Proofs.YtckjbgneblfceaaW.PrintLast Go.Proofs.YtckjbgneblfceaaW.PrintMore Go.Proofs.Ytckjbgneblfceaa.Ma Go.Proofs.Ytckjbgneblfceaa.PFnMergeDirs
set_option linter.unusedVariables false
set_option linter.unusedSimpArgs false
set_option maxRecDepth 100000
open Go.ChangeShapes Go.WideShapes
def inR (x : S30) : Prop := -9223372036854775808 ≤ x.f1 ∧ x.f1 < 9223372036854775808
/-- An entry whose mode is a number of 64 bits. -/
def kS : Kd S30 where
  sz := k30.sz
  E := k30.E
  K := fun w x cs => k30.K w x cs ∧ inR x
  M := fun w b ok x cs => k30.M w b ok x cs ∧ inR x
  K_len := fun h => k30.K_len h.1
  K_one := fun h => k30.K_one h.1
  K_below := fun hb h => ⟨k30.K_below hb h.1, h.2⟩
  K_of_M := fun h => ⟨k30.K_of_M h.1, h.2⟩
  M_mono := fun hk h => ⟨k30.M_mono hk h.1, h.2⟩
  M_bound := fun h => ⟨k30.M_bound h.1, h.2⟩
  M_move := fun hm h => ⟨k30.M_move hm h.1, h.2⟩
  M_lower := fun hb h => ⟨k30.M_lower hb h.1, h.2⟩
theorem wf_in (x : Int) (h : (Lit.int .i64 x).wf = true) : -9223372036854775808 ≤ x ∧ x < 9223372036854775808 := by
  have h1 : -9223372036854775808 ≤ x ∧ x ≤ 9223372036854775807 := by simpa [Lit.wf, IntKind.min, IntKind.max, IntKind.bits, IntKind.signed] using h
  omega
theorem rangeS {w : World} {A : Option Addr} {n : Nat} {l : List S30} (h : kS.C w A n l) : ∀ x ∈ l, -9223372036854775808 ≤ x.f1 ∧ x.f1 < 9223372036854775808 := by
  intro x hx
  obtain ⟨i, hi⟩ := List.getElem?_of_mem hx
  have hl : l.length = n := Kd.C_len h
  have hlt := (List.getElem?_eq_some_iff.1 hi).1
  obtain ⟨ad, c, _, _, hK, _⟩ := Kd.C_get h z30 (i : Int) (by omega) (by omega)
  rw [Int.toNat_natCast, List.getD_eq_getElem?_getD, hi] at hK
  exact hK.2
theorem plainS {w : World} {A : Option Addr} {n : Nat} {l : List S30} (h : kS.C w A n l) : k30.C w A n l := Kd.C_imp (d := kS) (d' := k30) rfl (fun _ _ _ hh => hh.1) h
theorem opensW {H : Type} {enc : TypeId × Value → H} {w : World} {base : Nat} {spare : Nat → Bool} {held : Bool} {n : Nat} {cs : List Value} {y : DataW H × List MemPlace} (h : DataW.trod enc Try.prog w base spare held n 3 cs = some y) : ∃ x : Int, cs = [.int .i64 x] ∧ (-9223372036854775808 ≤ x ∧ x < 9223372036854775808) := by
  obtain ⟨x, hx, _, hw⟩ := DataW.trod_int Try.underlying3 h
  exact ⟨x, hx, wf_in x hw⟩
theorem opens30 : Og.Opens Try.prog 30 kS := fun {H enc w base spare held n cs y} h => by
  obtain ⟨hl, hf⟩ := Og.opens_fields Try.underlying30 (by kernel_rfl) (by kernel_rfl) h
  match cs, hl with
  | [c0, c1, c2, c3, c4], _ =>
    obtain ⟨v0, y0, n0, e0, t0⟩ := hf 0 _ rfl
    obtain rfl : c0 = v0 := Option.some.inj e0
    obtain ⟨x0, k0⟩ := Og.opens_string Try.underlying9 t0
    have k0' := (List.cons.inj k0).1
    subst k0'
    obtain ⟨v1, y1, n1, e1, t1⟩ := hf 1 _ rfl
    obtain rfl : c1 = v1 := Option.some.inj e1
    obtain ⟨x1, k1, r1⟩ := opensW t1
    have k1' := (List.cons.inj k1).1
    subst k1'
    obtain ⟨v2, y2, n2, e2, t2⟩ := hf 2 _ rfl
    obtain rfl : c2 = v2 := Option.some.inj e2
    obtain ⟨x2, k2⟩ := Og.opens_bool Try.underlying4 t2
    have k2' := (List.cons.inj k2).1
    subst k2'
    obtain ⟨v3, y3, n3, e3, t3⟩ := hf 3 _ rfl
    obtain rfl : c3 = v3 := Option.some.inj e3
    obtain ⟨A3, m3, d3, x3, z3, l3, g3⟩ := Og.opens_row Try.underlying28 (by kernel_rfl) (Og.opens_int Try.underlying5) t3
    have z3' := (List.cons.inj z3).1
    subst z3'
    have q3 := g3.1
    subst q3
    obtain ⟨v4, y4, n4, e4, t4⟩ := hf 4 _ rfl
    obtain rfl : c4 = v4 := Option.some.inj e4
    obtain ⟨x4, k4⟩ := Og.opens_int Try.underlying2 t4
    have k4' := (List.cons.inj k4).1
    subst k4'
    exact ⟨⟨x0, x1, x2, x3, x4⟩, k30_mk w ⟨x0, x1, x2, x3, x4⟩ l3 g3, r1⟩

open Go.ChangeShapes Go.WideShapes Go.ChangeAt
theorem own : ownKnob Try.prog.godebug = none := by kernel_rfl
theorem laidOut : laidOutB Try.prog = true := by kernel_rfl
theorem readable3 : ∀ t ∈ Try.f3.params.toList, Try.prog.readableRec t = true ∧ t < Try.prog.types.size := by
  have h : (Try.f3.params.toList.all fun t => Try.prog.readableRec t && decide (t < Try.prog.types.size)) = true := by kernel_rfl
  intro t ht
  have := List.all_eq_true.1 h t ht
  simpa using this
set_option maxRecDepth 100000 in
theorem lifted (os : Os) (started : os.Started) (H : Type) (enc : TypeId × Value → H) :
    ReturnsInHanded {} Try.checked os 3 .any (Rows.fnMergeDirsSpec.pre6 enc Try.prog Try.f3 Rows.fnMergeDirsRow.domain false) (Rows.fnMergeDirsSpec.post enc Try.prog Try.f3 false true false false) := by
  refine Adapter.law_lifted (C := Try.checked) own started (by kernel_rfl) Try.func3
    (ChangeSpec.witness6 (enc := enc) (C := Try.checked) false ⟨#[], #[.slice none 0 0, .slice none 0 0], []⟩ 8 (by kernel_rfl) (by kernel_rfl) (by kernel_rfl) (by kernel_rfl))
    laidOut readable3 (tb := 4) (by kernel_rfl) (by kernel_rfl) rfl ?_ ?_
  · intro ds hds
    rw [show Try.f3.params.size = 2 from by kernel_rfl] at hds
    match ds, hds with
    | [d1, d2], _ => rfl
  · intro W base args ds p hval hA _ _
    rw [Try.params3] at hA hval
    obtain ⟨v0, vs0, d0, ds0, p0, q0, hargs, rfl, rfl, h0, r0⟩ := trodAll_cons hA
    obtain ⟨v1, vs1, d1, ds1, p1, q1, rfl, rfl, rfl, h1, r1⟩ := trodAll_cons r0
    obtain ⟨rfl, rfl, rfl⟩ := trodAll_nil r1
    obtain rfl : args = #[v0, v1] := by cases args; simp_all
    obtain ⟨l0, A0, n0, c0, rfl, hC0, hn0⟩ : ∃ l A n c, v0 = .slice A n c ∧ Kd.C kS W A n l ∧ n ≤ c := by
      obtain ⟨a0, len, cap, rfl⟩ := okWide_slice Try.underlying22 (hval 0 22 v0 rfl rfl)
      obtain ⟨fuel, hf⟩ := h0
      obtain ⟨A, m, c, l, hcs, hl, hC⟩ := Og.opens_row Try.underlying22 (by kernel_rfl) opens30 hf
      simp [Value.cells] at hcs
      obtain ⟨rfl, rfl, rfl⟩ := hcs
      exact ⟨l, _, _, _, rfl, hC, hl⟩
    obtain ⟨l1, A1, n1, c1, rfl, hC1, hn1⟩ : ∃ l A n c, v1 = .slice A n c ∧ Kd.C kS W A n l ∧ n ≤ c := by
      obtain ⟨a0, len, cap, rfl⟩ := okWide_slice Try.underlying22 (hval 1 22 v1 rfl rfl)
      obtain ⟨fuel, hf⟩ := h1
      obtain ⟨A, m, c, l, hcs, hl, hC⟩ := Og.opens_row Try.underlying22 (by kernel_rfl) opens30 hf
      simp [Value.cells] at hcs
      obtain ⟨rfl, rfl, rfl⟩ := hcs
      exact ⟨l, _, _, _, rfl, hC, hl⟩
    exact law3 A0 n0 c0 l0 A1 n1 c1 l1 W (plainS hC0) hn0 (plainS hC1) hn1 (rangeS hC0) (rangeS hC1)

theorem over : Rows.fnMergeDirsRow.holds Try.pinned (OpenSpec.ofChange Rows.fnMergeDirsSpec) :=
  OpenClaim.holds_of_wide 3 Try.f3 rfl rfl rfl rfl rfl rfl rfl ⟨rfl, rfl, rfl, rfl, rfl⟩ rfl rfl rfl rfl rfl (by kernel_rfl) Try.func3 (by kernel_rfl)
    (of_decide_eq_true (by kernel_rfl)) (by unfold Func.isWrapper; first | (rw [if_pos (by decide +kernel)]; kernel_rfl) | (rw [if_neg (by decide +kernel)]; exact ⟨rfl, rfl⟩))
    (fun os started H enc _ => lifted os started H enc)
theorem holds : Rows.FnMergeDirsSaid := over
end Go.Proofs.Ytckjbgneblfceaa.Mrg
