/- Arguments that are read as rows of any kind. -/
import Derived.Deep.Slices
import Derived.Deep.Fields
import Derived.ChangeSame
import Derived.ChangeArms
import Derived.Test.YtckjbgneblfceaaWWords
namespace Go.Proofs.Ytckjbgneblfceaa.Og
open Go.RowKit Go.ChangeShapes Go.WideShapes Go.Deep Go.Proofs.YtckjbgneblfceaaW.PrintWords
set_option linter.unusedVariables false
/-- What the reader takes for a value of type t is one of kind d. -/
def Opens {α : Type} (P : Program) (t : TypeId) (d : Kd α) : Prop :=
  ∀ {H : Type} {enc : TypeId × Value → H} {w : World} {base : Nat} {spare : Nat → Bool} {held : Bool} {n : Nat} {cs : List Value} {y : DataW H × List MemPlace}, DataW.trod enc P w base spare held n t cs = some y → ∃ x, d.K w x cs
variable {P : Program}
theorem opens_int {t : TypeId} {k : IntKind} (ht : P.underlying t = some (.int k)) : Opens P t (Kd.int k) := fun h => by
  obtain ⟨n, rfl, _⟩ := DataW.trod_int ht h
  exact ⟨n, rfl⟩
theorem opens_bool {t : TypeId} (ht : P.underlying t = some .bool) : Opens P t Kd.bool := fun h => by
  obtain ⟨n, rfl, _⟩ := DataW.trod_bool ht h
  exact ⟨n, rfl⟩
theorem opens_string {t : TypeId} (ht : P.underlying t = some .string) : Opens P t Kd.string := fun h => by
  obtain ⟨n, rfl, _⟩ := DataW.trod_string ht h
  exact ⟨n, rfl⟩
theorem choose_row {α : Type} {Q : Nat → α → Prop} : ∀ n : Nat, (∀ i, i < n → ∃ x, Q i x) → ∃ xs : List α, xs.length = n ∧ ∀ i x, xs[i]? = some x → Q i x
  | 0, _ => ⟨[], rfl, fun i x h => by simp at h⟩
  | n + 1, h => by
    obtain ⟨xs, hl, hx⟩ := choose_row n (fun i hi => h i (by omega))
    obtain ⟨y, hy⟩ := h n (by omega)
    refine ⟨xs ++ [y], by simp [hl], fun i x hi => ?_⟩
    by_cases hin : i < n
    · rw [List.getElem?_append_left (by omega)] at hi
      exact hx i x hi
    · rw [List.getElem?_append_right (by omega), hl] at hi
      have : i - n = 0 := by
        rcases Nat.eq_zero_or_pos (i - n) with e | e
        · exact e
        · rw [List.getElem?_eq_none (by simp; omega)] at hi; cases hi
      rw [this] at hi
      simp at hi
      subst hi
      have : i = n := by omega
      subst this
      exact hy
theorem opens_row {α : Type} {t e : TypeId} {d : Kd α} (ht : P.underlying t = some (.slice e)) (hC : P.cellsOf e = d.sz) (he : Opens P e d) {H : Type} {enc : TypeId × Value → H} {w : World} {base : Nat} {spare : Nat → Bool} {held : Bool} {n : Nat} {cs : List Value} {y : DataW H × List MemPlace} (h : DataW.trod enc P w base spare held n t cs = some y) :
    ∃ A m c xs, cs = [.slice A m c] ∧ m ≤ c ∧ d.C w A m xs := by
  rcases open_slice ht h with ⟨rfl, _⟩ | ⟨a, len, cap, m, n, D, Pl, rfl, hb, hl, hm, hmm, hx, hi⟩
  · exact ⟨none, 0, 0, [], rfl, Nat.le_refl _, Kd.C_nil _ _⟩
  · have hlm : len ≤ m := by rw [hmm]; split <;> omega
    obtain ⟨xs, hxl, hxs⟩ := choose_row (Q := fun i x => ∃ c, d.K w x c ∧ c.length = d.sz ∧ ∀ j u, c[j]? = some u → w.cell? (a.add (i * d.sz + j)) = some u) len (fun i hil => by
      obtain ⟨cs', hc, ht'⟩ := hi i (by omega)
      obtain ⟨x, hK⟩ := he ht'
      refine ⟨x, cs', hK, d.K_len hK, fun j u hj => ?_⟩
      obtain ⟨_, hcl, hat⟩ := World.cells?_some hc
      have hjl : j < cs'.length := (List.getElem?_eq_some_iff.1 hj).1
      have := hat j (by omega)
      rw [hC] at this
      rw [← Go.Deep.add_add, this, hj])
    refine ⟨some a, len, cap, xs, rfl, hl, hxl, by unfold maxLen at hm; omega, fun _ => ⟨a, rfl, fun j p hj => ?_⟩⟩
    obtain ⟨c, hK, hcl, hcell⟩ := hxs j p hj
    exact ⟨c, hcl, hK, hcell⟩
theorem opens_slice {α : Type} {t e f : TypeId} {d : Kd α} (ht : P.underlying t = some (.slice e)) (hC : P.cellsOf e = d.sz) (he : Opens P e d) : Opens P t (Kd.slice f d) := fun h => by
  obtain ⟨A, m, c, xs, rfl, hm, hC⟩ := opens_row ht hC he h
  have hl := hC.1
  subst hl
  exact ⟨xs, A, c, rfl, hm, hC⟩
/-- The fields of a struct of one cell each. -/
theorem opens_fields {t : TypeId} {fs : Array Field} (ht : P.underlying t = some (.struct fs)) (hone : oneCellFields P fs = true) (hC : P.cellsOf t = fs.size) {H : Type} {enc : TypeId × Value → H} {w : World} {base : Nat} {spare : Nat → Bool} {held : Bool} {n : Nat} {cs : List Value} {y : DataW H × List MemPlace} (h : DataW.trod enc P w base spare held n t cs = some y) :
    cs.length = fs.size ∧ ∀ (j : Nat) (f : Field), fs[j]? = some f → ∃ v y n', cs[j]? = some v ∧ DataW.trod enc P w base spare held n' f.type [v] = some y := by
  obtain ⟨ys, n', hn', hy, hlen, hyl, hf⟩ := DataW.trod_struct ht h
  refine ⟨by omega, fun j f hj => ?_⟩
  obtain ⟨ho, hk⟩ := hone_of hone j f hj
  have hjl : j < fs.size := (Array.getElem?_eq_some_iff.1 hj).1
  have hv : cs[j]? = some (cs[j]'(by omega)) := List.getElem?_eq_getElem (by omega)
  have h1 := hf j f hj
  rw [ho, hk] at h1
  have hone' : (cs.drop j).take 1 = [cs[j]'(by omega)] := by
    rw [List.drop_eq_getElem_cons (by omega)]
    rfl
  rw [hone'] at h1
  have hys : ys[j]? = some (ys[j]'(by omega)) := List.getElem?_eq_getElem (by omega)
  exact ⟨_, _, _, hv, h1.trans hys⟩
/-- A field of a kind. -/
theorem opens_one {α : Type} {t : TypeId} {d : Kd α} (hd : Opens P t d) {H : Type} {enc : TypeId × Value → H} {w : World} {base : Nat} {spare : Nat → Bool} {held : Bool} {n : Nat} {v : Value} {y : DataW H × List MemPlace} (h : DataW.trod enc P w base spare held n t [v] = some y) : ∃ x, d.K w x [v] := hd h
end Go.Proofs.Ytckjbgneblfceaa.Og
