/- What the reference says of two directories woven. -/
import Derived.Test.YtckjbgneblfceaaMe
namespace Go.Proofs.Ytckjbgneblfceaa.Ma
open Go.RowKit Go.Maps Go.Proofs.YtckjbgneblfceaaW.PrintWords Go.Proofs.YtckjbgneblfceaaW.PrintLast Go.Proofs.YtckjbgneblfceaaW.PrintMore
open Go.Proofs.Ytckjbgneblfceaa.PFnMergeDirs
set_option linter.unusedVariables false
set_option linter.unusedSimpArgs false
def ks (z : S35) : List UInt8 := z.f0.toList
/-- An info laid into a row in its place. -/
def toldL (y : S35) : Bool → List S35 → List S35
  | done, [] => if done = true then [] else [y]
  | done, z :: r => (if done = true then [] else if Op.bytesLess (ks z) (ks y) = true then [] else [y]) ++ (if ks z = ks y then [] else [z]) ++ toldL y (if done = true then true else !(Op.bytesLess (ks z) (ks y))) r
theorem toldL_lt (y z : S35) (r : List S35) (h : Op.bytesLess (ks z) (ks y) = true) (hne : ks z ≠ ks y) : toldL y false (z :: r) = z :: toldL y false r := by
  rw [toldL]
  simp [h, hne]
theorem toldL_eq (y z : S35) (r : List S35) (h : Op.bytesLess (ks z) (ks y) = false) (he : ks z = ks y) : toldL y false (z :: r) = y :: toldL y true r := by
  rw [toldL]
  simp only [Bool.false_eq_true, if_false, h, if_pos he]
  rfl
theorem toldL_gt (y z : S35) (r : List S35) (h : Op.bytesLess (ks z) (ks y) = false) (he : ks z ≠ ks y) : toldL y false (z :: r) = y :: z :: toldL y true r := by
  rw [toldL]
  simp only [Bool.false_eq_true, if_false, h, if_neg he]
  rfl
theorem toldL_te (y z : S35) (r : List S35) (he : ks z = ks y) : toldL y true (z :: r) = toldL y true r := by
  rw [toldL]
  simp [he]
theorem toldL_tn (y z : S35) (r : List S35) (he : ks z ≠ ks y) : toldL y true (z :: r) = z :: toldL y true r := by
  rw [toldL]
  simp [he]
theorem toldL_true (y : S35) : ∀ r : List S35, toldL y true r = r.filter (fun z => decide (ks z ≠ ks y))
  | [] => rfl
  | z :: r => by
    rw [toldL, if_pos rfl, if_pos rfl, toldL_true y r]
    by_cases h : ks z = ks y
    · simp [h]
    · simp [h]
def OrdI (l : List S35) : Prop := l.Pairwise (fun a b => Op.bytesLess (ks a) (ks b) = true)
theorem toldL_false (y : S35) : ∀ r : List S35, OrdI r → OrdI (toldL y false r) ∧ ∀ z, z ∈ toldL y false r ↔ (z = y ∨ (z ∈ r ∧ ks z ≠ ks y))
  | [], _ => ⟨List.pairwise_singleton _ _, fun z => by simp [toldL]⟩
  | x :: r, h => by
    obtain ⟨h1, h2⟩ := List.pairwise_cons.1 h
    obtain ⟨i1, i2⟩ := toldL_false y r h2
    by_cases hxy : Op.bytesLess (ks x) (ks y) = true
    · have hne : ks x ≠ ks y := fun e => by rw [e, less_irr] at hxy; cases hxy
      rw [toldL_lt y x r hxy hne]
      refine ⟨List.pairwise_cons.2 ⟨fun z hz => ?_, i1⟩, fun z => ?_⟩
      · rcases (i2 z).1 hz with rfl | ⟨hz, _⟩
        · exact hxy
        · exact h1 z hz
      · rw [List.mem_cons, i2 z, List.mem_cons]
        constructor
        · rintro (rfl | rfl | ⟨hz, hn⟩)
          · exact .inr ⟨.inl rfl, hne⟩
          · exact .inl rfl
          · exact .inr ⟨.inr hz, hn⟩
        · rintro (rfl | ⟨rfl | hz, hn⟩)
          · exact .inr (.inl rfl)
          · exact .inl rfl
          · exact .inr (.inr ⟨hz, hn⟩)
    · have hf : Op.bytesLess (ks x) (ks y) = false := by simpa using hxy
      have e : toldL y false (x :: r) = y :: (x :: r).filter (fun z => decide (ks z ≠ ks y)) := by
        by_cases he : ks x = ks y
        · rw [toldL_eq y x r hf he, toldL_true, List.filter_cons_of_neg (by simpa using he)]
        · rw [toldL_gt y x r hf he, toldL_true, List.filter_cons_of_pos (by simpa using he)]
      rw [e]
      refine ⟨List.pairwise_cons.2 ⟨fun z hz => ?_, List.Pairwise.sublist List.filter_sublist h⟩, fun z => ?_⟩
      · obtain ⟨hz, hn⟩ := List.mem_filter.1 hz
        have hn : ks z ≠ ks y := by simpa using hn
        rcases List.mem_cons.1 hz with rfl | hz
        · exact less_tot _ _ hf hn
        · by_cases he : ks x = ks y
          · rw [← he]; exact h1 z hz
          · exact less_trans _ _ _ (less_tot _ _ hf he) (h1 z hz)
      · rw [List.mem_cons, List.mem_filter]
        simp
theorem toldL_len (y : S35) : ∀ (r : List S35) (b : Bool), (toldL y b r).length ≤ r.length + 1
  | [], b => by unfold toldL; split <;> simp
  | z :: r, true => by rw [toldL_true]; exact Nat.le_succ_of_le (List.length_filter_le _ _)
  | z :: r, false => by
    have i1 := toldL_len y r false
    have i2 := toldL_len y r true
    by_cases hxy : Op.bytesLess (ks z) (ks y) = true
    · have hne : ks z ≠ ks y := fun e => by rw [e, less_irr] at hxy; cases hxy
      rw [toldL_lt y z r hxy hne, List.length_cons, List.length_cons]; omega
    · have hf : Op.bytesLess (ks z) (ks y) = false := by simpa using hxy
      have i3 : (toldL y true r).length ≤ r.length := by rw [toldL_true]; exact List.length_filter_le _ _
      by_cases he : ks z = ks y
      · rw [toldL_eq y z r hf he, List.length_cons, List.length_cons]; omega
      · rw [toldL_gt y z r hf he, List.length_cons, List.length_cons, List.length_cons]; omega
theorem rd_at (P r : List S35) (z : S35) (i : Int) (hi : i = (P.length : Int)) : rd_T35 (P ++ z :: r) i = z := by
  subst hi
  unfold rd_T35
  rw [Int.toNat_natCast, List.getD_eq_getElem?_getD, List.getElem?_append_right (Nat.le_refl _), Nat.sub_self]; rfl
theorem told_go (y : S35) : ∀ (r P out : List S35) (done : Bool), P.length + r.length ≤ 100000 → out.length + 2 * r.length ≤ 1000000 →
    ∃ k, spec_told.l0 k out done (P ++ r) ((P ++ r).length : Int) (P.length : Int) y.f0 y.f1 y.f2 y.f3 y.f4 = some (out ++ toldL y done r)
  | [], P, out, done, hl, ho => by
    refine ⟨1, ?_⟩
    rw [spec_told.l0, List.append_nil, if_neg (by omega), toldL]
    cases done with
    | true => rw [if_pos rfl, if_pos rfl, List.append_nil]
    | false => simp only [Bool.false_eq_true, if_false]; rw [if_pos (by simp at ho; omega)]
  | z :: r, P, out, done, hl, ho => by
    rw [List.length_cons] at hl ho
    have e1 : P ++ z :: r = (P ++ [z]) ++ r := by simp
    have hw : wrap64 ((P.length : Int) + 1) = (((P ++ [z]).length : Nat) : Int) := by rw [w64s _ (by omega) (by omega)]; simp
    have hn : (((P ++ z :: r).length : Nat) : Int) = (P.length : Int) + 1 + r.length := by simp; omega
    have hr := rd_at P r z (P.length : Int) rfl
    cases done with
    | true =>
      by_cases he : ks z = ks y
      · obtain ⟨k, hk⟩ := told_go y r (P ++ [z]) out true (by simp; omega) (by omega)
        refine ⟨k + 2, ?_⟩
        rw [← e1] at hk
        rw [spec_told.l0, hr, if_pos (by omega), if_pos (by omega), if_pos (by omega), if_pos rfl, spec_told.j1, if_neg Bool.false_ne_true, if_pos (show z.f0.toList = y.f0.toList from he), hw, hk, toldL_te y z r he]
      · obtain ⟨k, hk⟩ := told_go y r (P ++ [z]) (out ++ [z]) true (by simp; omega) (by simp; omega)
        refine ⟨k + 2, ?_⟩
        rw [← e1] at hk
        rw [spec_told.l0, hr, if_pos (by omega), if_pos (by omega), if_pos (by omega), if_pos rfl, spec_told.j1, if_neg Bool.false_ne_true, if_neg (show ¬ z.f0.toList = y.f0.toList from he), if_pos (by omega), hw]
        refine hk.trans ?_
        rw [toldL_tn y z r he]; simp
    | false =>
      by_cases hxy : Op.bytesLess (ks z) (ks y) = true
      · have hne : ks z ≠ ks y := fun e => by rw [e, less_irr] at hxy; cases hxy
        have hb : (!(Op.bytesLess z.f0.toList y.f0.toList)) = false := by rw [show Op.bytesLess z.f0.toList y.f0.toList = true from hxy]; rfl
        obtain ⟨k, hk⟩ := told_go y r (P ++ [z]) (out ++ [z]) false (by simp; omega) (by simp; omega)
        refine ⟨k + 2, ?_⟩
        rw [← e1] at hk
        rw [spec_told.l0, hr, if_pos (by omega), if_pos (by omega), if_pos (by omega), if_neg Bool.false_ne_true, hb, spec_told.j1, if_neg Bool.false_ne_true, if_neg (show ¬ z.f0.toList = y.f0.toList from hne), if_pos (by omega), hw]
        refine hk.trans ?_
        rw [toldL_lt y z r hxy hne]; simp
      · have hf : Op.bytesLess (ks z) (ks y) = false := by simpa using hxy
        have hb : (!(Op.bytesLess z.f0.toList y.f0.toList)) = true := by rw [show Op.bytesLess z.f0.toList y.f0.toList = false from hf]; rfl
        by_cases he : ks z = ks y
        · obtain ⟨k, hk⟩ := told_go y r (P ++ [z]) (out ++ [y]) true (by simp; omega) (by simp; omega)
          refine ⟨k + 2, ?_⟩
          rw [← e1] at hk
          rw [spec_told.l0, hr, if_pos (by omega), if_pos (by omega), if_pos (by omega), if_neg Bool.false_ne_true, hb, spec_told.j1, if_pos rfl, if_pos (by omega), Option.bind_some, if_pos (show z.f0.toList = y.f0.toList from he), hw]
          refine hk.trans ?_
          rw [toldL_eq y z r hf he]; simp
        · obtain ⟨k, hk⟩ := told_go y r (P ++ [z]) (out ++ [y] ++ [z]) true (by simp; omega) (by simp; omega)
          refine ⟨k + 2, ?_⟩
          rw [← e1] at hk
          rw [spec_told.l0, hr, if_pos (by omega), if_pos (by omega), if_pos (by omega), if_neg Bool.false_ne_true, hb, spec_told.j1, if_pos rfl, if_pos (by omega), Option.bind_some, if_neg (show ¬ z.f0.toList = y.f0.toList from he), if_pos (by simp; omega), hw]
          refine hk.trans ?_
          rw [toldL_gt y z r hf he]; simp
end Go.Proofs.Ytckjbgneblfceaa.Ma
