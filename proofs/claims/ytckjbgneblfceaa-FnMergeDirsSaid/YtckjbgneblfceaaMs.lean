/- What sorting by insertion does: the same strings, by increasing bytes. -/
import Derived.Test.YtckjbgneblfceaaMx6
import Derived.Test.YtckjbgneblfceaaPFnMergeDirsx5
namespace Go.Proofs.Ytckjbgneblfceaa.Ma
open Go.RowKit Go.Proofs.YtckjbgneblfceaaW.PrintWords Go.Proofs.YtckjbgneblfceaaW.PrintLast Go.Proofs.YtckjbgneblfceaaW.PrintMore
open Go.Proofs.Ytckjbgneblfceaa.PFnMergeDirs
set_option linter.unusedVariables false
set_option linter.unusedSimpArgs false
def lessB (a b : ByteArray) : Bool := Op.bytesLess a.toList b.toList
theorem less_irr : ∀ a : List UInt8, Op.bytesLess a a = false
  | [] => rfl
  | x :: xs => by
    have h : ¬ x < x := fun e => by have := UInt8.lt_iff_toNat_lt.1 e; omega
    simp [Op.bytesLess, h, less_irr xs]
theorem less_nil (a : List UInt8) : Op.bytesLess a [] = false := by cases a <;> rfl
theorem less_trans : ∀ a b c : List UInt8, Op.bytesLess a b = true → Op.bytesLess b c = true → Op.bytesLess a c = true
  | a, b, [], _, h => by rw [less_nil] at h; cases h
  | [], _, _ :: _, _, _ => rfl
  | x :: xs, [], _ :: _, h, _ => by rw [less_nil] at h; cases h
  | x :: xs, y :: ys, z :: zs, h1, h2 => by
    have ih := less_trans xs ys zs
    simp only [Op.bytesLess, Bool.or_eq_true, Bool.and_eq_true, decide_eq_true_eq, beq_iff_eq] at h1 h2 ⊢
    rcases h1 with h1 | ⟨rfl, h1⟩
    · rcases h2 with h2 | ⟨rfl, h2⟩
      · exact .inl (UInt8.lt_trans h1 h2)
      · exact .inl h1
    · rcases h2 with h2 | ⟨rfl, h2⟩
      · exact .inl h2
      · exact .inr ⟨rfl, ih h1 h2⟩
theorem less_tot (a b : List UInt8) (h : Op.bytesLess a b = false) (hne : a ≠ b) : Op.bytesLess b a = true := by
  have h1 := less_or_eq a b
  rw [h, Bool.false_or, beq_eq_false_iff_ne.2 hne] at h1
  cases h2 : Op.bytesLess b a with
  | true => rfl
  | false => rw [h2] at h1; cases h1
/-- An element sinks below those that are greater. -/
def insR : List ByteArray → ByteArray → List ByteArray
  | [], y => [y]
  | z :: rp, y => if lessB y z = true then insR rp y ++ [z] else (z :: rp).reverse ++ [y]
theorem insR_perm : ∀ (rp : List ByteArray) (y : ByteArray), (insR rp y).Perm (y :: rp)
  | [], y => List.Perm.refl _
  | z :: rp, y => by
    unfold insR
    split
    · refine ((insR_perm rp y).append_right [z]).trans ?_
      refine List.perm_append_comm.trans ?_
      exact List.Perm.swap y z rp
    · exact List.perm_append_comm.trans ((List.reverse_perm (z :: rp)).cons y)
theorem insR_ord : ∀ (rp : List ByteArray) (y : ByteArray), rp.Pairwise (fun a b => lessB b a = true) → (∀ z ∈ rp, z.toList ≠ y.toList) → (insR rp y).Pairwise (fun a b => lessB a b = true)
  | [], y, _, _ => List.pairwise_singleton _ _
  | z :: rp, y, hp, hd => by
    obtain ⟨h1, h2⟩ := List.pairwise_cons.1 hp
    have ih := insR_ord rp y h2 (fun a ha => hd a (List.mem_cons_of_mem _ ha))
    unfold insR
    split
    · rename_i hyz
      refine List.pairwise_append.2 ⟨ih, List.pairwise_singleton _ _, fun a ha b hb => ?_⟩
      obtain rfl := List.mem_singleton.1 hb
      rcases List.mem_cons.1 ((insR_perm rp y).mem_iff.1 ha) with rfl | ha
      · exact hyz
      · exact h1 a ha
    · rename_i hyz
      have hzy : lessB z y = true := less_tot _ _ (by simpa [lessB] using hyz) (fun e => hd z (List.mem_cons_self ..) e.symm)
      refine List.pairwise_append.2 ⟨List.pairwise_reverse.2 hp, List.pairwise_singleton _ _, fun a ha b hb => ?_⟩
      obtain rfl := List.mem_singleton.1 hb
      rcases List.mem_cons.1 (List.mem_reverse.1 ha) with rfl | ha
      · exact hzy
      · exact less_trans _ _ _ (h1 a ha) hzy
theorem rd_mid (a b : List ByteArray) (y : ByteArray) (i : Int) (hi : i = (a.length : Int)) : rdOf ByteArray.empty (a ++ y :: b) i = y := by
  subst hi
  unfold rdOf
  rw [Int.toNat_natCast, List.getD_eq_getElem?_getD, List.getElem?_append_right (Nat.le_refl _), Nat.sub_self]; rfl
theorem set_mid (a b : List ByteArray) (y z : ByteArray) (i : Nat) (hi : i = a.length) : (a ++ y :: b).set i z = a ++ z :: b := by
  subst hi
  rw [List.set_append_right _ _ (Nat.le_refl _), Nat.sub_self]; rfl
theorem w64s (x : Int) (h : -9223372036854775808 ≤ x) (h1 : x < 9223372036854775808) : wrap64 x = x := by unfold wrap64; omega
theorem sink : ∀ (rp : List ByteArray) (y : ByteArray) (S : List ByteArray) (i : Nat) (r : List ByteArray), rp.length ≤ 100000 → i ≤ 100000 → (∃ k, afero_zzSort.l0 k (insR rp y ++ S) ((i + 1 : Nat) : Int) = some r) → ∃ k, afero_zzSort.l1 k (rp.reverse ++ y :: S) (i : Int) (rp.length : Int) = some r
  | [], y, S, i, r, _, hi, ⟨k, hk⟩ => ⟨k + 1, by
    have e : wrap64 ((i : Int) + 1) = ((i + 1 : Nat) : Int) := by rw [w64s _ (by omega) (by omega)]; push_cast; rfl
    rw [afero_zzSort.l1, if_neg (by simp), e]
    exact hk⟩
  | z :: rp, y, S, i, r, hl, hi, hk => by
    rw [List.length_cons] at hl
    have hn : (((z :: rp).length : Nat) : Int) = (rp.length : Int) + 1 := by simp
    have hw : wrap64 ((((z :: rp).length : Nat) : Int) - 1) = (rp.length : Int) := by rw [hn, w64s _ (by omega) (by omega)]; omega
    have e1 : (z :: rp).reverse ++ y :: S = rp.reverse ++ z :: (y :: S) := by simp
    have r1 : rdOf ByteArray.empty ((z :: rp).reverse ++ y :: S) (((z :: rp).length : Nat) : Int) = y := rd_mid _ _ _ _ (by simp)
    have r2 : rdOf ByteArray.empty ((z :: rp).reverse ++ y :: S) (rp.length : Int) = z := by rw [e1]; exact rd_mid _ _ _ _ (by simp)
    have hlen : ((((z :: rp).reverse ++ y :: S).length : Nat) : Int) = (rp.length : Int) + 2 + S.length := by simp; omega
    have iw : wrap64 ((i : Int) + 1) = ((i + 1 : Nat) : Int) := by rw [w64s _ (by omega) (by omega)]; push_cast; rfl
    by_cases hyz : lessB y z = true
    · have e2 : insR (z :: rp) y ++ S = insR rp y ++ z :: S := by rw [insR, if_pos hyz]; simp
      rw [e2] at hk
      obtain ⟨k, hk'⟩ := sink rp y (z :: S) i r (by omega) hi hk
      refine ⟨k + 1, ?_⟩
      rw [afero_zzSort.l1, hw, r1, r2, hlen, hn, if_pos (by omega), if_pos (by omega), if_pos (by omega), if_pos (by omega), if_pos (by omega), if_pos (show Op.bytesLess y.toList z.toList = true from hyz)]
      have e3 : (((z :: rp).reverse ++ y :: S).set ((rp.length : Int) + 1).toNat z).set (rp.length : Int).toNat y = rp.reverse ++ y :: (z :: S) := by
        rw [set_mid _ _ _ _ _ (by simp)]
        rw [show (z :: rp).reverse ++ z :: S = rp.reverse ++ z :: (z :: S) by simp]
        rw [set_mid _ _ _ _ _ (by simp)]
      rw [e3]
      exact hk'
    · have e2 : insR (z :: rp) y ++ S = (z :: rp).reverse ++ y :: S := by rw [insR, if_neg hyz]; simp
      rw [e2] at hk
      obtain ⟨k, hk'⟩ := hk
      refine ⟨k + 1, ?_⟩
      rw [afero_zzSort.l1, hw, r1, r2, hlen, hn, if_pos (by omega), if_pos (by omega), if_pos (by omega), if_pos (by omega), if_pos (by omega), if_neg (show ¬ Op.bytesLess y.toList z.toList = true from hyz), iw]
      exact hk'
theorem sort_go : ∀ (S P : List ByteArray), P.Pairwise (fun a b => lessB a b = true) → ((P ++ S).map ByteArray.toList).Nodup → (P ++ S).length ≤ 100000 →
    ∃ k r, afero_zzSort.l0 k (P ++ S) (P.length : Int) = some r ∧ r.Perm (P ++ S) ∧ r.Pairwise (fun a b => lessB a b = true)
  | [], P, hP, _, _ => ⟨1, P, by rw [afero_zzSort.l0, List.append_nil, if_neg (by omega)], by rw [List.append_nil], hP⟩
  | y :: S, P, hP, hd, hl => by
    have hl1 : P.length + (S.length + 1) ≤ 100000 := by simpa using hl
    have hp1 : (insR P.reverse y).Perm (P ++ [y]) := (insR_perm P.reverse y).trans (((List.reverse_perm P).cons y).trans (List.perm_append_comm (l₁ := [y]) (l₂ := P)))
    have hp2 : (insR P.reverse y ++ S).Perm (P ++ y :: S) := by
      have := hp1.append_right S
      simpa using this
    have hne : ∀ z ∈ P.reverse, z.toList ≠ y.toList := by
      intro z hz e
      rw [List.map_append, List.nodup_append] at hd
      exact hd.2.2 z.toList (List.mem_map.2 ⟨z, List.mem_reverse.1 hz, rfl⟩) y.toList (by simp) e
    have ho := insR_ord P.reverse y (List.pairwise_reverse.2 hP) hne
    have hlen : (insR P.reverse y).length = P.length + 1 := by rw [hp1.length_eq]; simp
    obtain ⟨k, r, h1, h2, h3⟩ := sort_go S (insR P.reverse y) ho ((hp2.map ByteArray.toList).nodup_iff.2 hd) (by rw [hp2.length_eq]; exact hl)
    rw [hlen] at h1
    obtain ⟨k2, hk2⟩ := sink P.reverse y S P.length r (by rw [List.length_reverse]; omega) (by omega) ⟨k, h1⟩
    rw [List.reverse_reverse, List.length_reverse] at hk2
    refine ⟨k2 + 1, r, ?_, h2.trans hp2, h3⟩
    rw [afero_zzSort.l0, if_pos (by simp; omega)]
    exact hk2
theorem sort_law (l : List ByteArray) (hd : (l.map ByteArray.toList).Nodup) (hl : l.length ≤ 99999) : ∃ k r, afero_zzSort.f k l = some r ∧ r.Perm l ∧ r.Pairwise (fun a b => lessB a b = true) := by
  cases l with
  | nil => exact ⟨1, [], by rw [afero_zzSort.f, afero_zzSort.l0, if_neg (by simp)], List.Perm.refl _, List.Pairwise.nil⟩
  | cons x l =>
    obtain ⟨k, r, h1, h2, h3⟩ := sort_go l [x] (List.pairwise_singleton _ _) (by simpa using hd) (by rw [List.length_append, List.length_singleton]; rw [List.length_cons] at hl; omega)
    exact ⟨k, r, h1, h2, h3⟩
end Go.Proofs.Ytckjbgneblfceaa.Ma
