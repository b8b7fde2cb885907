/- Plain facts about what stands behind a name: prefixes, depth, inside. -/
import Derived.Test.YtedjcbjocgkgnaaDoorReal
namespace Go.Proofs.YtedjcbjocgkgnaaDoor.RpWalk
open Go.RowKit Go.Proofs.YtedjcbjocgkgnaaDoorW.PrintWords Go.Proofs.YtedjcbjocgkgnaaDoorW.PrintLast Go.Proofs.YtedjcbjocgkgnaaDoorW.PrintMore
open Go.Proofs.YtedjcbjocgkgnaaDoor.PFnRealPathUp Go.Proofs.YtedjcbjocgkgnaaDoor.CleanLaw
open Go.Lib.Pa
set_option linter.unusedVariables false
theorem preB_app (a x : List UInt8) : preB (mk (a ++ x)) (mk a) = true := by
  unfold preB
  have h1 : decide ((mk a).size ≤ (mk (a ++ x)).size) = true := by rw [mk_size, mk_size]; simp
  rw [h1, extract_mk, mk_data, mk_size, mk_toList, mk_toList]
  simp
theorem depthFrom_drop (es : List (List UInt8)) : ∀ d, depthFrom d es = depthFrom d (es.filter (· ≠ [])) := by
  induction es with
  | nil => intro d; rfl
  | cons e t ih =>
    intro d
    by_cases h : e = []
    · subst h
      rw [show ([] :: t).filter (fun x => decide (x ≠ ([] : List UInt8))) = t.filter (fun x => decide (x ≠ ([] : List UInt8))) from by simp, ← ih d]
      conv => lhs; unfold depthFrom
      simp
    · rw [show (e :: t).filter (fun x => decide (x ≠ ([] : List UInt8))) = e :: t.filter (fun x => decide (x ≠ ([] : List UInt8))) from by simp [h]]
      conv => lhs; unfold depthFrom
      conv => rhs; unfold depthFrom
      cases d with
      | zero => simp only [ih]
      | succ d => simp only [ih]
theorem depth_elems (n : List UInt8) : depthFrom 0 (elems n) = depthFrom 0 (els n) := (depthFrom_drop (els n) 0).symm
theorem rooted_of (l : List UInt8) (h : rootedB l = true) : ∃ t, l = 47 :: t := by
  cases l with
  | nil => simp [rootedB] at h
  | cons a t => simp [rootedB] at h; exact ⟨t, by rw [h]⟩
theorem rooted_body (st : List (List UInt8)) : rootedB (body st) = true := by simp [rootedB, body]
/-- What the law about the inside asks, once the name stays inside. -/
structure InsideFacts (p n g : List UInt8) : Prop where
  one : full p n = g
  two : full p (cleanEls (47 :: n)) = g
  pre : preB (mk g) (mk (cleanEls p)) = true
  within : withinB g (cleanEls p) = true
theorem within_body (N P : List (List UInt8)) : withinB (body (N ++ P)) (body P) = true := by
  unfold withinB
  by_cases hN : N = []
  · subst hN; simp
  · by_cases hP : P = []
    · subst hP
      have : body ([] : List (List UInt8)) = [47] := rfl
      rw [this]
      simp [rooted_body]
    · rw [body_prefix N P hP hN]
      have := preB_app (body P ++ [47]) ([47].intercalate N.reverse)
      rw [List.append_assoc, List.singleton_append] at this
      simp [this]
theorem inside_facts (pl n : List UInt8) (h : depthFrom 0 (elems n) ≠ none) : ∃ g, InsideFacts (47 :: pl) n g := by
  rw [depth_elems] at h
  have hk := kept_under (kept [] pl) n h
  have hP : Plains (kept [] pl) := kept_plains _ _ nil_plains
  have hN : Plains (kept [] n) := kept_plains _ _ nil_plains
  refine ⟨body (kept [] n ++ kept [] pl), ?_, ?_, ?_, ?_⟩
  · rw [full_is, hk]
  · rw [full_is, clean_is]
    unfold body
    rw [kept_lead, kept_inter _ _ hN]
  · rw [clean_is]
    obtain ⟨x, hx⟩ := body_starts (kept [] n) (kept [] pl)
    rw [hx]
    exact preB_app _ _
  · rw [clean_is]
    exact within_body _ _
theorem depth_end (xs : List (List UInt8)) (d k : Nat) (h : depthFrom 0 xs = depthFrom d (xs.drop k)) (hk : xs.length ≤ k) : depthFrom 0 xs ≠ none := by
  rw [h, List.drop_eq_nil_of_le hk]
  simp [depthFrom]
theorem depth_dot (xs : List (List UInt8)) (d k : Nat) (h : depthFrom 0 xs = depthFrom d (xs.drop k)) (hk : xs[k]? = some [46]) : depthFrom 0 xs = depthFrom d (xs.drop (k + 1)) := by
  obtain ⟨hl, e⟩ := List.getElem?_eq_some_iff.1 hk
  rw [h, List.drop_eq_getElem_cons hl, e]
  conv => lhs; unfold depthFrom
  simp
theorem depth_up (xs : List (List UInt8)) (d k : Nat) (h : depthFrom 0 xs = depthFrom (d + 1) (xs.drop k)) (hk : xs[k]? = some [46, 46]) : depthFrom 0 xs = depthFrom d (xs.drop (k + 1)) := by
  obtain ⟨hl, e⟩ := List.getElem?_eq_some_iff.1 hk
  rw [h, List.drop_eq_getElem_cons hl, e]
  conv => lhs; unfold depthFrom
  simp
theorem depth_down (xs : List (List UInt8)) (d k : Nat) (x : List UInt8) (h : depthFrom 0 xs = depthFrom d (xs.drop k)) (hk : xs[k]? = some x) (h0 : x ≠ []) (h1 : x ≠ [46]) (h2 : x ≠ [46, 46]) : depthFrom 0 xs = depthFrom (d + 1) (xs.drop (k + 1)) := by
  obtain ⟨hl, e⟩ := List.getElem?_eq_some_iff.1 hk
  rw [h, List.drop_eq_getElem_cons hl, e]
  conv => lhs; unfold depthFrom
  simp [h0, h1, h2]
end Go.Proofs.YtedjcbjocgkgnaaDoor.RpWalk
