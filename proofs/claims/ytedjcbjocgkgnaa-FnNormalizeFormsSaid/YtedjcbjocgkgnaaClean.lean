/- Plain facts on the elements of a path: what path.Clean makes of a name that begins with a slash. -/
import Derived.Lib.CleanFns
namespace Go.Proofs.Ytedjcbjocgkgnaa.CleanLaw
open Go.Lib.Pa
theorem els_ne (l : List UInt8) : els l ≠ [] := by
  cases l with
  | nil => simp [els]
  | cons c t =>
    unfold els
    split
    · simp
    · split <;> simp
theorem els_slash (l r : List UInt8) : els (l ++ 47 :: r) = els l ++ els r := by
  induction l with
  | nil => simp [els]
  | cons c t ih =>
    by_cases h : c = 47
    · simp [els, h, ih]
    · simp only [List.cons_append, els, if_neg h, ih]
      cases ht : els t with
      | nil => exact absurd ht (els_ne t)
      | cons e r' => rfl
theorem els_plain (e : List UInt8) (h : ∀ c ∈ e, c ≠ 47) : els e = [e] := by
  induction e with
  | nil => rfl
  | cons c t ih =>
    have hc := h c (List.mem_cons_self ..)
    have ht := ih (fun x hx => h x (List.mem_cons_of_mem _ hx))
    simp [els, hc, ht]
/-- The elements that a rooted path keeps, the last first. -/
def kept (st : List (List UInt8)) (l : List UInt8) : List (List UInt8) := (els l).foldl (cleanStep true) st
theorem kept_slash (st : List (List UInt8)) (l r : List UInt8) : kept st (l ++ 47 :: r) = kept (kept st l) r := by
  unfold kept; rw [els_slash, List.foldl_append]
theorem kept_nil (st : List (List UInt8)) : kept st [] = st := by simp [kept, els, cleanStep]
theorem kept_dot (st : List (List UInt8)) : kept st [46] = st := by simp [kept, els, cleanStep]
def Plain (e : List UInt8) : Prop := (∀ c ∈ e, c ≠ 47) ∧ e ≠ [] ∧ e ≠ [46] ∧ e ≠ [46, 46]
theorem kept_plain (st : List (List UInt8)) (e : List UInt8) (h : Plain e) : kept st e = e :: st := by
  obtain ⟨h1, h2, h3, h4⟩ := h
  simp [kept, els_plain e h1, cleanStep, h2, h3, h4]
theorem kept_up (st : List (List UInt8)) (e : List UInt8) (h : e ≠ [46, 46]) : kept (e :: st) [46, 46] = st := by
  simp [kept, els, cleanStep, h]
theorem clean_rooted (l : List UInt8) : cleanEls (47 :: l) = 47 :: [47].intercalate (kept [] l).reverse := by
  unfold cleanEls kept
  simp [els, cleanStep]
def want (a b : List UInt8) : List UInt8 := cleanEls (47 :: (a ++ 47 :: b))
theorem form1 (a b : List UInt8) : cleanEls (47 :: (a ++ 47 :: 47 :: b)) = want a b := by
  unfold want
  rw [clean_rooted, clean_rooted, kept_slash, kept_slash, show (47 :: b : List UInt8) = [] ++ 47 :: b from rfl, kept_slash, kept_nil]
theorem form2 (a b : List UInt8) : cleanEls (47 :: (a ++ 47 :: 46 :: 47 :: b)) = want a b := by
  unfold want
  rw [clean_rooted, clean_rooted, kept_slash, kept_slash, show (46 :: 47 :: b : List UInt8) = [46] ++ 47 :: b from rfl, kept_slash, kept_dot]
theorem form3 (a b e : List UInt8) (h : Plain e) : cleanEls (47 :: (a ++ 47 :: (e ++ 47 :: 46 :: 46 :: 47 :: b))) = want a b := by
  unfold want
  rw [clean_rooted, clean_rooted, kept_slash, kept_slash, kept_slash, show (46 :: 46 :: 47 :: b : List UInt8) = [46, 46] ++ 47 :: b from rfl, kept_slash, kept_plain _ e h, kept_up _ e h.2.2.2]
theorem form4 (a b : List UInt8) : cleanEls (47 :: (a ++ 47 :: (b ++ [47]))) = want a b := by
  unfold want
  rw [clean_rooted, clean_rooted, kept_slash, kept_slash, kept_nil, kept_slash]
theorem form5 (a b : List UInt8) : cleanEls (47 :: (a ++ 47 :: (b ++ [47, 46]))) = want a b := by
  unfold want
  rw [clean_rooted, clean_rooted, kept_slash, kept_slash, kept_dot, kept_slash]
theorem up_is (a e : List UInt8) (h : Plain e) : cleanEls (47 :: (a ++ 47 :: (e ++ [47, 46, 46]))) = cleanEls (47 :: a) := by
  rw [clean_rooted, clean_rooted, kept_slash, show e ++ [47, 46, 46] = e ++ 47 :: [46, 46] from rfl, kept_slash, kept_plain _ e h, kept_up _ e h.2.2.2]
theorem inter_snoc (l : List (List UInt8)) (e : List UInt8) (h : l ≠ []) : [47].intercalate (l ++ [e]) = [47].intercalate l ++ 47 :: e := by
  induction l with
  | nil => exact absurd rfl h
  | cons x t ih =>
    cases t with
    | nil => simp [List.intercalate]
    | cons y t' =>
      have := ih (by simp)
      simp [List.intercalate] at this ⊢
      rw [this]
/-- Behind a clean directory stands the element. -/
theorem below_is (a e : List UInt8) (h : Plain e) : ∃ x, cleanEls (47 :: (a ++ 47 :: e)) = 47 :: (x ++ e) ∧ (x = [] ∧ cleanEls (47 :: a) = [47] ∨ ∃ y, x = y ++ [47] ∧ cleanEls (47 :: a) = 47 :: y) := by
  rw [clean_rooted, clean_rooted, kept_slash, kept_plain _ e h, List.reverse_cons]
  by_cases hk : kept [] a = []
  · exact ⟨[], by simp [hk, List.intercalate], .inl ⟨rfl, by simp [hk, List.intercalate]⟩⟩
  · have hr : (kept [] a).reverse ≠ [] := by simpa using hk
    refine ⟨[47].intercalate (kept [] a).reverse ++ [47], by rw [inter_snoc _ _ hr]; simp, .inr ⟨_, rfl, rfl⟩⟩
end Go.Proofs.Ytedjcbjocgkgnaa.CleanLaw
