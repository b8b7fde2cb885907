/- Plain facts on the elements of a path: what path.Clean and path.Join make of names below a path. -/
import Derived.Lib.CleanFns
import Derived.Lib.CleanSame
import Derived.Lib.CleanLen
namespace Go.Proofs.YtedjcbjocgkgnaaDoor.CleanLaw
open Go.Lib.Pa
theorem els_ne (l : List UInt8) : els l ≠ [] := by
  cases l with
  | nil => simp [els]
  | cons c t =>
    unfold els
    split
    · simp
    · split <;> simp
theorem els_slash (l r : List UInt8) : els (l ++ 47 :: r) = els l ++ els r := by
  induction l with
  | nil => simp [els]
  | cons c t ih =>
    by_cases h : c = 47
    · simp [els, h, ih]
    · simp only [List.cons_append, els, if_neg h, ih]
      cases ht : els t with
      | nil => exact absurd ht (els_ne t)
      | cons e r' => rfl
theorem els_plain (e : List UInt8) (h : ∀ c ∈ e, c ≠ 47) : els e = [e] := by
  induction e with
  | nil => rfl
  | cons c t ih =>
    have hc := h c (List.mem_cons_self ..)
    have ht := ih (fun x hx => h x (List.mem_cons_of_mem _ hx))
    simp [els, hc, ht]
/-- The elements that a rooted path keeps, the last first. -/
def kept (st : List (List UInt8)) (l : List UInt8) : List (List UInt8) := (els l).foldl (cleanStep true) st
theorem kept_slash (st : List (List UInt8)) (l r : List UInt8) : kept st (l ++ 47 :: r) = kept (kept st l) r := by
  unfold kept; rw [els_slash, List.foldl_append]
theorem kept_nil (st : List (List UInt8)) : kept st [] = st := by simp [kept, els, cleanStep]
theorem kept_dot (st : List (List UInt8)) : kept st [46] = st := by simp [kept, els, cleanStep]
def Plain (e : List UInt8) : Prop := (∀ c ∈ e, c ≠ 47) ∧ e ≠ [] ∧ e ≠ [46] ∧ e ≠ [46, 46]
theorem kept_plain (st : List (List UInt8)) (e : List UInt8) (h : Plain e) : kept st e = e :: st := by
  obtain ⟨h1, h2, h3, h4⟩ := h
  simp [kept, els_plain e h1, cleanStep, h2, h3, h4]
theorem kept_up (st : List (List UInt8)) (e : List UInt8) (h : e ≠ [46, 46]) : kept (e :: st) [46, 46] = st := by
  simp [kept, els, cleanStep, h]
theorem clean_rooted (l : List UInt8) : cleanEls (47 :: l) = 47 :: [47].intercalate (kept [] l).reverse := by
  unfold cleanEls kept
  simp [els, cleanStep]
def want (a b : List UInt8) : List UInt8 := cleanEls (47 :: (a ++ 47 :: b))
theorem form1 (a b : List UInt8) : cleanEls (47 :: (a ++ 47 :: 47 :: b)) = want a b := by
  unfold want
  rw [clean_rooted, clean_rooted, kept_slash, kept_slash, show (47 :: b : List UInt8) = [] ++ 47 :: b from rfl, kept_slash, kept_nil]
theorem form2 (a b : List UInt8) : cleanEls (47 :: (a ++ 47 :: 46 :: 47 :: b)) = want a b := by
  unfold want
  rw [clean_rooted, clean_rooted, kept_slash, kept_slash, show (46 :: 47 :: b : List UInt8) = [46] ++ 47 :: b from rfl, kept_slash, kept_dot]
theorem form3 (a b e : List UInt8) (h : Plain e) : cleanEls (47 :: (a ++ 47 :: (e ++ 47 :: 46 :: 46 :: 47 :: b))) = want a b := by
  unfold want
  rw [clean_rooted, clean_rooted, kept_slash, kept_slash, kept_slash, show (46 :: 46 :: 47 :: b : List UInt8) = [46, 46] ++ 47 :: b from rfl, kept_slash, kept_plain _ e h, kept_up _ e h.2.2.2]
theorem form4 (a b : List UInt8) : cleanEls (47 :: (a ++ 47 :: (b ++ [47]))) = want a b := by
  unfold want
  rw [clean_rooted, clean_rooted, kept_slash, kept_slash, kept_nil, kept_slash]
theorem form5 (a b : List UInt8) : cleanEls (47 :: (a ++ 47 :: (b ++ [47, 46]))) = want a b := by
  unfold want
  rw [clean_rooted, clean_rooted, kept_slash, kept_slash, kept_dot, kept_slash]
theorem up_is (a e : List UInt8) (h : Plain e) : cleanEls (47 :: (a ++ 47 :: (e ++ [47, 46, 46]))) = cleanEls (47 :: a) := by
  rw [clean_rooted, clean_rooted, kept_slash, show e ++ [47, 46, 46] = e ++ 47 :: [46, 46] from rfl, kept_slash, kept_plain _ e h, kept_up _ e h.2.2.2]
theorem inter_snoc (l : List (List UInt8)) (e : List UInt8) (h : l ≠ []) : [47].intercalate (l ++ [e]) = [47].intercalate l ++ 47 :: e := by
  induction l with
  | nil => exact absurd rfl h
  | cons x t ih =>
    cases t with
    | nil => simp [List.intercalate]
    | cons y t' =>
      have := ih (by simp)
      simp [List.intercalate] at this ⊢
      rw [this]
/-- Behind a clean directory stands the element. -/
theorem below_is (a e : List UInt8) (h : Plain e) : ∃ x, cleanEls (47 :: (a ++ 47 :: e)) = 47 :: (x ++ e) ∧ (x = [] ∧ cleanEls (47 :: a) = [47] ∨ ∃ y, x = y ++ [47] ∧ cleanEls (47 :: a) = 47 :: y) := by
  rw [clean_rooted, clean_rooted, kept_slash, kept_plain _ e h, List.reverse_cons]
  by_cases hk : kept [] a = []
  · exact ⟨[], by simp [hk, List.intercalate], .inl ⟨rfl, by simp [hk, List.intercalate]⟩⟩
  · have hr : (kept [] a).reverse ≠ [] := by simpa using hk
    refine ⟨[47].intercalate (kept [] a).reverse ++ [47], by rw [inter_snoc _ _ hr]; simp, .inr ⟨_, rfl, rfl⟩⟩
theorem inter_cons (x : List UInt8) (l : List (List UInt8)) (h : l ≠ []) : [47].intercalate (x :: l) = x ++ 47 :: [47].intercalate l := by
  cases l with
  | nil => exact absurd rfl h
  | cons y t => simp [List.intercalate]
/-- A clean rooted path whose elements, the last first, are these. -/
def body (st : List (List UInt8)) : List UInt8 := 47 :: [47].intercalate st.reverse
def Plains (st : List (List UInt8)) : Prop := ∀ e ∈ st, Plain e
theorem clean_is (l : List UInt8) : cleanEls (47 :: l) = body (kept [] l) := clean_rooted l
theorem foldl_plains (es : List (List UInt8)) : ∀ (st : List (List UInt8)), Plains st → (∀ e ∈ es, ∀ c ∈ e, c ≠ 47) → Plains (es.foldl (cleanStep true) st) := by
  induction es with
  | nil => intro st h _; exact h
  | cons e es ih =>
    intro st h he
    refine ih _ ?_ (fun x hx => he x (List.mem_cons_of_mem _ hx))
    have hc := he e (List.mem_cons_self ..)
    unfold cleanStep
    split
    · exact h
    · rename_i h1
      split
      · split
        · rename_i x r
          split
          · rename_i h3
            exact absurd h3 (h x (List.mem_cons_self ..)).2.2.2
          · exact fun y hy => h y (List.mem_cons_of_mem _ hy)
        · simp; exact fun y hy => by cases hy
      · rename_i h2
        intro y hy
        rcases List.mem_cons.1 hy with rfl | hy
        · exact ⟨hc, fun e => h1 (.inl e), fun e => h1 (.inr e), h2⟩
        · exact h y hy
theorem els_noslash (l : List UInt8) : ∀ e ∈ els l, ∀ c ∈ e, c ≠ 47 := by
  induction l with
  | nil => intro e he c hc; simp [els] at he; subst he; cases hc
  | cons c t ih =>
    intro e he x hx
    unfold els at he
    split at he
    · rcases List.mem_cons.1 he with rfl | he
      · cases hx
      · exact ih e he x hx
    · rename_i hc
      cases ht : els t with
      | nil => exact absurd ht (els_ne t)
      | cons e' r =>
        rw [ht] at he
        simp only at he
        rcases List.mem_cons.1 he with rfl | he
        · rcases List.mem_cons.1 hx with rfl | hx
          · exact hc
          · exact ih e' (by rw [ht]; exact List.mem_cons_self ..) x hx
        · exact ih e (by rw [ht]; exact List.mem_cons_of_mem _ he) x hx
theorem kept_plains (st : List (List UInt8)) (l : List UInt8) (h : Plains st) : Plains (kept st l) := foldl_plains _ _ h (els_noslash l)
theorem nil_plains : Plains [] := fun _ h => by cases h
/-- The elements of a clean path are what was kept. -/
theorem kept_inter (N : List (List UInt8)) : ∀ (st : List (List UInt8)), Plains N → kept st ([47].intercalate N.reverse) = N ++ st := by
  induction N with
  | nil => intro st _; simp [List.intercalate, kept_nil]
  | cons e N ih =>
    intro st h
    have he := h e (List.mem_cons_self ..)
    have hN : Plains N := fun x hx => h x (List.mem_cons_of_mem _ hx)
    rw [List.reverse_cons]
    by_cases hn : N = []
    · subst hn
      simp [List.intercalate]
      exact kept_plain st e he
    · rw [inter_snoc _ _ (by simpa using hn), kept_slash, ih st hN, kept_plain _ _ he]
      rfl
theorem kept_lead (st : List (List UInt8)) (l : List UInt8) : kept st (47 :: l) = kept st l := by
  rw [show (47 :: l : List UInt8) = [] ++ 47 :: l from rfl, kept_slash, kept_nil]
theorem clean_body (st : List (List UInt8)) (h : Plains st) : cleanEls (body st) = body st := by
  unfold body
  rw [clean_rooted, kept_inter _ _ h, List.append_nil]
/-- What a base path makes of a name: the clean path, the name behind it, clean, and clean again. -/
def full (p n : List UInt8) : List UInt8 := cleanEls (join [cleanEls p, n])
theorem body_ne (st : List (List UInt8)) : body st ≠ [] := by simp [body]
theorem full_is (pl n : List UInt8) : full (47 :: pl) n = body (kept (kept [] pl) n) := by
  have hP := kept_plains [] pl nil_plains
  unfold full
  rw [clean_is]
  by_cases hn : n = []
  · subst hn
    have : join [body (kept [] pl), []] = cleanEls (body (kept [] pl)) := by
      simp [join, body_ne, List.intercalate, clean_eq_cleanEls]
    rw [this, clean_body _ hP, clean_body _ hP, kept_nil]
  · have : join [body (kept [] pl), n] = cleanEls (body (kept [] pl) ++ 47 :: n) := by
      simp [join, body_ne, hn, List.intercalate, clean_eq_cleanEls]
    rw [this]
    have e : body (kept [] pl) ++ 47 :: n = 47 :: ([47].intercalate (kept [] pl).reverse ++ 47 :: n) := by simp [body]
    rw [e, clean_is, kept_slash, kept_inter _ _ hP, List.append_nil, clean_body _ (kept_plains _ _ hP)]
/-- How deep a row of elements leads, if it never goes up further than it went down. -/
def depthFrom : Nat → List (List UInt8) → Option Nat
  | d, [] => some d
  | d, e :: es => if e = [] ∨ e = [46] then depthFrom d es else if e = [46, 46] then (match d with | 0 => none | d + 1 => depthFrom d es) else depthFrom (d + 1) es
theorem fold_under (es : List (List UInt8)) : ∀ (st P : List (List UInt8)), (∀ e ∈ st, e ≠ [46, 46]) → depthFrom st.length es ≠ none → es.foldl (cleanStep true) (st ++ P) = es.foldl (cleanStep true) st ++ P := by
  induction es with
  | nil => intro st P _ _; rfl
  | cons e es ih =>
    intro st P hst hd
    simp only [List.foldl_cons]
    unfold depthFrom at hd
    by_cases h1 : e = [] ∨ e = [46]
    · rw [if_pos h1] at hd
      simp only [cleanStep, if_pos h1]
      exact ih st P hst hd
    · rw [if_neg h1] at hd
      by_cases h2 : e = [46, 46]
      · rw [if_pos h2] at hd
        cases st with
        | nil => exact absurd rfl hd
        | cons x r =>
          have hx := hst x (List.mem_cons_self ..)
          simp only [cleanStep, if_neg h1, if_pos h2, List.cons_append, if_neg hx]
          exact ih r P (fun y hy => hst y (List.mem_cons_of_mem _ hy)) hd
      · rw [if_neg h2] at hd
        simp only [cleanStep, if_neg h1, if_neg h2]
        have : e :: (st ++ P) = (e :: st) ++ P := rfl
        rw [this]
        refine ih (e :: st) P ?_ hd
        intro y hy
        rcases List.mem_cons.1 hy with rfl | hy
        · exact h2
        · exact hst y hy
theorem kept_under (P : List (List UInt8)) (n : List UInt8) (h : depthFrom 0 (els n) ≠ none) : kept P n = kept [] n ++ P := fold_under (els n) [] P (fun _ h => by cases h) h
theorem body_prefix (N P : List (List UInt8)) (hP : P ≠ []) (hN : N ≠ []) : body (N ++ P) = body P ++ 47 :: [47].intercalate N.reverse := by
  unfold body
  rw [List.reverse_append]
  have key : ∀ (A B : List (List UInt8)), A ≠ [] → B ≠ [] → [47].intercalate (A ++ B) = [47].intercalate A ++ 47 :: [47].intercalate B := by
    intro A
    induction A with
    | nil => intro B h _; exact absurd rfl h
    | cons x t ih =>
      intro B _ hB
      by_cases ht : t = []
      · subst ht
        simp only [List.cons_append, List.nil_append]
        rw [inter_cons x B hB]
        simp [List.intercalate]
      · rw [List.cons_append, inter_cons x (t ++ B) (by simp [ht]), ih B ht hB, inter_cons x t ht]
        simp
  rw [key _ _ (by simpa using hP) (by simpa using hN)]
  simp
theorem body_starts (N P : List (List UInt8)) : ∃ x, body (N ++ P) = body P ++ x := by
  by_cases hP : P = []
  · subst hP
    exact ⟨_, by rw [List.append_nil]; show body N = body [] ++ [47].intercalate N.reverse; simp [body, List.intercalate]⟩
  · by_cases hN : N = []
    · subst hN; exact ⟨[], by simp⟩
    · exact ⟨_, body_prefix N P hP hN⟩
end Go.Proofs.YtedjcbjocgkgnaaDoor.CleanLaw
