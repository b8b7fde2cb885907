/- The form of a name in the reference: what MemName gives, as a function. -/
import Derived.Test.YtckjbgneblfceaaPFnMergeDirsx3
import Derived.IntWalk
namespace Go.Proofs.Ytckjbgneblfceaa.Mn
open Go.RowKit Go.Proofs.YtckjbgneblfceaaW.PrintWords Go.Proofs.YtckjbgneblfceaaW.PrintLast Go.Proofs.YtckjbgneblfceaaW.PrintMore Go.Proofs.Ytckjbgneblfceaa.PFnMergeDirs
set_option linter.unusedVariables false
set_option linter.unusedSimpArgs false
def lst (l : List ByteArray) : List UInt8 := (rdOf ByteArray.empty l ((l.length : Int) - 1)).toList
def mstep (rt : Bool) (l : List ByteArray) (e : ByteArray) : List ByteArray :=
  if e.toList = ([] : List UInt8) then l else if e.toList = ([46] : List UInt8) then l else
  if e.toList = ([46, 46] : List UInt8) then (if 0 < l.length ∧ lst l ≠ ([46, 46] : List UInt8) then l.take (l.length - 1) else if rt = true then l else l ++ [e]) else l ++ [e]
/-- Where the element ends that begins at i. -/
def eend (s : ByteArray) : Nat → Nat → Nat
  | 0, i => i
  | f + 1, i => if i < s.size then (if bt s i = 47 then i else eend s f (i + 1)) else i
/-- The elements that are kept, from i on. -/
def mels (s : ByteArray) (rt : Bool) : Nat → Nat → List ByteArray → List ByteArray
  | 0, _, l => l
  | f + 1, i, l => if i < s.size then mels s rt f (eend s (s.size - i) i + 1) (mstep rt l (s.extract i (eend s (s.size - i) i))) else l
def mjoin (rt : Bool) : Bool → ByteArray → List ByteArray → ByteArray
  | _, out, [] => out
  | p, out, e :: r => mjoin rt true (if p = true ∨ rt = true then (out ++ (⟨#[47]⟩ : ByteArray)) ++ e else out ++ e) r
def mfin (out : ByteArray) : ByteArray := if out.toList = ([] : List UInt8) then ⟨#[47]⟩ else if out.toList = ([46, 46] : List UInt8) then ⟨#[47]⟩ else out
def rooted (s : ByteArray) : Bool := if 0 < s.size then bt s 0 == 47 else false
/-- The form of a name that is kept. -/
def memName (s : ByteArray) : ByteArray := mfin (mjoin (rooted s) false ⟨#[]⟩ (mels s (rooted s) s.size 0 []))
theorem eend_ge (s : ByteArray) : ∀ f i, i ≤ eend s f i
  | 0, i => Nat.le_refl _
  | f + 1, i => by
    unfold eend
    split
    · split
      · exact Nat.le_refl _
      · exact Nat.le_trans (Nat.le_succ i) (eend_ge s f (i + 1))
    · exact Nat.le_refl _
theorem eend_le (s : ByteArray) : ∀ f i, i ≤ s.size → eend s f i ≤ s.size
  | 0, i, h => h
  | f + 1, i, h => by
    unfold eend
    split
    · split
      · exact h
      · exact eend_le s f (i + 1) (by omega)
    · exact h
theorem ev_succ {α : Type} {g h : Nat → Option α} {r : α} (e : Ev h r) (hg : ∀ k, g (k + 1) = h k) : Ev g r := by
  obtain ⟨K, hK⟩ := e
  refine ⟨K + 1, fun k hk => ?_⟩
  obtain ⟨k, rfl⟩ : ∃ j, k = j + 1 := ⟨k - 1, by omega⟩
  rw [hg]
  exact hK k (by omega)
theorem ev_now {α : Type} {g : Nat → Option α} {r : α} (hg : ∀ k, g (k + 1) = some r) : Ev g r := ⟨1, fun k hk => by
  obtain ⟨k, rfl⟩ : ∃ j, k = j + 1 := ⟨k - 1, by omega⟩
  exact hg k⟩
theorem w1 {x : Nat} (h : x < 9223372036854775807) : wrap64 ((x : Int) + 1) = ((x + 1 : Nat) : Int) := by unfold wrap64; omega
theorem ev_l1 (s : ByteArray) (hs : s.size ≤ 2147483647) (l : List ByteArray) (rt : Bool) (i : Nat) (R : ByteArray) : ∀ (f k : Nat), f = s.size - k → Ev (fun g => spec_MemName.j3 g s l rt i (eend s f k)) R → Ev (fun g => spec_MemName.l1 g s l rt i k) R
  | 0, k, hf, e => ev_succ e (fun g => by
      unfold spec_MemName.l1
      rw [if_neg (by omega)]
      rfl)
  | f + 1, k, hf, e => by
    have hk : k < s.size := by omega
    by_cases hb : bt s k = 47
    · have he : eend s (f + 1) k = k := by unfold eend; rw [if_pos hk, if_pos hb]
      rw [he] at e
      exact ev_succ e (fun g => by
        unfold spec_MemName.l1
        rw [if_pos (by omega), if_pos (by omega), if_pos hb])
    · have he : eend s (f + 1) k = eend s f (k + 1) := by rw [eend, if_pos hk, if_neg hb]
      rw [he] at e
      exact ev_succ (ev_l1 s hs l rt i R f (k + 1) (by omega) e) (fun g => by
        show spec_MemName.l1 (g + 1) s l rt i k = _
        rw [spec_MemName.l1, if_pos (by omega), if_pos (by omega), if_neg hb, w1 (by omega)])
theorem ev_j3 (s : ByteArray) (hs : s.size ≤ 2147483647) (l : List ByteArray) (hl : l.length ≤ 2147483648) (rt : Bool) (i k : Nat) (hik : i ≤ k) (hk : k ≤ s.size) (R : ByteArray) (e : Ev (fun g => spec_MemName.l0 g s (mstep rt l (s.extract i k)) rt ((k + 1 : Nat) : Int)) R) : Ev (fun g => spec_MemName.j3 g s l rt i k) R := by
  have hw : wrap64 ((k : Int) + 1) = ((k + 1 : Nat) : Int) := w1 (by omega)
  have hx : ((i : Int)).toNat = i := Int.toNat_natCast i
  have hy : ((k : Int)).toNat = k := Int.toNat_natCast k
  by_cases h1 : (s.extract i k).toList = ([] : List UInt8)
  · refine ev_succ (h := fun g => spec_MemName.j4 g s l rt k (s.extract i k) true) (ev_succ e (fun g => ?_)) (fun g => ?_)
    · rw [spec_MemName.j4, if_pos rfl, hw, mstep, if_pos h1]
    · rw [spec_MemName.j3, if_pos (by omega), if_pos (by omega), if_pos (by omega), hx, hy, if_pos h1]
  · by_cases h2 : (s.extract i k).toList = ([46] : List UInt8)
    · refine ev_succ (h := fun g => spec_MemName.j4 g s l rt k (s.extract i k) true) (ev_succ e (fun g => ?_)) (fun g => ?_)
      · rw [spec_MemName.j4, if_pos rfl, hw, mstep, if_neg h1, if_pos h2]
      · rw [spec_MemName.j3, if_pos (by omega), if_pos (by omega), if_pos (by omega), hx, hy, if_neg h1, h2]
        rfl
    · have hb : ((s.extract i k).toList == ([46] : List UInt8)) = false := by simpa using h2
      refine ev_succ (h := fun g => spec_MemName.j4 g s l rt k (s.extract i k) false) ?_ (fun g => ?_)
      · by_cases h3 : (s.extract i k).toList = ([46, 46] : List UInt8)
        · by_cases h4 : 0 < l.length
          · have hw2 : wrap64 ((l.length : Int) - 1) = (l.length : Int) - 1 := by unfold wrap64; omega
            by_cases h5 : lst l = ([46, 46] : List UInt8)
            · have hm : mstep rt l (s.extract i k) = if rt = true then l else l ++ [s.extract i k] := by
                rw [mstep, if_neg h1, if_neg h2, if_pos h3, if_neg (by simp [h5])]
              rw [hm] at e
              refine ev_succ (h := fun g => spec_MemName.j5 g s l rt k (s.extract i k) false) (ev_succ e (fun g => ?_)) (fun g => ?_)
              · rw [spec_MemName.j5, if_neg (by simp)]
                by_cases h6 : rt = true
                · rw [if_pos h6, if_pos h6, hw]
                · rw [if_neg h6, if_neg h6, if_pos (by omega), hw]
              · rw [spec_MemName.j4, if_neg (by simp), if_pos h3, if_pos (by omega), hw2, if_pos (by omega), if_pos (by omega)]
                have : ((rdOf ByteArray.empty l ((l.length : Int) - 1)).toList != ([46, 46] : List UInt8)) = false := by
                  have := h5; unfold lst at this; rw [this]; rfl
                rw [this]
            · have hm : mstep rt l (s.extract i k) = l.take (l.length - 1) := by
                rw [mstep, if_neg h1, if_neg h2, if_pos h3, if_pos ⟨h4, h5⟩]
              rw [hm] at e
              refine ev_succ (h := fun g => spec_MemName.j5 g s l rt k (s.extract i k) true) (ev_succ e (fun g => ?_)) (fun g => ?_)
              · rw [spec_MemName.j5, if_pos rfl, hw2, if_pos (by omega), if_pos (by omega), hw, show ((l.length : Int) - 1).toNat = l.length - 1 by omega]
              · rw [spec_MemName.j4, if_neg (by simp), if_pos h3, if_pos (by omega), hw2, if_pos (by omega), if_pos (by omega)]
                have : ((rdOf ByteArray.empty l ((l.length : Int) - 1)).toList != ([46, 46] : List UInt8)) = true := by
                  have := h5; unfold lst at this; simpa using this
                rw [this]
          · have hm : mstep rt l (s.extract i k) = if rt = true then l else l ++ [s.extract i k] := by
              rw [mstep, if_neg h1, if_neg h2, if_pos h3, if_neg (by simp [h4])]
            rw [hm] at e
            refine ev_succ (h := fun g => spec_MemName.j5 g s l rt k (s.extract i k) false) (ev_succ e (fun g => ?_)) (fun g => ?_)
            · rw [spec_MemName.j5, if_neg (by simp)]
              by_cases h6 : rt = true
              · rw [if_pos h6, if_pos h6, hw]
              · rw [if_neg h6, if_neg h6, if_pos (by omega), hw]
            · rw [spec_MemName.j4, if_neg (by simp), if_pos h3, if_neg (by omega)]
        · have hm : mstep rt l (s.extract i k) = l ++ [s.extract i k] := by
            rw [mstep, if_neg h1, if_neg h2, if_neg h3]
          rw [hm] at e
          exact ev_succ e (fun g => by rw [spec_MemName.j4, if_neg (by simp), if_neg h3, if_pos (by omega), hw])
      · rw [spec_MemName.j3, if_pos (by omega), if_pos (by omega), if_pos (by omega), hx, hy, if_neg h1, hb]
theorem mstep_len (rt : Bool) (l : List ByteArray) (e : ByteArray) : (mstep rt l e).length ≤ l.length + 1 := by
  unfold mstep
  repeat' split
  all_goals (simp <;> omega)
theorem mstep_mem (rt : Bool) (l : List ByteArray) (e : ByteArray) (n : Nat) (hl : ∀ x ∈ l, x.size ≤ n) (he : e.size ≤ n) : ∀ x ∈ mstep rt l e, x.size ≤ n := by
  have ha : ∀ x ∈ l ++ [e], x.size ≤ n := fun x hx => by
    rcases List.mem_append.1 hx with h | h
    · exact hl x h
    · rw [List.mem_singleton.1 h]; exact he
  unfold mstep
  split
  · exact hl
  · split
    · exact hl
    · split
      · split
        · exact fun x hx => hl x (List.mem_of_mem_take hx)
        · split
          · exact hl
          · exact ha
      · exact ha
theorem ext_size (s : ByteArray) (i k : Nat) : (s.extract i k).size ≤ s.size := by
  rw [ByteArray.size_extract]; omega
theorem mels_mem (s : ByteArray) (rt : Bool) : ∀ f i l, (∀ x ∈ l, x.size ≤ s.size) → ∀ x ∈ mels s rt f i l, x.size ≤ s.size
  | 0, _, l, h => h
  | f + 1, i, l, h => by
    unfold mels
    split
    · exact mels_mem s rt f _ _ (mstep_mem rt l _ _ h (ext_size _ _ _))
    · exact h
theorem mels_len (s : ByteArray) (rt : Bool) : ∀ f i l, (mels s rt f i l).length ≤ l.length + f
  | 0, _, l => Nat.le_refl _
  | f + 1, i, l => by
    unfold mels
    split
    · have h1 := mels_len s rt f (eend s (s.size - i) i + 1) (mstep rt l (s.extract i (eend s (s.size - i) i)))
      have h2 := mstep_len rt l (s.extract i (eend s (s.size - i) i))
      omega
    · omega
theorem ev_l0 (s : ByteArray) (hs : s.size ≤ 2147483647) (rt : Bool) (R : ByteArray) : ∀ (f i : Nat) (l : List ByteArray), s.size - i ≤ f → l.length ≤ i → i ≤ s.size + 1 →
    Ev (fun g => spec_MemName.l2 g rt (⟨#[]⟩ : ByteArray) (mels s rt f i l) ((mels s rt f i l).length : Int) 0) R → Ev (fun g => spec_MemName.l0 g s l rt i) R
  | f, i, l, hf, hl, hi, e => by
    by_cases hlt : i < s.size
    · obtain ⟨f, rfl⟩ : ∃ f', f = f' + 1 := ⟨f - 1, by omega⟩
      rw [show mels s rt (f + 1) i l = mels s rt f (eend s (s.size - i) i + 1) (mstep rt l (s.extract i (eend s (s.size - i) i))) by rw [mels, if_pos hlt]] at e
      have hk1 := eend_ge s (s.size - i) i
      have hk2 := eend_le s (s.size - i) i (by omega)
      have h2 := mstep_len rt l (s.extract i (eend s (s.size - i) i))
      have e2 := ev_l0 s hs rt R f _ _ (by omega) (by omega) (by omega) e
      refine ev_succ (ev_l1 s hs l rt i R (s.size - i) i rfl (ev_j3 s hs l (by omega) rt i _ hk1 hk2 R e2)) (fun g => ?_)
      rw [spec_MemName.l0, if_pos (by omega)]
    · have hm : mels s rt f i l = l := by
        cases f with
        | zero => rfl
        | succ f => rw [mels, if_neg hlt]
      rw [hm] at e
      refine ev_succ e (fun g => ?_)
      rw [spec_MemName.l0, if_neg (by omega)]
theorem ev_l2 (rt : Bool) (L : List ByteArray) (hL : L.length ≤ 2147483648) (hx : ∀ x ∈ L, x.size ≤ 2147483647) : ∀ (d j : Nat) (out : ByteArray), j + d = L.length → out.size ≤ j * 2147483648 →
    Ev (fun g => spec_MemName.l2 g rt out L (L.length : Int) j) (mfin (mjoin rt (decide (0 < j)) out (L.drop j)))
  | 0, j, out, hd, ho => by
    rw [List.drop_eq_nil_of_le (by omega)]
    refine ev_now (fun g => ?_)
    rw [spec_MemName.l2, if_neg (by omega)]
    unfold mjoin mfin
    split
    · rfl
    · split <;> rfl
  | d + 1, j, out, hd, ho => by
    have hj : j < L.length := by omega
    have hdr : L.drop j = L[j] :: L.drop (j + 1) := List.drop_eq_getElem_cons hj
    have hrd : rdOf ByteArray.empty L (j : Int) = L[j] := by
      unfold rdOf
      rw [Int.toNat_natCast, List.getD_eq_getElem?_getD, List.getElem?_eq_getElem hj]
      rfl
    have hsz := hx L[j] (List.getElem_mem hj)
    have hw : wrap64 ((j : Int) + 1) = ((j + 1 : Nat) : Int) := w1 (by omega)
    have s1 : (out ++ (⟨#[47]⟩ : ByteArray)).size = out.size + 1 := by rw [ByteArray.size_append]; rfl
    have s2 : ((out ++ (⟨#[47]⟩ : ByteArray)) ++ L[j]).size = out.size + 1 + L[j].size := by rw [ByteArray.size_append, s1]
    have s3 : (out ++ L[j]).size = out.size + L[j].size := ByteArray.size_append
    have hbd : out.size ≤ 2147483648 * 2147483648 := Nat.le_trans ho (Nat.mul_le_mul_right _ (by omega))
    have hnx : out.size + 1 + L[j].size ≤ (j + 1) * 2147483648 := by rw [Nat.succ_mul]; omega
    rw [hdr, mjoin]
    by_cases h0 : 0 < j
    · rw [if_pos (.inl (by simpa using h0))]
      have ih := ev_l2 rt L hL hx d (j + 1) ((out ++ (⟨#[47]⟩ : ByteArray)) ++ L[j]) (by omega) (by rw [s2]; exact hnx)
      rw [show decide (0 < j + 1) = true by simp] at ih
      refine ev_succ ih (fun g => ?_)
      rw [spec_MemName.l2, if_pos (by omega), if_pos (by omega), if_pos (by omega), if_pos (by omega), if_pos (by omega), hrd, if_pos (by omega), hw]
    · by_cases h1 : rt = true
      · rw [if_pos (.inr h1)]
        have ih := ev_l2 rt L hL hx d (j + 1) ((out ++ (⟨#[47]⟩ : ByteArray)) ++ L[j]) (by omega) (by rw [s2]; exact hnx)
        rw [show decide (0 < j + 1) = true by simp] at ih
        refine ev_succ ih (fun g => ?_)
        rw [spec_MemName.l2, if_pos (by omega), if_pos (by omega), if_pos (by omega), if_neg (by omega), if_pos h1, if_pos (by omega), hrd, if_pos (by omega), hw]
      · rw [if_neg (by simp [h0, h1])]
        have ih := ev_l2 rt L hL hx d (j + 1) (out ++ L[j]) (by omega) (by rw [s3]; omega)
        rw [show decide (0 < j + 1) = true by simp] at ih
        refine ev_succ ih (fun g => ?_)
        rw [spec_MemName.l2, if_pos (by omega), if_pos (by omega), if_pos (by omega), if_neg (by omega), if_neg h1, hrd, if_pos (by omega), hw]
theorem memName_f (s : ByteArray) (hs : s.size ≤ 2147483647) : ∃ k, spec_MemName.f k s = some (memName s) := by
  have hl := mels_len s (rooted s) s.size 0 []
  have e2 := ev_l2 (rooted s) (mels s (rooted s) s.size 0 []) (by simp at hl; omega) (fun x hx => by have := mels_mem s (rooted s) s.size 0 [] (fun x hx => by simp at hx) x hx; omega) _ 0 ⟨#[]⟩ (Nat.zero_add _) (by decide)
  rw [List.drop_zero, show decide (0 < 0) = false from rfl] at e2
  have e0 := ev_l0 s hs (rooted s) _ s.size 0 [] (by omega) (by simp) (by omega) e2
  have ej : Ev (fun g => spec_MemName.j0 g s [] (rooted s)) (memName s) := ev_succ e0 (fun g => by rw [spec_MemName.j0]; rfl)
  obtain ⟨k, hk⟩ := ej.rounds
  refine ⟨k, ?_⟩
  unfold spec_MemName.f
  simp only [Option.bind_some]
  by_cases h : 0 < s.size
  · rw [if_pos (by omega), if_pos (by omega)]
    have : rooted s = (bt s 0 == 47) := by unfold rooted; rw [if_pos h]
    rw [← this]
    exact hk
  · rw [if_neg (by omega)]
    have : rooted s = false := by unfold rooted; rw [if_neg h]
    rw [this] at hk
    exact hk
theorem memName_any (s : ByteArray) (hs : s.size ≤ 2147483647) (w : World) : Calls Try.prog 11 #[.string s] w fun e w' => e = .returned (.string (memName s)) ∧ Below w.heap.size w w' := by
  obtain ⟨k, hk⟩ := memName_f s hs
  exact spec_MemName.calls k s (memName s) w hk
end Go.Proofs.Ytckjbgneblfceaa.Mn
