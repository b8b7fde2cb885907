/- Whether one text lies in another; what the window of a search holds. -/
import Derived.Test.YtckjbgneblfceaaDoorCb
import Derived.Test.YtckjbgneblfceaaDoorPFnContainsSlicex1
namespace Go.Proofs.YtckjbgneblfceaaDoor.Cc
open Go.RowKit Go.Maps Go.Proofs.YtckjbgneblfceaaDoorW.PrintWords Go.Proofs.YtckjbgneblfceaaDoorW.PrintLast Go.Proofs.YtckjbgneblfceaaDoorW.PrintMore Go.Proofs.YtckjbgneblfceaaDoor.Fa Go.Proofs.YtckjbgneblfceaaDoor.Fm Go.Proofs.YtckjbgneblfceaaDoor.Ca Go.Proofs.YtckjbgneblfceaaDoor.Cb
open Go.Proofs.YtckjbgneblfceaaDoor.PFnContainsSlice (afero_zzIndex.l0 afero_zzIndex.f afero_zzContains.f afero_zzContains.calls)
set_option linter.unusedVariables false
set_option linter.unusedSimpArgs false
theorem w64a (i j : Nat) (h : i + j ≤ 2147483648) : wrap64 ((i : Int) + (j : Int)) = ((i + j : Nat) : Int) := by unfold wrap64; omega
theorem w64b (i : Nat) (h : i ≤ 2147483648) : wrap64 ((i : Int) + 1) = ((i + 1 : Nat) : Int) := by unfold wrap64; omega
def Occ (s t : ByteArray) (q : Nat) : Prop := q + t.size ≤ s.size ∧ (s.extract q (q + t.size)).toList = t.toList
theorem idx_from (s t : ByteArray) (hs : s.size ≤ 1000000) (ht : t.size ≤ 1000000) : ∀ d i : Nat, i + d = s.size + 1 → ∀ k, d < k → ∃ r : Int, afero_zzIndex.l0 k s t (i : Int) = some r ∧ ((∃ q, i ≤ q ∧ Occ s t q) → 0 ≤ r)
  | 0, i, h, 0, hk => by omega
  | 0, i, h, k + 1, hk => by
    unfold afero_zzIndex.l0
    rw [w64a i t.size (by omega), if_neg (by omega)]
    exact ⟨-1, rfl, fun ⟨q, h1, h2, _⟩ => by omega⟩
  | d + 1, i, h, 0, hk => by omega
  | d + 1, i, h, k + 1, hk => by
    unfold afero_zzIndex.l0
    rw [w64a i t.size (by omega)]
    by_cases h1 : i + t.size ≤ s.size
    · rw [if_pos (by omega), if_pos (by omega), if_pos (by omega), Int.toNat_natCast, Int.toNat_natCast]
      split
      · exact ⟨_, rfl, fun _ => by omega⟩
      · rename_i hne
        rw [w64b i (by omega)]
        obtain ⟨r, hr, hq⟩ := idx_from s t hs ht d (i + 1) (by omega) k (by omega)
        refine ⟨r, hr, fun ⟨q, h2, h3, h4⟩ => hq ⟨q, ?_, h3, h4⟩⟩
        rcases Nat.lt_or_ge i q with h5 | h5
        · exact h5
        · obtain rfl : q = i := by omega
          exact absurd h4 hne
    · rw [if_neg (by omega)]
      exact ⟨-1, rfl, fun ⟨q, h2, h3, _⟩ => by omega⟩
theorem contains_any (s t : ByteArray) (hs : s.size ≤ 1000000) (ht : t.size ≤ 1000000) : ∃ r : Bool, (∀ W : World, Calls Tryd.prog 69 #[.string s, .string t] W fun e w' => e = .returned (.bool r) ∧ Below W.heap.size W w') ∧ ((∃ q, Occ s t q) → r = true) := by
  obtain ⟨r, hr, hq⟩ := idx_from s t hs ht (s.size + 1) 0 (by omega) (s.size + 2) (by omega)
  refine ⟨decide (r ≥ 0), fun W => (afero_zzContains.calls (s.size + 2) s t _ W ?_).mono (fun e w' h => ⟨h.1, h.2.below⟩), fun ⟨q, h⟩ => by simpa using hq ⟨q, Nat.zero_le _, h⟩⟩
  unfold afero_zzContains.f afero_zzIndex.f
  have hr : afero_zzIndex.l0 (s.size + 2) s t 0 = some r := hr
  rw [hr]
  rfl
theorem str_part (xs : List Int) (q e : Nat) : (strOfNums xs).extract q e = strOfNums ((xs.drop q).take (e - q)) := by
  apply ByteArray.ext
  rw [ByteArray.data_extract]
  unfold strOfNums
  simp [List.map_drop, List.map_take]
theorem occ_of (xs sub : List Int) (q : Nat) (h1 : q + sub.length ≤ xs.length) (h2 : (xs.drop q).take sub.length = sub) : Occ (strOfNums xs) (strOfNums sub) q := by
  unfold Occ
  rw [strOfNums_size, strOfNums_size]
  refine ⟨h1, ?_⟩
  rw [str_part, show q + sub.length - q = sub.length by omega, h2]
/-- What the window shows of a part of the bytes. -/
theorem window (xs data : List Int) (b M fr L : Nat) (h : xs.take M = (data.drop b).take M) (h1 : b ≤ fr) (h2 : fr + L ≤ b + M) : (xs.drop (fr - b)).take L = (data.drop fr).take L := by
  have e1 : ((xs.take M).drop (fr - b)).take L = (xs.drop (fr - b)).take L := by
    rw [List.drop_take, List.take_take, Nat.min_eq_left (by omega)]
  have e2 : (((data.drop b).take M).drop (fr - b)).take L = (data.drop fr).take L := by
    rw [List.drop_take, List.take_take, Nat.min_eq_left (by omega), List.drop_drop, show b + (fr - b) = fr by omega]
  rw [← e1, h, e2]
/-- The longest. -/
def mxl : List (List Int) → Nat
  | [] => 0
  | x :: l => max x.length (mxl l)
theorem mxl_app : ∀ (l : List (List Int)) (x : List Int), mxl (l ++ [x]) = max (mxl l) x.length
  | [], x => by simp [mxl]
  | y :: l, x => by
    show max y.length (mxl (l ++ [x])) = max (max y.length (mxl l)) x.length
    rw [mxl_app l x]
    omega
theorem mxl_le : ∀ (l : List (List Int)), ∀ x ∈ l, x.length ≤ mxl l
  | y :: l, x, h => by
    rcases List.mem_cons.1 h with rfl | h
    · exact Nat.le_max_left _ _
    · exact Nat.le_trans (mxl_le l x h) (Nat.le_max_right _ _)
theorem mxl_bound (B : Nat) : ∀ (l : List (List Int)), (∀ x ∈ l, x.length ≤ B) → mxl l ≤ B
  | [], _ => Nat.zero_le _
  | y :: l, h => by
    have h1 := h y (List.mem_cons_self ..)
    have h2 := mxl_bound B l (fun x hx => h x (List.mem_cons_of_mem _ hx))
    show max y.length (mxl l) ≤ B
    omega
/-- What the buffer holds ahead of round i + 1. -/
def Buf (data : List Int) (h i : Nat) (xs : List Int) : Prop := xs.length = 2 * h ∧ (i = 1 → xs.take h = data.take h) ∧ (2 ≤ i → xs.drop h = (data.drop ((i - 1) * h)).take h)
/-- C_part: a part of a row can be read. -/
theorem C_part {W : World} {base g n c : Nat} {ok : Nat → Prop} {xs : List Int} (h : Kd.R (Kd.int .u8) 5 W base ok (.slice (some ⟨g, 0, none⟩) n c) xs) (p k : Nat) (hp : p + k ≤ xs.length) :
    Kd.C (Kd.int .u8) W (some ⟨g, p, none⟩) k ((xs.drop p).take k) := by
  have hl := (Kd.R_reads' h)
  have hmax := Kd.C_max hl.2.2
  have hlen : ((xs.drop p).take k).length = k := by rw [List.length_take, List.length_drop]; omega
  refine ⟨hlen, by omega, fun _ => ⟨⟨g, p, none⟩, rfl, fun j x hj => ⟨[.int .u8 x], rfl, rfl, fun i u hi => ?_⟩⟩⟩
  match i, hi with
  | 0, hi =>
    simp at hi
    subst hi
    have hjl := (List.getElem?_eq_some_iff.1 hj).1
    rw [hlen] at hjl
    rw [List.getElem?_take, if_pos (by omega), List.getElem?_drop] at hj
    have hc := (Kd.R_celln (h1 := enc1 .u8) (0 : Int) h ((p + j : Nat) : Int) (by omega) (by omega)).1
    rw [Int.toNat_natCast, rdOf, Int.toNat_natCast, List.getD_eq_getElem?_getD, hj] at hc
    rw [show (⟨g, p, none⟩ : Addr).add (j * (Kd.int IntKind.u8).sz + 0) = ⟨g, p + j, none⟩ by simp [Addr.add, Kd.int, Kd.scalar]]
    exact hc
/-- Round 1. -/
theorem buf_0 (data xs : List Int) (h k : Nat) (hx : xs.length = 2 * h) (hk : k ≤ h) (hd : k ≤ data.length) :
    (xs.take 0 ++ (data.drop 0).take k ++ xs.drop (0 + k)).take k = (data.drop 0).take k ∧ (xs.take 0 ++ (data.drop 0).take k ++ xs.drop (0 + k)).length = 2 * h := by
  have e : ((data.drop 0).take k).length = k := by rw [List.length_take, List.length_drop]; omega
  refine ⟨?_, by simp [List.length_take, List.length_drop]; omega⟩
  rw [List.take_zero, List.nil_append, List.take_left' e]
/-- A later round. -/
theorem buf_i (data xs : List Int) (h k i : Nat) (hi : 1 ≤ i) (hx : xs.length = 2 * h) (hp : xs.take h = (data.drop ((i - 1) * h)).take h) (hd : i * h + k ≤ data.length) (hk : k ≤ h) :
    (xs.take h ++ (data.drop (i * h)).take k ++ xs.drop (h + k)).take (h + k) = (data.drop ((i - 1) * h)).take (h + k) ∧ (xs.take h ++ (data.drop (i * h)).take k ++ xs.drop (h + k)).length = 2 * h ∧ (xs.take h ++ (data.drop (i * h)).take k ++ xs.drop (h + k)).drop h = (data.drop (i * h)).take k ++ xs.drop (h + k) := by
  have e0 : (xs.take h).length = h := by rw [List.length_take]; omega
  have e : ((data.drop (i * h)).take k).length = k := by rw [List.length_take, List.length_drop]; omega
  have ei : i * h = (i - 1) * h + h := by
    obtain ⟨j, rfl⟩ : ∃ j, i = j + 1 := ⟨i - 1, by omega⟩
    rw [Nat.add_sub_cancel, Nat.succ_mul]
  refine ⟨?_, ?_, ?_⟩
  · rw [List.take_left' (by rw [List.length_append, e0, e]), hp, ei, ← List.drop_drop, List.take_add]
  · rw [List.length_append, List.length_append, e0, e, List.length_drop]; omega
  · rw [List.append_assoc, List.drop_left' e0]
end Go.Proofs.YtckjbgneblfceaaDoor.Cc
