/- A part of the proof that FnAttributesPut answers true for all attributes, sizes and offsets. -/
import Derived.Test.YtckjbgneblfceaaDoorUB
import Derived.Test.YtckjbgneblfceaaDoorUF
import Derived.Handy
namespace Go.Proofs.YtckjbgneblfceaaDoor.Ff
open Go.RowKit Go.Maps Go.Proofs.YtckjbgneblfceaaDoorW.PrintWords Go.Proofs.YtckjbgneblfceaaDoorW.PrintLast Go.Proofs.YtckjbgneblfceaaDoorW.PrintMore Go.Proofs.YtckjbgneblfceaaDoor.PFnFitFirst Go.Proofs.YtckjbgneblfceaaDoor.Fa Go.Proofs.YtckjbgneblfceaaDoor.Fm Go.Proofs.YtckjbgneblfceaaDoor.Fb Go.Proofs.YtckjbgneblfceaaDoor.Fc Go.Proofs.YtckjbgneblfceaaDoor.Fd Go.Proofs.YtckjbgneblfceaaDoor.Fe
set_option linter.unusedVariables false
set_option linter.unusedSimpArgs false
end Go.Proofs.YtckjbgneblfceaaDoor.Ff
namespace Go.Proofs.YtckjbgneblfceaaDoor.Fg
open Go.RowKit Go.Maps Go.Proofs.YtckjbgneblfceaaDoorW.PrintWords Go.Proofs.YtckjbgneblfceaaDoorW.PrintLast Go.Proofs.YtckjbgneblfceaaDoorW.PrintMore Go.Proofs.YtckjbgneblfceaaDoor.PFnFitFirst Go.Proofs.YtckjbgneblfceaaDoor.Fa Go.Proofs.YtckjbgneblfceaaDoor.Fm Go.Proofs.YtckjbgneblfceaaDoor.Fb Go.Proofs.YtckjbgneblfceaaDoor.Fc Go.Proofs.YtckjbgneblfceaaDoor.Fd Go.Proofs.YtckjbgneblfceaaDoor.Fe Go.Proofs.YtckjbgneblfceaaDoor.Ff
set_option linter.unusedVariables false
set_option linter.unusedSimpArgs false
theorem w64 (i : Nat) (h : i ≤ 2147483648) : wrap64 ((i : Int) + 1) = ((i + 1 : Nat) : Int) := by unfold wrap64; omega
theorem fits_from (l : List S58) (hl : l.length ≤ 2147483647) : ∀ d i : Nat, i + d = l.length → ∀ k, d < k → ∃ r, laws_zzFits7.l0 k l (l.length : Int) (i : Int) = some r ∧ (r = true → ∀ j : Nat, i ≤ j → j < l.length → (l.getD j z58).f0.size ≤ 2147483647 ∧ (l.getD j z58).f1.length ≤ 2147483647)
  | 0, i, h, k + 1, hk => by
    unfold laws_zzFits7.l0
    rw [if_neg (by omega)]
    exact ⟨true, rfl, fun _ j h1 h2 => by omega⟩
  | d + 1, i, h, k + 1, hk => by
    unfold laws_zzFits7.l0
    rw [if_pos (by omega), if_pos (by omega), if_pos (by omega)]
    have e : rd_T58 l (i : Int) = l.getD i z58 := by unfold rd_T58; rw [Int.toNat_natCast]
    rw [e]
    unfold laws_zzFits8.f
    by_cases h1 : ((l.getD i z58).f0.size : Int) > 2147483647
    · rw [if_pos h1]
      exact ⟨false, rfl, fun h => by cases h⟩
    · rw [if_neg h1]
      by_cases h2 : ((l.getD i z58).f1.length : Int) > 2147483647
      · rw [if_pos h2]
        exact ⟨false, rfl, fun h => by cases h⟩
      · rw [if_neg h2, w64 i (by omega)]
        obtain ⟨r, hr, ht⟩ := fits_from l hl d (i + 1) (by omega) k (by omega)
        refine ⟨r, hr, fun hh j j1 j2 => ?_⟩
        by_cases e : j = i
        · subst e; exact ⟨by omega, by omega⟩
        · exact ht hh j (by omega) j2
theorem fits_any (l : List S58) : ∃ k r, laws_zzFits7.f k l = some r ∧ (r = true → l.length ≤ 2147483647 ∧ ∀ j : Nat, j < l.length → (l.getD j z58).f0.size ≤ 2147483647 ∧ (l.getD j z58).f1.length ≤ 2147483647) := by
  unfold laws_zzFits7.f
  by_cases h : (l.length : Int) > 2147483647
  · exact ⟨0, false, by rw [if_pos h], fun h => by cases h⟩
  · obtain ⟨r, hr, ht⟩ := fits_from l (by omega) l.length 0 (by omega) (l.length + 1) (by omega)
    exact ⟨l.length + 1, r, by rw [if_neg h]; exact hr, fun hh => ⟨by omega, fun j hj => ht hh j (by omega) hj⟩⟩
end Go.Proofs.YtckjbgneblfceaaDoor.Fg
namespace Go.Proofs.YtckjbgneblfceaaDoor.At
open Go.RowKit Go.Maps Go.Proofs.YtckjbgneblfceaaDoorW.PrintWords Go.Proofs.YtckjbgneblfceaaDoorW.PrintLast Go.Proofs.YtckjbgneblfceaaDoorW.PrintMore
open Go.Proofs.YtckjbgneblfceaaDoor.Da Go.Proofs.YtckjbgneblfceaaDoor.Fa Go.Proofs.YtckjbgneblfceaaDoor.Fm Go.Proofs.YtckjbgneblfceaaDoor.PFnFitFirst
open Go.Proofs.YtckjbgneblfceaaDoor.Fb Go.Proofs.YtckjbgneblfceaaDoor.Fc Go.Proofs.YtckjbgneblfceaaDoor.Fe
open Go.Proofs.YtckjbgneblfceaaDoor.Al (up4 roomL room laid40)
set_option linter.unusedVariables false
set_option linter.unusedSimpArgs false
theorem prefixed_k (s : ByteArray) (k : Nat) (hk : 8 ≤ k) : spec_Prefixed.f k s = some (comp s) := by
  unfold spec_Prefixed.f
  rw [Option.bind_some]
  exact pre_law s 7 0 rfl k (by omega)
/-- What is told of the attributes from i on. -/
def Told (l : List S58) (i : Nat) : Prop := ∀ p : Nat, i ≤ p → p < l.length → (comp (l.getD p z58).f0).2.toList ≠ [] ∧ (comp (l.getD p z58).f0).2.size ≤ 255 ∧ (l.getD p z58).f1.length ≤ 4096 ∧ ∀ q : Nat, q < p → (l.getD p z58).f0.toList ≠ (l.getD q z58).f0.toList
theorem fair2_l1 (l : List S58) (i : Nat) (s : ByteArray) (b : List Int) (K : Nat) (P : Prop) (hnext : ∀ k, K ≤ k → ∃ r, laws_attributesFair.l0 k l l (l.length : Int) (wrap64 ((i : Int) + 1)) = some r ∧ (r = true → P)) (y : List S58) (hy : y.length ≤ 100) : ∀ e j : Nat, j + e = y.length → ∀ k, K + e + 1 ≤ k → ∃ r, laws_attributesFair.l1 k l l (l.length : Int) (i : Int) y (y.length : Int) (j : Int) s b = some r ∧ (r = true → P ∧ ∀ q : Nat, j ≤ q → q < y.length → s.toList ≠ (y.getD q z58).f0.toList)
  | 0, j, h, 0, hk => by omega
  | 0, j, h, k + 1, hk => by
    unfold laws_attributesFair.l1
    rw [if_neg (by omega)]
    obtain ⟨r, hr, ht⟩ := hnext k (by omega)
    exact ⟨r, hr, fun h => ⟨ht h, fun q h1 h2 => by omega⟩⟩
  | e + 1, j, h, 0, hk => by omega
  | e + 1, j, h, k + 1, hk => by
    unfold laws_attributesFair.l1
    rw [if_pos (by omega), if_pos (by omega), if_pos (by omega)]
    have e1 : rd_T58 y (j : Int) = y.getD j z58 := by unfold rd_T58; rw [Int.toNat_natCast]
    rw [e1]
    by_cases hs : s.toList = (y.getD j z58).f0.toList
    · rw [if_pos hs]
      exact ⟨false, rfl, fun h => by cases h⟩
    · rw [if_neg hs, Fg.w64 j (by omega)]
      obtain ⟨r, hr, ht⟩ := fair2_l1 l i s b K P hnext y hy e (j + 1) (by omega) k (by omega)
      refine ⟨r, hr, fun h => ⟨(ht h).1, fun q h1 h2 => ?_⟩⟩
      by_cases e2 : q = j
      · subst e2; exact hs
      · exact (ht h).2 q (by omega) h2
theorem fair2_l0 (l : List S58) (hl : l.length ≤ 40) : ∀ d i : Nat, i + d = l.length → ∀ k, 50 * d + 60 ≤ k → ∃ r, laws_attributesFair.l0 k l l (l.length : Int) (i : Int) = some r ∧ (r = true → Told l i)
  | 0, i, h, 0, hk => by omega
  | 0, i, h, k + 1, hk => by
    unfold laws_attributesFair.l0
    rw [if_neg (by omega)]
    exact ⟨true, rfl, fun _ p h1 h2 => by omega⟩
  | d + 1, i, h, 0, hk => by omega
  | d + 1, i, h, 1, hk => by omega
  | d + 1, i, h, k + 2, hk => by
    have hyl : (l.take i).length = i := by rw [List.length_take]; omega
    have hj : ∀ (x : Bool) (s : ByteArray) (b : List Int), ∃ r, laws_attributesFair.j1 (k + 1) l (i : Int) l (l.length : Int) (i : Int) x s b = some r ∧ (r = true → x = false ∧ Told l (i + 1) ∧ ∀ q : Nat, q < i → s.toList ≠ (l.getD q z58).f0.toList) := fun x s b => by
      unfold laws_attributesFair.j1
      cases x
      · rw [if_neg (by decide), if_pos (by omega), if_pos (by omega), Option.bind_some]
        rw [Int.toNat_natCast]
        obtain ⟨r, hr, ht⟩ := fair2_l1 l i s b (50 * d + 60) (Told l (i + 1)) (fun k hk => by rw [Fg.w64 i (by omega)]; exact fair2_l0 l hl d (i + 1) (by omega) k hk) (l.take i) (by omega) i 0 (by omega) k (by omega)
        refine ⟨r, hr, fun h => ⟨rfl, (ht h).1, fun q hq => ?_⟩⟩
        have := (ht h).2 q (Nat.zero_le _) (by omega)
        rwa [List.getD_eq_getElem?_getD, List.getElem?_take_of_lt hq, ← List.getD_eq_getElem?_getD] at this
      · rw [if_pos rfl]; exact ⟨false, rfl, fun h => by cases h⟩
    unfold laws_attributesFair.l0
    rw [if_pos (by omega), if_pos (by omega), if_pos (by omega)]
    have e1 : rd_T58 l (i : Int) = l.getD i z58 := by unfold rd_T58; rw [Int.toNat_natCast]
    rw [e1, prefixed_k _ (k + 1) (by omega), Option.bind_some]
    have join : ∀ {r : Bool}, (r = true → Told l (i + 1) ∧ (comp (l.getD i z58).f0).2.toList ≠ [] ∧ (comp (l.getD i z58).f0).2.size ≤ 255 ∧ (l.getD i z58).f1.length ≤ 4096 ∧ ∀ q : Nat, q < i → (l.getD i z58).f0.toList ≠ (l.getD q z58).f0.toList) → (r = true → Told l i) := by
      intro r h hr p hp1 hp2
      obtain ⟨a1, a2, a3, a4, a5⟩ := h hr
      by_cases e : p = i
      · subst e; exact ⟨a2, a3, a4, a5⟩
      · exact a1 p (by omega) hp2
    by_cases c1 : (comp (l.getD i z58).f0).2.toList = ([] : List UInt8)
    · rw [if_pos c1]
      obtain ⟨r, hr, ht⟩ := hj true (l.getD i z58).f0 (l.getD i z58).f1
      exact ⟨r, hr, fun h => by cases (ht h).1⟩
    · rw [if_neg c1]
      by_cases c2 : ((comp (l.getD i z58).f0).2.size : Int) > 255
      · rw [if_pos c2]
        obtain ⟨r, hr, ht⟩ := hj true (l.getD i z58).f0 (l.getD i z58).f1
        exact ⟨r, hr, fun h => by cases (ht h).1⟩
      · rw [if_neg c2]
        obtain ⟨r, hr, ht⟩ := hj (decide (((l.getD i z58).f1.length : Int) > 4096)) (l.getD i z58).f0 (l.getD i z58).f1
        refine ⟨r, hr, join (fun h => ?_)⟩
        obtain ⟨b1, b2, b3⟩ := ht h
        have b4 := of_decide_eq_false b1
        exact ⟨b2, c1, by omega, by omega, b3⟩
theorem fair2 (l : List S58) : ∃ k r, laws_attributesFair.f k l = some r ∧ (r = true → l.length ≤ 40 ∧ Told l 0) := by
  unfold laws_attributesFair.f
  by_cases h : (l.length : Int) > 40
  · exact ⟨0, false, by rw [if_pos h], fun h => by cases h⟩
  · obtain ⟨r, hr, ht⟩ := fair2_l0 l (by omega) l.length 0 (by omega) (50 * l.length + 60) (Nat.le_refl _)
    exact ⟨_, r, by rw [if_neg h]; exact hr, fun h2 => ⟨by omega, ht h2⟩⟩
theorem wup4 (n : Nat) (h : n ≤ 1000000) : wrap64 ((wrap64 (Int.tdiv (wrap64 ((n : Int) + 3)) 4)) * 4) = ((up4 n : Nat) : Int) := by
  have h1 : wrap64 ((n : Int) + 3) = ((n + 3 : Nat) : Int) := by unfold wrap64; omega
  rw [h1, Int.tdiv_eq_ediv_of_nonneg (by omega)]
  unfold wrap64 up4
  omega
theorem room_law (x : S58) (k : Nat) (hk : 8 ≤ k) (h1 : (comp x.f0).2.size ≤ 255) (h2 : x.f1.length ≤ 4096) : PFnAttributesPut.spec_room.f k x.f0 x.f1 = some ((room x : Nat) : Int) := by
  unfold PFnAttributesPut.spec_room.f
  rw [prefixed_k _ k hk, Option.bind_some, wup4 _ (by omega), wup4 _ (by omega)]
  have u1 : up4 (comp x.f0).2.size ≤ 300 := by unfold up4; omega
  have u2 : up4 x.f1.length ≤ 5000 := by unfold up4; omega
  unfold room
  congr 1
  unfold wrap64
  omega
theorem rooms_l0 (l : List S58) (hl : l.length ≤ 40) (hf : ∀ x ∈ l, (comp x.f0).2.size ≤ 255 ∧ x.f1.length ≤ 4096) : ∀ d i k : Nat, i + d = l.length → 8 ≤ k → PFnAttributesPut.spec_Rooms.l0 (k + d + 1) ((roomL (l.take i) : Nat) : Int) (l.map to70) ((l.map to70).length : Int) (i : Int) = some ((roomL l : Nat) : Int)
  | 0, i, k, h, hk => by
    unfold PFnAttributesPut.spec_Rooms.l0
    rw [if_neg (by rw [List.length_map]; omega), List.take_of_length_le (by omega)]
  | d + 1, i, k, h, hk => by
    have hg : l[i]? = some (l.getD i z58) := by rw [List.getD_eq_getElem?_getD, List.getElem?_eq_getElem (by omega)]; rfl
    have hm := List.mem_of_getElem? hg
    obtain ⟨q1, q2⟩ := hf _ hm
    have e1 : rd_T70 (l.map to70) (i : Int) = to70 (l.getD i z58) := by
      unfold rd_T70
      rw [Int.toNat_natCast, List.getD_eq_getElem?_getD, List.getElem?_map, hg]; rfl
    unfold PFnAttributesPut.spec_Rooms.l0
    rw [if_pos (by rw [List.length_map]; omega), if_pos (by omega), if_pos (by rw [List.length_map]; omega), e1]
    have hr := room_law (l.getD i z58) (k + (d + 1)) (by omega) q1 q2
    have hr2 : PFnAttributesPut.spec_room.f (k + (d + 1)) (to70 (l.getD i z58)).f0 (to70 (l.getD i z58)).f1 = _ := hr
    rw [hr2, Option.bind_some]
    have e2 : l.take (i + 1) = l.take i ++ [l.getD i z58] := by rw [List.take_add_one, hg]; rfl
    have e3 := Al.roomL_snoc (l.take i) (l.getD i z58)
    rw [← e2] at e3
    have hb := Al.roomL_le (l.take (i + 1)) (fun y hy => by obtain ⟨a1, a2⟩ := hf y (List.mem_of_mem_take hy); exact Al.room_le a1 a2)
    rw [List.length_take] at hb
    have e4 : wrap64 (((roomL (l.take i) : Nat) : Int) + ((room (l.getD i z58) : Nat) : Int)) = ((roomL (l.take (i + 1)) : Nat) : Int) := by
      rw [e3] at hb ⊢; unfold wrap64; omega
    have e5 : wrap64 ((i : Int) + 1) = ((i + 1 : Nat) : Int) := by unfold wrap64; omega
    rw [e4, e5]
    exact rooms_l0 l hl hf d (i + 1) k (by omega) hk
theorem rooms_law (l : List S58) (hl : l.length ≤ 40) (hf : ∀ x ∈ l, (comp x.f0).2.size ≤ 255 ∧ x.f1.length ≤ 4096) : ∃ k, PFnAttributesPut.spec_Rooms.f k (l.map to70) = some ((roomL l : Nat) : Int) :=
  ⟨_, rooms_l0 l hl hf l.length 0 8 (by omega) (Nat.le_refl _)⟩
theorem long_l0 (l : List S58) (hl : l.length ≤ 40) : ∀ d i k : Nat, i + d = l.length → 8 ≤ k → ∃ r, PFnAttributesPut.spec_LongName.l0 (k + d + 1) (l.map to70) ((l.map to70).length : Int) (i : Int) = some r ∧ (r = false → ∀ p : Nat, i ≤ p → p < l.length → (comp (l.getD p z58).f0).2.size < 240)
  | 0, i, k, h, hk => by
    unfold PFnAttributesPut.spec_LongName.l0
    rw [if_neg (by rw [List.length_map]; omega)]
    exact ⟨false, rfl, fun _ p h1 h2 => by omega⟩
  | d + 1, i, k, h, hk => by
    have hg : l[i]? = some (l.getD i z58) := by rw [List.getD_eq_getElem?_getD, List.getElem?_eq_getElem (by omega)]; rfl
    have e1 : rd_T70 (l.map to70) (i : Int) = to70 (l.getD i z58) := by
      unfold rd_T70
      rw [Int.toNat_natCast, List.getD_eq_getElem?_getD, List.getElem?_map, hg]; rfl
    unfold PFnAttributesPut.spec_LongName.l0
    rw [if_pos (by rw [List.length_map]; omega), if_pos (by omega), if_pos (by rw [List.length_map]; omega), e1, prefixed_k _ (k + (d + 1)) (by omega), Option.bind_some]
    have e0 : (to70 (l.getD i z58)).f0 = (l.getD i z58).f0 := rfl
    rw [e0]
    by_cases hc : ((comp (l.getD i z58).f0).2.size : Int) ≥ 240
    · rw [if_pos hc]
      exact ⟨true, rfl, fun h => by cases h⟩
    · rw [if_neg hc, show wrap64 ((i : Int) + 1) = ((i + 1 : Nat) : Int) from by unfold wrap64; omega]
      obtain ⟨r, hr, ht⟩ := long_l0 l hl d (i + 1) k (by omega) hk
      refine ⟨r, hr, fun h p h1 h2 => ?_⟩
      by_cases e : p = i
      · subst e; omega
      · exact ht h p (by omega) h2
theorem long_law (l : List S58) (hl : l.length ≤ 40) : ∃ k r, PFnAttributesPut.spec_LongName.f k (l.map to70) = some r ∧ (r = false → ∀ p : Nat, p < l.length → (comp (l.getD p z58).f0).2.size < 240) := by
  obtain ⟨r, hr, ht⟩ := long_l0 l hl l.length 0 8 (by omega) (Nat.le_refl _)
  exact ⟨_, r, hr, fun h p hp => ht h p (Nat.zero_le _) hp⟩
theorem dups_l0 (l : List S58) (hl : l.length ≤ 40) (hf : ∀ x ∈ l, x.f1.length ≤ 4096) : ∀ d i k : Nat, i + d = l.length → PFnAttributesPut.laws_dupXattrs.l0 (k + d + 1) (l.take i) l (l.length : Int) (i : Int) = some l
  | 0, i, k, h => by
    unfold PFnAttributesPut.laws_dupXattrs.l0
    rw [if_neg (by omega), List.take_of_length_le (by omega)]
  | d + 1, i, k, h => by
    have hg : l[i]? = some (l.getD i z58) := by rw [List.getD_eq_getElem?_getD, List.getElem?_eq_getElem (by omega)]; rfl
    have hv := hf _ (List.mem_of_getElem? hg)
    have e1 : rd_T58 l (i : Int) = l.getD i z58 := by unfold rd_T58; rw [Int.toNat_natCast]
    have e2 : l.take (i + 1) = l.take i ++ [l.getD i z58] := by rw [List.take_add_one, hg]; rfl
    have hd : PFnAttributesPut.laws_dup.f (l.getD i z58).f1 = some (l.getD i z58).f1 := by
      unfold PFnAttributesPut.laws_dup.f
      rw [Option.bind_some, if_pos (by show 0 + (l.getD i z58).f1.length < _; omega), List.nil_append]
    unfold PFnAttributesPut.laws_dupXattrs.l0
    rw [if_pos (by omega), if_pos (by omega), if_pos (by omega), e1, hd, Option.bind_some, if_pos (by rw [List.length_take]; omega), show wrap64 ((i : Int) + 1) = ((i + 1 : Nat) : Int) from by unfold wrap64; omega]
    have := dups_l0 l hl hf d (i + 1) k (by omega)
    rw [e2] at this
    exact this
theorem dups_law (l : List S58) (hl : l.length ≤ 40) (hf : ∀ x ∈ l, x.f1.length ≤ 4096) : ∃ k, PFnAttributesPut.laws_dupXattrs.f k l = some l :=
  ⟨_, dups_l0 l hl hf l.length 0 0 (by omega)⟩
def Sorted7 (l : List S70) : Prop := l.Pairwise (fun a b => Op.bytesLess a.f0.toList b.f0.toList = true)
theorem str_eq {a b : ByteArray} (h : a.toList = b.toList) : a = b := by
  rw [ByteArray.toList_eq, ByteArray.toList_eq] at h
  exact kof_inj h
theorem withX_mem (l : List S70) (nm : ByteArray) (v : List Int) (hn : ∀ x ∈ l, x.f0 ≠ nm) (y : S70) : y ∈ withX l nm v ↔ y = ⟨nm, v⟩ ∨ y ∈ l := by
  unfold withX
  rw [List.mem_append, List.mem_append, List.mem_filter, List.mem_filter, List.mem_singleton]
  constructor
  · rintro ((⟨h, _⟩ | h) | ⟨h, _⟩)
    · exact .inr h
    · exact .inl h
    · exact .inr h
  · rintro (h | h)
    · exact .inl (.inr h)
    · cases hb : ltB nm y with
      | true => exact .inl (.inl ⟨h, rfl⟩)
      | false =>
        refine .inr ⟨h, ?_⟩
        unfold ltB at hb
        unfold gtB
        rw [hb, beq_eq_false_iff_ne.2 (fun e => hn y h (str_eq e))]
        rfl
theorem withX_ord (l : List S70) (nm : ByteArray) (v : List Int) (hn : ∀ x ∈ l, x.f0 ≠ nm) (h : Sorted7 l) : Sorted7 (withX l nm v) := by
  unfold withX Sorted7
  have hlt : ∀ x ∈ l.filter (ltB nm), Op.bytesLess x.f0.toList nm.toList = true := fun x hx => (List.mem_filter.1 hx).2
  have hgt : ∀ x ∈ l.filter (gtB nm), Op.bytesLess nm.toList x.f0.toList = true := fun x hx => by
    have h1 := (List.mem_filter.1 hx)
    have h2 := h1.2
    unfold gtB at h2
    rw [Bool.not_eq_true', Bool.or_eq_false_iff] at h2
    exact less_tot _ _ h2.1 (fun e => by rw [e] at h2; simp at h2)
  rw [List.pairwise_append, List.pairwise_append]
  refine ⟨⟨h.filter _, List.pairwise_singleton _ _, fun a ha b hb => ?_⟩, h.filter _, fun a ha b hb => ?_⟩
  · rw [List.mem_singleton.1 hb]; exact hlt a ha
  · rcases List.mem_append.1 ha with ha | ha
    · exact less_trans _ _ _ (hlt a ha) (hgt b hb)
    · rw [List.mem_singleton.1 ha]; exact hgt b hb
/-- All of them, one after the other. -/
def allX (l : List S58) : List S70 := l.foldl (fun a x => withX a x.f0 x.f1) []
theorem allX_snoc (l : List S58) (x : S58) : allX (l ++ [x]) = withX (allX l) x.f0 x.f1 := by simp [allX]
theorem allX_law (l : List S58) (h : ∀ i j : Nat, i < j → j < l.length → (l.getD i z58).f0 ≠ (l.getD j z58).f0) : Sorted7 (allX l) ∧ ∀ y, y ∈ allX l ↔ y ∈ l.map to70 := by
  induction l using snoc_ind with
  | nil => exact ⟨List.Pairwise.nil, fun y => Iff.rfl⟩
  | snoc l x ih =>
    have hg : ∀ p, p < l.length → (l ++ [x]).getD p z58 = l.getD p z58 := fun p hp => by
      rw [List.getD_eq_getElem?_getD, List.getElem?_append_left hp, ← List.getD_eq_getElem?_getD]
    obtain ⟨i1, i2⟩ := ih (fun i j hij hj => by
      have := h i j hij (by rw [List.length_append]; omega)
      rwa [hg i (by omega), hg j hj] at this)
    have hx : (l ++ [x]).getD l.length z58 = x := by
      rw [List.getD_eq_getElem?_getD, List.getElem?_append_right (Nat.le_refl _), Nat.sub_self]; rfl
    have hn : ∀ y ∈ allX l, y.f0 ≠ x.f0 := by
      intro y hy
      obtain ⟨z, hz, rfl⟩ := List.mem_map.1 ((i2 y).1 hy)
      obtain ⟨p, hp1, hp2⟩ := List.getElem_of_mem hz
      have := h p l.length hp1 (by rw [List.length_append, List.length_singleton]; omega)
      rw [hg p hp1, hx, List.getD_eq_getElem?_getD, List.getElem?_eq_getElem hp1, Option.getD_some, hp2] at this
      exact this
    rw [allX_snoc]
    refine ⟨withX_ord _ _ _ hn i1, fun y => ?_⟩
    rw [withX_mem _ _ _ hn, i2 y, List.map_append, List.mem_append, List.map_singleton, List.mem_singleton]
    constructor
    · rintro (h | h)
      · exact .inr h
      · exact .inl h
    · rintro (h | h)
      · exact .inr h
      · exact .inl h
theorem sorted_same : ∀ (a b : List S70), Sorted7 a → Sorted7 b → (∀ y, y ∈ a ↔ y ∈ b) → a = b
  | [], [], _, _, _ => rfl
  | [], y :: b, _, _, h => by have := (h y).2 (List.mem_cons_self ..); cases this
  | x :: a, [], _, _, h => by have := (h x).1 (List.mem_cons_self ..); cases this
  | x :: a, y :: b, ha, hb, h => by
    unfold Sorted7 at ha hb
    rw [List.pairwise_cons] at ha hb
    have irr : ∀ z : S70, ¬ Op.bytesLess z.f0.toList z.f0.toList = true := fun z e => by rw [less_irr] at e; cases e
    have hxy : x = y := by
      rcases List.mem_cons.1 ((h x).1 (List.mem_cons_self ..)) with e | e
      · exact e
      · rcases List.mem_cons.1 ((h y).2 (List.mem_cons_self ..)) with e2 | e2
        · exact e2.symm
        · exact absurd (less_trans _ _ _ (ha.1 y e2) (hb.1 x e)) (irr x)
    subst hxy
    congr 1
    refine sorted_same a b ha.2 hb.2 (fun z => ⟨fun hz => ?_, fun hz => ?_⟩)
    · rcases List.mem_cons.1 ((h z).1 (List.mem_cons_of_mem _ hz)) with e | e
      · subst e; exact absurd (ha.1 z hz) (irr z)
      · exact e
    · rcases List.mem_cons.1 ((h z).2 (List.mem_cons_of_mem _ hz)) with e | e
      · subst e; exact absurd (hb.1 z hz) (irr z)
      · exact e
theorem all_same (l ys : List S58) (h : ∀ i j : Nat, i < j → j < l.length → (l.getD i z58).f0 ≠ (l.getD j z58).f0) (hs : Sorted ys) (hm : ∀ y, y ∈ ys ↔ y ∈ l) : allX l = ys.map to70 := by
  obtain ⟨h1, h2⟩ := allX_law l h
  refine sorted_same _ _ h1 ?_ (fun y => ?_)
  · unfold Sorted7
    rw [List.pairwise_map]
    exact hs
  · rw [h2 y, List.mem_map, List.mem_map]
    constructor
    · rintro ⟨z, hz, e⟩; exact ⟨z, (hm z).2 hz, e⟩
    · rintro ⟨z, hz, e⟩; exact ⟨z, (hm z).1 hz, e⟩
theorem allX_len (l : List S58) : (allX l).length ≤ l.length := by
  induction l using snoc_ind with
  | nil => exact Nat.le_refl _
  | snoc l x ih =>
    rw [allX_snoc]
    unfold withX
    have h1 : ((allX l).filter (ltB x.f0)).length + ((allX l).filter (gtB x.f0)).length ≤ (allX l).length := by
      generalize allX l = L
      induction L with
      | nil => exact Nat.le_refl _
      | cons y L ih =>
        have hyy : ¬ (ltB x.f0 y = true ∧ gtB x.f0 y = true) := by
          rintro ⟨a, b⟩
          unfold ltB at a
          unfold gtB at b
          rw [a] at b
          simp at b
        simp only [List.filter_cons, List.length_cons]
        split <;> split <;> simp_all <;> omega
    simp only [List.length_append, List.length_singleton]
    omega
end Go.Proofs.YtckjbgneblfceaaDoor.At
namespace Go.Proofs.YtckjbgneblfceaaDoor.At
open Go.RowKit Go.Proofs.YtckjbgneblfceaaDoorW.PrintWords
set_option linter.unusedVariables false
set_option linter.unusedSimpArgs false
theorem make89 (w : World) : (Instr.makeSlice 89 (.int .i64 1) (.int .i64 1)).run Tryd.prog w = .ok (.slice (some ⟨w.heap.size, 0, none⟩) 1 1) (w.alloc (.cells #[.int .u32 0, .int .u16 0, .int .u16 0, .int .u32 0] 92)) := by kernel_rfl
set_option maxHeartbeats 4000000 in
set_option maxRecDepth 100000 in
theorem fill62 (w : World) :
    Calls Tryd.prog 62 #[.pointer (some ⟨w.heap.size, 0, none⟩), .slice (some ⟨w.heap.size + 1, 0, none⟩) 1 1, .int .u32 0, .int .u32 0, .int .u32 1] ((w.alloc (.cells #[.int .u16 0, .int .u16 0, .int .u16 0, .int .u16 0, .int .u32 0] 136)).alloc (.cells #[.int .u32 0, .int .u16 0, .int .u16 0, .int .u32 0] 92)) fun e w' => e = .returned (.tuple #[]) ∧ Below w.heap.size w w' ∧ w'.heap[w.heap.size + 1]? = some (.cells #[.int .u32 0, .int .u16 1, .int .u16 0, .int .u32 0] 92 (0, 0)) := by
  go_enter Tryd.func62, Tryd.ntmps62
  go_wp2
  go_rounds 2
  go_returns
  refine ⟨rfl, below_alloc (below_alloc (Below.refl _ _) _) _, ?_⟩
  have e1 : w.heap.size + 1 = (w.alloc (.cells #[.int .u16 62218, .int .u16 1, .int .u16 1, .int .u16 0, .int .u32 0] 136)).heap.size := by simp
  rw [e1]
  exact blk_new _ _
set_option maxHeartbeats 4000000 in
set_option maxRecDepth 100000 in
theorem made42 (w : World) :
    Calls Tryd.prog 42 #[.int .i64 1, .int .u32 0, .int .u32 0, .int .u32 1] w fun e w' => e = .returned (.slice (some ⟨w.heap.size + 1, 0, none⟩) 1 1) ∧ Below w.heap.size w w' ∧ w'.heap[w.heap.size + 1]? = some (.cells #[.int .u32 0, .int .u16 1, .int .u16 0, .int .u32 0] 92 (0, 0)) := by
  have hmk := make89 (w.alloc (.cells #[.int .u16 0, .int .u16 0, .int .u16 0, .int .u16 0, .int .u32 0] 136))
  have e1 : (w.alloc (.cells #[.int .u16 0, .int .u16 0, .int .u16 0, .int .u16 0, .int .u32 0] 136)).heap.size = w.heap.size + 1 := by simp
  rw [e1] at hmk
  go_enter Tryd.func42, Tryd.ntmps42
  go_wp2_with (first | (go_at_call 62; (with_reducible refine (fill62 w).mono ?_); rintro e w2 ⟨rfl, hb, hc⟩))
  go_returns
  exact ⟨rfl, hb, hc⟩
theorem cell_of {W : World} {g : Nat} {cs : Array Value} {t : TypeId} (h : W.heap[g]? = some (.cells cs t (0, 0))) (i : Nat) (v : Value) (hv : cs[i]? = some v) : W.cell? ⟨g, i, none⟩ = some v := by
  unfold World.cell?
  simp only [h]
  rw [hv]; rfl
set_option maxHeartbeats 4000000 in
set_option maxRecDepth 100000 in
/-- One extent is made. -/
theorem fill21 (w : World) : Calls Tryd.prog 21 #[.int .i64 1, .int .u32 0, .int .u32 0, .int .u32 1] w fun e w' => (∃ A c, e = .returned (.slice A 1 c)) ∧ Below w.heap.size w w' := by
  go_enter Tryd.func21, Tryd.ntmps21
  go_wp2_with (first | (go_at_call 42; (with_reducible refine (made42 w).mono ?_); rintro e w2 ⟨rfl, hb, hc⟩; have B2 := Lib.hid hb; have c0 := cell_of hc 0 _ rfl; have c1 := cell_of hc 1 _ rfl; have c2 := cell_of hc 2 _ rfl; have c3 := cell_of hc 3 _ rfl; clear hb hc))
  go_rounds 2
  go_returns
  exact ⟨⟨_, _, rfl⟩, by repeat (first | exact B2.out | apply below_drew | (refine below_alloc ?_ _))⟩
end Go.Proofs.YtckjbgneblfceaaDoor.At
namespace Go.Proofs.YtckjbgneblfceaaDoor.At
open Go.RowKit Go.Maps Go.Proofs.YtckjbgneblfceaaDoorW.PrintWords Go.Proofs.YtckjbgneblfceaaDoorW.PrintLast Go.Proofs.YtckjbgneblfceaaDoorW.PrintMore
open Go.Proofs.YtckjbgneblfceaaDoor.Da Go.Proofs.YtckjbgneblfceaaDoor.Fa Go.Proofs.YtckjbgneblfceaaDoor.Fm Go.Proofs.YtckjbgneblfceaaDoor.PFnFitFirst
open Go.Proofs.YtckjbgneblfceaaDoor.Fb Go.Proofs.YtckjbgneblfceaaDoor.Fc Go.Proofs.YtckjbgneblfceaaDoor.Fe
open Go.Proofs.YtckjbgneblfceaaDoor.Al (up4 roomL room laid40)
set_option linter.unusedVariables false
set_option linter.unusedSimpArgs false
set_option maxHeartbeats 4000000 in
set_option maxRecDepth 100000 in
theorem attr11 (W : World) (l : List S58) (A : Option Addr) (c : Nat) (hC : k58.C W A l.length l) (hl : l.length ≤ 1000) :
    Calls Tryd.prog 11 #[.slice A l.length c] W fun e w' => ∃ B d, e = .returned (.slice B l.length d) ∧ k70.C w' B l.length (l.map to70) ∧ l.length ≤ d ∧ Below W.heap.size W w' := by
  have HC := Lib.hid hC
  obtain ⟨n, hn⟩ : ∃ n, n = l.length := ⟨_, rfl⟩
  rw [← hn] at hl HC ⊢
  have HN := Lib.hid hn
  clear hC hn
  go_enter Tryd.func11, Tryd.ntmps11
  go_wp2_with fail
  go_loopw [8, 3] (fun v8 v3 wr => ∃ i : Nat, v8 = .int .i64 i ∧ i ≤ n ∧ Hid ((Kf k70 W).R 70 wr W.heap.size (fun _ => True) v3 ((l.map to70).take i)) ∧ Hid (Below W.heap.size W wr)) (fun v8 _ _ => n - (intOf v8).toNat)
  case atStart => exact ⟨0, rfl, Nat.zero_le _, Lib.hid (Kd.R_nil _ _ _ _ _), Lib.hid (Below.refl _ _)⟩
  case round =>
    obtain ⟨i, rfl, hi, R1, BI⟩ := hrel
    by_cases hlt : i < n
    · have hlt' : (i : Int) < (n : Int) := by omega
      have T1 := Lib.hid (take_succ to70 l i z58 (by rw [← HN.out]; exact hlt))
      obtain ⟨ad, B1, d1, eA, k0, k1, m1, g1⟩ := at58b HC.out BI.out i hlt
      obtain ⟨x, hx⟩ : ∃ x, x = l.getD i z58 := ⟨_, rfl⟩
      rw [← hx] at T1 k0 k1 m1 g1
      subst eA
      have G1 := Lib.hid g1
      have hsz := BI.out.size
      have hle1 : ((l.map to70).take i).length ≤ i := List.length_take_le _ _
      clear hx g1
      have BA := Lib.hid (below_then BI.out hsz (below_alloc (Below.refl _ _) (.cells #[.string x.f0, .slice B1 x.f1.length d1] 58)))
      have R1a := Lib.hid (Kd.R_below R1.out (below_alloc (Below.refl _ _) (.cells #[.string x.f0, .slice B1 x.f1.length d1] 58)))
      have SA : W.heap.size ≤ (wr.alloc (.cells #[.string x.f0, .slice B1 x.f1.length d1] 58)).heap.size := by simp; omega
      go_wp2_with (first
        | ((with_reducible refine gate_builtin (b := .append) (xs := #[.tmp 12, .tmp 18]) rfl ?_); at_builtin; refine app70 (W := wr.alloc (.cells #[.string x.f0, .slice B1 x.f1.length d1] 58)) (w0 := W) (wb := W) W.heap.size rfl (.tmp 12) (.tmp 18) rfl u3 _ (to70 x) B1 d1 rfl rfl (by simp) m1 G1.out R1a.out BA.out SA (by omega) ?_; intro v4 w4 hr hb; have R4 := Lib.hid hr; have B4 := Lib.hid hb; clear hr hb))
      go_roundw
      case rel => exact ⟨i + 1, by push_cast; rfl, hlt, Lib.hid (by rw [T1.out]; exact R4.out), B4⟩
      case measure => simp only [intOf]; omega
    · obtain rfl : i = n := by omega
      have e1 : (l.map to70).take i = l.map to70 := List.take_of_length_le (by rw [List.length_map, ← HN.out]; exact Nat.le_refl _)
      have r1 := R1.out
      rw [e1] at r1
      obtain ⟨A7, c7, h7, l7, g7⟩ := Kd.R_reads r1
      rw [List.length_map, ← HN.out] at h7 g7 l7
      have L7 := Lib.hid l7
      subst h7
      have G7 := Lib.hid (Kf_C g7 BI.out)
      clear r1 g7 R1 e1 l7
      go_wp2_with fail
      go_ret
      exact ⟨A7, c7, rfl, G7.out, L7.out, BI.out⟩
def B9 : List Nat := [0, 1, 3, 7, 15, 7, 39, 7, 7, 487, 999, 2047, 4095]
def upg (l : List Nat) : Array Bool := ((List.range 13).map fun i => l.contains i).toArray
noncomputable def T9 : Bool × List (List Nat × List Nat) := rtab .any (opsOf Tryd.f6 9)
theorem tab9 : rtab .any (opsOf Tryd.f6 9) = T9 := rfl
theorem bits9 : waitsOk T9.2 B9 = true := by kernel_rfl
set_option maxHeartbeats 8000000 in
set_option maxRecDepth 100000 in
/-- The law, where it asks something. -/
theorem law6in (w : World) (t : TypeId) (fr : Nat × Nat) (hg : w.heap[4]? = some (.cells cells14 t fr)) (l : List S58) (A : Option Addr) (n c : Nat) (size d : Nat) (hn : l.length = n) (hC : k58.C w A n l) (hnc : n ≤ c) (hl : n ≤ 40) (hi : Fine l) (hT : Told l 0)
    (hsz : size ≤ 4096) (hds : d + size ≤ 65535) (hZ : Calls Tryd.prog 7 #[.slice A n c] w fun e w' => e = .returned (.bool true) ∧ Below w.heap.size w w') (hZ2 : ∀ W, Below w.heap.size w W → Calls Tryd.prog 8 #[.slice A n c] W fun e w' => e = .returned (.bool true) ∧ Below W.heap.size W w') :
    Calls Tryd.prog 6 #[.slice A n c, .int .i64 (size : Int), .int .u16 (d : Int)] w fun e w' => e = .returned (.bool true) ∧ Below w.heap.size w w' := by
  subst hn
  have HC := Lib.hid hC
  have HZ := Lib.hid hZ
  have HZ2 := Lib.hid hZ2
  have HI := Lib.hid hi
  have HTT := Lib.hid hT
  have H4 := Lib.hid hg
  have G4 := Lib.hid (show ∀ W, Below w.heap.size w W → W.heap[4]? = some (.cells cells14 t fr) from fun W hb => (hb.block 4 (Da.blk_lt hg)).trans hg)
  have CW := Lib.hid (show ∀ W, Below w.heap.size w W → k58.C W A l.length l from fun W hb => Kd.C_below hC hb)
  have hone : ∀ i j : Nat, i < j → j < l.length → (l.getD i z58).f0 ≠ (l.getD j z58).f0 := fun i j hij hj e => (hT j (Nat.zero_le _) hj).2.2.2 i hij (by rw [e])
  have ONE := Lib.hid hone
  have K11 := Lib.hid (show ∀ W, Below w.heap.size w W → Calls Tryd.prog 11 #[.slice A l.length c] W fun e w' => ∃ B d, e = .returned (.slice B l.length d) ∧ k70.C w' B l.length (l.map to70) ∧ l.length ≤ d ∧ Below W.heap.size W w' from fun W hb => attr11 W l A c (Kd.C_below hC hb) (by omega))
  clear hC hZ hZ2 hi hT hg hone
  have s0 : decide ((size : Int) < 0) = false := decide_eq_false (by omega)
  have s1 : decide ((4096 : Int) < (size : Int)) = false := decide_eq_false (by omega)
  have s2 : decide ((65535 : Int) < (d : Int) + (size : Int)) = false := decide_eq_false (by omega)
  have s3 : IntKind.i64.wrap ((d : Int) + (size : Int)) = (d : Int) + (size : Int) := IntWalk.i64_in _ (by omega)
  go_enter Tryd.func6, Tryd.ntmps6
  go_upto_region 5 with (first | (go_at_call 7; (refine (HZ.out).mono ?_); rintro e w1 ⟨rfl, hb1⟩; have B1 := Lib.hid hb1; clear hb1) | (go_at_call 8; (refine (HZ2.out _ B1.out).mono ?_); rintro e w2 ⟨rfl, hb2⟩; have B2 := Lib.hid (below_then B1.out B1.out.size hb2); clear hb2))
  have hfr : ∀ x ∈ l, (comp x.f0).2.size ≤ 255 ∧ x.f1.length ≤ 4096 := fun x hx => ⟨(HI.out x hx).2.2.1, (HI.out x hx).2.2.2⟩
  obtain ⟨kr, hkr⟩ := rooms_law l hl hfr
  have HKR := Lib.hid hkr
  obtain ⟨kd, hkd⟩ := dups_law l hl (fun x hx => (hfr x hx).2)
  have HKD := Lib.hid hkd
  have HFR := Lib.hid hfr
  have hrl := Al.roomL_le l (fun y hy => Al.room_le (hfr y hy).1 (hfr y hy).2)
  clear hkr hkd hfr
  obtain ⟨N, hN⟩ : ∃ N, N = l.length := ⟨_, rfl⟩
  have HNl := Lib.hid hN
  have KR := Lib.hid (show ∀ (W : World) (B : Option Addr) (e : Nat), k70.C W B N (l.map to70) → N ≤ e → Calls Tryd.prog 18 #[.slice B N e] W fun e w' => e = .returned (.int .i64 ((roomL l : Nat) : Int)) ∧ Below W.heap.size W w' from fun W B e h1 h2 => by
    have h := PFnAttributesPut.spec_Rooms.calls kr B e (l.map to70) _ W (by rw [List.length_map, ← HNl.out]; exact h1) (by rw [List.length_map, ← HNl.out]; exact h2) HKR.out
    rw [List.length_map, ← HNl.out] at h
    exact h)
  have KD := Lib.hid (show ∀ W, Below w.heap.size w W → Calls Tryd.prog 20 #[.slice A N c] W fun e w' => ∃ B e2, e = .returned (.slice B N e2) ∧ N ≤ e2 ∧ k58.C w' B N l ∧ Below W.heap.size W w' from fun W hb => by
    have h := PFnAttributesPut.laws_dupXattrs.calls kd A c l l W (CW.out W hb) hnc HKD.out
    rw [← HNl.out] at h
    refine h.mono ?_
    rintro e w' ⟨v, rfl, hS, hb2⟩
    obtain ⟨B, e2, rfl, h3, h4⟩ := Kd.R_reads (Kd.S_R hS)
    rw [← HNl.out] at h3 h4
    exact ⟨B, e2, by rw [HNl.out], h3, h4, hb2⟩)
  have CW2 := Lib.hid (show ∀ W, Below w.heap.size w W → k58.C W A N l from fun W hb => by rw [HNl.out]; exact CW.out W hb)
  have K11b := Lib.hid (show ∀ W, Below w.heap.size w W → Calls Tryd.prog 11 #[.slice A N c] W fun e w' => ∃ B d, e = .returned (.slice B N d) ∧ k70.C w' B N (l.map to70) ∧ N ≤ d ∧ Below W.heap.size W w' from fun W hb => by rw [HNl.out]; exact K11.out W hb)
  rw [← hN] at hl hnc hrl ⊢
  clear hN
  obtain ⟨R, hR⟩ : ∃ R, R = roomL l := ⟨_, rfl⟩
  rw [← hR] at KR hrl
  have HR := Lib.hid hR
  clear hR
  go_upto_region 6 with (first | (go_at_call 11; (refine (K11b.out _ B2.out).mono ?_); rintro e w3 ⟨X3, y3, rfl, h3, l3, hb⟩; have B3 := Lib.hid (below_then B2.out B2.out.size hb); have C3 := Lib.hid h3; have L3 := Lib.hid l3; clear h3 l3 hb) | (go_at_call 18; (refine (KR.out _ X3 y3 C3.out L3.out).mono ?_); rintro e w4 ⟨rfl, hb⟩; have B4 := Lib.hid (below_then B3.out B3.out.size hb); clear hb))
  have s5 : IntKind.i64.wrap ((R : Int) + 4) = (R : Int) + 4 := IntWalk.i64_in _ (by omega)
  by_cases hf : R + 4 ≤ size
  · have s6 : decide ((size : Int) < (R : Int) + 4) = false := decide_eq_false (by omega)
    have PT := Lib.hid (show ∀ (W : World) (X : Option Addr) (y : Nat), Below w.heap.size w W → N ≤ y → k58.C W X N l → Calls Tryd.prog 19 #[.slice X N y, .int .i64 (size : Int), .int .u16 (d : Int)] W fun e w' => Below W.heap.size W w' ∧ ∃ g cb, e = .returned (.tuple #[.slice (some ⟨g, 0, none⟩) size cb, .bool true]) ∧ size ≤ cb ∧ Lies g 0 (bytesOf size (lay size d (l.map to133))) w' from fun W X y hb h1 h2 => by
      refine (put19 l X N y size d W t fr HNl.out.symm (G4.out W hb) hl h1 h2 hsz hds HI.out).mono ?_
      rintro e w' ⟨hb2, hP⟩
      refine ⟨hb2, ?_⟩
      rcases hP with ⟨_, h⟩ | ⟨h, _⟩
      · exact h
      · rw [HR.out] at hf; exact absurd hf h)
    obtain ⟨f, hf0⟩ : ∃ f, f = bytesOf size (lay size d (l.map to133)) := ⟨_, rfl⟩
    rw [← hf0] at PT
    have FF := Lib.hid hf0
    clear hf0
    have CV := Lib.hid (show ∀ (W : World) (g cb : Nat), Lies g 0 f W → (convert 33 9 (.slice (some ⟨g, 0, none⟩) size cb)).run Tryd.prog W = .ok (.string (strOfNums f)) W from fun W g cb hL => by
      have h := C_of_lies hL (by rw [FF.out, bytesOf_len _ _ (by rw [lay_len, roomL_rmL, ← HR.out]; omega)]; omega)
      rw [show f.length = size from by rw [FF.out]; exact bytesOf_len _ _ (by rw [lay_len, roomL_rmL, ← HR.out]; omega)] at h
      exact Kd.C_string (P := Tryd.prog) (dst := 9) Tryd.underlying33 Tryd.underlying5 Tryd.underlying9 h)
    have SP := Lib.hid (show ∀ (W : World) (X : Option Addr) (y : Nat), N ≤ y → k70.C W X N (l.map to70) → Calls Tryd.prog 22 #[.slice X N y, .int .i64 (size : Int), .int .u16 (d : Int)] W fun e w' => ∃ g cb, e = .returned (.slice (some ⟨g, 0, none⟩) size cb) ∧ Below W.heap.size W w' ∧ Lies g 0 f w' from fun W X y h1 h2 => by
      refine (sput22 l X N y size d W HNl.out.symm hl h1 h2 hsz hds (by rw [roomL_rmL, ← HR.out]; exact hf) HI.out).mono ?_
      rintro e w' ⟨g, cb, rfl, _, hb, hL⟩
      exact ⟨g, cb, rfl, hb, by rw [FF.out]; exact hL⟩)
    go_upto_region 9 with (first | (go_at_call 20; (refine (KD.out _ B4.out).mono ?_); rintro e w5 ⟨X5, y5, rfl, l5, h5, hb⟩; have B5 := Lib.hid (below_then B4.out B4.out.size hb); have C5 := Lib.hid h5; have L5 := Lib.hid l5; clear h5 l5 hb) | (go_at_call 19; (refine (PT.out _ X5 y5 B5.out L5.out C5.out).mono ?_); rintro e w6 ⟨hb, g, cb, rfl, hcb, hLi⟩; have hcb := hcb; have B6 := Lib.hid (below_then B5.out B5.out.size hb); have LI := Lib.hid hLi; clear hb hLi))
    refine start_ (n := 13) (S := fun w' => (convert 33 9 (.slice (some ⟨g, 0, none⟩) size cb)).run Tryd.prog w' = .ok (.string (strOfNums f)) w') (ds := []) (upg []) (by kernel_rfl) rfl rfl (CV.out _ _ _ LI.out) (fun hHeld => ?_)
    refine with_tabW tab9 bits9 (fun HT HW => ?_)
    have B7 := Lib.hid (below_drew B6.out)
    have LI7 := Lib.hid (show Lies g 0 f w6.drew from LI.out)
    generalize w6.drew = w7 at B7 LI7 hHeld ⊢
    refine pure_ (i := 0) (N := some 58) (v := ?_) (a' := ?_) (upg [0]) rfl rfl (any_of HT.out (by kernel_rfl)) (fun _ _ _ h => h) (Or.inl ⟨by rfl, ?_⟩) ?_ ?_
    rotate_left
    · intro w'; go_simp; with_reducible rfl
    rotate_left
    · simp only [Act.put, List.setIfInBounds_toArray, List.set_cons_zero, List.set_cons_succ]; rfl
    refine pure_ (i := 1) (N := some 59) (v := ?_) (a' := ?_) (upg [0, 1]) rfl rfl (any_of HT.out (by kernel_rfl)) (fun _ _ _ h => h) (Or.inl ⟨by rfl, ?_⟩) ?_ ?_
    rotate_left
    · intro w'; go_simp; with_reducible rfl
    rotate_left
    · simp only [Act.put, List.setIfInBounds_toArray, List.set_cons_zero, List.set_cons_succ]; rfl
    refine pure_ (i := 2) (N := some 60) (v := ?_) (a' := ?_) (upg [0, 1, 2]) rfl rfl (any_of HT.out (by kernel_rfl)) (fun _ _ _ h => h) (Or.inl ⟨by rfl, ?_⟩) ?_ ?_
    rotate_left
    · intro w'; go_simp; with_reducible rfl
    rotate_left
    · simp only [Act.put, List.setIfInBounds_toArray, List.set_cons_zero, List.set_cons_succ]; rfl
    refine pure_ (i := 3) (N := some 61) (v := ?_) (a' := ?_) (upg [0, 1, 2, 3]) rfl rfl (any_of HT.out (by kernel_rfl)) (fun _ _ _ h => h) (Or.inl ⟨by rfl, ?_⟩) ?_ ?_
    rotate_left
    · intro w'; go_simp; with_reducible rfl
    rotate_left
    · simp only [Act.put, List.setIfInBounds_toArray, List.set_cons_zero, List.set_cons_succ]; rfl
    refine pure_ (i := 5) (N := some 63) (v := ?_) (a' := ?_) (upg [0, 1, 2, 3, 5]) rfl rfl (any_of HT.out (by kernel_rfl)) (fun _ _ _ h => h) (Or.inl ⟨by rfl, ?_⟩) ?_ ?_
    rotate_left
    · intro w'; go_simp; with_reducible rfl
    rotate_left
    · simp only [Act.put, List.setIfInBounds_toArray, List.set_cons_zero, List.set_cons_succ]; rfl
    refine pure_ (i := 7) (N := some 65) (v := ?_) (a' := ?_) (upg [0, 1, 2, 3, 5, 7]) rfl rfl (any_of HT.out (by kernel_rfl)) (fun _ _ _ h => h) (Or.inl ⟨by rfl, ?_⟩) ?_ ?_
    rotate_left
    · intro w'; go_simp; with_reducible rfl
    rotate_left
    · simp only [Act.put, List.setIfInBounds_toArray, List.set_cons_zero, List.set_cons_succ]; rfl
    refine pure_ (i := 8) (N := some 66) (v := ?_) (a' := ?_) (upg [0, 1, 2, 3, 5, 7, 8]) rfl rfl (any_of HT.out (by kernel_rfl)) (fun _ _ _ h => h) (Or.inl ⟨by rfl, ?_⟩) ?_ ?_
    rotate_left
    · intro w'; go_simp; with_reducible rfl
    rotate_left
    · simp only [Act.put, List.setIfInBounds_toArray, List.set_cons_zero, List.set_cons_succ]; rfl
    refine take_ (i := 4) (N := some 62) (v := ?_) (a' := ?_) (upg [0, 1, 2, 3, 4, 5, 7, 8]) rfl rfl (take_ofW HT.out HW.out (by kernel_rfl)) (fun _ _ _ h => h) (Or.inl ⟨by rfl, ?_⟩) hHeld ?_ ?_
    rotate_left
    · intro w' s0; go_simp; with_reducible rfl
    rotate_left
    · simp only [Act.put, List.setIfInBounds_toArray, List.set_cons_zero, List.set_cons_succ]; rfl
    refine one_ (i := 6) (N := some 64) (upg [0, 1, 2, 3, 4, 5, 6, 7, 8]) rfl rfl (one_of HT.out (by kernel_rfl)) (by decide) (fun K hK => ?_)
    refine goes_ Tryd.func11 (by kernel_rfl) rfl #[.slice A N c] (by rfl) rfl rfl (by simp only [List.map_toArray, List.map_cons, List.map_nil]; rfl) ?_
    refine (K11b.out _ B7.out).mono ?_
    rintro e w8 ⟨X8, y8, rfl, h8, l8, hb⟩
    have B8 := Lib.hid (below_then B7.out B7.out.size hb)
    have C8 := Lib.hid h8
    have LI8 := Lib.hid (LI7.out.later hb)
    have L8 := Lib.hid l8
    clear h8 l8 hb
    refine ⟨_, rfl, hK.out _ _ (CV.out _ _ _ LI8.out) (fun hHeld => ?_)⟩
    clear hK
    simp only [Act.put, List.setIfInBounds_toArray, List.set_cons_zero, List.set_cons_succ]
    refine one_ (i := 9) (N := some 67) (upg [0, 1, 2, 3, 4, 5, 6, 7, 8, 9]) rfl rfl (one_of HT.out (by kernel_rfl)) (by decide) (fun K hK => ?_)
    refine goes_ Tryd.func22 (by kernel_rfl) rfl #[.slice X8 N y8, .int .i64 (size : Int), .int .u16 (d : Int)] (by rfl) rfl rfl (by simp only [List.map_toArray, List.map_cons, List.map_nil]; rfl) ?_
    refine (SP.out _ X8 y8 L8.out C8.out).mono ?_
    rintro e w9 ⟨g9, cb9, rfl, hb, hLi⟩
    have B9 := Lib.hid (below_then B8.out B8.out.size hb)
    have LI9 := Lib.hid (LI8.out.later hb)
    have M9 := CV.out _ g9 cb9 hLi
    clear hb hLi
    refine ⟨_, rfl, hK.out _ _ (CV.out _ _ _ LI9.out) (fun hHeld => ?_)⟩
    clear hK
    simp only [Act.put, List.setIfInBounds_toArray, List.set_cons_zero, List.set_cons_succ]
    refine one_ (i := 10) (N := some 68) (upg [0, 1, 2, 3, 4, 5, 6, 7, 8, 9, 10]) rfl rfl (one_of HT.out (by kernel_rfl)) (by decide) (fun K hK => ?_)
    go_simp
    refine hK.out _ _ (CV.out _ _ _ LI9.out) (fun hHeld => ?_)
    clear hK
    try simp only [Act.put, List.setIfInBounds_toArray, List.set_cons_zero, List.set_cons_succ]
    refine pure_ (i := 11) (N := some 69) (v := ?_) (a' := ?_) (upg [0, 1, 2, 3, 4, 5, 6, 7, 8, 9, 10, 11]) rfl rfl (any_of HT.out (by kernel_rfl)) (fun _ _ _ h => h) (Or.inl ⟨by rfl, ?_⟩) ?_ ?_
    rotate_left
    · intro w'; go_simp; with_reducible rfl
    rotate_left
    · simp only [Act.put, List.setIfInBounds_toArray, List.set_cons_zero, List.set_cons_succ]; rfl
    refine pure_ (i := 12) (N := some 70) (v := ?_) (a' := ?_) (upg [0, 1, 2, 3, 4, 5, 6, 7, 8, 9, 10, 11, 12]) rfl rfl (any_of HT.out (by kernel_rfl)) (fun _ _ _ h => h) (Or.inl ⟨by rfl, ?_⟩) ?_ ?_
    rotate_left
    · intro w'; go_simp; with_reducible rfl
    rotate_left
    · simp only [Act.put, List.setIfInBounds_toArray, List.set_cons_zero, List.set_cons_succ]; rfl
    refine done_ (done_of HT.out (by kernel_rfl)) ?_
    clear hHeld M9
    have HTold := Lib.hid (show Told l 0 from HTT.out)
    obtain ⟨kl, rl, hkl, hrl2⟩ := long_law l (by rw [← HNl.out]; exact hl)
    have HKL := Lib.hid hkl
    have HRL := Lib.hid hrl2
    clear hkl hrl2
    have KL := Lib.hid (show ∀ (W : World) (B : Option Addr) (e : Nat), k70.C W B N (l.map to70) → N ≤ e → Calls Tryd.prog 23 #[.slice B N e] W fun e w' => e = .returned (.bool rl) ∧ Below W.heap.size W w' from fun W B e h1 h2 => by
      have h := PFnAttributesPut.spec_LongName.calls kl B e (l.map to70) _ W (by rw [List.length_map, ← HNl.out]; exact h1) (by rw [List.length_map, ← HNl.out]; exact h2) HKL.out
      rw [List.length_map, ← HNl.out] at h
      exact h)
    cases rl with
    | true =>
      go_wp2_with (first | (go_at_call 11; (refine (K11b.out _ B9.out).mono ?_); rintro e w10 ⟨X10, y10, rfl, h10, l10, hb⟩; have B10 := Lib.hid (below_then B9.out B9.out.size hb); have C10 := Lib.hid h10; have L10 := Lib.hid l10; clear h10 l10 hb) | (go_at_call 23; (refine (KL.out _ X10 y10 C10.out L10.out).mono ?_); rintro e w11 ⟨rfl, hb⟩; have B11 := Lib.hid (below_then B10.out B10.out.size hb); clear hb))
      go_ret
      exact ⟨rfl, B11.out⟩
    | false =>
      have RD := Lib.hid (show Read l from ⟨HI.out, fun x hx => by
        obtain ⟨p, hp1, hp2⟩ := List.getElem_of_mem hx
        have e : l.getD p z58 = x := by rw [List.getD_eq_getElem?_getD, List.getElem?_eq_getElem hp1, Option.getD_some, hp2]
        have h1 := (HTold.out p (Nat.zero_le _) hp1).1
        have h2 := HRL.out rfl p hp1
        rw [e] at h1 h2
        refine ⟨?_, h2⟩
        rcases Nat.eq_zero_or_pos (comp x.f0).2.size with hz | hz
        · exact absurd (by rw [ByteArray.toList_eq]; exact List.length_eq_zero_iff.1 (by rw [Array.length_toList]; exact hz)) h1
        · exact hz, ONE.out⟩)
      have G24 := Lib.hid (show ∀ (W : World) (X : Option Addr) (y : Nat), Below w.heap.size w W → N ≤ y → k58.C W X N l → Calls Tryd.prog 24 #[.slice X N y, .int .i64 (size : Int), .int .u16 (d : Int)] W fun e w' => Below W.heap.size W w' ∧ ∃ B c2 ys, e = .returned (.tuple #[.slice B ys.length c2, .bool true]) ∧ ys.length ≤ c2 ∧ k58.C w' B ys.length ys ∧ allX l = ys.map to70 from fun W X y hb h1 h2 => by
        refine (get24 l X N y size d W t fr HNl.out.symm (G4.out W hb) hl h1 h2 hsz hds (by rw [← HR.out]; exact hf) RD.out).mono ?_
        rintro e w' ⟨hb2, B, c2, ys, rfl, g1, g2, g3, g4⟩
        exact ⟨hb2, B, c2, ys, rfl, g1, g2, all_same l ys ONE.out g3 g4⟩)
      go_upto_block 0 with (first | (go_at_call 11; (refine (K11b.out _ B9.out).mono ?_); rintro e w10 ⟨X10, y10, rfl, h10, l10, hb⟩; have B10 := Lib.hid (below_then B9.out B9.out.size hb); have C10 := Lib.hid h10; have L10 := Lib.hid l10; clear h10 l10 hb) | (go_at_call 23; (refine (KL.out _ X10 y10 C10.out L10.out).mono ?_); rintro e w11 ⟨rfl, hb⟩; have B11 := Lib.hid (below_then B10.out B10.out.size hb); clear hb) | (go_at_call 20; (refine (KD.out _ B11.out).mono ?_); rintro e w12 ⟨X12, y12, rfl, l12, h12, hb⟩; have B12 := Lib.hid (below_then B11.out B11.out.size hb); have C12 := Lib.hid h12; have L12 := Lib.hid l12; clear h12 l12 hb) | (go_at_call 24; (refine (G24.out _ X12 y12 B12.out L12.out C12.out).mono ?_); rintro e w13 ⟨hb, Z, cz, ys, rfl, z1, z2, z3⟩; have B13 := Lib.hid (below_then B12.out B12.out.size hb); have Z1 := Lib.hid z1; have Z2 := Lib.hid z2; have Z3 := Lib.hid z3; clear hb z1 z2 z3))
      go_wp2
      go_loopw [12, 84] (fun v12 v84 wr => ∃ (i : Nat) (A' : Option Addr) (c' : Nat), v84 = .int .i64 i ∧ i ≤ N ∧ v12 = .slice A' (allX (l.take i)).length c' ∧ Hid ((allX (l.take i)).length ≤ c') ∧ Hid (k70.C wr A' (allX (l.take i)).length (allX (l.take i))) ∧ Hid (Below w13.heap.size w13 wr)) (fun _ v84 _ => N - (intOf v84).toNat)
      case atStart => exact ⟨0, none, 0, rfl, Nat.zero_le _, rfl, Lib.hid (Nat.le_refl _), Lib.hid (Kd.C_nil _ _), Lib.hid (Below.refl _ _)⟩
      case round =>
        obtain ⟨i, A', c', rfl, hin, rfl, LC, XC, BR⟩ := hrel
        have BW := Lib.hid (below_then B13.out B13.out.size BR.out)
        by_cases hlt : i < N
        · have hlt' : (i : Int) < (N : Int) := by omega
          have j1 : decide ((i : Int) < (N : Int)) = true := decide_eq_true hlt'
          have j2 : (0 ≤ (i : Int)) = True := eq_true (by omega)
          have j3 : ((i : Int) < (N : Int)) = True := eq_true hlt'
          have j4 : IntKind.i64.wrap ((i : Int) + 1) = (i : Int) + 1 := IntWalk.i64_in _ (by omega)
          obtain ⟨ad, A1, c1, rfl, k0, k1, l1, g1⟩ := at58b (CW2.out w (Below.refl _ _)) BW.out i hlt
          obtain ⟨x, hx⟩ : ∃ x, x = l.getD i z58 := ⟨_, rfl⟩
          have hgx : l[i]? = some x := by rw [hx, List.getD_eq_getElem?_getD, List.getElem?_eq_getElem (by rw [← HNl.out]; exact hlt)]; rfl
          rw [← hx] at k0 k1 l1 g1
          have T := Lib.hid (show allX (l.take (i + 1)) = withX (allX (l.take i)) x.f0 x.f1 from by rw [List.take_add_one, hgx]; exact allX_snoc _ _)
          have hln := allX_len (l.take i)
          rw [List.length_take] at hln
          have B1 := Lib.hid (below_then BW.out BW.out.size (below_alloc (Below.refl _ _) (.cells #[.string x.f0, .slice A1 x.f1.length c1] 58)))
          have V1 := Lib.hid (Kd.C_below g1 B1.out)
          have XC2 := Lib.hid (Kd.C_below XC.out (below_alloc (Below.refl _ _) (.cells #[.string x.f0, .slice A1 x.f1.length c1] 58)))
          have BR1 := Lib.hid (below_then BR.out BR.out.size (below_alloc (Below.refl _ _) (.cells #[.string x.f0, .slice A1 x.f1.length c1] 58)))
          have hx400 : (allX (l.take i)).length ≤ 400 := by omega
          clear hx hgx g1
          go_wp2_with (first | (go_at_call 25; (refine (with25 (allX (l.take i)) A' _ c' x.f0 A1 _ c1 x.f1 _ rfl hx400 LC.out XC2.out V1.out l1).mono ?_); rintro e w14 ⟨A2, c2, rfl, h1, h2, hb⟩; have LC2 := Lib.hid h1; have XC3 := Lib.hid h2; have BR2 := Lib.hid (below_then BR1.out BR1.out.size hb); clear h1 h2 hb))
          go_roundw
          case rel => exact ⟨i + 1, A2, c2, by push_cast; rfl, hlt, by rw [T.out], Lib.hid (by rw [T.out]; exact LC2.out), Lib.hid (by rw [T.out]; exact XC3.out), BR2⟩
          case measure => simp only [intOf]; omega
        · obtain rfl : i = N := by omega
          have j1 : decide ((i : Int) < (i : Int)) = false := decide_eq_false (by omega)
          have e1 : l.take i = l := List.take_of_length_le (by rw [← HNl.out]; exact Nat.le_refl _)
          rw [e1, Z3.out] at XC LC ⊢
          rw [List.length_map] at XC LC ⊢
          have SC := Lib.hid (same_calls wr ys Z A' cz c' (Kd.C_below Z2.out BR.out) XC.out)
          go_wp2_with (first | (go_at_call 10; (refine (SC.out).mono ?_); rintro e w15 ⟨rfl, hb⟩; have B15 := Lib.hid (below_then BW.out BW.out.size hb); clear hb))
          go_ret
          exact ⟨rfl, B15.out⟩
  · have s6 : decide ((size : Int) < (R : Int) + 4) = true := decide_eq_true (by omega)
    have PF := Lib.hid (show ∀ (W : World) (X : Option Addr) (y : Nat), Below w.heap.size w W → N ≤ y → k58.C W X N l → Calls Tryd.prog 19 #[.slice X N y, .int .i64 (size : Int), .int .u16 (d : Int)] W fun e w' => Below W.heap.size W w' ∧ e = .returned (.tuple #[.slice none 0 0, .bool false]) from fun W X y hb h1 h2 => by
      refine (put19 l X N y size d W t fr HNl.out.symm (G4.out W hb) hl h1 h2 hsz hds HI.out).mono ?_
      rintro e w' ⟨hb2, hP⟩
      refine ⟨hb2, ?_⟩
      rcases hP with ⟨h, _⟩ | ⟨_, h⟩
      · rw [← HR.out] at h; exact absurd h hf
      · exact h)
    go_wp2_with (first | (go_at_call 20; (refine (KD.out _ B4.out).mono ?_); rintro e w5 ⟨X5, y5, rfl, l5, h5, hb⟩; have B5 := Lib.hid (below_then B4.out B4.out.size hb); have C5 := Lib.hid h5; have L5 := Lib.hid l5; clear h5 l5 hb) | (go_at_call 19; (refine (PF.out _ X5 y5 B5.out L5.out C5.out).mono ?_); rintro e w6 ⟨hb, rfl⟩; have B6 := Lib.hid (below_then B5.out B5.out.size hb); clear hb) | (go_at_call 21; (refine (fill21 _).mono ?_); rintro e w7 ⟨⟨Z, z, rfl⟩, hb⟩; have B7 := Lib.hid (below_then B6.out B6.out.size hb); clear hb))
    go_ret
    exact ⟨rfl, B7.out⟩
set_option maxHeartbeats 8000000 in
set_option maxRecDepth 100000 in
theorem law6 (w : World) (t : TypeId) (fr : Nat × Nat) (hg : w.heap[4]? = some (.cells cells14 t fr)) (l : List S58) (A : Option Addr) (n c : Nat) (size d : Int) (hC : k58.C w A n l) (hnc : n ≤ c) (hib : ∀ x ∈ l, InBytes x.f1)
    (z0 : -9223372036854775808 ≤ size) (z1 : size ≤ 9223372036854775807) (d0 : 0 ≤ d) (d1 : d ≤ 65535) :
    Calls Tryd.prog 6 #[.slice A n c, .int .i64 size, .int .u16 d] w fun e w' => e = .returned (.bool true) ∧ Below w.heap.size w w' := by
  have hn : l.length = n := Kd.C_len hC
  subst hn
  obtain ⟨k7, r7, h7, t7⟩ := Fg.fits_any l
  obtain ⟨k8, r8, h8, t8⟩ := fair2 l
  have Z7 : Calls Tryd.prog 7 #[.slice A l.length c] w fun e w' => e = .returned (.bool r7) ∧ Below w.heap.size w w' := laws_zzFits7.calls k7 A c l r7 w hC hnc h7
  have Z8 : ∀ W, Below w.heap.size w W → Calls Tryd.prog 8 #[.slice A l.length c] W fun e w' => e = .returned (.bool r8) ∧ Below W.heap.size W w' := fun W hb => laws_attributesFair.calls k8 A c l r8 W (Kd.C_below hC hb) hnc h8
  cases r7 with
  | false =>
    have HZ := Lib.hid Z7
    clear Z7 Z8 t8 t7 h7 h8 hC hib hg
    go_enter Tryd.func6, Tryd.ntmps6
    go_wp2_with (first | (go_at_call 7; (refine (HZ.out).mono ?_); rintro e w1 ⟨rfl, hb1⟩; have B1 := Lib.hid hb1; clear hb1))
    go_ret
    exact ⟨rfl, B1.out⟩
  | true =>
    cases r8 with
    | false =>
      have HZ := Lib.hid Z7
      have HZ2 := Lib.hid Z8
      clear Z7 Z8 t8 t7 h7 h8 hC hib hg
      go_enter Tryd.func6, Tryd.ntmps6
      go_wp2_with (first | (go_at_call 7; (refine (HZ.out).mono ?_); rintro e w1 ⟨rfl, hb1⟩; have B1 := Lib.hid hb1; clear hb1) | (go_at_call 8; (refine (HZ2.out _ B1.out).mono ?_); rintro e w2 ⟨rfl, hb2⟩; have B2 := Lib.hid (below_then B1.out B1.out.size hb2); clear hb2))
      go_ret
      exact ⟨rfl, B2.out⟩
    | true =>
      obtain ⟨t8a, t8b⟩ := t8 rfl
      obtain ⟨_, t7b⟩ := t7 rfl
      by_cases hin : 0 ≤ size ∧ size ≤ 4096 ∧ d + size ≤ 65535
      · obtain ⟨i1, i2, i3⟩ := hin
        have hfine : Fine l := fun x hx => by
          obtain ⟨p, hp1, hp2⟩ := List.getElem_of_mem hx
          have e : l.getD p z58 = x := by rw [List.getD_eq_getElem?_getD, List.getElem?_eq_getElem hp1, Option.getD_some, hp2]
          have h1 := t8b p (Nat.zero_le _) hp1
          have h2 := t7b p hp1
          rw [e] at h1 h2
          exact ⟨hib x hx, h2.1, h1.2.1, h1.2.2.1⟩
        have h := law6in w t fr hg l A l.length c size.toNat d.toNat rfl hC hnc t8a hfine t8b (by omega) (by omega) Z7 Z8
        rw [Int.toNat_of_nonneg i1, Int.toNat_of_nonneg d0] at h
        exact h
      · have HZ := Lib.hid Z7
        have HZ2 := Lib.hid Z8
        clear Z7 Z8 t8 t7 t7b t8b h7 h8 hC hib hg
        by_cases i1 : size < 0
        · have s0 : decide (size < 0) = true := decide_eq_true i1
          go_enter Tryd.func6, Tryd.ntmps6
          go_wp2_with (first | (go_at_call 7; (refine (HZ.out).mono ?_); rintro e w1 ⟨rfl, hb1⟩; have B1 := Lib.hid hb1; clear hb1) | (go_at_call 8; (refine (HZ2.out _ B1.out).mono ?_); rintro e w2 ⟨rfl, hb2⟩; have B2 := Lib.hid (below_then B1.out B1.out.size hb2); clear hb2))
          go_ret
          exact ⟨rfl, B2.out⟩
        · have s0 : decide (size < 0) = false := decide_eq_false i1
          by_cases i2 : 4096 < size
          · have s1 : decide (4096 < size) = true := decide_eq_true i2
            go_enter Tryd.func6, Tryd.ntmps6
            go_wp2_with (first | (go_at_call 7; (refine (HZ.out).mono ?_); rintro e w1 ⟨rfl, hb1⟩; have B1 := Lib.hid hb1; clear hb1) | (go_at_call 8; (refine (HZ2.out _ B1.out).mono ?_); rintro e w2 ⟨rfl, hb2⟩; have B2 := Lib.hid (below_then B1.out B1.out.size hb2); clear hb2))
            go_ret
            exact ⟨rfl, B2.out⟩
          · have s1 : decide (4096 < size) = false := decide_eq_false i2
            have s3 : IntKind.i64.wrap (d + size) = d + size := IntWalk.i64_in _ (by omega)
            have s2 : decide (65535 < d + size) = true := decide_eq_true (by omega)
            clear hin
            go_enter Tryd.func6, Tryd.ntmps6
            go_wp2_with (first | (go_at_call 7; (refine (HZ.out).mono ?_); rintro e w1 ⟨rfl, hb1⟩; have B1 := Lib.hid hb1; clear hb1) | (go_at_call 8; (refine (HZ2.out _ B1.out).mono ?_); rintro e w2 ⟨rfl, hb2⟩; have B2 := Lib.hid (below_then B1.out B1.out.size hb2); clear hb2))
            go_ret
            exact ⟨rfl, B2.out⟩
end Go.Proofs.YtckjbgneblfceaaDoor.At
