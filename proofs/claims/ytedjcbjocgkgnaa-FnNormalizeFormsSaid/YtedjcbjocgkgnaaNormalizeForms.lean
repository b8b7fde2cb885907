/- Proved: for all names a and b and every element e FnNormalizeForms answers true: a point and nothing between slashes, and an element followed by two points, do not matter in a name, and two points behind a name are its directory (an element of 1 to 5 bytes without a slash that is not one or two points; names of at most 200 bytes; else the law answers true at once). -/
import Derived.Test.YtedjcbjocgkgnaaRows
import Derived.Test.YtedjcbjocgkgnaaAdapter
import Derived.Test.YtedjcbjocgkgnaaShelf
import Derived.Test.YtedjcbjocgkgnaaClean
import Derived.WalkKit
import Derived.Lib.CleanLen
import Derived.WalkSpells
import Derived.Lib.Hide
import Derived.Handy
import Derived.LoopTactic
import Derived.WalkLawsBesides
namespace Go.Proofs.Ytedjcbjocgkgnaa.Nf
open Go.RowKit
set_option linter.unusedVariables false
theorem ret_bool {a b : Bool} (h : a = b) : Ending.returned (.bool a) = .returned (.bool b) := by rw [h]
theorem ret_string {a b : ByteArray} (h : a = b) : Ending.returned (.string a) = .returned (.string b) := by rw [h]
theorem mono_below {w W w2 : World} (h : Below w.heap.size w W) (k : Below W.heap.size W w2) : Below w.heap.size w w2 := h.trans (k.mono h.size)
/-- The five forms of a name. -/
def forms (a b e : ByteArray) : List ByteArray := [{ data := #[47] } ++ a ++ { data := #[47, 47] } ++ b, { data := #[47] } ++ a ++ { data := #[47, 46, 47] } ++ b, { data := #[47] } ++ a ++ { data := #[47] } ++ e ++ { data := #[47, 46, 46, 47] } ++ b, { data := #[47] } ++ a ++ { data := #[47] } ++ b ++ { data := #[47] }, { data := #[47] } ++ a ++ { data := #[47] } ++ b ++ { data := #[47, 46] }]
def Norm (s v : ByteArray) : Prop := ∀ W, Calls Try.prog 11 #[.string s] W fun e w' => e = .returned (.string v) ∧ Below W.heap.size W w'
set_option maxHeartbeats 1000000 in
theorem law_in (a b e V U X : ByteArray) (w : World) (ha : a.size ≤ 200) (hb : b.size ≤ 200) (he : e.size ≤ 5)
   (HP : ∀ W, Calls Try.prog 10 #[.string e] W fun e w' => e = .returned (.bool true) ∧ W = w')
   (HW : Norm ({ data := #[47] } ++ a ++ { data := #[47] } ++ b) V)
   (HF : ∀ k, k < 5 → Norm ((forms a b e).getD k ⟨#[]⟩) V)
   (HU : Norm ({ data := #[47] } ++ a ++ { data := #[47] } ++ e ++ { data := #[47, 46, 46] }) U)
   (HA : Norm ({ data := #[47] } ++ a) U)
   (HX : Norm ({ data := #[47] } ++ a ++ { data := #[47] } ++ e) X)
   (HM : ∀ W, Calls Try.prog 12 #[.string X] W fun e w' => e = .returned (.string U) ∧ W = w') :
    Calls Try.prog 4 #[.string a, .string b, .string e] w fun e w' => e = .returned (.bool true) ∧ Below w.heap.size w w' := by
  have HP' := Lib.hid HP
  have HF' := Lib.hid HF
  have HM' := Lib.hid HM
  clear HP HF HM
  go_enter Try.func4, Try.ntmps4
  go_wp2_with fail
  refine (HP'.out _).mono ?_
  rintro e' w' ⟨rfl, rfl⟩
  go_wp2_with fail
  refine (HW _).mono ?_
  rintro e' w1 ⟨rfl, hb1⟩
  go_wp2_with fail

  have HC0 : Hid (∀ j, j < 5 → (w1.alloc (Obj.cells #[Value.string ({ data := #[47] } ++ a ++ { data := #[47, 47] } ++ b), Value.string ({ data := #[47] } ++ a ++ { data := #[47, 46, 47] } ++ b), Value.string ({ data := #[47] } ++ a ++ { data := #[47] } ++ e ++ { data := #[47, 46, 46, 47] } ++ b), Value.string ({ data := #[47] } ++ a ++ { data := #[47] } ++ b ++ { data := #[47] }), Value.string ({ data := #[47] } ++ a ++ { data := #[47] } ++ b ++ { data := #[47, 46] })] 9)).cell? ⟨w1.heap.size, j, none⟩ = some (.string ((forms a b e).getD j ⟨#[]⟩))) := by
    refine Lib.hid ?_
    intro j hj
    have : j = 0 ∨ j = 1 ∨ j = 2 ∨ j = 3 ∨ j = 4 := by omega
    rcases this with rfl | rfl | rfl | rfl | rfl <;> simp [forms]
  go_loopw [75] (fun i wr => ∃ k : Nat, k ≤ 5 ∧ i = .int .i64 k ∧ Below w.heap.size w wr ∧ Hid (∀ j, j < 5 → wr.cell? ⟨w1.heap.size, j, none⟩ = some (.string ((forms a b e).getD j ⟨#[]⟩)))) (fun i _ => 5 - (intOf i).toNat)
  case atStart => exact ⟨0, by omega, rfl, hb1.alloc hb1.size _, HC0⟩
  case round =>
    obtain ⟨k, hk, rfl, hbr, HC⟩ := hrel
    clear HC0
    by_cases hlt : k < 5
    · have hck := HC.out k hlt
      have hn := HF'.out k hlt
      generalize hs : (forms a b e).getD k ⟨#[]⟩ = s at hck hn
      clear hs
      go_wp2_with fail
      refine (hn _).mono ?_
      rintro e' w2 ⟨rfl, hb2⟩
      have HC2 := Lib.hid (show ∀ j, j < 5 → w2.cell? ⟨w1.heap.size, j, none⟩ = some (.string ((forms a b e).getD j ⟨#[]⟩)) from fun j hj => cell_later hb2 (HC.out j hj))
      have hbr2 := mono_below hbr hb2
      clear hck hb2
      go_wp2_with fail
      go_roundw
      case rel => exact ⟨k + 1, by omega, by go_num, hbr2, HC2⟩
      case measure => simp [intOf]; omega
    · go_wp2_with fail
      refine (HU _).mono ?_
      rintro e' w2 ⟨rfl, hb2⟩
      have hbr2 := mono_below hbr hb2
      clear hb2
      go_wp2_with fail
      refine (HA _).mono ?_
      rintro e' w3 ⟨rfl, hb3⟩
      have hbr3 := mono_below hbr2 hb3
      clear hb3
      go_wp2_with fail
      refine (HX _).mono ?_
      rintro e' w4 ⟨rfl, hb4⟩
      have hbr4 := mono_below hbr3 hb4
      clear hb4
      go_wp2_with fail
      refine (HM'.out _).mono ?_
      rintro e' w5 ⟨rfl, rfl⟩
      go_wp2_with fail
      go_ret
      exact ⟨ret_bool (by simp), hbr4⟩
def PlainE (e : ByteArray) : Prop := (∀ j (h : j < e.size), e[j] ≠ 47) ∧ e.toList ≠ [] ∧ e.toList ≠ [46] ∧ e.toList ≠ [46, 46] ∧ e.size ≤ 5
def PlainPost (e : ByteArray) (w : World) (en : Ending) (w' : World) : Prop :=
  ∃ b : Bool, en = .returned (.bool b) ∧ (b = true ↔ PlainE e) ∧ w = w'
theorem no_of {P : Prop} (h : ¬ P) : (false = true ↔ P) := ⟨fun x => absurd x (by simp), fun x => absurd x h⟩
set_option maxHeartbeats 1000000 in
theorem plain_ (e : ByteArray) (w : World) (he : e.size ≤ 9223372036854775807) :
    Calls Try.prog 10 #[.string e] w (PlainPost e w) := by
  go_enter Try.func10, Try.ntmps10
  go_wp2
  go_loop [3] (fun i => ∃ k : Nat, k ≤ e.size ∧ i = .int .i64 k ∧ Hid (∀ j (h : j < e.size), j < k → e[j] ≠ 47)) (fun i => e.size - (intOf i).toNat)
  case atStart => exact ⟨0, Nat.zero_le _, rfl, Lib.hid (fun j h hj => by omega)⟩
  case round =>
    obtain ⟨k, hk, rfl, HN⟩ := hrel
    by_cases hlt : k < e.size
    · by_cases hc : e[k] = 47
      · have h5 : ((e[k].toNat : Int) == 47) = true := by rw [hc]; decide
        have NO := Lib.hid (show ¬ PlainE e from fun h => h.1 k hlt hc)
        clear hc
        go_wp2
        go_ret
        exact ⟨false, rfl, no_of NO.out, rfl⟩
      · have HN' := Lib.hid (show ∀ j (h : j < e.size), j < k + 1 → e[j] ≠ 47 from fun j h hj => by
          by_cases hj2 : j = k
          · subst hj2; exact hc
          · exact HN.out j h (by omega))
        have h5 : ((e[k].toNat : Int) == 47) = false := beq_eq_false_iff_ne.mpr (fun h => hc (UInt8.toNat_inj.1 (by rw [show e[k].toNat = 47 by omega]; rfl)))
        clear hc
        go_wp2
        go_round
        case rel => exact ⟨k + 1, by omega, by go_num, HN'⟩
        case measure => (simp [intOf] <;> omega)
    · by_cases h1 : e.toList = []
      · have b1 : e.toList.isEmpty = true := by simp [h1]
        have NO := Lib.hid (show ¬ PlainE e from fun h => h.2.1 h1)
        clear h1
        go_wp2
        go_ret
        exact ⟨false, rfl, no_of NO.out, rfl⟩
      · have b1 : e.toList.isEmpty = false := by simpa using h1
        have L1 := Lib.hid h1
        clear h1
        by_cases h2 : e.toList = [46]
        · have b2 : (e.toList == [46]) = true := by simp [h2]
          have b2' : (e.toList != [46]) = false := by simp [h2]
          have NO := Lib.hid (show ¬ PlainE e from fun h => h.2.2.1 h2)
          clear h2
          go_wp2
          go_ret
          exact ⟨false, rfl, no_of NO.out, rfl⟩
        · have b2 : (e.toList == [46]) = false := by simp [h2]
          have b2' : (e.toList != [46]) = true := by simp [h2]
          have L2 := Lib.hid h2
          clear h2
          by_cases h3 : e.toList = [46, 46]
          · have b3 : (e.toList == [46, 46]) = true := by simp [h3]
            have b3' : (e.toList != [46, 46]) = false := by simp [h3]
            have NO := Lib.hid (show ¬ PlainE e from fun h => h.2.2.2.1 h3)
            clear h3
            go_wp2
            go_ret
            exact ⟨false, rfl, no_of NO.out, rfl⟩
          · have b3 : (e.toList == [46, 46]) = false := by simp [h3]
            have b3' : (e.toList != [46, 46]) = true := by simp [h3]
            have L3 := Lib.hid h3
            clear h3
            by_cases h4 : e.size ≤ 5
            · go_wp2
              go_ret
              exact ⟨_, rfl, ⟨fun _ => ⟨fun j h => HN.out j h (by omega), L1.out, L2.out, L3.out, h4⟩, fun _ => by simp; omega⟩, rfl⟩
            · go_wp2
              go_ret
              exact ⟨_, rfl, ⟨fun h => absurd h (by simp; omega), fun h => absurd h.2.2.2.2 h4⟩, rfl⟩
set_option maxHeartbeats 1000000 in
theorem par_none (s : ByteArray) (w : World) (hs : s.size ≤ 9223372036854775807) (h : ∀ j (h : j < s.size), 0 < j → s[j] ≠ 47) :
    Calls Try.prog 12 #[.string s] w fun e w' => e = .returned (.string ⟨#[47]⟩) ∧ w = w' := by
  have H := Lib.hid h
  clear h
  go_enter Try.func12, Try.ntmps12
  go_wp2
  go_loop [3] (fun i => ∃ z : Int, -1 ≤ z ∧ z + 1 ≤ s.size ∧ i = .int .i64 z) (fun i => (intOf i + 1).toNat)
  case atStart => exact ⟨(s.size : Int) - 1, by omega, by omega, rfl⟩
  case round =>
    obtain ⟨z, hz1, hz2, rfl⟩ := hrel
    by_cases hp : 0 < z
    · obtain ⟨k, rfl⟩ : ∃ k : Nat, z = k := ⟨z.toNat, by omega⟩
      have hk : k < s.size := by omega
      have hne := H.out k hk (by omega)
      have h5 : ((s[k].toNat : Int) == 47) = false := beq_eq_false_iff_ne.mpr (fun h => hne (UInt8.toNat_inj.1 (by rw [show s[k].toNat = 47 by omega]; rfl)))
      clear hne
      go_wp2
      go_round
      case rel => exact ⟨(k : Int) - 1, by omega, by omega, by first | rfl | go_num⟩
      case measure => (simp [intOf] <;> omega)
    · go_wp2
      go_ret
      exact ⟨rfl, rfl⟩
set_option maxHeartbeats 1000000 in
theorem par_at (s : ByteArray) (w : World) (p : Nat) (hs : s.size ≤ 9223372036854775807) (hp0 : 0 < p) (hp : p < s.size) (h47 : s[p] = 47) (h : ∀ j (h : j < s.size), p < j → s[j] ≠ 47) :
    Calls Try.prog 12 #[.string s] w fun e w' => e = .returned (.string (s.extract 0 p)) ∧ w = w' := by
  have H := Lib.hid h
  clear h
  have H47 := Lib.hid h47
  clear h47
  go_enter Try.func12, Try.ntmps12
  go_wp2
  go_loop [3] (fun i => ∃ z : Nat, p ≤ z ∧ z + 1 ≤ s.size ∧ i = .int .i64 z) (fun i => (intOf i + 1).toNat)
  case atStart => exact ⟨s.size - 1, by omega, by omega, by rw [show ((s.size - 1 : Nat) : Int) = (s.size : Int) - 1 by omega]⟩
  case round =>
    obtain ⟨k, hz1, hz2, rfl⟩ := hrel
    have hk : k < s.size := by omega
    by_cases hkp : k = p
    · subst hkp
      have h5 : ((s[k].toNat : Int) == 47) = true := by rw [H47.out]; decide
      go_wp2
      go_ret
      exact ⟨rfl, rfl⟩
    · have hne := H.out k hk (by omega)
      have h5 : ((s[k].toNat : Int) == 47) = false := beq_eq_false_iff_ne.mpr (fun h => hne (UInt8.toNat_inj.1 (by rw [show s[k].toNat = 47 by omega]; rfl)))
      clear hne
      go_wp2
      go_round
      case rel => exact ⟨k - 1, by omega, by omega, by rw [show ((k - 1 : Nat) : Int) = (k : Int) - 1 by omega]⟩
      case measure => (simp [intOf] <;> omega)

open Go.Lib Go.Proofs.Ytedjcbjocgkgnaa.CleanLaw
def cl (l : List UInt8) : ByteArray := ⟨(Pa.cleanEls l).toArray⟩
theorem cl_list (l : List UInt8) : (cl l).toList = Pa.cleanEls l := by
  unfold cl; rw [Lib.toList_data]
theorem clean_calls (s : ByteArray) (l : List UInt8) (h : s.data.toList = l) (W : World) (hs : s.size ≤ 1000) :
    Calls Try.prog 33 #[.string s] W fun e w' => e = .returned (.string (cl l)) ∧ Below W.heap.size W w' := by
  subst h
  exact Try.path_Clean_rules s W (by omega)
set_option maxHeartbeats 1000000 in
theorem norm26 (s : ByteArray) (l : List UInt8) (h : s.data.toList = 47 :: l) (W : World) (hs : s.size ≤ 1000) :
    Calls Try.prog 26 #[.string s] W fun e w' => e = .returned (.string (cl (47 :: l))) ∧ Below W.heap.size W w' := by
  have hc := fun W => clean_calls s _ h W hs
  have hl : (cl (47 :: l)).toList = 47 :: [47].intercalate (kept [] l).reverse := by rw [cl_list, clean_rooted]
  have b1 : ((cl (47 :: l)).toList == [46]) = false := by rw [hl]; rfl
  have b2 : ((cl (47 :: l)).toList == [46, 46]) = false := by rw [hl]; rfl
  clear hl
  generalize cl (47 :: l) = v at hc b1 b2
  have HC := Lib.hid hc
  clear hc
  go_enter Try.func26, Try.ntmps26
  go_wp2_with fail
  refine (HC.out _).mono ?_
  rintro e w' ⟨rfl, hb⟩
  go_wp2
  go_ret
  exact ⟨rfl, hb⟩
set_option maxHeartbeats 1000000 in
theorem norm21 (s : ByteArray) (l : List UInt8) (h : s.data.toList = 47 :: l) (W : World) (hs : s.size ≤ 1000) :
    Calls Try.prog 21 #[.string s] W fun e w' => e = .returned (.string (cl (47 :: l))) ∧ Below W.heap.size W w' := by
  have hc := fun W => norm26 s _ h W hs
  generalize cl (47 :: l) = v at hc
  have HC := Lib.hid hc
  clear hc
  go_enter Try.func21, Try.ntmps21
  go_wp2_with fail
  refine (HC.out _).mono ?_
  rintro e w' ⟨rfl, hb⟩
  go_wp2
  go_ret
  exact ⟨rfl, hb⟩
set_option maxHeartbeats 1000000 in
theorem norm11 (s : ByteArray) (l : List UInt8) (h : s.data.toList = 47 :: l) (hs : s.size ≤ 1000) : Norm s (cl (47 :: l)) := by
  intro W
  have hc := fun W => norm21 s _ h W hs
  generalize cl (47 :: l) = v at hc
  have HC := Lib.hid hc
  clear hc
  go_enter Try.func11, Try.ntmps11
  go_wp2_with fail
  refine (HC.out _).mono ?_
  rintro e w' ⟨rfl, hb⟩
  go_wp2
  go_ret
  exact ⟨rfl, hb⟩
theorem plain_of (e : ByteArray) (h1 : ∀ j (h : j < e.size), e[j] ≠ 47) (h2 : e.toList ≠ []) (h3 : e.toList ≠ [46]) (h4 : e.toList ≠ [46, 46]) : Plain e.data.toList := by
  rw [Lib.toList_data] at h2 h3 h4
  refine ⟨fun c hc => ?_, h2, h3, h4⟩
  obtain ⟨j, hj, rfl⟩ := List.mem_iff_getElem.1 hc
  have hj' : j < e.size := by simpa using hj
  exact h1 j hj'
theorem mk_size (x : Array UInt8) : (ByteArray.mk x).size = x.size := rfl
theorem at_list {s : ByteArray} {l : List UInt8} (h : s.data.toList = l) (j : Nat) (hj : j < s.size) : ∃ hl : j < l.length, s[j] = l[j] := by
  subst h
  exact ⟨by simpa using hj, by simp [ByteArray.getElem_eq_getElem_data]⟩
theorem parent_of (a e : ByteArray) (h : Plain e.data.toList) (hs : a.size ≤ 200) (he : e.size ≤ 5) (W : World) :
    Calls Try.prog 12 #[.string (cl (47 :: (a.data.toList ++ 47 :: e.data.toList)))] W fun en w' => en = .returned (.string (cl (47 :: a.data.toList))) ∧ W = w' := by
  obtain ⟨x, hx, hc⟩ := below_is a.data.toList e.data.toList h
  have hlen : (Pa.cleanEls (47 :: (a.data.toList ++ 47 :: e.data.toList))).length ≤ 1000 := by
    rw [← Pa.clean_eq_cleanEls]
    have := Pa.clean_length_le (l := 47 :: (a.data.toList ++ 47 :: e.data.toList)) (by simp)
    have e1 := Lib.size_eq a
    have e2 := Lib.size_eq e
    simp only [List.length_cons, List.length_append] at this
    omega
  have hL : (cl (47 :: (a.data.toList ++ 47 :: e.data.toList))).data.toList = 47 :: (x ++ e.data.toList) := by
    unfold cl; simpa using hx
  have hsz : (cl (47 :: (a.data.toList ++ 47 :: e.data.toList))).size = (47 :: (x ++ e.data.toList)).length := by
    rw [Lib.size_eq, hL]
  rw [hx] at hlen
  generalize cl (47 :: (a.data.toList ++ 47 :: e.data.toList)) = X at hL hsz ⊢
  rcases hc with ⟨rfl, hc⟩ | ⟨y, rfl, hc⟩
  · have e1 : cl (47 :: a.data.toList) = ⟨#[47]⟩ := by unfold cl; rw [hc]
    rw [e1]
    refine par_none X W (by omega) ?_
    intro j hj h0
    obtain ⟨hl, hv⟩ := at_list hL j hj
    rw [hv]
    obtain ⟨i, rfl⟩ : ∃ i, j = i + 1 := ⟨j - 1, by omega⟩
    have : (47 :: ([] ++ e.data.toList))[i + 1] = e.data.toList[i]'(by simp at hl; simpa using hl) := by simp
    rw [this]
    exact h.1 _ (List.getElem_mem _)
  · have e1 : cl (47 :: a.data.toList) = X.extract 0 (y.length + 1) := by
      unfold cl
      rw [hc]
      apply ByteArray.ext
      apply Array.ext'
      rw [ByteArray.data_extract, Array.toList_extract, hL]
      simp [List.extract]
    rw [e1]
    have hp : y.length + 1 < X.size := by rw [hsz]; simp
    refine par_at X W (y.length + 1) (by omega) (by omega) hp ?_ ?_
    · obtain ⟨hl, hv⟩ := at_list hL (y.length + 1) hp
      rw [hv]
      simp
    · intro j hj h0
      obtain ⟨hl, hv⟩ := at_list hL j hj
      rw [hv]
      have h2 : (47 :: (y ++ [47] ++ e.data.toList))[j]? = e.data.toList[j - (y.length + 2)]? := by
        obtain ⟨i, rfl⟩ : ∃ i, j = i + 1 := ⟨j - 1, by omega⟩
        rw [List.getElem?_cons_succ, List.getElem?_append_right (by simp; omega)]
        congr 1
        simp
      have h3 : (47 :: (y ++ [47] ++ e.data.toList))[j]? = some ((47 :: (y ++ [47] ++ e.data.toList))[j]) := List.getElem?_eq_getElem hl
      have h4 := (h2.symm.trans h3)
      exact h.1 _ (List.mem_of_getElem? h4)
theorem norm_form (s : ByteArray) (l v : List UInt8) (h : s.data.toList = 47 :: l) (hs : s.size ≤ 1000) (hv : Pa.cleanEls (47 :: l) = v) : Norm s ⟨v.toArray⟩ := by
  subst hv
  exact norm11 s l h hs
set_option maxHeartbeats 1000000 in
theorem law_big (a b e : ByteArray) (w : World) (ha : a.size ≤ 9223372036854775807) (hb : b.size ≤ 9223372036854775807) (he : e.size ≤ 9223372036854775807) (h : ¬ (a.size ≤ 200 ∧ b.size ≤ 200)) :
    Calls Try.prog 4 #[.string a, .string b, .string e] w fun e w' => e = .returned (.bool true) ∧ Below w.heap.size w w' := by
  by_cases h1 : a.size ≤ 200
  all_goals by_cases h2 : b.size ≤ 200
  all_goals try omega
  all_goals
    clear h
    go_enter Try.func4, Try.ntmps4
    go_wp2_with fail
    all_goals (go_ret; exact ⟨rfl, Below.refl _ _⟩)
set_option maxHeartbeats 1000000 in
theorem law_no (a b e : ByteArray) (w : World) (ha : a.size ≤ 200) (hb : b.size ≤ 200) (he : e.size ≤ 9223372036854775807) (h : ¬ PlainE e) :
    Calls Try.prog 4 #[.string a, .string b, .string e] w fun e w' => e = .returned (.bool true) ∧ Below w.heap.size w w' := by
  have H := Lib.hid h
  clear h
  by_cases h1 : e.size ≤ 2147483647
  · go_enter Try.func4, Try.ntmps4
    go_wp2_with fail
    refine (plain_ e _ he).mono ?_
    rintro e' w' ⟨b', rfl, hb', rfl⟩
    obtain rfl : b' = false := by
      cases b'
      · rfl
      · exact absurd (hb'.1 rfl) H.out
    have H2 := Lib.hid hb'
    clear hb'
    go_wp2
    go_ret
    exact ⟨rfl, Below.refl _ _⟩
  · go_enter Try.func4, Try.ntmps4
    go_wp2_with fail
    go_ret
    exact ⟨rfl, Below.refl _ _⟩
theorem law_ (a b e : ByteArray) (w : World) (ha : a.size ≤ 9223372036854775807) (hb : b.size ≤ 9223372036854775807) (he : e.size ≤ 9223372036854775807) :
    Calls Try.prog 4 #[.string a, .string b, .string e] w fun e w' => e = .returned (.bool true) ∧ Below w.heap.size w w' := by
  by_cases h : a.size ≤ 200 ∧ b.size ≤ 200
  · obtain ⟨h1, h2⟩ := h
    by_cases hp : PlainE e
    · have hpl := plain_of e hp.1 hp.2.1 hp.2.2.1 hp.2.2.2.1
      have he5 := hp.2.2.2.2
      refine law_in a b e ⟨(want a.data.toList b.data.toList).toArray⟩ (cl (47 :: a.data.toList)) (cl (47 :: (a.data.toList ++ 47 :: e.data.toList))) w h1 h2 he5 ?_ ?_ ?_ ?_ ?_ ?_ ?_
      · intro W
        refine (plain_ e W he).mono fun e' w' ⟨b', h3, h4, h5⟩ => ⟨?_, h5⟩
        rw [h3, h4.2 hp]
      · exact norm_form _ (a.data.toList ++ 47 :: b.data.toList) _ (by simp) (by simp [mk_size]; omega) rfl
      · intro k hk
        have : k = 0 ∨ k = 1 ∨ k = 2 ∨ k = 3 ∨ k = 4 := by omega
        rcases this with rfl | rfl | rfl | rfl | rfl
        · exact norm_form _ _ _ (by first | (simp [forms]; done) | (simp [forms]; rfl)) (by simp [forms, mk_size]; omega) (form1 a.data.toList b.data.toList)
        · exact norm_form _ _ _ (by first | (simp [forms]; done) | (simp [forms]; rfl)) (by simp [forms, mk_size]; omega) (form2 a.data.toList b.data.toList)
        · exact norm_form _ _ _ (by first | (simp [forms]; done) | (simp [forms]; rfl)) (by simp [forms, mk_size]; omega) (form3 a.data.toList b.data.toList e.data.toList hpl)
        · exact norm_form _ _ _ (by first | (simp [forms]; done) | (simp [forms]; rfl)) (by simp [forms, mk_size]; omega) (form4 a.data.toList b.data.toList)
        · exact norm_form _ _ _ (by first | (simp [forms]; done) | (simp [forms]; rfl)) (by simp [forms, mk_size]; omega) (form5 a.data.toList b.data.toList)
      · exact norm_form _ (a.data.toList ++ 47 :: (e.data.toList ++ [47, 46, 46])) _ (by simp) (by simp [mk_size]; omega) (up_is _ _ hpl)
      · exact norm_form _ a.data.toList _ (by simp) (by simp [mk_size]; omega) rfl
      · exact norm_form _ (a.data.toList ++ 47 :: e.data.toList) _ (by simp) (by simp [mk_size]; omega) rfl
      · exact fun W => parent_of a e hpl h1 he5 W
    · exact law_no a b e w h1 h2 he hp
  · exact law_big a b e w ha hb he h

open Go.ChangeShapes Go.WideShapes Go.ChangeAt
theorem own : ownKnob Try.prog.godebug = none := by kernel_rfl
theorem laidOut : laidOutB Try.prog = true := by kernel_rfl
theorem readable4 : ∀ t ∈ Try.f4.params.toList, Try.prog.readableRec t = true ∧ t < Try.prog.types.size := by
  have h : (Try.f4.params.toList.all fun t => Try.prog.readableRec t && decide (t < Try.prog.types.size)) = true := by kernel_rfl
  intro t ht
  have := List.all_eq_true.1 h t ht
  simpa using this
set_option maxRecDepth 100000 in
theorem lifted (os : Os) (started : os.Started) (H : Type) (enc : TypeId × Value → H) :
    ReturnsInHanded {} Try.checked os 4 .any (Rows.fnNormalizeFormsSpec.pre6 enc Try.prog Try.f4 Rows.fnNormalizeFormsRow.domain false) (Rows.fnNormalizeFormsSpec.post enc Try.prog Try.f4 false true false false) := by
  refine Adapter.law_lifted (C := Try.checked) own started (by kernel_rfl) Try.func4
    (ChangeSpec.witness6 (enc := enc) (C := Try.checked) false ⟨#[], #[.string ⟨#[]⟩, .string ⟨#[]⟩, .string ⟨#[]⟩], []⟩ 8 (by kernel_rfl) (by kernel_rfl) (by kernel_rfl) (by kernel_rfl))
    laidOut readable4 (tb := 4) (by kernel_rfl) (by kernel_rfl) rfl ?_ ?_
  · intro ds hds
    rw [show Try.f4.params.size = 3 from by kernel_rfl] at hds
    match ds, hds with
    | [d1, d2, d3], _ => rfl
  · intro W base args ds p hval hA _ _
    rw [Try.params4] at hA hval
    obtain ⟨v0, vs0, d0, ds0, p0, q0, hargs, rfl, rfl, h0, r0⟩ := trodAll_cons hA
    obtain ⟨v1, vs1, d1, ds1, p1, q1, rfl, rfl, rfl, h1, r1⟩ := trodAll_cons r0
    obtain ⟨v2, vs2, d2, ds2, p2, q2, rfl, rfl, rfl, h2, r2⟩ := trodAll_cons r1
    obtain ⟨rfl, rfl, rfl⟩ := trodAll_nil r2
    obtain rfl : args = #[v0, v1, v2] := by cases args; simp_all
    obtain ⟨a, rfl, rfl, rfl, wsa⟩ := Go.ChangeMaps.open_string Try.underlying9 (hval 0 9 v0 rfl rfl) h0
    unfold maxLen at wsa
    obtain ⟨b, rfl, rfl, rfl, wsb⟩ := Go.ChangeMaps.open_string Try.underlying9 (hval 1 9 v1 rfl rfl) h1
    unfold maxLen at wsb
    obtain ⟨e, rfl, rfl, rfl, wse⟩ := Go.ChangeMaps.open_string Try.underlying9 (hval 2 9 v2 rfl rfl) h2
    unfold maxLen at wse
    exact law_ a b e W (by omega) (by omega) (by omega)
theorem over : Rows.fnNormalizeFormsRow.holds Try.pinned (OpenSpec.ofChange Rows.fnNormalizeFormsSpec) :=
  OpenClaim.holds_of_wide 4 Try.f4 rfl rfl rfl rfl rfl rfl rfl ⟨rfl, rfl, rfl, rfl, rfl⟩ rfl rfl rfl rfl rfl (by kernel_rfl) Try.func4 (by kernel_rfl)
    (of_decide_eq_true (by kernel_rfl)) (by unfold Func.isWrapper; first | (rw [if_pos (by decide +kernel)]; kernel_rfl) | (rw [if_neg (by decide +kernel)]; exact ⟨rfl, rfl⟩))
    (fun os started H enc _ => lifted os started H enc)
theorem holds : Rows.FnNormalizeFormsSaid := over
#print axioms holds
end Go.Proofs.Ytedjcbjocgkgnaa.Nf
