/- The contracts of the reference's functions on paths: elements, rooted, joined, clean. -/
import Derived.Test.YtedjcbjocgkgnaaDoorPFnRealPathUpx0
import Derived.Test.YtedjcbjocgkgnaaDoorClean
import Derived.WalkKit
import Derived.WalkSpells
import Derived.Lib.Hide
import Derived.Handy
import Derived.LoopTactic
import Derived.WalkLawsBesides
namespace Go.Proofs.YtedjcbjocgkgnaaDoor.RpWalk
open Go.RowKit Go.Proofs.YtedjcbjocgkgnaaDoorW.PrintWords Go.Proofs.YtedjcbjocgkgnaaDoorW.PrintLast Go.Proofs.YtedjcbjocgkgnaaDoorW.PrintMore
open Go.Proofs.YtedjcbjocgkgnaaDoor.PFnRealPathUp Go.Proofs.YtedjcbjocgkgnaaDoor.CleanLaw
open Go.Lib.Pa
set_option linter.unusedVariables false
theorem ret_bool {a b : Bool} (h : a = b) : Ending.returned (.bool a) = .returned (.bool b) := by rw [h]
theorem ret_string {a b : ByteArray} (h : a = b) : Ending.returned (.string a) = .returned (.string b) := by rw [h]
def mk (l : List UInt8) : ByteArray := ⟨l.toArray⟩
theorem mk_list (s : ByteArray) : mk s.data.toList = s := by cases s; simp [mk]
theorem mk_toList (l : List UInt8) : (mk l).toList = l := by rw [ByteArray.toList_eq]; simp [mk]
theorem mk_data (l : List UInt8) : (mk l).data.toList = l := by simp [mk]
theorem mk_size (l : List UInt8) : (mk l).size = l.length := by simp [mk, ByteArray.size]
theorem mk_app (a b : List UInt8) : mk a ++ mk b = mk (a ++ b) := by
  apply ByteArray.ext; apply Array.ext'; simp [mk]
theorem extract_mk (s : ByteArray) (a b : Nat) : s.extract a b = mk ((s.data.toList.drop a).take (b - a)) := by
  apply ByteArray.ext; apply Array.ext'
  rw [ByteArray.data_extract, Array.toList_extract]
  simp [mk, List.extract]
def elems (l : List UInt8) : List (List UInt8) := (els l).filter (· ≠ [])
theorem size_list (s : ByteArray) : s.data.toList.length = s.size := by simp
theorem get_list (s : ByteArray) (i : Nat) (h : i < s.size) : s.data.toList[i]? = some s[i] := by
  have hl : i < s.data.toList.length := by rw [size_list]; exact h
  rw [List.getElem?_eq_getElem hl]
  rfl
theorem split_at (s : ByteArray) (f i : Nat) (hf : f ≤ i) (h : i < s.size) : s.data.toList.drop f = (s.data.toList.drop f).take (i - f) ++ s[i] :: s.data.toList.drop (i + 1) := by
  have h1 := (List.take_append_drop (i - f) (s.data.toList.drop f)).symm
  rw [List.drop_drop, show f + (i - f) = i by omega] at h1
  have h2 : s.data.toList.drop i = s[i] :: s.data.toList.drop (i + 1) := by
    obtain ⟨hl, e⟩ := List.getElem?_eq_some_iff.1 (get_list s i h)
    rw [List.drop_eq_getElem_cons hl, e]
  rw [h2] at h1
  exact h1
/-- Where an element ends, it is kept unless it is empty. -/
theorem elems_end (s : ByteArray) (f i : Nat) (hf : f ≤ i) (h : i ≤ s.size) (hs : ∀ h : i < s.size, s[i] = 47) (hc : ∀ c ∈ (s.data.toList.drop f).take (i - f), c ≠ 47) :
    elems (s.data.toList.drop f) = (if f < i then [(s.data.toList.drop f).take (i - f)] else []) ++ elems (s.data.toList.drop (i + 1)) := by
  have hlen : ((s.data.toList.drop f).take (i - f)).length = i - f := by
    rw [List.length_take, List.length_drop, size_list]; omega
  have hne : f < i → (s.data.toList.drop f).take (i - f) ≠ [] := by
    intro hlt e; rw [e] at hlen; simp at hlen; omega
  by_cases hlt : i < s.size
  · have hsp := split_at s f i hf hlt
    rw [hs hlt] at hsp
    conv => lhs; rw [hsp]
    unfold elems
    rw [CleanLaw.els_slash, els_plain _ hc]
    by_cases h1 : f < i
    · rw [if_pos h1]; simp [hne h1]
    · rw [if_neg h1, show i - f = 0 by omega]; simp
  · obtain rfl : i = s.size := by omega
    have ht : (s.data.toList.drop f).take (s.size - f) = s.data.toList.drop f := by
      rw [List.take_of_length_le]; rw [List.length_drop, size_list]; omega
    rw [ht] at hc hne ⊢
    rw [List.drop_eq_nil_of_le (i := s.size + 1) (by rw [size_list]; omega)]
    unfold elems
    rw [els_plain _ hc]
    by_cases h1 : f < s.size
    · rw [if_pos h1]; simp [hne h1, els]
    · rw [if_neg h1, List.drop_eq_nil_of_le (by rw [size_list]; omega)]; simp [els]
theorem seg_more (s : ByteArray) (f i : Nat) (hf : f ≤ i) (h : i < s.size) (hs : s[i] ≠ 47) (hc : ∀ c ∈ (s.data.toList.drop f).take (i - f), c ≠ 47) : ∀ c ∈ (s.data.toList.drop f).take (i + 1 - f), c ≠ 47 := by
  intro x hx
  have ht : (s.data.toList.drop f).take (i + 1 - f) = (s.data.toList.drop f).take (i - f) ++ [s[i]] := by
    rw [show i + 1 - f = (i - f) + 1 by omega, List.take_add_one, List.getElem?_drop, show f + (i - f) = i by omega, get_list s i h]
    rfl
  rw [ht] at hx
  rcases List.mem_append.1 hx with hx | hx
  · exact hc x hx
  · simp at hx; subst hx; exact hs
/-- A row of byte strings that a call has made. -/
def Strs (xs : List (List UInt8)) (w : World) (e : Ending) (w' : World) : Prop := ∃ v, e = .returned v ∧ Kd.R Kd.string 9 w' w.heap.size (fun _ => True) v (xs.map mk) ∧ Below w.heap.size w w'
set_option maxHeartbeats 4000000 in
set_option maxRecDepth 100000 in
theorem elements_ (s : ByteArray) (w : World) (hs : s.size ≤ 1000000) :
    Calls Tryd.prog 11 #[.string s] w (Strs (elems s.data.toList) w) := by
  have HB := Aside0.mk (Below.refl w.heap.size w)
  go_enter Tryd.func11, Tryd.ntmps11
  go_wp2_with (first | ((with_reducible refine gate_dst (N := 6) rfl ?_); refine Kd.R_lit Kd.string _ 9 ?hg (N := 6) ?hd (xs := ([] : List ByteArray)) (inner := []) (ok := fun _ => True) (okp := fun _ => True) ?hr ?hp (fun _ hk => hk) trivial (Below.refl _ _) (Nat.le_refl _) (by simp) ?_; (case hd => rfl); (case hg => rfl); (case hr => first | (go_simp; done) | (go_simp; rfl)); (case hp => exact (Reps.none _ _)); intro v102 w2 ho3 hb hg_ hnew_; clear hg_ hnew_; have n0_ := Aside0.mk ho3; have n1_ := Aside0.mk hb; clear hb ho3))
  go_loopw [3, 4, 5] (fun v3 v4 v5 wr => ∃ (out : List (List UInt8)) (f i : Nat), v4 = .int .i64 f ∧ v5 = .int .i64 i ∧ f ≤ i ∧ i ≤ s.size + 1 ∧ Hid (i = s.size + 1 → f = i) ∧ Hid (∀ c ∈ (s.data.toList.drop f).take (i - f), c ≠ 47) ∧ Hid (elems s.data.toList = out ++ elems (s.data.toList.drop f)) ∧ Hid (out.length ≤ i) ∧ Aside0 (Kd.R Kd.string 9 wr w.heap.size (fun _ => True) v3 (out.map mk)) ∧ Aside0 (Below w.heap.size w wr)) (fun _ _ i _ => s.size + 1 - (intOf i).toNat)
  case atStart => exact ⟨[], 0, 0, rfl, rfl, Nat.le_refl _, Nat.zero_le _, Lib.hid (fun h => by omega), Lib.hid (by simp), Lib.hid (by simp), Lib.hid (by simp), n0_, n1_⟩
  case round =>
    clear n0_ n1_
    obtain ⟨out, f, i, rfl, rfl, hfi, hi, HE, HC, HO, HL, HR, HB2⟩ := hrel
    by_cases hle : i < s.size
    · by_cases h47 : s[i] = 47
      · have HEND := Lib.hid (elems_end s f i hfi (by omega) (fun _ => h47) HC.out)
        have c6 : ((i : Int) == (s.size : Int)) = false := beq_eq_false_iff_ne.mpr (by omega)
        have c7 : ((s[i].toNat : Int) == 47) = true := by rw [h47]; decide
        clear h47
        by_cases hgt : f < i
        · go_wp2_with (first | ((with_reducible refine gate_builtin (b := .append) (xs := #[.tmp 26, .tmp 31]) rfl ?_); at_builtin; refine Kd.R_append Kd.string (w0 := w) w.heap.size rfl (.tmp 26) (.tmp 31) 29 9 (.string ⟨#[]⟩) 16 rfl Tryd.underlying29 info9 rfl (by decide) (by omega) u3 (out.map mk) (s.extract f i) [.string (s.extract f i)] (fun _ => True) (fun _ => False) rfl rfl ?aP (fun _ hk => hk.elim) ?aF ?aO ?aB ?aS ?aL ?_; (case aP => exact rfl); (case aB => exact (by repeat (first | (with_reducible first | exact HB2.out | apply below_alloc | apply pw_below_drewN | apply below_drew1) | exact HB2.out))); (case aF => exact (fun _ _ => trivial)); (case aO => exact (by (with_reducible repeat (first | apply Kd.R_alloc | apply Kd.R_drewN | apply Kd.R_drew)); exact HR.out)); (case aS => exact (below_size (by repeat (first | (with_reducible first | exact HB2.out | apply below_alloc | apply pw_below_drewN | apply below_drew1) | exact HB2.out)))); (case aL => (have := HL.out; simp; omega)); intro v105 w16 ho hb hg hat; have n0_ := Aside0.mk (hb); have n1_ := Aside0.mk (ho); clear ho hb hg hat))
          go_roundw
          case rel =>
            refine ⟨out ++ [(s.data.toList.drop f).take (i - f)], i + 1, i + 1, by first | rfl | go_num, by first | rfl | go_num, Nat.le_refl _, by omega, Lib.hid (fun _ => rfl), Lib.hid (by simp), Lib.hid ?_, Lib.hid ?_, ⟨?_⟩, n0_⟩
            · rw [HO.out, HEND.out, if_pos hgt]; simp
            · have := HL.out; simp; omega
            · have h := n1_.out
              rw [extract_mk] at h
              simpa using h
          case measure => simp [intOf] <;> omega
        · go_wp2
          go_roundw
          case rel =>
            refine ⟨out, i + 1, i + 1, by first | rfl | go_num, by first | rfl | go_num, Nat.le_refl _, by omega, Lib.hid (fun _ => rfl), Lib.hid (by simp), Lib.hid ?_, Lib.hid ?_, HR, HB2⟩
            · rw [HO.out, HEND.out, if_neg hgt]; simp
            · have := HL.out; omega
          case measure => simp [intOf] <;> omega
      · have c6 : ((i : Int) == (s.size : Int)) = false := beq_eq_false_iff_ne.mpr (by omega)
        have c7 : ((s[i].toNat : Int) == 47) = false := beq_eq_false_iff_ne.mpr (fun h => h47 (UInt8.toNat_inj.1 (by rw [show s[i].toNat = 47 by omega]; rfl)))
        have HC2 := Lib.hid (seg_more s f i hfi hle h47 HC.out)
        clear h47
        go_wp2
        go_roundw
        case rel =>
          exact ⟨out, f, i + 1, by first | rfl | go_num, by first | rfl | go_num, by omega, by omega, Lib.hid (fun h => by omega), HC2, HO, Lib.hid (by have := HL.out; omega), HR, HB2⟩
        case measure => simp [intOf] <;> omega
    · by_cases he : i = s.size
      · subst he
        have HEND := Lib.hid (elems_end s f s.size hfi (Nat.le_refl _) (fun h => absurd h (by omega)) HC.out)
        by_cases hgt : f < s.size
        · go_wp2_with (first | ((with_reducible refine gate_builtin (b := .append) (xs := #[.tmp 26, .tmp 31]) rfl ?_); at_builtin; refine Kd.R_append Kd.string (w0 := w) w.heap.size rfl (.tmp 26) (.tmp 31) 29 9 (.string ⟨#[]⟩) 16 rfl Tryd.underlying29 info9 rfl (by decide) (by omega) u3 (out.map mk) (s.extract f s.size) [.string (s.extract f s.size)] (fun _ => True) (fun _ => False) rfl rfl ?aP (fun _ hk => hk.elim) ?aF ?aO ?aB ?aS ?aL ?_; (case aP => exact rfl); (case aB => exact (by repeat (first | (with_reducible first | exact HB2.out | apply below_alloc | apply pw_below_drewN | apply below_drew1) | exact HB2.out))); (case aF => exact (fun _ _ => trivial)); (case aO => exact (by (with_reducible repeat (first | apply Kd.R_alloc | apply Kd.R_drewN | apply Kd.R_drew)); exact HR.out)); (case aS => exact (below_size (by repeat (first | (with_reducible first | exact HB2.out | apply below_alloc | apply pw_below_drewN | apply below_drew1) | exact HB2.out)))); (case aL => (have := HL.out; simp; omega)); intro v105 w16 ho hb hg hat; have n0_ := Aside0.mk (hb); have n1_ := Aside0.mk (ho); clear ho hb hg hat))
          go_roundw
          case rel =>
            refine ⟨out ++ [(s.data.toList.drop f).take (s.size - f)], s.size + 1, s.size + 1, by first | rfl | go_num, by first | rfl | go_num, Nat.le_refl _, by omega, Lib.hid (fun _ => rfl), Lib.hid (by simp), Lib.hid ?_, Lib.hid ?_, ⟨?_⟩, n0_⟩
            · rw [HO.out, HEND.out, if_pos hgt]; simp
            · have := HL.out; simp; omega
            · have h := n1_.out
              rw [extract_mk] at h
              simpa using h
          case measure => simp [intOf] <;> omega
        · go_wp2
          go_roundw
          case rel =>
            refine ⟨out, s.size + 1, s.size + 1, by first | rfl | go_num, by first | rfl | go_num, Nat.le_refl _, by omega, Lib.hid (fun _ => rfl), Lib.hid (by simp), Lib.hid ?_, Lib.hid ?_, HR, HB2⟩
            · rw [HO.out, HEND.out, if_neg hgt]; simp
            · have := HL.out; omega
          case measure => simp [intOf] <;> omega
      · have hi2 : i = s.size + 1 := by omega
        have HOUT := Lib.hid (show elems s.data.toList = out by
          have h1 := HO.out
          rw [HE.out hi2, hi2, List.drop_eq_nil_of_le (by rw [size_list]; omega)] at h1
          simpa [elems, els] using h1)
        clear hi2
        go_wp2
        go_ret
        exact ⟨u3, rfl, by rw [HOUT.out]; exact HR.out, HB2.out⟩
theorem joinInto (x : List UInt8) (l : List (List UInt8)) : [47].intercalate (x :: l) = x ++ (l.flatMap fun e => 47 :: e) := by
  induction l generalizing x with
  | nil => simp [List.intercalate]
  | cons y t ih => rw [inter_cons x (y :: t) (by simp), ih y]; simp
/-- What stands behind k elements, put together. -/
def joinTo (xs : List (List UInt8)) (k : Nat) : List UInt8 := [47].intercalate (xs.take k)
theorem joinTo_one (xs : List (List UInt8)) (x : List UInt8) (h : xs[0]? = some x) : joinTo xs 1 = x := by
  unfold joinTo
  cases xs with
  | nil => simp at h
  | cons y t => simp at h; subst h; simp [List.intercalate]
theorem joinTo_succ (xs : List (List UInt8)) (k : Nat) (x : List UInt8) (h : xs[k + 1]? = some x) : joinTo xs (k + 2) = joinTo xs (k + 1) ++ 47 :: x := by
  unfold joinTo
  rw [List.take_add_one, h]
  have hl : k + 1 < xs.length := (List.getElem?_eq_some_iff.1 h).1
  exact CleanLaw.inter_snoc _ _ (by intro e; have := congrArg List.length e; rw [List.length_take] at this; simp only [List.length_nil] at this; omega)
theorem joinTo_len (xs : List (List UInt8)) (k : Nat) : (joinTo xs k).length ≤ (xs.map fun e => e.length + 1).sum := by
  unfold joinTo
  have h1 : ∀ l : List (List UInt8), ([47].intercalate l).length ≤ (l.map fun e => e.length + 1).sum := by
    intro l
    cases l with
    | nil => simp [List.intercalate]
    | cons x t =>
      rw [joinInto]
      have : ∀ t : List (List UInt8), (t.flatMap fun e => 47 :: e).length = (t.map fun e => e.length + 1).sum := by
        intro t; induction t with
        | nil => rfl
        | cons y t ih => simp [ih]; omega
      rw [List.length_append, this]; simp
  refine Nat.le_trans (h1 _) ?_
  induction xs generalizing k with
  | nil => simp
  | cons x t ih =>
    cases k with
    | zero => simp
    | succ k => have := ih k; simp only [List.take_succ_cons, List.map_cons, List.sum_cons]; omega
/-- A slice of strings that can be read: the cells of its elements. -/
def ReadsStrs (w : World) (A : Option Addr) (xs : List (List UInt8)) : Prop := 0 < xs.length → ∃ b o, A = some ⟨b, o, none⟩ ∧ ∀ k x, xs[k]? = some x → w.cell? ⟨b, o + k, none⟩ = some (.string (mk x))
set_option maxHeartbeats 4000000 in
set_option maxRecDepth 100000 in
theorem joined_ (A : Option Addr) (c : Nat) (xs : List (List UInt8)) (n : Nat) (hn : n = xs.length) (hn2 : n ≤ 2000000) (hc : n ≤ c) (w : World) (hr : ReadsStrs w A xs) (hsum : (xs.map fun e => e.length + 1).sum ≤ 10000000) :
    Calls Tryd.prog 19 #[.slice A n c] w fun e w' => e = .returned (.string (mk ([47].intercalate xs))) ∧ Drawn0 w w' := by
  by_cases h0 : n = 0
  · have : xs = [] := by cases xs with
      | nil => rfl
      | cons x t => simp at hn; omega
    subst this
    subst h0
    clear hr hsum hn
    cases A with
    | none =>
      go_enter Tryd.func19, Tryd.ntmps19
      go_wp2
      go_rounds 1
      go_ret
      exact ⟨rfl, Drawn0.refl _⟩
    | some a =>
      go_enter Tryd.func19, Tryd.ntmps19
      go_wp2
      go_rounds 1
      go_ret
      exact ⟨rfl, Drawn0.refl _⟩
  · obtain ⟨b, o, rfl, hcell⟩ := hr (by omega)
    have HCL := Lib.hid hcell
    have HN := Lib.hid hn
    have hsz : ∀ k, (joinTo xs k).length ≤ 10000000 := fun k => Nat.le_trans (joinTo_len xs k) hsum
    have HS := Lib.hid hsz
    clear hcell hn hsz hr
    go_enter Tryd.func19, Tryd.ntmps19
    go_wp2
    go_loopw [3, 8] (fun v i wr => ∃ k : Nat, k ≤ n ∧ i = .int .i64 k ∧ v = .string (mk (joinTo xs k)) ∧ Drawn0 w wr) (fun _ i _ => n - (intOf i).toNat)
    case atStart => exact ⟨0, Nat.zero_le _, rfl, rfl, Drawn0.refl _⟩
    case round =>
      obtain ⟨k, hk, rfl, rfl, ⟨m, rfl⟩⟩ := hrel
      by_cases hlt : k < n
      · have hx := List.getElem?_eq_getElem (show k < xs.length by rw [← HN.out]; exact hlt)
        have hck := HCL.out k _ hx
        have HX := Lib.hid hx
        generalize xs[k]'(show k < xs.length by rw [← HN.out]; exact hlt) = x at hck HX
        clear hx
        by_cases hk0 : 0 < k
        · obtain ⟨q, rfl⟩ : ∃ q, k = q + 1 := ⟨k - 1, by omega⟩
          have hsucc := joinTo_succ xs q x HX.out
          have s1 := HS.out (q + 2)
          rw [hsucc] at s1
          have HSU := Lib.hid hsucc
          clear hsucc
          generalize joinTo xs (q + 1) = u at s1 HSU
          simp only [List.length_append, List.length_cons] at s1
          have z1 := mk_size u
          have z2 := mk_size x
          have hsz1 : (mk u).size ≤ 10000000 := by omega
          have hsz2 : (mk x).size ≤ 10000000 := by omega
          have HAP := Lib.hid (show mk u ++ { data := #[47] } ++ mk x = mk (joinTo xs (q + 2)) by
            rw [HSU.out, show ({ data := #[47] } : ByteArray) = mk [47] from rfl, mk_app, mk_app]; simp)
          clear s1 z1 z2
          go_wp2
          go_roundw
          case rel => exact ⟨q + 2, by omega, by first | rfl | go_num, by rw [← HAP.out], ⟨⟨_, rfl⟩⟩⟩
          case measure => simp [intOf] <;> omega
        · obtain rfl : k = 0 := by omega
          simp only [Nat.add_zero] at hck
          have h1 := joinTo_one xs x HX.out
          have z2 := mk_size x
          have s1 := HS.out 1
          rw [h1] at s1
          have hsz2 : (mk x).size ≤ 10000000 := by omega
          have HAP := Lib.hid (show mk (joinTo xs 0) ++ mk x = mk (joinTo xs 1) by
            rw [mk_app, h1]; simp [joinTo, List.intercalate])
          have s0 := mk_size (joinTo xs 0)
          have s2 : (joinTo xs 0).length = 0 := by simp [joinTo, List.intercalate]
          have hsz3 : (mk (joinTo xs 0)).size ≤ 10000000 := by omega
          clear h1 z2 s1 s0 s2
          go_wp2
          go_roundw
          case rel => exact ⟨1, by omega, by first | rfl | go_num, by rw [← HAP.out], ⟨⟨_, rfl⟩⟩⟩
          case measure => simp [intOf] <;> omega
      · have hf := Lib.hid (show joinTo xs k = [47].intercalate xs by
          unfold joinTo
          rw [List.take_of_length_le (by rw [← HN.out]; omega)])
        go_wp2
        go_ret
        exact ⟨by rw [hf.out]; rfl, ⟨⟨_, rfl⟩⟩⟩
def rootedB (l : List UInt8) : Bool := l.head? == some 47
set_option maxHeartbeats 1000000 in
theorem rooted_ (s : ByteArray) (w : World) (hs : s.size ≤ 1000000) :
    Calls Tryd.prog 9 #[.string s] w fun e w' => e = .returned (.bool (rootedB s.data.toList)) ∧ w = w' := by
  by_cases h0 : 0 < s.size
  · have hE : s.toList.isEmpty = false := by
      rw [ByteArray.toList_eq]
      cases h : s.data.toList with
      | nil => have := size_list s; rw [h] at this; simp at this; omega
      | cons x t => rfl
    have hg := get_list s 0 h0
    by_cases hc : s[0] = 47
    · have hr : rootedB s.data.toList = true := by
        unfold rootedB; rw [List.head?_eq_getElem?, hg, hc]; rfl
      have h5 : ((s[0].toNat : Int) == 47) = true := by rw [hc]; decide
      have HR := Lib.hid hr
      clear hr hc hg
      go_enter Tryd.func9, Tryd.ntmps9
      go_wp2
      go_ret
      exact ⟨ret_bool (by rw [HR.out]), rfl⟩
    · have hr : rootedB s.data.toList = false := by
        unfold rootedB; rw [List.head?_eq_getElem?, hg]; simpa using hc
      have h5 : ((s[0].toNat : Int) == 47) = false := beq_eq_false_iff_ne.mpr (fun h => hc (UInt8.toNat_inj.1 (by rw [show s[0].toNat = 47 by omega]; rfl)))
      have HR := Lib.hid hr
      clear hr hc hg
      go_enter Tryd.func9, Tryd.ntmps9
      go_wp2
      go_ret
      exact ⟨ret_bool (by rw [HR.out]), rfl⟩
  · have hE : s.toList.isEmpty = true := by
      rw [ByteArray.toList_eq]
      have := size_list s
      rw [List.isEmpty_iff, ← List.length_eq_zero_iff]; omega
    have hr : rootedB s.data.toList = false := by
      rw [ByteArray.toList_eq, List.isEmpty_iff] at hE
      rw [hE]; rfl
    have HR := Lib.hid hr
    clear hr
    go_enter Tryd.func9, Tryd.ntmps9
    go_wp2
    go_ret
    exact ⟨ret_bool (by rw [HR.out]), rfl⟩
theorem fold_filter (r : Bool) (es : List (List UInt8)) : ∀ st, es.foldl (cleanStep r) st = (es.filter (· ≠ [])).foldl (cleanStep r) st := by
  induction es with
  | nil => intro st; rfl
  | cons e es ih =>
    intro st
    by_cases h : e = []
    · subst h; simp [ih, cleanStep]
    · simp [h, ih]
theorem elems_ne (l : List UInt8) : ∀ e ∈ elems l, e ≠ [] := by
  intro e he
  unfold elems at he
  simpa using (List.mem_filter.1 he).2
/-- What one element does to the elements that are kept, the last first (an element that is not empty). -/
theorem step_cases (r : Bool) (st : List (List UInt8)) (e : List UInt8) (he : e ≠ []) :
    (e = [46] ∧ cleanStep r st e = st) ∨
    (e = [46, 46] ∧ (∃ x t, st = x :: t ∧ x ≠ [46, 46] ∧ cleanStep r st e = t)) ∨
    (e = [46, 46] ∧ (st = [] ∨ ∃ x t, st = x :: t ∧ x = [46, 46]) ∧ ((r = true ∧ st = [] ∧ cleanStep r st e = st) ∨ (cleanStep r st e = e :: st ∧ (r = false ∨ st ≠ [])))) ∨
    (e ≠ [46] ∧ e ≠ [46, 46] ∧ cleanStep r st e = e :: st) := by
  by_cases h1 : e = [46]
  · left; exact ⟨h1, by simp [cleanStep, h1]⟩
  · by_cases h2 : e = [46, 46]
    · right
      cases st with
      | nil =>
        right; left
        refine ⟨h2, .inl rfl, ?_⟩
        cases r
        · right; exact ⟨by simp [cleanStep, h2], .inl rfl⟩
        · left; exact ⟨rfl, rfl, by simp [cleanStep, h2]⟩
      | cons x t =>
        by_cases hx : x = [46, 46]
        · right; left
          exact ⟨h2, .inr ⟨x, t, rfl, hx⟩, .inr ⟨by simp [cleanStep, h2, hx], .inr (by simp)⟩⟩
        · left; exact ⟨h2, x, t, rfl, hx, by simp [cleanStep, h2, hx]⟩
    · right; right; right; exact ⟨h1, h2, by simp [cleanStep, he, h1, h2]⟩
/-- A row that is made can be read. -/
theorem strs_of_R {w : World} {base : Nat} {ok : Nat → Prop} {v : Value} {xs : List (List UInt8)} (h : Kd.R Kd.string 9 w base ok v (xs.map mk)) :
    ∃ A c, v = .slice A xs.length c ∧ xs.length ≤ c ∧ ReadsStrs w A xs := by
  obtain ⟨A, c, hv, hc, hC⟩ := Kd.R_reads h
  have hl : (xs.map mk).length = xs.length := by simp
  rw [hl] at hv hc hC
  refine ⟨A, c, hv, hc, fun hp => ?_⟩
  obtain ⟨inner, ho⟩ := Kd.R_own h
  rw [hl] at ho
  obtain ⟨g, cap, hf, _, _⟩ := ho.form hp
  have hA : A = some ⟨g, 0, none⟩ := by
    rw [hv] at hf
    exact (Value.slice.inj hf).1
  refine ⟨g, 0, hA, fun k x hk => ?_⟩
  have hr := Kd.reads_of_C (d := ByteArray.empty) hC
  obtain ⟨ad, e, hcell⟩ := hr.2.2 hp
  rw [hA] at e
  obtain rfl := Option.some.inj e
  have hlt : k < xs.length := (List.getElem?_eq_some_iff.1 hk).1
  have := hcell k hlt
  rw [add_plain] at this
  rw [Nat.zero_add, this]
  congr 2
  simp [List.getD_eq_getElem?_getD, hk]
theorem nil_of_R {w : World} {base : Nat} {ok : Nat → Prop} {v : Value} (h : Kd.R Kd.string 9 w base ok v (([] : List (List UInt8)).reverse.map mk)) : v = .slice none 0 0 ∨ ∃ (a3 : Addr) (c3 : Nat), v = .slice (some a3) 0 c3 := by
  obtain ⟨inner, ho⟩ := Kd.R_own h
  rcases ho.2 with ⟨e, _⟩ | ⟨g, cap, cur, e, _⟩
  · exact .inl e
  · exact .inr ⟨_, _, e⟩
theorem elems_len (l : List UInt8) : (elems l).length ≤ l.length + 1 := by
  refine Nat.le_trans (List.length_filter_le _ _) ?_
  induction l with
  | nil => simp [els]
  | cons c t ih =>
    unfold els
    split
    · simp; omega
    · cases h : els t with
      | nil => simp
      | cons e r => rw [h] at ih; simp at ih ⊢; omega
theorem els_bytes (l : List UInt8) : ((els l).map fun e => e.length + 1).sum = l.length + 1 := by
  induction l with
  | nil => rfl
  | cons c t ih =>
    unfold els
    split
    · simp [ih]; omega
    · cases h : els t with
      | nil => exact absurd h (els_ne t)
      | cons e r => rw [h] at ih; simp at ih ⊢; omega
theorem elems_bytes (l : List UInt8) : ((elems l).map fun e => e.length + 1).sum ≤ l.length + 1 := by
  rw [← els_bytes l]
  unfold elems
  generalize els l = es
  induction es with
  | nil => simp
  | cons e t ih =>
    by_cases h : e = []
    · subst h; simp at ih ⊢; omega
    · simp [h] at ih ⊢; omega
/-- What a clean path is, by the elements that are kept. -/
def finish (r : Bool) (st : List (List UInt8)) : List UInt8 := if r then 47 :: [47].intercalate st.reverse else if st = [] then [46] else [47].intercalate st.reverse
theorem inter_empty (l : List (List UInt8)) (h : ∀ e ∈ l, e ≠ []) : [47].intercalate l = [] ↔ l = [] := by
  constructor
  · intro e
    cases l with
    | nil => rfl
    | cons x t =>
      rw [joinInto] at e
      simp at e
      exact absurd e.1 (h x (List.mem_cons_self ..))
  · rintro rfl; rfl
theorem fold_ne (r : Bool) (es : List (List UInt8)) : ∀ st, (∀ e ∈ st, e ≠ []) → ∀ e ∈ es.foldl (cleanStep r) st, e ≠ [] := by
  induction es with
  | nil => intro st h; exact h
  | cons x es ih =>
    intro st h
    refine ih _ ?_
    by_cases hx : x = []
    · subst hx; simpa [cleanStep] using h
    · rcases step_cases r st x hx with ⟨_, e⟩ | ⟨_, y, t, rfl, _, e⟩ | ⟨_, _, ⟨_, _, e⟩ | ⟨e, _⟩⟩ | ⟨_, _, e⟩
      · rw [e]; exact h
      · rw [e]; exact fun z hz => h z (List.mem_cons_of_mem _ hz)
      · rw [e]; exact h
      · rw [e]; intro z hz; rcases List.mem_cons.1 hz with rfl | hz
        · exact hx
        · exact h z hz
      · rw [e]; intro z hz; rcases List.mem_cons.1 hz with rfl | hz
        · exact hx
        · exact h z hz
theorem clean_finish (l : List UInt8) : cleanEls l = finish (rootedB l) ((elems l).foldl (cleanStep (rootedB l)) []) := by
  unfold cleanEls finish
  by_cases hl : l = []
  · subst hl; rfl
  · rw [if_neg hl]
    have hf : (els l).foldl (cleanStep (rootedB l)) [] = (elems l).foldl (cleanStep (rootedB l)) [] := fold_filter _ _ _
    show (if (rootedB l) = true then 47 :: [47].intercalate ((els l).foldl (cleanStep (rootedB l)) []).reverse else if [47].intercalate ((els l).foldl (cleanStep (rootedB l)) []).reverse = [] then [46] else [47].intercalate ((els l).foldl (cleanStep (rootedB l)) []).reverse) = _
    rw [hf]
    have hne := fold_ne (rootedB l) (elems l) [] (fun _ h => by cases h)
    by_cases hr : rootedB l = true
    · rw [if_pos hr, if_pos hr]
    · rw [if_neg hr, if_neg hr]
      have := inter_empty ((elems l).foldl (cleanStep (rootedB l)) []).reverse (fun e he => hne e (List.mem_reverse.1 he))
      by_cases hs : (elems l).foldl (cleanStep (rootedB l)) [] = []
      · rw [if_pos hs, if_pos (this.2 (by rw [hs]; rfl))]
      · rw [if_neg hs, if_neg (fun e => hs (by simpa using this.1 e))]
theorem take_fold {r : Bool} {xs : List (List UInt8)} {k : Nat} {x : List UInt8} (h : xs[k]? = some x) : (xs.take (k + 1)).foldl (cleanStep r) [] = cleanStep r ((xs.take k).foldl (cleanStep r) []) x := by
  rw [List.take_add_one, h, List.foldl_append]; rfl
theorem take_sum {xs : List (List UInt8)} {k : Nat} {x : List UInt8} (h : xs[k]? = some x) : ((xs.take (k + 1)).map fun e => e.length + 1).sum = ((xs.take k).map fun e => e.length + 1).sum + (x.length + 1) := by
  rw [List.take_add_one, h]; simp
theorem sum_take_le (xs : List (List UInt8)) (k : Nat) : ((xs.take k).map fun e => e.length + 1).sum ≤ (xs.map fun e => e.length + 1).sum := by
  induction xs generalizing k with
  | nil => simp
  | cons x t ih =>
    cases k with
    | zero => simp
    | succ k => have := ih k; simp only [List.take_succ_cons, List.map_cons, List.sum_cons]; omega
set_option maxHeartbeats 8000000 in
set_option maxRecDepth 100000 in
theorem clean_ (s : ByteArray) (w : World) (hs : s.size ≤ 1000000) :
    Calls Tryd.prog 10 #[.string s] w fun e w' => e = .returned (.string (mk (cleanEls s.data.toList))) ∧ Below w.heap.size w w' := by
  have hro := fun W => rooted_ s W hs
  have hne := elems_ne s.data.toList
  have hlen := elems_len s.data.toList
  have hbytes := elems_bytes s.data.toList
  rw [size_list] at hlen hbytes
  have hfin : cleanEls s.data.toList = finish (rootedB s.data.toList) ((elems s.data.toList).foldl (cleanStep (rootedB s.data.toList)) []) := clean_finish _
  generalize cleanEls s.data.toList = R at hfin
  generalize rootedB s.data.toList = r at hro hfin
  have HRO := Lib.hid hro
  clear hro
  go_enter Tryd.func10, Tryd.ntmps10
  go_wp2_with fail
  refine (elements_ s w hs).mono ?_
  rintro e w2 ⟨v, rfl, hR, hb⟩
  obtain ⟨A, c, rfl, hc, hr⟩ := strs_of_R hR
  clear hR
  generalize hxs : elems s.data.toList = xs at hne hlen hbytes hfin hc hr
  clear hxs
  generalize hn : xs.length = n at hlen hc
  have HN := Lib.hid hn
  have HNE := Lib.hid hne
  have HFIN := Lib.hid hfin
  have HRS := Lib.hid hr
  have HBY := Lib.hid hbytes
  clear hn hne hfin hr hbytes
  have HB0 := Aside0.mk hb
  clear hb
  go_wp2_with fail
  go_loopw [3, 9] (fun v i wr => ∃ (k : Nat) (st : List (List UInt8)), k ≤ n ∧ i = .int .i64 k ∧ Hid ((xs.take k).foldl (cleanStep r) [] = st) ∧ Hid (r = true → ∀ e ∈ st, e ≠ [46, 46]) ∧ Hid (st.length ≤ k) ∧ Hid ((st.map fun e => e.length + 1).sum ≤ ((xs.take k).map fun e => e.length + 1).sum) ∧ Aside0 (Kd.R Kd.string 9 wr w2.heap.size (fun _ => True) v (st.reverse.map mk)) ∧ Aside0 (Below w2.heap.size w2 wr)) (fun _ i _ => n - (intOf i).toNat)
  case atStart => exact ⟨0, [], Nat.zero_le _, rfl, Lib.hid rfl, Lib.hid (fun _ e h => by cases h), Lib.hid (Nat.le_refl _), Lib.hid (Nat.le_refl _), ⟨Kd.R_nil _ _ _ _ _⟩, ⟨Below.refl _ _⟩⟩
  case round =>
    obtain ⟨k, st, hk, rfl, HF, HNU, HL, HSUM, HR, HB⟩ := hrel
    by_cases hlt : k < n
    · have hx := List.getElem?_eq_getElem (show k < xs.length by rw [HN.out]; exact hlt)
      obtain ⟨b, o, hA, hcell⟩ := HRS.out (by rw [HN.out]; omega)
      subst hA
      have hck := cell_later HB.out (hcell k _ hx)
      clear hcell
      have hxne := HNE.out _ (List.getElem_mem (show k < xs.length by rw [HN.out]; exact hlt))
      have hnext := take_fold (r := r) hx
      have hsum2 := take_sum hx
      generalize xs[k]'(show k < xs.length by rw [HN.out]; exact hlt) = x at hck hx hxne hnext hsum2
      rw [HF.out] at hnext
      have HX := Lib.hid hxne
      have HSUM2 := Lib.hid hsum2
      clear hx hsum2
      have hst := HL.out
      rcases step_cases r st x hxne with ⟨rfl, hs1⟩ | ⟨rfl, ⟨y, t, rfl, hy, hs1⟩⟩ | ⟨rfl, htop, hs1⟩ | ⟨h46, h4646, hs1⟩
      · have HNX := Lib.hid (hnext.trans hs1)
        have b1 : ((mk [46]).toList == [46]) = true := by rw [mk_toList]; rfl
        clear hs1 hnext hxne
        go_wp2
        go_roundw
        case rel => exact ⟨k + 1, st, by omega, by first | rfl | go_num, HNX, HNU, Lib.hid (by have := HL.out; omega), Lib.hid (by rw [HSUM2.out]; have := HSUM.out; omega), ⟨by (with_reducible repeat (first | apply Kd.R_alloc | apply Kd.R_drewN | apply Kd.R_drew)); exact HR.out⟩, ⟨by repeat (first | (with_reducible first | exact HB.out | apply below_alloc | apply pw_below_drewN | apply below_drew1) | exact HB.out)⟩⟩
        case measure => simp [intOf] <;> omega
      · have HNX := Lib.hid (hnext.trans hs1)
        have b1 : ((mk [46, 46]).toList == [46]) = false := by rw [mk_toList]; rfl
        have b2 : ((mk [46, 46]).toList == [46, 46]) = true := by rw [mk_toList]; rfl
        have b3 : ((mk y).toList != [46, 46]) = true := by rw [mk_toList]; simpa using hy
        have b4 : ((mk y).toList == [46, 46]) = false := by rw [mk_toList]; simpa using hy
        obtain ⟨A3, c3, h3, hc3, hr3⟩ := strs_of_R HR.out
        have hl3 : (y :: t).reverse.length = t.length + 1 := by simp
        rw [hl3] at h3 hc3
        subst h3
        obtain ⟨g3, o3, hA3, hcell3⟩ := hr3 (by simp)
        subst hA3
        have hc4 := hcell3 t.length y (by simp)
        have HR2 := Kd.R_take (m := t.length) HR.out (by simp)
        have e5 : ((y :: t).reverse.map mk).take t.length = t.reverse.map mk := by simp
        rw [e5] at HR2
        have HNU2 := Lib.hid (show r = true → ∀ e ∈ t, e ≠ [46, 46] from fun hr e he => HNU.out hr e (List.mem_cons_of_mem _ he))
        have HSM := HSUM.out
        simp only [List.map_cons, List.sum_cons] at HSM
        have HSM2 := Lib.hid HSM
        have HR3 := Aside0.mk HR2
        clear hs1 hnext hxne hy hl3 hcell3 hr3 e5 HR2 HSM HR HSUM HF
        have hlt3 : t.length + 1 ≤ 2000000 := by have := HL.out; simp at this; omega
        go_wp2
        go_roundw
        case rel => exact ⟨k + 1, t, by omega, by first | rfl | go_num, HNX, HNU2, Lib.hid (by have := HL.out; simp at this; omega), Lib.hid (by rw [HSUM2.out]; have := HSM2.out; omega), ⟨by (with_reducible repeat (first | apply Kd.R_alloc | apply Kd.R_drewN | apply Kd.R_drew)); exact HR3.out⟩, ⟨by repeat (first | (with_reducible first | exact HB.out | apply below_alloc | apply pw_below_drewN | apply below_drew1) | exact HB.out)⟩⟩
        case measure => simp [intOf] <;> omega
      · have b1 : ((mk [46, 46]).toList == [46]) = false := by rw [mk_toList]; rfl
        have b2 : ((mk [46, 46]).toList == [46, 46]) = true := by rw [mk_toList]; rfl
        rcases hs1 with ⟨rfl, rfl, hs2⟩ | ⟨hs2, hor⟩
        · have HNX := Lib.hid (hnext.trans hs2)
          clear hs2 hnext hxne htop
          rcases nil_of_R HR.out with rfl | ⟨a3, c3, rfl⟩
          ·
            go_wp2_with (first | (go_at_call 9; (with_reducible refine (HRO.out _).mono ?_); rintro e w' ⟨rfl, rfl⟩))
            go_roundw
            case rel => exact ⟨k + 1, [], by omega, by first | rfl | go_num, HNX, HNU, Lib.hid (by simp), Lib.hid (by simp), ⟨by (with_reducible repeat (first | apply Kd.R_alloc | apply Kd.R_drewN | apply Kd.R_drew)); exact HR.out⟩, ⟨by repeat (first | (with_reducible first | exact HB.out | apply below_alloc | apply pw_below_drewN | apply below_drew1) | exact HB.out)⟩⟩
            case measure => simp [intOf] <;> omega
          ·
            go_wp2_with (first | (go_at_call 9; (with_reducible refine (HRO.out _).mono ?_); rintro e w' ⟨rfl, rfl⟩))
            go_roundw
            case rel => exact ⟨k + 1, [], by omega, by first | rfl | go_num, HNX, HNU, Lib.hid (by simp), Lib.hid (by simp), ⟨by (with_reducible repeat (first | apply Kd.R_alloc | apply Kd.R_drewN | apply Kd.R_drew)); exact HR.out⟩, ⟨by repeat (first | (with_reducible first | exact HB.out | apply below_alloc | apply pw_below_drewN | apply below_drew1) | exact HB.out)⟩⟩
            case measure => simp [intOf] <;> omega
        · have hrf : r = false := by
            rcases hor with h | h
            · exact h
            · rcases htop with h2 | ⟨x, t, h2, hx⟩
              · exact absurd h2 h
              · cases r
                · rfl
                · exact absurd hx (HNU.out rfl x (by rw [h2]; exact List.mem_cons_self ..))
          subst hrf
          have HNX := Lib.hid (hnext.trans hs2)
          have HNU2 := Lib.hid (show false = true → ∀ e ∈ [46, 46] :: st, e ≠ ([46, 46] : List UInt8) from fun h => absurd h (by simp))
          clear hs2 hnext hxne hor
          rcases htop with rfl | ⟨y, t, rfl, rfl⟩
          · rcases nil_of_R HR.out with rfl | ⟨a3, c3, rfl⟩
            ·
              go_wp2_with (first | (go_at_call 9; (with_reducible refine (HRO.out _).mono ?_); rintro e w' ⟨rfl, rfl⟩) | ((with_reducible refine gate_builtin (b := .append) (xs := #[.tmp 13, .tmp 15]) rfl ?_); (try (refine gate_guard (by rfl) ?_; dsimp only)); at_builtin; refine Kd.R_append Kd.string (w0 := w2) w2.heap.size rfl (.tmp 13) (.tmp 15) 29 9 (.string ⟨#[]⟩) 16 rfl Tryd.underlying29 info9 rfl (by decide) (by omega) (.slice none 0 0) (([] : List (List UInt8)).reverse.map mk) (mk [46, 46]) [.string (mk [46, 46])] (fun _ => True) (fun _ => False) rfl rfl ?aP (fun _ hk => hk.elim) ?aF ?aO ?aB ?aS ?aL ?_; (case aP => exact rfl); (case aB => exact (by repeat (first | (with_reducible first | exact HB.out | apply below_alloc | apply pw_below_drewN | apply below_drew1) | exact HB.out))); (case aF => exact (fun _ _ => trivial)); (case aO => exact (by (with_reducible repeat (first | apply Kd.R_alloc | apply Kd.R_drewN | apply Kd.R_drew)); exact HR.out)); (case aS => exact (below_size (by repeat (first | (with_reducible first | exact HB.out | apply below_alloc | apply pw_below_drewN | apply below_drew1) | exact HB.out)))); (case aL => (have := HL.out; (simp <;> omega))); intro v105 w16 ho hb5 hg hat; have n0_ := Aside0.mk hb5; have n1_ := Aside0.mk ho; clear ho hb5 hg hat))
              go_roundw
              case rel =>
                refine ⟨k + 1, [46, 46] :: [], by omega, by first | rfl | go_num, HNX, HNU2, Lib.hid ?_, Lib.hid ?_, ⟨?_⟩, n0_⟩
                · have := HL.out; simp only [List.length_cons] at this ⊢; omega
                · rw [HSUM2.out]; have := HSUM.out; first | (simp at this ⊢; omega) | (simp; done)
                · have h := n1_.out
                  simpa using h
              case measure => simp [intOf] <;> omega
            ·
              go_wp2_with (first | (go_at_call 9; (with_reducible refine (HRO.out _).mono ?_); rintro e w' ⟨rfl, rfl⟩) | ((with_reducible refine gate_builtin (b := .append) (xs := #[.tmp 13, .tmp 15]) rfl ?_); (try (refine gate_guard (by rfl) ?_; dsimp only)); at_builtin; refine Kd.R_append Kd.string (w0 := w2) w2.heap.size rfl (.tmp 13) (.tmp 15) 29 9 (.string ⟨#[]⟩) 16 rfl Tryd.underlying29 info9 rfl (by decide) (by omega) (.slice (some a3) 0 c3) (([] : List (List UInt8)).reverse.map mk) (mk [46, 46]) [.string (mk [46, 46])] (fun _ => True) (fun _ => False) rfl rfl ?aP (fun _ hk => hk.elim) ?aF ?aO ?aB ?aS ?aL ?_; (case aP => exact rfl); (case aB => exact (by repeat (first | (with_reducible first | exact HB.out | apply below_alloc | apply pw_below_drewN | apply below_drew1) | exact HB.out))); (case aF => exact (fun _ _ => trivial)); (case aO => exact (by (with_reducible repeat (first | apply Kd.R_alloc | apply Kd.R_drewN | apply Kd.R_drew)); exact HR.out)); (case aS => exact (below_size (by repeat (first | (with_reducible first | exact HB.out | apply below_alloc | apply pw_below_drewN | apply below_drew1) | exact HB.out)))); (case aL => (have := HL.out; (simp <;> omega))); intro v105 w16 ho hb5 hg hat; have n0_ := Aside0.mk hb5; have n1_ := Aside0.mk ho; clear ho hb5 hg hat))
              go_roundw
              case rel =>
                refine ⟨k + 1, [46, 46] :: [], by omega, by first | rfl | go_num, HNX, HNU2, Lib.hid ?_, Lib.hid ?_, ⟨?_⟩, n0_⟩
                · have := HL.out; simp only [List.length_cons] at this ⊢; omega
                · rw [HSUM2.out]; have := HSUM.out; first | (simp at this ⊢; omega) | (simp; done)
                · have h := n1_.out
                  simpa using h
              case measure => simp [intOf] <;> omega
          · have b4 : ((mk [46, 46]).toList != [46, 46]) = false := by rw [mk_toList]; rfl
            obtain ⟨A3, c3, h3, hc3, hr3⟩ := strs_of_R HR.out
            have hl3 : ([46, 46] :: t).reverse.length = t.length + 1 := by simp
            rw [hl3] at h3 hc3
            subst h3
            obtain ⟨g3, o3, hA3, hcell3⟩ := hr3 (by simp)
            subst hA3
            have hc4 := hcell3 t.length [46, 46] (by simp)
            clear hcell3 hr3 hl3
            have hlt3 : t.length + 1 ≤ 2000000 := by have := HL.out; simp at this; omega
            go_wp2_with (first | (go_at_call 9; (with_reducible refine (HRO.out _).mono ?_); rintro e w' ⟨rfl, rfl⟩) | ((with_reducible refine gate_builtin (b := .append) (xs := #[.tmp 13, .tmp 15]) rfl ?_); (try (refine gate_guard (by rfl) ?_; dsimp only)); at_builtin; refine Kd.R_append Kd.string (w0 := w2) w2.heap.size rfl (.tmp 13) (.tmp 15) 29 9 (.string ⟨#[]⟩) 16 rfl Tryd.underlying29 info9 rfl (by decide) (by omega) (.slice (some ⟨g3, o3, none⟩) (t.length + 1) c3) (([46, 46] :: t).reverse.map mk) (mk [46, 46]) [.string (mk [46, 46])] (fun _ => True) (fun _ => False) rfl rfl ?aP (fun _ hk => hk.elim) ?aF ?aO ?aB ?aS ?aL ?_; (case aP => exact rfl); (case aB => exact (by repeat (first | (with_reducible first | exact HB.out | apply below_alloc | apply pw_below_drewN | apply below_drew1) | exact HB.out))); (case aF => exact (fun _ _ => trivial)); (case aO => exact (by (with_reducible repeat (first | apply Kd.R_alloc | apply Kd.R_drewN | apply Kd.R_drew)); exact HR.out)); (case aS => exact (below_size (by repeat (first | (with_reducible first | exact HB.out | apply below_alloc | apply pw_below_drewN | apply below_drew1) | exact HB.out)))); (case aL => (have := HL.out; (simp <;> omega))); intro v105 w16 ho hb5 hg hat; have n0_ := Aside0.mk hb5; have n1_ := Aside0.mk ho; clear ho hb5 hg hat))
            go_roundw
            case rel =>
              refine ⟨k + 1, [46, 46] :: [46, 46] :: t, by omega, by first | rfl | go_num, HNX, HNU2, Lib.hid ?_, Lib.hid ?_, ⟨?_⟩, n0_⟩
              · have := HL.out; simp only [List.length_cons] at this ⊢; omega
              · rw [HSUM2.out]; have := HSUM.out; first | (simp at this ⊢; omega) | (simp; done)
              · have h := n1_.out
                simpa using h
            case measure => simp [intOf] <;> omega
      · have HNX := Lib.hid (hnext.trans hs1)
        have b1 : ((mk x).toList == [46]) = false := by rw [mk_toList]; simpa using h46
        have b2 : ((mk x).toList == [46, 46]) = false := by rw [mk_toList]; simpa using h4646
        have HNU2 := Lib.hid (show r = true → ∀ e ∈ x :: st, e ≠ ([46, 46] : List UInt8) from fun hr e he => by
          rcases List.mem_cons.1 he with rfl | he
          · exact h4646
          · exact HNU.out hr e he)
        clear hs1 hnext hxne h46 h4646
        go_wp2_with (first | ((with_reducible refine gate_builtin (b := .append) (xs := #[.tmp 13, .tmp 15]) rfl ?_); (try (refine gate_guard (by rfl) ?_; dsimp only)); at_builtin; refine Kd.R_append Kd.string (w0 := w2) w2.heap.size rfl (.tmp 13) (.tmp 15) 29 9 (.string ⟨#[]⟩) 16 rfl Tryd.underlying29 info9 rfl (by decide) (by omega) u3 (st.reverse.map mk) (mk x) [.string (mk x)] (fun _ => True) (fun _ => False) rfl rfl ?aP (fun _ hk => hk.elim) ?aF ?aO ?aB ?aS ?aL ?_; (case aP => exact rfl); (case aB => exact (by repeat (first | (with_reducible first | exact HB.out | apply below_alloc | apply pw_below_drewN | apply below_drew1) | exact HB.out))); (case aF => exact (fun _ _ => trivial)); (case aO => exact (by (with_reducible repeat (first | apply Kd.R_alloc | apply Kd.R_drewN | apply Kd.R_drew)); exact HR.out)); (case aS => exact (below_size (by repeat (first | (with_reducible first | exact HB.out | apply below_alloc | apply pw_below_drewN | apply below_drew1) | exact HB.out)))); (case aL => (have := HL.out; (simp <;> omega))); intro v105 w16 ho hb5 hg hat; have n0_ := Aside0.mk hb5; have n1_ := Aside0.mk ho; clear ho hb5 hg hat))
        go_roundw
        case rel =>
          refine ⟨k + 1, x :: st, by omega, by first | rfl | go_num, HNX, HNU2, Lib.hid ?_, Lib.hid ?_, ⟨?_⟩, n0_⟩
          · have := HL.out; simp only [List.length_cons] at this ⊢; omega
          · rw [HSUM2.out]; have := HSUM.out; first | (simp at this ⊢; omega) | (simp; done)
          · have h := n1_.out
            simpa using h
        case measure => simp [intOf] <;> omega
    · have hst : st = xs.foldl (cleanStep r) [] := by
        have h := HF.out
        rw [List.take_of_length_le (by rw [HN.out]; omega)] at h
        exact h.symm
      have hR2 : R = finish r st := by rw [hst]; exact HFIN.out
      have hbig : (st.reverse.map fun e => e.length + 1).sum ≤ 10000000 := by
        have h1 := HSUM.out
        have h2 := sum_take_le xs k
        have h3 := HBY.out
        have h4 : (st.reverse.map fun e => e.length + 1).sum = (st.map fun e => e.length + 1).sum := by
          rw [List.map_reverse, List.sum_reverse]
        omega
      have hil : ([47].intercalate st.reverse).length ≤ 10000000 := by
        have := joinTo_len st.reverse st.reverse.length
        unfold joinTo at this
        rw [List.take_length] at this
        omega
      obtain ⟨A3, c3, h3, hc3, hr3⟩ := strs_of_R HR.out
      have hj := fun W (hb : Below wr.heap.size wr W) => joined_ A3 c3 st.reverse st.reverse.length rfl (by have := HL.out; simp; omega) hc3 W (fun h0 => by
        obtain ⟨b, o, e, hc⟩ := hr3 h0
        exact ⟨b, o, e, fun k x hk => cell_later hb (hc k x hk)⟩) hbig
      have hl3 : st.reverse.length = st.length := by simp
      rw [hl3] at h3 hj
      subst h3
      have hmz := mk_size ([47].intercalate st.reverse)
      have hsz : (mk ([47].intercalate st.reverse)).size ≤ 10000000 := by omega
      have HBB := Lib.hid (below_then HB0.out HB0.out.size HB.out)
      have hln : st.length ≤ 2000000 := by have := HL.out; omega
      clear hst hc3 hr3 hbig hil hl3 hmz HF HNU HSUM
      cases r with
      | true =>
        have hR3 : { data := #[47] } ++ mk ([47].intercalate st.reverse) = mk R := by
          rw [hR2, show ({ data := #[47] } : ByteArray) = mk [47] from rfl, mk_app]
          simp [finish]
        have HR3 := Lib.hid hR3
        clear hR2 hR3
        generalize mk ([47].intercalate st.reverse) = jj at hj hsz HR3
        have HJ := Lib.hid hj
        clear hj
        go_wp2_with (first | (go_at_call 9; (with_reducible refine (HRO.out _).mono ?_); rintro e w' ⟨rfl, rfl⟩) | (go_at_call 19; (with_reducible refine (HJ.out _ (Below.refl _ _)).mono ?_); rintro e w' ⟨rfl, ⟨nq, rfl⟩⟩))
        go_ret
        exact ⟨ret_string HR3.out, pw_below_drewN HBB.out _⟩
      | false =>
        by_cases h0 : st = []
        · subst h0
          have HR3 := Lib.hid (show mk R = { data := #[46] } by rw [hR2]; rfl)
          clear hR2 hj
          go_wp2_with (first | (go_at_call 9; (with_reducible refine (HRO.out _).mono ?_); rintro e w' ⟨rfl, rfl⟩))
          go_ret
          exact ⟨ret_string HR3.out.symm, HBB.out⟩
        · have hpos : 0 < st.length := by
            cases st with
            | nil => exact absurd rfl h0
            | cons x t => simp
          have hb0 : ((st.length : Int) == 0) = false := beq_eq_false_iff_ne.mpr (by omega)
          have HR3 := Lib.hid (show mk ([47].intercalate st.reverse) = mk R by rw [hR2]; simp [finish, h0])
          clear hR2 h0
          generalize mk ([47].intercalate st.reverse) = jj at hj hsz HR3
          have HJ := Lib.hid hj
          clear hj
          go_wp2_with (first | (go_at_call 9; (with_reducible refine (HRO.out _).mono ?_); rintro e w' ⟨rfl, rfl⟩) | (go_at_call 19; (with_reducible refine (HJ.out _ (Below.refl _ _)).mono ?_); rintro e w' ⟨rfl, ⟨nq, rfl⟩⟩))
          go_ret
          exact ⟨ret_string HR3.out, pw_below_drewN HBB.out _⟩
end Go.Proofs.YtedjcbjocgkgnaaDoor.RpWalk
