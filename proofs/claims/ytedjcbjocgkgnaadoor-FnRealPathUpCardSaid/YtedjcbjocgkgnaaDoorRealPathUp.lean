/- Proved: for every path and name FnRealPathUp answers true: up out of the path and down again by its own name is the same file; up and out is no file, told as it is named. ErrNotExist reads as the program lays it (the card ties it). -/
import Derived.Test.YtedjcbjocgkgnaaDoorRows
import Derived.Test.YtedjcbjocgkgnaaDoorAdapter
import Derived.Test.YtedjcbjocgkgnaaDoorCards
import Derived.Test.YtedjcbjocgkgnaaDoorTie
import Derived.SevenTiedAt
import Derived.ChangeSame
import Derived.ChangeArms
import Derived.OpenShut
import Derived.Test.YtedjcbjocgkgnaaDoorFacts
import Derived.Stop.LaidErr
namespace Go.Proofs.YtedjcbjocgkgnaaDoor.RpWalk
open Go.RowKit Go.Proofs.YtedjcbjocgkgnaaDoorW.PrintWords Go.Proofs.YtedjcbjocgkgnaaDoorW.PrintLast Go.Proofs.YtedjcbjocgkgnaaDoorW.PrintMore
open Go.Proofs.YtedjcbjocgkgnaaDoor.PFnRealPathUp Go.Proofs.YtedjcbjocgkgnaaDoor.CleanLaw
open Go.Lib.Pa
set_option linter.unusedVariables false
theorem els_inter (Q : List (List UInt8)) (h : ∀ e ∈ Q, ∀ c ∈ e, c ≠ 47) (hne : Q ≠ []) : els ([47].intercalate Q) = Q := by
  induction Q with
  | nil => exact absurd rfl hne
  | cons x t ih =>
    by_cases ht : t = []
    · subst ht
      have : ([47] : List UInt8).intercalate [x] = x := by simp [List.intercalate]
      rw [this]
      exact els_plain x (h x (List.mem_cons_self ..))
    · rw [inter_cons x t ht, CleanLaw.els_slash, els_plain x (h x (List.mem_cons_self ..)), ih (fun e he => h e (List.mem_cons_of_mem _ he)) ht]
      rfl
theorem elems_body (P : List (List UInt8)) (h : Plains P) : elems (body P) = P.reverse := by
  unfold elems body
  by_cases hP : P = []
  · subst hP; simp [List.intercalate, els]
  · have h1 : els (47 :: [47].intercalate P.reverse) = els ([] ++ 47 :: [47].intercalate P.reverse) := rfl
    rw [h1, CleanLaw.els_slash, els_inter P.reverse (fun e he => (h e (List.mem_reverse.1 he)).1) (by simpa using hP)]
    have h2 : (els ([] : List UInt8)) = [[]] := by simp [els]
    rw [h2, List.filter_append]
    have h3 : P.reverse.filter (fun x => decide (x ≠ ([] : List UInt8))) = P.reverse := by
      rw [List.filter_eq_self]
      intro e he
      simpa using (h e (List.mem_reverse.1 he)).2.1
    rw [h3]
    simp
theorem depth_noup (xs : List (List UInt8)) (h : ∀ e ∈ xs, e ≠ [46, 46]) : ∀ d, depthFrom d xs ≠ none := by
  induction xs with
  | nil => intro d; simp [depthFrom]
  | cons e t ih =>
    intro d
    have he := h e (List.mem_cons_self ..)
    have ih := ih (fun x hx => h x (List.mem_cons_of_mem _ hx))
    unfold depthFrom
    by_cases h1 : e = [] ∨ e = [46]
    · rw [if_pos h1]; exact ih d
    · rw [if_neg h1, if_neg he]; exact ih (d + 1)
def upName (b n : List UInt8) : List UInt8 := [46, 46, 47] ++ b ++ [47] ++ n
def outName (n : List UInt8) : List UInt8 := [46, 46, 47, 46, 46, 47, 46, 46, 47] ++ n
/-- What the law about going up asks. -/
structure UpFacts (p n g b : List UInt8) : Prop where
  one : full p n = g
  base : baseB (cleanEls p) = b
  two : full p (upName b n) = g
  pre : preB (mk g) (mk (cleanEls p)) = true
  within : withinB g (cleanEls p) = true
  out : (elems (cleanEls p)).length ≤ 3 → full p (outName n) = cleanEls (47 :: n)
theorem kept_pop (st : List (List UInt8)) (h : Plains st) : kept st [46, 46] = st.tail := by
  cases st with
  | nil => simp [kept, els, cleanStep]
  | cons e r => exact kept_up r e (h e (List.mem_cons_self ..)).2.2.2
theorem plains_tail (st : List (List UInt8)) (h : Plains st) : Plains st.tail := fun e he => h e (List.mem_of_mem_tail he)
theorem up_facts (pl n : List UInt8) (h : ∀ e ∈ elems n, e ≠ [46, 46]) (hd : cleanEls (47 :: pl) ≠ [47]) : ∃ g b, UpFacts (47 :: pl) n g b := by
  have hP : Plains (kept [] pl) := kept_plains _ _ nil_plains
  have hk := kept_under (kept [] pl) n (by rw [← depth_elems]; exact depth_noup _ h 0)
  have hne : kept [] pl ≠ [] := by
    intro e
    rw [clean_is, e] at hd
    exact hd rfl
  have hb : ∃ b R, kept [] pl = b :: R := by
    cases hq : kept [] pl with
    | nil => exact absurd hq hne
    | cons b R => exact ⟨b, R, rfl⟩
  obtain ⟨b, R, hbR⟩ := hb
  have hbp : Plain b := hP b (by rw [hbR]; exact List.mem_cons_self ..)
  refine ⟨body (kept [] n ++ kept [] pl), b, ?_, ?_, ?_, ?_, ?_, ?_⟩
  · rw [full_is, hk]
  · rw [clean_is]
    unfold baseB
    rw [elems_body _ hP, hbR]
    simp [body]
  · rw [full_is]
    have e1 : upName b n = [46, 46] ++ 47 :: (b ++ 47 :: n) := by simp [upName]
    rw [e1, kept_slash, kept_slash, hbR, kept_up R b hbp.2.2.2, kept_plain R b hbp, ← hbR, hk]
  · rw [clean_is]
    obtain ⟨x, hx⟩ := body_starts (kept [] n) (kept [] pl)
    rw [hx]
    exact preB_app _ _
  · rw [clean_is]
    exact within_body _ _
  · intro hl
    rw [clean_is, elems_body _ hP] at hl
    rw [full_is, clean_is]
    have e1 : outName n = [46, 46] ++ 47 :: ([46, 46] ++ 47 :: ([46, 46] ++ 47 :: n)) := by simp [outName]
    rw [e1, kept_slash, kept_slash, kept_slash, kept_pop _ hP, kept_pop _ (plains_tail _ hP), kept_pop _ (plains_tail _ (plains_tail _ hP))]
    have : (kept [] pl).tail.tail.tail = [] := by
      generalize kept [] pl = Q at hl
      match Q, hl with
      | [], _ => rfl
      | [_], _ => rfl
      | [_, _], _ => rfl
      | [_, _, _], _ => rfl
      | _ :: _ :: _ :: _ :: _, hl => simp at hl
    rw [this]
theorem le_sum (l : List Nat) (x : Nat) (h : x ∈ l) : x ≤ l.sum := by
  induction l with
  | nil => cases h
  | cons a t ih =>
    rcases List.mem_cons.1 h with rfl | h
    · simp
    · have := ih h; simp; omega
theorem upName_is (b n : List UInt8) : mk (upName b n) = ({ data := #[46, 46, 47] } : ByteArray) ++ mk b ++ { data := #[47] } ++ mk n := by
  rw [show ({ data := #[46, 46, 47] } : ByteArray) = mk [46, 46, 47] from rfl, show ({ data := #[47] } : ByteArray) = mk [47] from rfl, mk_app, mk_app, mk_app]
  rfl
theorem outName_is (n : List UInt8) : mk (outName n) = ({ data := #[46, 46, 47, 46, 46, 47, 46, 46, 47] } : ByteArray) ++ mk n := by
  rw [show ({ data := #[46, 46, 47, 46, 46, 47, 46, 46, 47] } : ByteArray) = mk [46, 46, 47, 46, 46, 47, 46, 46, 47] from rfl, mk_app]
  rfl
set_option maxHeartbeats 4000000 in
set_option maxRecDepth 100000 in
theorem up6 (r : Bool) (pl n : List UInt8) (a : Addr) (w : World) (hr : rootedB pl = r) (h0 : w.cell? ⟨0, 0, none⟩ = some (.iface 78 (.pointer (some a)))) (hps : (mk pl).size ≤ 200) (hns : (mk n).size ≤ 200) :
    Calls Tryd.prog 6 #[.string (mk pl), .string (mk n)] w fun e w' => e = .returned (.bool true) ∧ Below w.heap.size w w' := by
  have hz1 : pl.length ≤ 200 := by rw [← mk_size]; exact hps
  have hz2 : n.length ≤ 200 := by rw [← mk_size]; exact hns
  have he := fun W => elements_ (mk n) W (by omega)
  have hro := fun W => rooted_ (mk pl) W (by omega)
  have hcl := fun W => clean_ (mk pl) W (by omega)
  have hcn := fun W => clean_ (mk (47 :: n)) W (by rw [mk_size]; simp; omega)
  have hlen := elems_len n
  rw [mk_data] at he hro hcl hcn
  rw [hr] at hro
  have hcl1 := cleanEls_len pl
  have hcl2 := cleanEls_len (47 :: n)
  simp only [List.length_cons] at hcl2
  rw [show mk (47 :: n) = ({ data := #[47] } : ByteArray) ++ mk n from (mk_app [47] n).symm] at hcn
  have HFIN := Lib.hid (show r = true → (∀ e ∈ elems n, e ≠ [46, 46]) → cleanEls pl ≠ [47] → ∃ g b, UpFacts pl n g b by
    intro h1 h2 h3
    rw [h1] at hr
    obtain ⟨q, rfl⟩ := rooted_of _ hr
    exact up_facts q n h2 h3)
  have HE := Lib.hid he
  have HRO := Lib.hid hro
  have HCL := Lib.hid hcl
  have HCN := Lib.hid hcn
  have HLEN := Lib.hid hlen
  have HC1 := Lib.hid hcl1
  have HC2 := Lib.hid hcl2
  have H0 := Lib.hid h0
  have hdl : (cleanEls pl).length ≤ 201 := by omega
  clear he hro hcl hcn hlen hcl1 hcl2 h0 hr
  generalize elems n = xs at HE HLEN HFIN
  generalize hdd : cleanEls pl = dir at HCL HFIN HC1 hdl
  go_enter Tryd.func6, Tryd.ntmps6
  go_wp2_with (first | (go_at_call 10; (with_reducible refine (HCL.out _).mono ?_); rintro e w1 ⟨rfl, hb1⟩) | (go_at_call 11; (with_reducible refine (HE.out _).mono ?_); rintro e w2 ⟨v, rfl, hr, hb2⟩; obtain ⟨A, c, hv, hc, hrd⟩ := strs_of_R hr; subst hv; have HRD := Lib.hid hrd; clear hrd hr))
  have HN := Lib.hid (show xs.length ≤ 1000000 by have := HLEN.out; omega)
  have HB := Lib.hid (below_then hb1 hb1.size hb2)
  clear hb1 hb2
  go_loopw [36] (fun v36 wr => ∃ (k : Nat), v36 = .int .i64 k ∧ k ≤ xs.length ∧ Hid (∀ e ∈ xs.take k, e ≠ [46, 46]) ∧ (∃ nq, wr = w2.drewN nq)) (fun i _ => xs.length - (intOf i).toNat)
  case atStart => exact ⟨0, rfl, Nat.zero_le _, Lib.hid (by simp), ⟨0, rfl⟩⟩
  case round =>
    obtain ⟨k, rfl, hk, HD, ⟨nq, rfl⟩⟩ := hrel
    by_cases hlt : k < xs.length
    · obtain ⟨x, hx⟩ : ∃ x, xs[k]? = some x := ⟨xs[k], List.getElem?_eq_getElem hlt⟩
      obtain ⟨gb, go, rfl, hcell⟩ := HRD.out (by omega)
      have hcc := hcell k x hx
      have hk2 : k < 1000000 := by have := HN.out; omega
      clear hcell
      by_cases h4646 : x = [46, 46]
      · have b2 : ((mk x).toList == [46, 46]) = true := by rw [mk_toList, h4646]; rfl
        clear HD h4646 hx
        go_wp2_with fail
        go_ret
        exact ⟨rfl, pw_below_drewN HB.out _⟩
      · have b2 : ((mk x).toList == [46, 46]) = false := by rw [mk_toList]; simpa using h4646
        have HD2 := Lib.hid (show ∀ e ∈ xs.take (k + 1), e ≠ [46, 46] by
          intro e he
          rw [List.take_add_one, hx] at he
          rcases List.mem_append.1 he with he | he
          · exact HD.out e he
          · simp at he; rw [he]; exact h4646)
        clear HD h4646 hx
        go_wp2_with fail
        go_roundw
        case rel => exact ⟨k + 1, by first | rfl | go_num, by omega, HD2, ⟨_, rfl⟩⟩
        case measure => simp [intOf] <;> omega
    · have hno := Lib.hid (show ∀ e ∈ xs, e ≠ [46, 46] from by
        have := HD.out
        rw [List.take_of_length_le (by omega)] at this
        exact this)
      clear HD
      cases r with
      | false =>
        go_wp2_with (first | (go_at_call 9; (with_reducible refine (HRO.out _).mono ?_); rintro e w' ⟨rfl, rfl⟩))
        go_ret
        exact ⟨rfl, pw_below_drewN HB.out _⟩
      | true =>
        by_cases hd1 : dir = [47]
        · have b1 : ((mk dir).toList == [47]) = true := by rw [mk_toList, hd1]; rfl
          clear hd1 hdd
          go_wp2_with (first | (go_at_call 9; (with_reducible refine (HRO.out _).mono ?_); rintro e w' ⟨rfl, rfl⟩))
          go_ret
          exact ⟨rfl, pw_below_drewN HB.out _⟩
        · have b1 : ((mk dir).toList == [47]) = false := by rw [mk_toList]; simpa using hd1
          obtain ⟨g, b, hF⟩ := HFIN.out rfl hno.out hd1
          have HBN := HB
          have hgl : g.length ≤ 100000 := by
            have := join_length_le [cleanEls pl, n]
            have h2 := cleanEls_len (join [cleanEls pl, n])
            have h4 := hF.one
            unfold full at h4
            rw [← h4]
            rw [hdd] at this h2 ⊢
            simp [lens] at this
            omega
          have hbl : b.length ≤ 1000 := by
            have h1 := hF.base
            rw [hdd] at h1
            unfold baseB at h1
            have h2 := elems_bytes dir
            rw [← h1]
            split
            · simp
            · cases hq : (elems dir).getLast? with
              | none => simp
              | some x =>
                simp only
                have hm := List.mem_of_getLast? hq
                have h3 : x.length + 1 ≤ ((elems dir).map fun e => e.length + 1).sum := le_sum _ _ (List.mem_map.2 ⟨x, hm, rfl⟩)
                omega
          have i1 := fun W => impl12 pl n W (by omega) (by omega) (by rw [hF.one]; exact hF.pre)
          have i2 := fun W => impl12 pl (upName b n) W (by omega) (by simp [upName]; omega) (by rw [hF.two]; exact hF.pre)
          have i3 := fun W => within13 g dir W (by omega) (by omega) (by rw [← hdd]; exact hF.within)
          have i4 := fun W => base14 dir W (by omega)
          rw [hF.one] at i1
          rw [hF.two] at i2
          rw [show baseB dir = b by rw [← hdd]; exact hF.base] at i4
          rw [upName_is] at i2
          have i5 := fun W => elements_ (mk dir) W (by rw [mk_size]; omega)
          rw [mk_data] at i5
          have i6 := fun W => begins15 (mk (cleanEls (47 :: n))) (mk dir) W
          have HO := Lib.hid (show preB (mk (cleanEls (47 :: n))) (mk dir) = false → (elems dir).length ≤ 3 → ∀ W, Below w.heap.size w W →
              Calls Tryd.prog 12 #[.string (mk pl), .string (({ data := #[46, 46, 47, 46, 46, 47, 46, 46, 47] } : ByteArray) ++ mk n)] W fun e w' => e = .returned (.tuple #[.string (({ data := #[46, 46, 47, 46, 46, 47, 46, 46, 47] } : ByteArray) ++ mk n), .int .i64 1]) ∧ Below W.heap.size W w' by
            intro k1 k2 W hW
            rw [← outName_is]
            refine impl12out pl (outName n) a W (cell_later hW H0.out) (by omega) (by simp [outName]; omega) ?_
            rw [hF.out (by rw [hdd]; exact k2), hdd]
            exact k1)
          have hel := elems_len dir
          have I1 := Lib.hid i1
          have I2 := Lib.hid i2
          have I3 := Lib.hid i3
          have I4 := Lib.hid i4
          have I5 := Lib.hid i5
          have e0 : ((mk g).toList == (mk g).toList) = true := by simp
          have e1 : ((({ data := #[46, 46, 47, 46, 46, 47, 46, 46, 47] } : ByteArray) ++ mk n).toList == (({ data := #[46, 46, 47, 46, 46, 47, 46, 46, 47] } : ByteArray) ++ mk n).toList) = true := by simp
          have hzb : (mk b).size ≤ 1000 := by rw [mk_size]; exact hbl
          clear i1 i2 i3 i4 i5 hd1 hno hdd hF
          generalize elems dir = ds at I5 HO hel
          cases hpb : preB (mk (cleanEls (47 :: n))) (mk dir) with
          | true =>
            rw [hpb] at i6
            have I6 := Lib.hid i6
            clear i6 hpb HO
            go_wp2_with (first | (go_at_call 9; (with_reducible refine (HRO.out _).mono ?_); rintro e w' ⟨rfl, rfl⟩) | (go_at_call 12; first | ((with_reducible refine (I1.out _).mono ?_); rintro e w3 ⟨rfl, hb3⟩) | ((with_reducible refine (I2.out _).mono ?_); rintro e w5 ⟨rfl, hb5⟩)) | (go_at_call 14; ((with_reducible refine (I4.out _).mono ?_); rintro e w4 ⟨rfl, hb4⟩)) | (go_at_call 13; (with_reducible refine (I3.out _).mono ?_); rintro e w' ⟨rfl, rfl⟩) | (go_at_call 10; (with_reducible refine (HCN.out _).mono ?_); rintro e w6 ⟨rfl, hb6⟩) | (go_at_call 15; (with_reducible refine (I6.out _).mono ?_); rintro e w' ⟨rfl, rfl⟩))
            go_ret
            have k1 := below_then (pw_below_drewN HB.out _) (pw_below_drewN HB.out _).size hb3
            have k2 := below_then k1 k1.size hb4
            have k3 := below_then k2 k2.size hb5
            exact ⟨rfl, below_then k3 k3.size hb6⟩
          | false =>
            rw [hpb] at i6
            have I6 := Lib.hid i6
            have HO2 := Lib.hid (HO.out hpb)
            clear i6 hpb HO
            by_cases hl3 : ds.length ≤ 3
            · have HO3 := Lib.hid (HO2.out hl3)
              clear HO2
              go_wp2_with (first | (go_at_call 9; (with_reducible refine (HRO.out _).mono ?_); rintro e w' ⟨rfl, rfl⟩) | (go_at_call 12; first | ((with_reducible refine (I1.out _).mono ?_); rintro e w3 ⟨rfl, hb3⟩; have k1 := below_then (pw_below_drewN HB.out _) (pw_below_drewN HB.out _).size hb3) | ((with_reducible refine (I2.out _).mono ?_); rintro e w5 ⟨rfl, hb5⟩; have k3 := below_then k2 k2.size hb5) | ((with_reducible refine (HO3.out _ k5).mono ?_); rintro e w8 ⟨rfl, hb8⟩)) | (go_at_call 14; ((with_reducible refine (I4.out _).mono ?_); rintro e w4 ⟨rfl, hb4⟩; have k2 := below_then k1 k1.size hb4)) | (go_at_call 13; (with_reducible refine (I3.out _).mono ?_); rintro e w' ⟨rfl, rfl⟩) | (go_at_call 10; (with_reducible refine (HCN.out _).mono ?_); rintro e w6 ⟨rfl, hb6⟩; have k4 := below_then k3 k3.size hb6) | (go_at_call 15; (with_reducible refine (I6.out _).mono ?_); rintro e w' ⟨rfl, rfl⟩) | (go_at_call 11; (with_reducible refine (I5.out _).mono ?_); rintro e w7 ⟨v, rfl, hr, hb7⟩; have k5 := below_then k4 k4.size hb7; obtain ⟨A7, c7, hv7, hc7, hrd7⟩ := strs_of_R hr; subst hv7; clear hrd7 hr))
              go_ret
              exact ⟨rfl, below_then k5 k5.size hb8⟩
            · clear HO2
              go_wp2_with (first | (go_at_call 9; (with_reducible refine (HRO.out _).mono ?_); rintro e w' ⟨rfl, rfl⟩) | (go_at_call 12; first | ((with_reducible refine (I1.out _).mono ?_); rintro e w3 ⟨rfl, hb3⟩; have k1 := below_then (pw_below_drewN HB.out _) (pw_below_drewN HB.out _).size hb3) | ((with_reducible refine (I2.out _).mono ?_); rintro e w5 ⟨rfl, hb5⟩; have k3 := below_then k2 k2.size hb5)) | (go_at_call 14; ((with_reducible refine (I4.out _).mono ?_); rintro e w4 ⟨rfl, hb4⟩; have k2 := below_then k1 k1.size hb4)) | (go_at_call 13; (with_reducible refine (I3.out _).mono ?_); rintro e w' ⟨rfl, rfl⟩) | (go_at_call 10; (with_reducible refine (HCN.out _).mono ?_); rintro e w6 ⟨rfl, hb6⟩; have k4 := below_then k3 k3.size hb6) | (go_at_call 15; (with_reducible refine (I6.out _).mono ?_); rintro e w' ⟨rfl, rfl⟩) | (go_at_call 11; (with_reducible refine (I5.out _).mono ?_); rintro e w7 ⟨v, rfl, hr, hb7⟩; have k5 := below_then k4 k4.size hb7; obtain ⟨A7, c7, hv7, hc7, hrd7⟩ := strs_of_R hr; subst hv7; clear hrd7 hr))
              go_ret
              exact ⟨rfl, k5⟩
set_option maxHeartbeats 1000000 in
theorem law6big (a b : ByteArray) (w : World) (ha : a.size ≤ 9223372036854775807) (hb : b.size ≤ 9223372036854775807) (h : ¬ (a.size ≤ 200 ∧ b.size ≤ 200)) :
    Calls Tryd.prog 6 #[.string a, .string b] w fun e w' => e = .returned (.bool true) ∧ Below w.heap.size w w' := by
  by_cases h1 : a.size ≤ 200
  all_goals by_cases h2 : b.size ≤ 200
  all_goals try omega
  all_goals
    clear h
    go_enter Tryd.func6, Tryd.ntmps6
    go_wp2_with fail
    all_goals (go_ret; exact ⟨rfl, Below.refl _ _⟩)
theorem law6 (a b : ByteArray) (ad : Addr) (w : World) (h0 : w.cell? ⟨0, 0, none⟩ = some (.iface 78 (.pointer (some ad)))) (ha : a.size ≤ 9223372036854775807) (hb : b.size ≤ 9223372036854775807) :
    Calls Tryd.prog 6 #[.string a, .string b] w fun e w' => e = .returned (.bool true) ∧ Below w.heap.size w w' := by
  by_cases h : a.size ≤ 200 ∧ b.size ≤ 200
  · have h1 := up6 _ a.data.toList b.data.toList ad w rfl h0 (by rw [mk_list]; exact h.1) (by rw [mk_list]; exact h.2)
    rw [mk_list, mk_list] at h1
    exact h1
  · exact law6big a b w ha hb h
theorem row78 (u : TypeId) (h : Tryd.prog.typeName? 3 u = some "*errors.errorString") : u = 78 :=
  typeName_ptr_named (nm := "errors.errorString") (by kernel_rfl) (by kernel_rfl) (by decide) u h
theorem notExist_cell {W : World} {r : List (String × DataW Unit)} (h : laidMet Tryd.prog (("pub-marram/pub/afero/inner/os.ErrNotExist", Rows.laid_pub_marram_pub_afero_inner_os_ErrNotExist) :: r) W) : ∃ a, W.cell? ⟨0, 0, none⟩ = some (.iface 78 (.pointer (some a))) := by
  obtain ⟨a, s, hv, _⟩ := laid_sentinel h (g := 0) (by kernel_rfl) (ti := 45) (by kernel_rfl) (by first | exact Tryd.underlying45 | kernel_rfl) row78 Tryd.underlying78 Tryd.underlying95 rfl rfl Tryd.underlying9 (by kernel_rfl) (by kernel_rfl)
  exact ⟨a, by simpa using World.var?_cell (by kernel_rfl) hv 0⟩

open Go.ChangeShapes Go.WideShapes Go.ChangeAt
theorem own : ownKnob Tryd.prog.godebug = none := by kernel_rfl
theorem laidOut : laidOutB Tryd.prog = true := by kernel_rfl
theorem readable6 : ∀ t ∈ Tryd.f6.params.toList, Tryd.prog.readableRec t = true ∧ t < Tryd.prog.types.size := by
  have h : (Tryd.f6.params.toList.all fun t => Tryd.prog.readableRec t && decide (t < Tryd.prog.types.size)) = true := by kernel_rfl
  intro t ht
  have := List.all_eq_true.1 h t ht
  simpa using this
def laidL : List (String × DataW Unit) := [("pub-marram/pub/afero/inner/os.ErrExist", Rows.laid_pub_marram_pub_afero_inner_os_ErrExist), ("pub-marram/pub/afero/inner/os.ErrNotExist", Rows.laid_pub_marram_pub_afero_inner_os_ErrNotExist), ("pub-marram/pub/afero/inner/os.ENOENT", Rows.laid_pub_marram_pub_afero_inner_os_ENOENT), ("pub-marram/pub/afero/inner/os.ENOTDIR", Rows.laid_pub_marram_pub_afero_inner_os_ENOTDIR), ("pub-marram/pub/afero/inner/os.EPERM", Rows.laid_pub_marram_pub_afero_inner_os_EPERM), ("pub-marram/pub/afero/inner/os.EIO", Rows.laid_pub_marram_pub_afero_inner_os_EIO), ("pub-marram/pub/afero/inner/os.EBADFD", Rows.laid_pub_marram_pub_afero_inner_os_EBADFD), ("io.EOF", Rows.laid_io_EOF), ("io.ErrUnexpectedEOF", Rows.laid_io_ErrUnexpectedEOF), ("pub-marram/pub/afero/mem.ErrFileClosed", Rows.laid_pub_marram_pub_afero_mem_ErrFileClosed), ("pub-marram/pub/afero/mem.ErrOutOfRange", Rows.laid_pub_marram_pub_afero_mem_ErrOutOfRange)]
set_option maxRecDepth 100000 in
theorem lifted (os : Os) (started : os.Started) (H : Type) (enc : TypeId × Value → H) :
    ReturnsInHanded {} Tryd.checked os 6 .any (fun w args => (Rows.fnRealPathUpSpec.pre enc Tryd.prog Tryd.f6 Rows.fnRealPathUpRow.domain false w args ∧ laidMetH Tryd.prog laidL w) ∧ sizedMet enc Tryd.prog Tryd.f6 (OpenSpec.ofChange Rows.fnRealPathUpSpec) false w args) (Rows.fnRealPathUpSpec.post enc Tryd.prog Tryd.f6 false true false false) := by
  refine Adapter.law_lifted_tied (C := Tryd.checked) (X := fun w => laidMetH Tryd.prog laidL w) (fun _ _ hh h => h.of_heap hh) own started (by kernel_rfl) Tryd.func6
    (ChangeSpec.witness_shaped (enc := enc) (C := Tryd.checked) (os := os) (X := fun w _ => laidMetH Tryd.prog laidL w) false (World.laidAll Tryd.prog os laidL) #[.string ⟨#[]⟩, .string ⟨#[]⟩] 8 (World.laidAll_os _ _ _)
      (World.shaped_of_ZipB (by kernel_rfl) (by kernel_rfl)) (by kernel_rfl) (by kernel_rfl) (by kernel_rfl)
      (by rw [MakeChecks.laidMetH_plain _ _ _ (by kernel_rfl)]; exact laidMet_laidAll _ (by kernel_rfl) (by kernel_rfl)))
    laidOut readable6 (tb := 4) (by kernel_rfl) (by kernel_rfl) rfl ?_ ?_
  · intro ds hds
    rw [show Tryd.f6.params.size = 2 from by kernel_rfl] at hds
    match ds, hds with
    | [d1, d2], _ => rfl
  · intro W base args ds p hval hA _ _ hL0
    have hL : laidMet Tryd.prog laidL W := by rw [MakeChecks.laidMetH_plain _ _ _ (by kernel_rfl)] at hL0; exact hL0
    rw [Tryd.params6] at hA hval
    obtain ⟨v0, vs0, d0, ds0, p0, q0, hargs, rfl, rfl, h0, r0⟩ := trodAll_cons hA
    obtain ⟨v1, vs1, d1, ds1, p1, q1, rfl, rfl, rfl, h1, r1⟩ := trodAll_cons r0
    obtain ⟨rfl, rfl, rfl⟩ := trodAll_nil r1
    obtain rfl : args = #[v0, v1] := by cases args; simp_all
    obtain ⟨a, rfl, rfl, rfl, wsa⟩ := Go.ChangeMaps.open_string Tryd.underlying9 (hval 0 9 v0 rfl rfl) h0
    unfold maxLen at wsa
    obtain ⟨b, rfl, rfl, rfl, wsb⟩ := Go.ChangeMaps.open_string Tryd.underlying9 (hval 1 9 v1 rfl rfl) h1
    unfold maxLen at wsb
    obtain ⟨ad, had⟩ := notExist_cell hL.tail
    exact law6 a b ad W had (by omega) (by omega)
theorem over : Rows.fnRealPathUpRow.holds Tryd.pinned (OpenSpec.ofChange Rows.fnRealPathUpSpec) :=
  OpenClaim.holds_of_wide 6 Tryd.f6 rfl rfl rfl rfl rfl rfl rfl ⟨rfl, rfl, rfl, rfl, rfl⟩ rfl rfl rfl rfl rfl (by kernel_rfl) Tryd.func6 (by kernel_rfl)
    (of_decide_eq_true (by kernel_rfl)) (by unfold Func.isWrapper; first | (rw [if_pos (by decide +kernel)]; kernel_rfl) | (rw [if_neg (by decide +kernel)]; exact ⟨rfl, rfl⟩))
    (fun os started H enc _ => lifted os started H enc)
theorem card_holds : Rows.FnRealPathUpCardSaid :=
  Claim7.holds_tied_plain_at .later [] [.sentinel, .sentinel, .sentinel, .sentinel, .sentinel, .sentinel, .sentinel, .sentinel, .sentinel, .sentinel, .sentinel] true (true, "f9efc155474f614f48c96fe0e6b7265f0a75ead8a5699074fc8e8de8c96f471c") true over (fun _ h => by cases h) (by kernel_rfl) (fun _ h => by cases h) fnRealPathUp_row_tie rfl ⟨rfl, rfl⟩ (by kernel_rfl) rfl
    (fun f fn hf hfn => by
      obtain rfl : f = 6 := Option.some.inj ((show Tryd.prog.funcNamed "pub-marram/laws.FnRealPathUp" = some 6 by kernel_rfl).symm.trans hf) |>.symm
      obtain rfl : fn = Tryd.f6 := (Option.some.inj (Tryd.func6.symm.trans hfn)).symm
      exact ⟨by kernel_rfl, fun j t ht => by
        rw [Tryd.params6] at ht
        have hm : t ∈ [9, 9] := by simpa using Array.mem_of_getElem? ht
        have hall : ([9, 9].all fun u => !Tryd.prog.wantsStandIn u) = true := by kernel_rfl
        exact (show Tryd.prog.wantsStandIn t = false by simpa using List.all_eq_true.1 hall t hm)⟩)
    (by kernel_rfl)
#print axioms card_holds
end Go.Proofs.YtedjcbjocgkgnaaDoor.RpWalk
