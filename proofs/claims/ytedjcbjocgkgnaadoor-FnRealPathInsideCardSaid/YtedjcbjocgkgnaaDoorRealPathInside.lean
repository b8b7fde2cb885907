/- Proved: for every path and name FnRealPathInside answers true: what a name that goes up no further than it went down stands for, below a rooted path, lies within the clean path, and is that of the clean name. -/
import Derived.Test.YtedjcbjocgkgnaaDoorRows
import Derived.Test.YtedjcbjocgkgnaaDoorAdapter
import Derived.Test.YtedjcbjocgkgnaaDoorCards
import Derived.Test.YtedjcbjocgkgnaaDoorTie
import Derived.SevenTiedAt
import Derived.ChangeSame
import Derived.ChangeArms
import Derived.OpenShut
import Derived.Test.YtedjcbjocgkgnaaDoorFacts
namespace Go.Proofs.YtedjcbjocgkgnaaDoor.RpWalk
open Go.RowKit Go.Proofs.YtedjcbjocgkgnaaDoorW.PrintWords Go.Proofs.YtedjcbjocgkgnaaDoorW.PrintLast Go.Proofs.YtedjcbjocgkgnaaDoorW.PrintMore
open Go.Proofs.YtedjcbjocgkgnaaDoor.PFnRealPathUp Go.Proofs.YtedjcbjocgkgnaaDoor.CleanLaw
open Go.Lib.Pa
set_option linter.unusedVariables false
set_option maxHeartbeats 1000000 in
theorem inside4 (pl n : List UInt8) (w : World) (hps : (mk (47 :: pl)).size ≤ 200) (hns : (mk n).size ≤ 200) :
    Calls Tryd.prog 4 #[.string (mk (47 :: pl)), .string (mk n)] w fun e w' => e = .returned (.bool true) ∧ Below w.heap.size w w' := by
  have hz1 : (47 :: pl).length ≤ 200 := by rw [← mk_size]; exact hps
  have hz2 : n.length ≤ 200 := by rw [← mk_size]; exact hns
  have he := fun W => elements_ (mk n) W (by omega)
  have hro := fun W => rooted_ (mk (47 :: pl)) W (by omega)
  have hcl := fun W => clean_ (mk (47 :: pl)) W (by omega)
  have hcn := fun W => clean_ (mk (47 :: n)) W (by rw [mk_size]; simp; omega)
  have hfin := fun h => inside_facts pl n h
  have hne := elems_ne n
  have hlen := elems_len n
  rw [mk_data] at he hro hcl hcn
  rw [show rootedB (47 :: pl) = true from rfl] at hro
  have hcl1 := cleanEls_len (47 :: pl)
  have hcl2 := cleanEls_len (47 :: n)
  simp only [List.length_cons] at hcl1 hcl2 hz1
  rw [show mk (47 :: n) = ({ data := #[47] } : ByteArray) ++ mk n from (mk_app [47] n).symm] at hcn
  have HE := Lib.hid he
  have HRO := Lib.hid hro
  have HCL := Lib.hid hcl
  have HCN := Lib.hid hcn
  have HFIN := Lib.hid hfin
  have HNE := Lib.hid hne
  have HLEN := Lib.hid hlen
  have HC1 := Lib.hid hcl1
  have HC2 := Lib.hid hcl2
  clear he hro hcl hcn hfin hne hlen hcl1 hcl2
  generalize elems n = xs at HE HNE HLEN HFIN
  generalize hpp : 47 :: pl = p at *
  go_enter Tryd.func4, Tryd.ntmps4
  go_wp2_with (first | (go_at_call 9; (with_reducible refine (HRO.out _).mono ?_); rintro e w' ⟨rfl, rfl⟩) | (go_at_call 10; (with_reducible refine (HCN.out _).mono ?_); rintro e w1 ⟨rfl, hb1⟩) | (go_at_call 11; (with_reducible refine (HE.out _).mono ?_); rintro e w2 ⟨v, rfl, hr, hb2⟩; obtain ⟨A, c, hv, hc, hrd⟩ := strs_of_R hr; subst hv; have HRD := Lib.hid hrd; clear hrd hr))
  have HN := Lib.hid (show xs.length ≤ 1000000 by have := HLEN.out; omega)
  have HB := Lib.hid (below_then hb1 hb1.size hb2)
  clear hb1 hb2
  go_loopw [6, 40] (fun v6 v40 wr => ∃ (d k : Nat), v6 = .int .i64 d ∧ v40 = .int .i64 k ∧ d ≤ k ∧ k ≤ xs.length ∧ Hid (depthFrom 0 xs = depthFrom d (xs.drop k)) ∧ (∃ nq, wr = w2.drewN nq)) (fun _ i _ => xs.length - (intOf i).toNat)
  case atStart => exact ⟨0, 0, rfl, rfl, Nat.le_refl _, Nat.zero_le _, Lib.hid (by simp), ⟨0, rfl⟩⟩
  case round =>
    obtain ⟨d, k, rfl, rfl, hdk, hk, HD, ⟨nq, rfl⟩⟩ := hrel
    by_cases hlt : k < xs.length
    · obtain ⟨x, hx⟩ : ∃ x, xs[k]? = some x := ⟨xs[k], List.getElem?_eq_getElem hlt⟩
      obtain ⟨gb, go, rfl, hcell⟩ := HRD.out (by omega)
      have hcc := hcell k x hx
      have hk2 : k < 1000000 := by have := HN.out; omega
      clear hcell
      by_cases h46 : x = [46]
      · have b1 : ((mk x).toList == [46]) = true := by rw [mk_toList, h46]; rfl
        have HD2 := Lib.hid (depth_dot xs d k HD.out (by rw [hx, h46]))
        clear h46 hx HD
        go_wp2_with fail
        go_roundw
        case rel => exact ⟨d, k + 1, rfl, by first | rfl | go_num, by omega, by omega, HD2, ⟨_, rfl⟩⟩
        case measure => simp [intOf] <;> omega
      · have b1 : ((mk x).toList == [46]) = false := by rw [mk_toList]; simpa using h46
        by_cases h4646 : x = [46, 46]
        · have b2 : ((mk x).toList == [46, 46]) = true := by rw [mk_toList, h4646]; rfl
          have b3 : ((mk x).toList == [46]) = false := b1
          by_cases hd0 : d = 0
          · subst hd0
            clear HD h46 h4646 hx
            go_wp2_with fail
            go_ret
            exact ⟨rfl, pw_below_drewN HB.out _⟩
          · obtain ⟨d, rfl⟩ : ∃ e, d = e + 1 := ⟨d - 1, by omega⟩
            have HD2 := Lib.hid (depth_up xs d k HD.out (by rw [hx, h4646]))
            clear HD h46 h4646 hx
            go_wp2_with fail
            go_roundw
            case rel => exact ⟨d, k + 1, by first | rfl | go_num, by first | rfl | go_num, by omega, by omega, HD2, ⟨_, rfl⟩⟩
            case measure => simp [intOf] <;> omega
        · have b2 : ((mk x).toList == [46, 46]) = false := by rw [mk_toList]; simpa using h4646
          have HD2 := Lib.hid (depth_down xs d k x HD.out hx (HNE.out x (List.mem_of_getElem? hx)) h46 h4646)
          clear HD h46 h4646 hx
          go_wp2_with fail
          go_roundw
          case rel => exact ⟨d + 1, k + 1, by first | rfl | go_num, by first | rfl | go_num, by omega, by omega, HD2, ⟨_, rfl⟩⟩
          case measure => simp [intOf] <;> omega
    · obtain ⟨g, hF⟩ := HFIN.out (depth_end xs d k HD.out (by omega))
      have i1 := fun W => impl12 p n W (by rw [← mk_size]; omega) (by omega) (by rw [hF.one]; exact hF.pre)
      have i2 := fun W => impl12 p (cleanEls (47 :: n)) W (by rw [← mk_size]; omega) (by have := HC2.out; omega) (by rw [hF.two]; exact hF.pre)
      have hgl : g.length ≤ 100000 := by
        have := join_length_le [cleanEls p, n]
        have h2 := cleanEls_len (join [cleanEls p, n])
        have h3 := HC1.out
        have h4 := hF.one
        unfold full at h4
        rw [← h4]
        simp [lens] at this
        omega
      have i3 := fun W => within13 g (cleanEls p) W (by omega) (by have := HC1.out; omega) hF.within
      rw [hF.one] at i1
      rw [hF.two] at i2
      have I1 := Lib.hid i1
      have I2 := Lib.hid i2
      have I3 := Lib.hid i3
      have e0 : ((mk g).toList == (mk g).toList) = true := by simp
      clear i1 i2 i3 hF HD
      go_wp2_with (first | (go_at_call 12; first | ((with_reducible refine (I1.out _).mono ?_); rintro e w3 ⟨rfl, hb3⟩) | ((with_reducible refine (I2.out _).mono ?_); rintro e w4 ⟨rfl, hb4⟩)) | (go_at_call 10; (with_reducible refine (HCL.out _).mono ?_); rintro e w5 ⟨rfl, hb5⟩) | (go_at_call 13; (with_reducible refine (I3.out _).mono ?_); rintro e w' ⟨rfl, rfl⟩))
      go_ret
      have k1 := below_then (pw_below_drewN HB.out _) (pw_below_drewN HB.out _).size hb3
      have k2 := below_then k1 k1.size hb4
      exact ⟨rfl, below_then k2 k2.size hb5⟩
set_option maxHeartbeats 1000000 in
theorem law4big (a b : ByteArray) (w : World) (ha : a.size ≤ 9223372036854775807) (hb : b.size ≤ 9223372036854775807) (h : ¬ (a.size ≤ 200 ∧ b.size ≤ 200)) :
    Calls Tryd.prog 4 #[.string a, .string b] w fun e w' => e = .returned (.bool true) ∧ Below w.heap.size w w' := by
  by_cases h1 : a.size ≤ 200
  all_goals by_cases h2 : b.size ≤ 200
  all_goals try omega
  all_goals
    clear h
    go_enter Tryd.func4, Tryd.ntmps4
    go_wp2_with fail
    all_goals (go_ret; exact ⟨rfl, Below.refl _ _⟩)
set_option maxHeartbeats 1000000 in
theorem law4no (a b : ByteArray) (w : World) (ha : a.size ≤ 200) (hb : b.size ≤ 200) (h : rootedB a.data.toList = false) :
    Calls Tryd.prog 4 #[.string a, .string b] w fun e w' => e = .returned (.bool true) ∧ Below w.heap.size w w' := by
  have hro := fun W => rooted_ a W (by omega)
  rw [h] at hro
  have HRO := Lib.hid hro
  clear hro h
  go_enter Tryd.func4, Tryd.ntmps4
  go_wp2_with (first | (go_at_call 9; (with_reducible refine (HRO.out _).mono ?_); rintro e w' ⟨rfl, rfl⟩))
  go_ret
  exact ⟨rfl, Below.refl _ _⟩
theorem law4 (a b : ByteArray) (w : World) (ha : a.size ≤ 9223372036854775807) (hb : b.size ≤ 9223372036854775807) :
    Calls Tryd.prog 4 #[.string a, .string b] w fun e w' => e = .returned (.bool true) ∧ Below w.heap.size w w' := by
  by_cases h : a.size ≤ 200 ∧ b.size ≤ 200
  · cases hr : rootedB a.data.toList with
    | false => exact law4no a b w h.1 h.2 hr
    | true =>
      obtain ⟨pl, hpl⟩ := rooted_of _ hr
      have ha2 : a = mk (47 :: pl) := by rw [← hpl, mk_list]
      have hb2 : b = mk b.data.toList := by rw [mk_list]
      rw [ha2, hb2]
      exact inside4 pl b.data.toList w (by rw [← ha2]; exact h.1) (by rw [mk_list]; exact h.2)
  · exact law4big a b w ha hb h

open Go.ChangeShapes Go.WideShapes Go.ChangeAt
theorem own : ownKnob Tryd.prog.godebug = none := by kernel_rfl
theorem laidOut : laidOutB Tryd.prog = true := by kernel_rfl
theorem readable4 : ∀ t ∈ Tryd.f4.params.toList, Tryd.prog.readableRec t = true ∧ t < Tryd.prog.types.size := by
  have h : (Tryd.f4.params.toList.all fun t => Tryd.prog.readableRec t && decide (t < Tryd.prog.types.size)) = true := by kernel_rfl
  intro t ht
  have := List.all_eq_true.1 h t ht
  simpa using this
def laidL : List (String × DataW Unit) := [("pub-marram/pub/afero/inner/os.ErrExist", Rows.laid_pub_marram_pub_afero_inner_os_ErrExist), ("pub-marram/pub/afero/inner/os.ErrNotExist", Rows.laid_pub_marram_pub_afero_inner_os_ErrNotExist), ("pub-marram/pub/afero/inner/os.ENOENT", Rows.laid_pub_marram_pub_afero_inner_os_ENOENT), ("pub-marram/pub/afero/inner/os.ENOTDIR", Rows.laid_pub_marram_pub_afero_inner_os_ENOTDIR), ("pub-marram/pub/afero/inner/os.EPERM", Rows.laid_pub_marram_pub_afero_inner_os_EPERM), ("pub-marram/pub/afero/inner/os.EIO", Rows.laid_pub_marram_pub_afero_inner_os_EIO), ("pub-marram/pub/afero/inner/os.EBADFD", Rows.laid_pub_marram_pub_afero_inner_os_EBADFD), ("io.EOF", Rows.laid_io_EOF), ("io.ErrUnexpectedEOF", Rows.laid_io_ErrUnexpectedEOF), ("pub-marram/pub/afero/mem.ErrFileClosed", Rows.laid_pub_marram_pub_afero_mem_ErrFileClosed), ("pub-marram/pub/afero/mem.ErrOutOfRange", Rows.laid_pub_marram_pub_afero_mem_ErrOutOfRange)]
set_option maxRecDepth 100000 in
theorem lifted (os : Os) (started : os.Started) (H : Type) (enc : TypeId × Value → H) :
    ReturnsInHanded {} Tryd.checked os 4 .any (fun w args => (Rows.fnRealPathInsideSpec.pre enc Tryd.prog Tryd.f4 Rows.fnRealPathInsideRow.domain false w args ∧ laidMetH Tryd.prog laidL w) ∧ sizedMet enc Tryd.prog Tryd.f4 (OpenSpec.ofChange Rows.fnRealPathInsideSpec) false w args) (Rows.fnRealPathInsideSpec.post enc Tryd.prog Tryd.f4 false true false false) := by
  refine Adapter.law_lifted_tied (C := Tryd.checked) (X := fun w => laidMetH Tryd.prog laidL w) (fun _ _ hh h => h.of_heap hh) own started (by kernel_rfl) Tryd.func4
    (ChangeSpec.witness_shaped (enc := enc) (C := Tryd.checked) (os := os) (X := fun w _ => laidMetH Tryd.prog laidL w) false (World.laidAll Tryd.prog os laidL) #[.string ⟨#[]⟩, .string ⟨#[]⟩] 8 (World.laidAll_os _ _ _)
      (World.shaped_of_ZipB (by kernel_rfl) (by kernel_rfl)) (by kernel_rfl) (by kernel_rfl) (by kernel_rfl)
      (by rw [MakeChecks.laidMetH_plain _ _ _ (by kernel_rfl)]; exact laidMet_laidAll _ (by kernel_rfl) (by kernel_rfl)))
    laidOut readable4 (tb := 4) (by kernel_rfl) (by kernel_rfl) rfl ?_ ?_
  · intro ds hds
    rw [show Tryd.f4.params.size = 2 from by kernel_rfl] at hds
    match ds, hds with
    | [d1, d2], _ => rfl
  · intro W base args ds p hval hA _ _ hL0
    have hL : laidMet Tryd.prog laidL W := by rw [MakeChecks.laidMetH_plain _ _ _ (by kernel_rfl)] at hL0; exact hL0
    rw [Tryd.params4] at hA hval
    obtain ⟨v0, vs0, d0, ds0, p0, q0, hargs, rfl, rfl, h0, r0⟩ := trodAll_cons hA
    obtain ⟨v1, vs1, d1, ds1, p1, q1, rfl, rfl, rfl, h1, r1⟩ := trodAll_cons r0
    obtain ⟨rfl, rfl, rfl⟩ := trodAll_nil r1
    obtain rfl : args = #[v0, v1] := by cases args; simp_all
    obtain ⟨a, rfl, rfl, rfl, wsa⟩ := Go.ChangeMaps.open_string Tryd.underlying9 (hval 0 9 v0 rfl rfl) h0
    unfold maxLen at wsa
    obtain ⟨b, rfl, rfl, rfl, wsb⟩ := Go.ChangeMaps.open_string Tryd.underlying9 (hval 1 9 v1 rfl rfl) h1
    unfold maxLen at wsb
    exact law4 a b W (by omega) (by omega)
theorem over : Rows.fnRealPathInsideRow.holds Tryd.pinned (OpenSpec.ofChange Rows.fnRealPathInsideSpec) :=
  OpenClaim.holds_of_wide 4 Tryd.f4 rfl rfl rfl rfl rfl rfl rfl ⟨rfl, rfl, rfl, rfl, rfl⟩ rfl rfl rfl rfl rfl (by kernel_rfl) Tryd.func4 (by kernel_rfl)
    (of_decide_eq_true (by kernel_rfl)) (by unfold Func.isWrapper; first | (rw [if_pos (by decide +kernel)]; kernel_rfl) | (rw [if_neg (by decide +kernel)]; exact ⟨rfl, rfl⟩))
    (fun os started H enc _ => lifted os started H enc)
theorem card_holds : Rows.FnRealPathInsideCardSaid :=
  Claim7.holds_tied_plain_at .later [] [.sentinel, .sentinel, .sentinel, .sentinel, .sentinel, .sentinel, .sentinel, .sentinel, .sentinel, .sentinel, .sentinel] true (true, "f9efc155474f614f48c96fe0e6b7265f0a75ead8a5699074fc8e8de8c96f471c") true over (fun _ h => by cases h) (by kernel_rfl) (fun _ h => by cases h) fnRealPathInside_row_tie rfl ⟨rfl, rfl⟩ (by kernel_rfl) rfl
    (fun f fn hf hfn => by
      obtain rfl : f = 4 := Option.some.inj ((show Tryd.prog.funcNamed "pub-marram/laws.FnRealPathInside" = some 4 by kernel_rfl).symm.trans hf) |>.symm
      obtain rfl : fn = Tryd.f4 := (Option.some.inj (Tryd.func4.symm.trans hfn)).symm
      exact ⟨by kernel_rfl, fun j t ht => by
        rw [Tryd.params4] at ht
        have hm : t ∈ [9, 9] := by simpa using Array.mem_of_getElem? ht
        have hall : ([9, 9].all fun u => !Tryd.prog.wantsStandIn u) = true := by kernel_rfl
        exact (show Tryd.prog.wantsStandIn t = false by simpa using List.all_eq_true.1 hall t hm)⟩)
    (by kernel_rfl)
#print axioms card_holds
end Go.Proofs.YtedjcbjocgkgnaaDoor.RpWalk
