/- Proved: for every name FnRealPathRoot answers true: below the root each name stands for its clean form from the root. -/
import Derived.Test.YtedjcbjocgkgnaaDoorRows
import Derived.Test.YtedjcbjocgkgnaaDoorAdapter
import Derived.Test.YtedjcbjocgkgnaaDoorCards
import Derived.Test.YtedjcbjocgkgnaaDoorTie
import Derived.SevenTiedAt
import Derived.ChangeSame
import Derived.ChangeArms
import Derived.OpenShut
import Derived.Test.YtedjcbjocgkgnaaDoorFacts
namespace Go.Proofs.YtedjcbjocgkgnaaDoor.RpWalk
open Go.RowKit Go.Proofs.YtedjcbjocgkgnaaDoorW.PrintWords Go.Proofs.YtedjcbjocgkgnaaDoorW.PrintLast Go.Proofs.YtedjcbjocgkgnaaDoorW.PrintMore
open Go.Proofs.YtedjcbjocgkgnaaDoor.PFnRealPathUp Go.Proofs.YtedjcbjocgkgnaaDoor.CleanLaw
open Go.Lib.Pa
set_option linter.unusedVariables false
set_option maxHeartbeats 1000000 in
theorem root5 (n : List UInt8) (w : World) (hns : (mk n).size ≤ 200) :
    Calls Tryd.prog 5 #[.string (mk n)] w fun e w' => e = .returned (.bool true) ∧ Below w.heap.size w w' := by
  have hz2 : n.length ≤ 200 := by rw [← mk_size]; exact hns
  have hfull : full [47] n = cleanEls (47 :: n) := by
    have h := full_is [] n
    rw [kept_nil] at h
    rw [h, clean_is]
  have hpre : preB (mk (full [47] n)) (mk (cleanEls [47])) = true := by
    rw [hfull, clean_is, show cleanEls [47] = [47] from rfl]
    exact preB_app [47] _
  have i1 := fun W => impl12 [47] n W (by simp) (by omega) hpre
  have hcn := fun W => clean_ (mk (47 :: n)) W (by rw [mk_size]; simp; omega)
  rw [hfull] at i1
  rw [mk_data, show mk (47 :: n) = ({ data := #[47] } : ByteArray) ++ mk n from (mk_app [47] n).symm] at hcn
  rw [show mk [47] = ({ data := #[47] } : ByteArray) from rfl] at i1
  have I1 := Lib.hid i1
  have HCN := Lib.hid hcn
  clear i1 hcn hpre hfull
  generalize cleanEls (47 :: n) = g at I1 HCN
  have e0 : ((mk g).toList == (mk g).toList) = true := by simp
  go_enter Tryd.func5, Tryd.ntmps5
  go_wp2_with (first | (go_at_call 12; ((with_reducible refine (I1.out _).mono ?_); rintro e w1 ⟨rfl, hb1⟩)) | (go_at_call 10; (with_reducible refine (HCN.out _).mono ?_); rintro e w2 ⟨rfl, hb2⟩))
  go_ret
  exact ⟨rfl, below_then hb1 hb1.size hb2⟩
set_option maxHeartbeats 1000000 in
theorem law5 (b : ByteArray) (w : World) (hb : b.size ≤ 9223372036854775807) :
    Calls Tryd.prog 5 #[.string b] w fun e w' => e = .returned (.bool true) ∧ Below w.heap.size w w' := by
  by_cases h : b.size ≤ 200
  · have h1 := root5 b.data.toList w (by rw [mk_list]; exact h)
    rw [mk_list] at h1
    exact h1
  · go_enter Tryd.func5, Tryd.ntmps5
    go_wp2_with fail
    all_goals (go_ret; exact ⟨rfl, Below.refl _ _⟩)

open Go.ChangeShapes Go.WideShapes Go.ChangeAt
theorem own : ownKnob Tryd.prog.godebug = none := by kernel_rfl
theorem laidOut : laidOutB Tryd.prog = true := by kernel_rfl
theorem readable5 : ∀ t ∈ Tryd.f5.params.toList, Tryd.prog.readableRec t = true ∧ t < Tryd.prog.types.size := by
  have h : (Tryd.f5.params.toList.all fun t => Tryd.prog.readableRec t && decide (t < Tryd.prog.types.size)) = true := by kernel_rfl
  intro t ht
  have := List.all_eq_true.1 h t ht
  simpa using this
def laidL : List (String × DataW Unit) := [("pub-marram/pub/afero/inner/os.ErrExist", Rows.laid_pub_marram_pub_afero_inner_os_ErrExist), ("pub-marram/pub/afero/inner/os.ErrNotExist", Rows.laid_pub_marram_pub_afero_inner_os_ErrNotExist), ("pub-marram/pub/afero/inner/os.ENOENT", Rows.laid_pub_marram_pub_afero_inner_os_ENOENT), ("pub-marram/pub/afero/inner/os.ENOTDIR", Rows.laid_pub_marram_pub_afero_inner_os_ENOTDIR), ("pub-marram/pub/afero/inner/os.EPERM", Rows.laid_pub_marram_pub_afero_inner_os_EPERM), ("pub-marram/pub/afero/inner/os.EIO", Rows.laid_pub_marram_pub_afero_inner_os_EIO), ("pub-marram/pub/afero/inner/os.EBADFD", Rows.laid_pub_marram_pub_afero_inner_os_EBADFD), ("io.EOF", Rows.laid_io_EOF), ("io.ErrUnexpectedEOF", Rows.laid_io_ErrUnexpectedEOF), ("pub-marram/pub/afero/mem.ErrFileClosed", Rows.laid_pub_marram_pub_afero_mem_ErrFileClosed), ("pub-marram/pub/afero/mem.ErrOutOfRange", Rows.laid_pub_marram_pub_afero_mem_ErrOutOfRange)]
set_option maxRecDepth 100000 in
theorem lifted (os : Os) (started : os.Started) (H : Type) (enc : TypeId × Value → H) :
    ReturnsInHanded {} Tryd.checked os 5 .any (fun w args => (Rows.fnRealPathRootSpec.pre enc Tryd.prog Tryd.f5 Rows.fnRealPathRootRow.domain false w args ∧ laidMetH Tryd.prog laidL w) ∧ sizedMet enc Tryd.prog Tryd.f5 (OpenSpec.ofChange Rows.fnRealPathRootSpec) false w args) (Rows.fnRealPathRootSpec.post enc Tryd.prog Tryd.f5 false true false false) := by
  refine Adapter.law_lifted_tied (C := Tryd.checked) (X := fun w => laidMetH Tryd.prog laidL w) (fun _ _ hh h => h.of_heap hh) own started (by kernel_rfl) Tryd.func5
    (ChangeSpec.witness_shaped (enc := enc) (C := Tryd.checked) (os := os) (X := fun w _ => laidMetH Tryd.prog laidL w) false (World.laidAll Tryd.prog os laidL) #[.string ⟨#[]⟩] 8 (World.laidAll_os _ _ _)
      (World.shaped_of_ZipB (by kernel_rfl) (by kernel_rfl)) (by kernel_rfl) (by kernel_rfl) (by kernel_rfl)
      (by rw [MakeChecks.laidMetH_plain _ _ _ (by kernel_rfl)]; exact laidMet_laidAll _ (by kernel_rfl) (by kernel_rfl)))
    laidOut readable5 (tb := 4) (by kernel_rfl) (by kernel_rfl) rfl ?_ ?_
  · intro ds hds
    rw [show Tryd.f5.params.size = 1 from by kernel_rfl] at hds
    match ds, hds with
    | [d1], _ => rfl
  · intro W base args ds p hval hA _ _ hL0
    have hL : laidMet Tryd.prog laidL W := by rw [MakeChecks.laidMetH_plain _ _ _ (by kernel_rfl)] at hL0; exact hL0
    rw [Tryd.params5] at hA hval
    obtain ⟨v0, vs0, d0, ds0, p0, q0, hargs, rfl, rfl, h0, r0⟩ := trodAll_cons hA
    obtain ⟨rfl, rfl, rfl⟩ := trodAll_nil r0
    obtain rfl : args = #[v0] := by cases args; simp_all
    obtain ⟨a, rfl, rfl, rfl, wsa⟩ := Go.ChangeMaps.open_string Tryd.underlying9 (hval 0 9 v0 rfl rfl) h0
    unfold maxLen at wsa
    exact law5 a W (by omega)
theorem over : Rows.fnRealPathRootRow.holds Tryd.pinned (OpenSpec.ofChange Rows.fnRealPathRootSpec) :=
  OpenClaim.holds_of_wide 5 Tryd.f5 rfl rfl rfl rfl rfl rfl rfl ⟨rfl, rfl, rfl, rfl, rfl⟩ rfl rfl rfl rfl rfl (by kernel_rfl) Tryd.func5 (by kernel_rfl)
    (of_decide_eq_true (by kernel_rfl)) (by unfold Func.isWrapper; first | (rw [if_pos (by decide +kernel)]; kernel_rfl) | (rw [if_neg (by decide +kernel)]; exact ⟨rfl, rfl⟩))
    (fun os started H enc _ => lifted os started H enc)
theorem card_holds : Rows.FnRealPathRootCardSaid :=
  Claim7.holds_tied_plain_at .later [] [.sentinel, .sentinel, .sentinel, .sentinel, .sentinel, .sentinel, .sentinel, .sentinel, .sentinel, .sentinel, .sentinel] true (true, "f9efc155474f614f48c96fe0e6b7265f0a75ead8a5699074fc8e8de8c96f471c") true over (fun _ h => by cases h) (by kernel_rfl) (fun _ h => by cases h) fnRealPathRoot_row_tie rfl ⟨rfl, rfl⟩ (by kernel_rfl) rfl
    (fun f fn hf hfn => by
      obtain rfl : f = 5 := Option.some.inj ((show Tryd.prog.funcNamed "pub-marram/laws.FnRealPathRoot" = some 5 by kernel_rfl).symm.trans hf) |>.symm
      obtain rfl : fn = Tryd.f5 := (Option.some.inj (Tryd.func5.symm.trans hfn)).symm
      exact ⟨by kernel_rfl, fun j t ht => by
        rw [Tryd.params5] at ht
        have hm : t ∈ [9] := by simpa using Array.mem_of_getElem? ht
        have hall : ([9].all fun u => !Tryd.prog.wantsStandIn u) = true := by kernel_rfl
        exact (show Tryd.prog.wantsStandIn t = false by simpa using List.all_eq_true.1 hall t hm)⟩)
    (by kernel_rfl)
#print axioms card_holds
end Go.Proofs.YtedjcbjocgkgnaaDoor.RpWalk
