/- Proved: for all bytes and all steps FnPlacesAreMoved answers true: with bytes more ahead of a file a script with its places moved is answered alike. -/
import Derived.Test.YtljcdjggjphedaaDoorRows
import Derived.Test.YtljcdjggjphedaaDoorAdapter
import Derived.Test.YtljcdjggjphedaaDoorCards
import Derived.Test.YtljcdjggjphedaaDoorTie
import Derived.SevenTiedAt
import Derived.ChangeSame
import Derived.ChangeArms
import Derived.OpenShut
import Derived.ChangeSlices
import Derived.Lib.SmallJoins
import Derived.Test.YtljcdjggjphedaaDoorZC
import Derived.IntWalk
import Derived.Lib.QuoteBits
import Derived.Test.YtljcdjggjphedaaDoorZI
import Derived.Test.YtljcdjggjphedaaDoorTg
namespace Go.Proofs.YtljcdjggjphedaaDoor.Hmv
open Go.RowKit Go.Proofs.YtljcdjggjphedaaDoorW.PrintWords Go.Proofs.YtljcdjggjphedaaDoorW.PrintLast Go.Proofs.YtljcdjggjphedaaDoorW.PrintMore
open Go.Proofs.YtljcdjggjphedaaDoor.PFnHandleScript Go.Proofs.YtljcdjggjphedaaDoor.Hd Go.Proofs.YtljcdjggjphedaaDoor.Tg
set_option linter.unusedVariables false
set_option linter.unusedSimpArgs false
theorem bytes_of {W : World} {a : Addr} {zs : List Int} {len : Nat} (hcell : ∀ i, i < len → W.cell? (a.add i) = some (.int .u8 (zs.getD i 0))) (hz : len ≤ zs.length) (hl : len ≤ 9223372036854775807) : (Kd.int .u8).C W (some a) len (zs.take len) := by
  refine ⟨by rw [List.length_take]; omega, hl, fun _ => ⟨a, rfl, fun j p hj => ⟨[.int .u8 p], rfl, rfl, fun i u hi => ?_⟩⟩⟩
  have hlt := (List.getElem?_eq_some_iff.1 hj).1
  rw [List.length_take] at hlt
  rw [List.getElem?_take, if_pos (by omega)] at hj
  have h := hcell j (by omega)
  rw [List.getD_eq_getElem?_getD, hj] at h
  match i, hi with
  | 0, hi =>
    simp at hi
    subst hi
    rw [show j * (Kd.int .u8).sz + 0 = j from by show j * 1 + 0 = j; omega]
    exact h
theorem opens26 : Og.Opens Tryd.prog 26 k26 := fun {H enc w base spare held n cs y} h => by
  obtain ⟨hl, hf⟩ := Og.opens_fields Tryd.underlying26 (by kernel_rfl) (by kernel_rfl) h
  match cs, hl with
  | [c0, c1, c2, c3, c4, c5, c6, c7, c8, c9], _ =>
    obtain ⟨v0, y0, n0, e0, t0⟩ := hf 0 _ rfl
    obtain rfl : c0 = v0 := Option.some.inj e0
    obtain ⟨x0, k0⟩ := Og.opens_int Tryd.underlying3 t0
    have k0' := (List.cons.inj k0).1
    subst k0'
    obtain ⟨v1, y1, n1, e1, t1⟩ := hf 1 _ rfl
    obtain rfl : c1 = v1 := Option.some.inj e1
    obtain ⟨x1, k1⟩ := Og.opens_string Tryd.underlying9 t1
    have k1' := (List.cons.inj k1).1
    subst k1'
    obtain ⟨v2, y2, n2, e2, t2⟩ := hf 2 _ rfl
    obtain rfl : c2 = v2 := Option.some.inj e2
    obtain ⟨x2, k2⟩ := Og.opens_string Tryd.underlying9 t2
    have k2' := (List.cons.inj k2).1
    subst k2'
    obtain ⟨v3, y3, n3, e3, t3⟩ := hf 3 _ rfl
    obtain rfl : c3 = v3 := Option.some.inj e3
    obtain ⟨x3, k3⟩ := Og.opens_int Tryd.underlying3 t3
    have k3' := (List.cons.inj k3).1
    subst k3'
    obtain ⟨v4, y4, n4, e4, t4⟩ := hf 4 _ rfl
    obtain rfl : c4 = v4 := Option.some.inj e4
    obtain ⟨x4, k4⟩ := Og.opens_int Tryd.underlying3 t4
    have k4' := (List.cons.inj k4).1
    subst k4'
    obtain ⟨v5, y5, n5, e5, t5⟩ := hf 5 _ rfl
    obtain rfl : c5 = v5 := Option.some.inj e5
    obtain ⟨x5, k5⟩ := Og.opens_int Tryd.underlying3 t5
    have k5' := (List.cons.inj k5).1
    subst k5'
    obtain ⟨v6, y6, n6, e6, t6⟩ := hf 6 _ rfl
    obtain rfl : c6 = v6 := Option.some.inj e6
    obtain ⟨A6, m6, d6, x6, z6, l6, g6⟩ := Og.opens_row Tryd.underlying22 (by kernel_rfl) (Og.opens_int Tryd.underlying5) t6
    have z6' := (List.cons.inj z6).1
    subst z6'
    have q6 := g6.1
    subst q6
    obtain ⟨v7, y7, n7, e7, t7⟩ := hf 7 _ rfl
    obtain rfl : c7 = v7 := Option.some.inj e7
    obtain ⟨x7, k7⟩ := Og.opens_int Tryd.underlying2 t7
    have k7' := (List.cons.inj k7).1
    subst k7'
    obtain ⟨v8, y8, n8, e8, t8⟩ := hf 8 _ rfl
    obtain rfl : c8 = v8 := Option.some.inj e8
    obtain ⟨x8, k8⟩ := Og.opens_int Tryd.underlying3 t8
    have k8' := (List.cons.inj k8).1
    subst k8'
    obtain ⟨v9, y9, n9, e9, t9⟩ := hf 9 _ rfl
    obtain rfl : c9 = v9 := Option.some.inj e9
    obtain ⟨x9, k9⟩ := Og.opens_int Tryd.underlying3 t9
    have k9' := (List.cons.inj k9).1
    subst k9'
    exact ⟨⟨x0, x1, x2, x3, x4, x5, x6, x7, x8, x9⟩, k26_mk w ⟨x0, x1, x2, x3, x4, x5, x6, x7, x8, x9⟩ l6 g6⟩
open Go.ChangeShapes Go.WideShapes Go.ChangeAt
theorem own : ownKnob Tryd.prog.godebug = none := by kernel_rfl
theorem laidOut : laidOutB Tryd.prog = true := by kernel_rfl
theorem readable6 : ∀ t ∈ Tryd.f6.params.toList, Tryd.prog.readableRec t = true ∧ t < Tryd.prog.types.size := by
  have h : (Tryd.f6.params.toList.all fun t => Tryd.prog.readableRec t && decide (t < Tryd.prog.types.size)) = true := by kernel_rfl
  intro t ht
  have := List.all_eq_true.1 h t ht
  simpa using this
def laidL : List (String × DataW Unit) := [("pub-marram/pub/afero/inner/os.ErrExist", Rows.laid_pub_marram_pub_afero_inner_os_ErrExist), ("pub-marram/pub/afero/inner/os.ErrNotExist", Rows.laid_pub_marram_pub_afero_inner_os_ErrNotExist), ("pub-marram/pub/afero/inner/os.ENOENT", Rows.laid_pub_marram_pub_afero_inner_os_ENOENT), ("pub-marram/pub/afero/inner/os.ENOTDIR", Rows.laid_pub_marram_pub_afero_inner_os_ENOTDIR), ("pub-marram/pub/afero/inner/os.EPERM", Rows.laid_pub_marram_pub_afero_inner_os_EPERM), ("pub-marram/pub/afero/inner/os.EIO", Rows.laid_pub_marram_pub_afero_inner_os_EIO), ("pub-marram/pub/afero/inner/os.EBADFD", Rows.laid_pub_marram_pub_afero_inner_os_EBADFD), ("io.EOF", Rows.laid_io_EOF), ("io.ErrUnexpectedEOF", Rows.laid_io_ErrUnexpectedEOF), ("pub-marram/pub/afero/mem.ErrFileClosed", Rows.laid_pub_marram_pub_afero_mem_ErrFileClosed), ("pub-marram/pub/afero/mem.ErrOutOfRange", Rows.laid_pub_marram_pub_afero_mem_ErrOutOfRange)]
set_option maxRecDepth 100000 in
theorem lifted (os : Os) (started : os.Started) (H : Type) (enc : TypeId × Value → H) :
    ReturnsInHanded {} Tryd.checked os 6 .any (fun w args => (Rows.fnPlacesAreMovedSpec.pre enc Tryd.prog Tryd.f6 Rows.fnPlacesAreMovedRow.domain false w args ∧ laidMetH Tryd.prog laidL w) ∧ sizedMet enc Tryd.prog Tryd.f6 (OpenSpec.ofChange Rows.fnPlacesAreMovedSpec) false w args) (Rows.fnPlacesAreMovedSpec.post enc Tryd.prog Tryd.f6 false true false false) := by
  refine Adapter.law_lifted_tied (C := Tryd.checked) (X := fun w => laidMetH Tryd.prog laidL w) (fun _ _ hh h => h.of_heap hh) own started (by kernel_rfl) Tryd.func6
    (ChangeSpec.witness_shaped (enc := enc) (C := Tryd.checked) (os := os) (X := fun w _ => laidMetH Tryd.prog laidL w) false (World.laidAll Tryd.prog os laidL) #[.slice none 0 0, .slice none 0 0, .bool false, .slice none 0 0] 8 (World.laidAll_os _ _ _)
      (World.shaped_of_ZipB (by kernel_rfl) (by kernel_rfl)) (by kernel_rfl) (by kernel_rfl) (by kernel_rfl)
      (by rw [MakeChecks.laidMetH_plain _ _ _ (by kernel_rfl)]; exact laidMet_laidAll _ (by kernel_rfl) (by kernel_rfl)))
    laidOut readable6 (tb := 4) (by kernel_rfl) (by kernel_rfl) rfl ?_ ?_
  · intro ds hds
    rw [show Tryd.f6.params.size = 4 from by kernel_rfl] at hds
    match ds, hds with
    | [d1, d2, d3, d4], _ => rfl
  · intro W base args ds p hval hA _ _ hL0
    have hL : laidMet Tryd.prog laidL W := by rw [MakeChecks.laidMetH_plain _ _ _ (by kernel_rfl)] at hL0; exact hL0
    rw [Tryd.params6] at hA hval
    obtain ⟨v0, vs0, d0, ds0, p0, q0, hargs, rfl, rfl, h0, r0⟩ := trodAll_cons hA
    obtain ⟨v1, vs1, d1, ds1, p1, q1, rfl, rfl, rfl, h1, r1⟩ := trodAll_cons r0
    obtain ⟨v2, vs2, d2, ds2, p2, q2, rfl, rfl, rfl, h2, r2⟩ := trodAll_cons r1
    obtain ⟨v3, vs3, d3, ds3, p3, q3, rfl, rfl, rfl, h3, r3⟩ := trodAll_cons r2
    obtain ⟨rfl, rfl, rfl⟩ := trodAll_nil r3
    obtain rfl : args = #[v0, v1, v2, v3] := by cases args; simp_all
    obtain ⟨A, hS⟩ := sent_of_laid (show laidMet Tryd.prog errsL W from hL)
    obtain ⟨l0, A0, n0, c0, rfl, hC0, hn0⟩ : ∃ l A n c, v0 = .slice A n c ∧ Kd.C (Kd.int .u8) W A n l ∧ n ≤ c := by
      obtain ⟨a0, len, cap, rfl⟩ := okWide_slice Tryd.underlying22 (hval 0 22 v0 rfl rfl)
      obtain ⟨fuel, hf⟩ := h0
      obtain ⟨A, m, c, l, hcs, hl, hC⟩ := Og.opens_row Tryd.underlying22 (by kernel_rfl) (Og.opens_int Tryd.underlying5) hf
      simp [Value.cells] at hcs
      obtain ⟨rfl, rfl, rfl⟩ := hcs
      exact ⟨l, _, _, _, rfl, hC, hl⟩
    obtain ⟨l1, A1, n1, c1, rfl, hC1, hn1⟩ : ∃ l A n c, v1 = .slice A n c ∧ Kd.C (Kd.int .u8) W A n l ∧ n ≤ c := by
      obtain ⟨a0, len, cap, rfl⟩ := okWide_slice Tryd.underlying22 (hval 1 22 v1 rfl rfl)
      obtain ⟨fuel, hf⟩ := h1
      obtain ⟨A, m, c, l, hcs, hl, hC⟩ := Og.opens_row Tryd.underlying22 (by kernel_rfl) (Og.opens_int Tryd.underlying5) hf
      simp [Value.cells] at hcs
      obtain ⟨rfl, rfl, rfl⟩ := hcs
      exact ⟨l, _, _, _, rfl, hC, hl⟩
    obtain ⟨x2, rfl, rfl, rfl⟩ := open_bool Tryd.underlying4 (hval 2 4 v2 rfl rfl) h2
    obtain ⟨l3, A3, n3, c3, rfl, hC3, hn3⟩ : ∃ l A n c, v3 = .slice A n c ∧ Kd.C (k26) W A n l ∧ n ≤ c := by
      obtain ⟨a0, len, cap, rfl⟩ := okWide_slice Tryd.underlying23 (hval 3 23 v3 rfl rfl)
      obtain ⟨fuel, hf⟩ := h3
      obtain ⟨A, m, c, l, hcs, hl, hC⟩ := Og.opens_row Tryd.underlying23 (by kernel_rfl) (opens26) hf
      simp [Value.cells] at hcs
      obtain ⟨rfl, rfl, rfl⟩ := hcs
      exact ⟨l, _, _, _, rfl, hC, hl⟩
    exact law6 W A hS l0 A0 n0 c0 l1 A1 n1 c1 x2 l3 A3 n3 c3 hC0 hn0 hC1 hn1 hC3 hn3
theorem over : Rows.fnPlacesAreMovedRow.holds Tryd.pinned (OpenSpec.ofChange Rows.fnPlacesAreMovedSpec) :=
  OpenClaim.holds_of_wide 6 Tryd.f6 rfl rfl rfl rfl rfl rfl rfl ⟨rfl, rfl, rfl, rfl, rfl⟩ rfl rfl rfl rfl rfl (by kernel_rfl) Tryd.func6 (by kernel_rfl)
    (of_decide_eq_true (by kernel_rfl)) (by unfold Func.isWrapper; first | (rw [if_pos (by decide +kernel)]; kernel_rfl) | (rw [if_neg (by decide +kernel)]; exact ⟨rfl, rfl⟩))
    (fun os started H enc _ => lifted os started H enc)
theorem card_holds : Rows.FnPlacesAreMovedCardSaid :=
  Claim7.holds_tied_plain_at .later [] [.sentinel, .sentinel, .sentinel, .sentinel, .sentinel, .sentinel, .sentinel, .sentinel, .sentinel, .sentinel, .sentinel] true (true, "082d05495341c122149ceada623044fc8a0a6c8a5b30945a55a332597f3648b7") true over (fun _ h => by cases h) (by kernel_rfl) (fun _ h => by cases h) fnPlacesAreMoved_row_tie rfl ⟨rfl, rfl⟩ (by kernel_rfl) rfl
    (fun f fn hf hfn => by
      obtain rfl : f = 6 := Option.some.inj ((show Tryd.prog.funcNamed "pub-marram/laws.FnPlacesAreMoved" = some 6 by kernel_rfl).symm.trans hf) |>.symm
      obtain rfl : fn = Tryd.f6 := (Option.some.inj (Tryd.func6.symm.trans hfn)).symm
      exact ⟨by kernel_rfl, fun j t ht => by
        rw [Tryd.params6] at ht
        have hm : t ∈ [22, 22, 4, 23] := by simpa using Array.mem_of_getElem? ht
        have hall : ([22, 22, 4, 23].all fun u => !Tryd.prog.wantsStandIn u) = true := by kernel_rfl
        exact (show Tryd.prog.wantsStandIn t = false by simpa using List.all_eq_true.1 hall t hm)⟩)
    (by kernel_rfl)
end Go.Proofs.YtljcdjggjphedaaDoor.Hmv
