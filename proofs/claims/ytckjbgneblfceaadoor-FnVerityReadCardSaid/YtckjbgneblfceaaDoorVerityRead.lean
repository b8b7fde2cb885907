/- Proved: for all bytes and all hashes FnVerityRead answers true: reading a device of hashes tells what the reference tells of the bytes. The named errors read as the program's text lays them (the card ties them). -/
import Derived.Test.YtckjbgneblfceaaDoorRows
import Derived.Test.YtckjbgneblfceaaDoorAdapter
import Derived.Test.YtckjbgneblfceaaDoorCards
import Derived.Test.YtckjbgneblfceaaDoorTie
import Derived.SevenTiedAt
import Derived.ChangeSame
import Derived.ChangeArms
import Derived.OpenShut
import Derived.ChangeSlices
import Derived.Lib.SmallJoins
import Derived.Laws.Rows
import Derived.Test.YtckjbgneblfceaaDoorOg
import Derived.Test.YtckjbgneblfceaaDoorDh
namespace Go.Proofs.YtckjbgneblfceaaDoor.Vrd
open Go.RowKit Go.Proofs.YtckjbgneblfceaaDoorW.PrintWords Go.Proofs.YtckjbgneblfceaaDoorW.PrintLast Go.Proofs.YtckjbgneblfceaaDoorW.PrintMore Go.Proofs.YtckjbgneblfceaaDoor.Da
set_option linter.unusedVariables false
set_option linter.unusedSimpArgs false
set_option maxRecDepth 100000
open Go.ChangeShapes Go.WideShapes
theorem star : "*" ++ "errors.errorString" = "*errors.errorString" := by decide
theorem row156 (u : TypeId) (h : Tryd.prog.typeName? 3 u = some "*errors.errorString") : u = 156 :=
  typeName_ptr_named (nm := "errors.errorString") (by rw [star]; kernel_rfl) (by kernel_rfl) (by decide) u (by rw [star]; exact h)
theorem cells174 : Tryd.prog.cellsOf 174 = 1 := by kernel_rfl
theorem cells9 : Tryd.prog.cellsOf 9 = 1 := by kernel_rfl
set_option maxRecDepth 100000 in
theorem laid_err {W : World} {n : String} {text : List UInt8} {r : List (String × DataW Unit)} {g : Nat} (h : laidMet Tryd.prog ((n, .iface "*errors.errorString" (.ptr (.agg [.lit (.string text)]))) :: r) W)
    (hg : Tryd.prog.globalNamed n = some g) (ht : (Tryd.prog.globals[g]?).map (·.type) = some 73) : ∃ (a : Addr) (s : ByteArray), W.cell? ⟨g, 0, none⟩ = some (.iface 156 (.pointer (some a))) ∧ W.cell? a = some (.string s) ∧ s.data.toList = text ∧ ∃ c t, W.heap[a.block]? = some (.cells c t (0, 0)) := by
  obtain ⟨ps, ⟨g0, t0, cs0, f0, p0, q0, hg0, ht0, hv0, hd0, _, e0⟩, _, hrows⟩ := h
  obtain rfl := Option.some.inj (hg.symm.trans hg0)
  obtain rfl := Option.some.inj (ht.symm.trans ht0)
  subst e0
  obtain ⟨l0⟩ := cs0
  have ok0 : ∀ u v, l0 = [.iface u v] → Value.okWide Tryd.prog W .any 0 u v := fun u v e => by
    subst e
    exact (hrows g 0 (by simp [MemPlace.row])).2 u v (by simpa using World.var?_cell hg0 hv0 0)
  obtain ⟨a0, s0, rfl, hc0, hs0, hz0, rfl⟩ := errorString_of_trod Tryd.underlying73 row156 Tryd.underlying156 Tryd.underlying174 rfl rfl Tryd.underlying9 cells174 cells9 hd0 ok0
  exact ⟨a0, s0, by simpa using World.var?_cell hg0 hv0 0, hc0, hs0, (hrows a0.block a0.off (by simp [MemPlace.row])).1⟩
def errsL : List (String × DataW Unit) := [("pub-marram/pub/hcsshim/ext4/dmverity.ErrSuperBlockReadFailure", .iface "*errors.errorString" (.ptr (.agg [.lit (.string [102, 97, 105, 108, 101, 100, 32, 116, 111, 32, 114, 101, 97, 100, 32, 100, 109, 45, 118, 101, 114, 105, 116, 121, 32, 115, 117, 112, 101, 114, 32, 98, 108, 111, 99, 107])]))), ("pub-marram/pub/hcsshim/ext4/dmverity.ErrSuperBlockParseFailure", .iface "*errors.errorString" (.ptr (.agg [.lit (.string [102, 97, 105, 108, 101, 100, 32, 116, 111, 32, 112, 97, 114, 115, 101, 32, 100, 109, 45, 118, 101, 114, 105, 116, 121, 32, 115, 117, 112, 101, 114, 32, 98, 108, 111, 99, 107])]))), ("pub-marram/pub/hcsshim/ext4/dmverity.ErrRootHashReadFailure", .iface "*errors.errorString" (.ptr (.agg [.lit (.string [102, 97, 105, 108, 101, 100, 32, 116, 111, 32, 114, 101, 97, 100, 32, 100, 109, 45, 118, 101, 114, 105, 116, 121, 32, 114, 111, 111, 116, 32, 104, 97, 115, 104])]))), ("pub-marram/pub/hcsshim/ext4/dmverity.ErrNotVeritySuperBlock", .iface "*errors.errorString" (.ptr (.agg [.lit (.string [105, 110, 118, 97, 108, 105, 100, 32, 100, 109, 45, 118, 101, 114, 105, 116, 121, 32, 115, 117, 112, 101, 114, 45, 98, 108, 111, 99, 107, 32, 115, 105, 103, 110, 97, 116, 117, 114, 101])])))]
theorem errs_of {W : World} (h0 : laidMet Tryd.prog errsL W) : ∃ a : Nat → Addr, Errs a W := by
  obtain ⟨a0, s0, v0, t0, u0, b0⟩ := laid_err h0 (g := 0) (by kernel_rfl) (by kernel_rfl)
  obtain ⟨a3, s3, v3, t3, u3, b3⟩ := laid_err h0.tail (g := 3) (by kernel_rfl) (by kernel_rfl)
  obtain ⟨a1, s1, v1, t1, u1, b1⟩ := laid_err h0.tail.tail (g := 1) (by kernel_rfl) (by kernel_rfl)
  obtain ⟨a2, s2, v2, t2, u2, b2⟩ := laid_err h0.tail.tail.tail (g := 2) (by kernel_rfl) (by kernel_rfl)
  have far : ∀ (x y : Addr) (s t : ByteArray) (l m : List UInt8), W.cell? x = some (.string s) → W.cell? y = some (.string t) → s.data.toList = l → t.data.toList = m → l ≠ m → x ≠ y := by
    intro x y s t l m hx hy hl hm hne e
    subst e
    rw [hx] at hy
    obtain rfl := Value.string.inj (Option.some.inj hy)
    exact hne (hl.symm.trans hm)
  have n01 := far _ _ _ _ _ _ t0 t1 u0 u1 (by decide)
  have n02 := far _ _ _ _ _ _ t0 t2 u0 u2 (by decide)
  have n03 := far _ _ _ _ _ _ t0 t3 u0 u3 (by decide)
  have n12 := far _ _ _ _ _ _ t1 t2 u1 u2 (by decide)
  have n13 := far _ _ _ _ _ _ t1 t3 u1 u3 (by decide)
  have n23 := far _ _ _ _ _ _ t2 t3 u2 u3 (by decide)
  refine ⟨fun k => match k with | 0 => a0 | 1 => a1 | 2 => a2 | _ => a3, fun k hk => ?_, fun k hk => ?_, fun i j hi hj hij => ?_⟩
  · match k, hk with
    | 0, _ => exact v0
    | 1, _ => exact v1
    | 2, _ => exact v2
    | 3, _ => exact v3
  · match k, hk with
    | 0, _ => exact b0
    | 1, _ => exact b1
    | 2, _ => exact b2
    | 3, _ => exact b3
  · match i, j, hi, hj with
    | 0, 0, _, _ => exact absurd rfl hij
    | 0, 1, _, _ => exact n01
    | 0, 2, _, _ => exact n02
    | 0, 3, _, _ => exact n03
    | 1, 0, _, _ => exact n01.symm
    | 1, 1, _, _ => exact absurd rfl hij
    | 1, 2, _, _ => exact n12
    | 1, 3, _, _ => exact n13
    | 2, 0, _, _ => exact n02.symm
    | 2, 1, _, _ => exact n12.symm
    | 2, 2, _, _ => exact absurd rfl hij
    | 2, 3, _, _ => exact n23
    | 3, 0, _, _ => exact n03.symm
    | 3, 1, _, _ => exact n13.symm
    | 3, 2, _, _ => exact n23.symm
    | 3, 3, _, _ => exact absurd rfl hij
open Go.Joins
open Go.ChangeShapes Go.WideShapes Go.ChangeAt
theorem own : ownKnob Tryd.prog.godebug = none := by kernel_rfl
theorem laidOut : laidOutB Tryd.prog = true := by kernel_rfl
theorem readable4 : ∀ t ∈ Tryd.f4.params.toList, Tryd.prog.readableRec t = true ∧ t < Tryd.prog.types.size := by
  have h : (Tryd.f4.params.toList.all fun t => Tryd.prog.readableRec t && decide (t < Tryd.prog.types.size)) = true := by kernel_rfl
  intro t ht
  have := List.all_eq_true.1 h t ht
  simpa using this
def laidL : List (String × DataW Unit) := [("pub-marram/pub/hcsshim/ext4/dmverity.ErrSuperBlockReadFailure", Rows.laid_pub_marram_pub_hcsshim_ext4_dmverity_ErrSuperBlockReadFailure), ("pub-marram/pub/hcsshim/ext4/dmverity.ErrSuperBlockParseFailure", Rows.laid_pub_marram_pub_hcsshim_ext4_dmverity_ErrSuperBlockParseFailure), ("pub-marram/pub/hcsshim/ext4/dmverity.ErrRootHashReadFailure", Rows.laid_pub_marram_pub_hcsshim_ext4_dmverity_ErrRootHashReadFailure), ("pub-marram/pub/hcsshim/ext4/dmverity.ErrNotVeritySuperBlock", Rows.laid_pub_marram_pub_hcsshim_ext4_dmverity_ErrNotVeritySuperBlock)]
set_option maxRecDepth 100000 in
theorem lifted (os : Os) (started : os.Started) (H : Type) (enc : TypeId × Value → H) :
    ReturnsInHanded {} Tryd.checked os 4 .any (fun w args => (Rows.fnVerityReadSpec.pre enc Tryd.prog Tryd.f4 Rows.fnVerityReadRow.domain false w args ∧ laidMetH Tryd.prog laidL w) ∧ sizedMet enc Tryd.prog Tryd.f4 (OpenSpec.ofChange Rows.fnVerityReadSpec) false w args) (Rows.fnVerityReadSpec.post enc Tryd.prog Tryd.f4 false true false false) := by
  refine Adapter.law_lifted_tied (C := Tryd.checked) (X := fun w => laidMetH Tryd.prog laidL w) (fun _ _ hh h => h.of_heap hh) own started (by kernel_rfl) Tryd.func4
    (ChangeSpec.witness_shaped (enc := enc) (C := Tryd.checked) (os := os) (X := fun w _ => laidMetH Tryd.prog laidL w) false (World.laidAll Tryd.prog os laidL) #[.agg #[.int .u64 0, .int .u64 0, .int .u64 0, .int .u64 0], .slice none 0 0] 8 (World.laidAll_os _ _ _)
      (World.shaped_of_ZipB (by kernel_rfl) (by kernel_rfl)) (by kernel_rfl) (by kernel_rfl) (by kernel_rfl)
      (by rw [MakeChecks.laidMetH_plain _ _ _ (by kernel_rfl)]; exact laidMet_laidAll _ (by kernel_rfl) (by kernel_rfl)))
    laidOut readable4 (tb := 4) (by kernel_rfl) (by kernel_rfl) rfl ?_ ?_
  · intro ds hds
    rw [show Tryd.f4.params.size = 2 from by kernel_rfl] at hds
    match ds, hds with
    | [d1, d2], _ => rfl
  · intro W base args ds p hval hA _ _ hL0
    have hL : laidMet Tryd.prog laidL W := by rw [MakeChecks.laidMetH_plain _ _ _ (by kernel_rfl)] at hL0; exact hL0
    rw [Tryd.params4] at hA hval
    obtain ⟨v0, vs0, d0, ds0, p0, q0, hargs, rfl, rfl, h0, r0⟩ := trodAll_cons hA
    obtain ⟨v1, vs1, d1, ds1, p1, q1, rfl, rfl, rfl, h1, r1⟩ := trodAll_cons r0
    obtain ⟨rfl, rfl, rfl⟩ := trodAll_nil r1
    obtain rfl : args = #[v0, v1] := by cases args; simp_all
    obtain ⟨a, hE⟩ := errs_of (show laidMet Tryd.prog errsL W from hL)
    obtain ⟨c0, c1, c2, c3, y0, y1, y2, y3, m, rfl, rfl, rfl, hy0, hy1, hy2, hy3⟩ := open_agg4 Tryd.underlying32 (by kernel_rfl) (by kernel_rfl) (hval 0 32 v0 rfl rfl) h0
    obtain ⟨A, e0, rfl, wa⟩ := DataW.trod_int Tryd.underlying30 hy0
    obtain ⟨B, e1, rfl, wb⟩ := DataW.trod_int Tryd.underlying30 hy1
    obtain ⟨C, e2, rfl, wc⟩ := DataW.trod_int Tryd.underlying30 hy2
    obtain ⟨D, e3, rfl, wd⟩ := DataW.trod_int Tryd.underlying30 hy3
    simp at e0 e1 e2 e3
    subst e0 e1 e2 e3
    obtain ⟨ad0, len, cap, rfl⟩ := okWide_slice Tryd.underlying33 (hval 1 33 v1 rfl rfl)
    obtain ⟨fuel, hf⟩ := h1
    rcases Go.ChangeShapes.open_ints Tryd.underlying33 Tryd.underlying5 (by kernel_rfl) hf with ⟨hcs, hx⟩ | ⟨ad, len', cap', zs, hcs, _, hl, hm, hz, hx, hcell, hwz⟩
    · simp [Value.cells] at hcs
      obtain ⟨rfl, rfl, rfl⟩ := hcs
      exact law4 none 0 0 [] A B C D W a hE rfl (by omega) (fun x hx => by cases hx) (Kd.C_nil _ _)
    · simp [Value.cells] at hcs
      obtain ⟨rfl, rfl, rfl⟩ := hcs
      unfold maxLen at hm
      have hzl : len ≤ zs.length := by rw [hz]; split <;> omega
      have hlen : (zs.take len).length = len := by rw [List.length_take]; omega
      refine law4 (some ad) len cap (zs.take len) A B C D W a hE hlen hl (fun x hx => ?_) (Kd.C_of_reads (d := (0 : Int)) ⟨hlen, by omega, fun _ => ⟨ad, rfl, fun j hj => ?_⟩⟩)
      · have hw := hwz x (List.mem_of_mem_take hx)
        have : 0 ≤ x ∧ x ≤ 255 := by simpa [Lit.wf, IntKind.min, IntKind.max, IntKind.bits, IntKind.signed] using hw
        omega
      · have h := hcell j (by omega)
        rw [List.getD_eq_getElem?_getD] at h
        rw [List.getD_eq_getElem?_getD, List.getElem?_take, if_pos (by omega)]
        exact h
theorem over : Rows.fnVerityReadRow.holds Tryd.pinned (OpenSpec.ofChange Rows.fnVerityReadSpec) :=
  OpenClaim.holds_of_wide 4 Tryd.f4 rfl rfl rfl rfl rfl rfl rfl ⟨rfl, rfl, rfl, rfl, rfl⟩ rfl rfl rfl rfl rfl (by kernel_rfl) Tryd.func4 (by kernel_rfl)
    (of_decide_eq_true (by kernel_rfl)) (by unfold Func.isWrapper; first | (rw [if_pos (by decide +kernel)]; kernel_rfl) | (rw [if_neg (by decide +kernel)]; exact ⟨rfl, rfl⟩))
    (fun os started H enc _ => lifted os started H enc)
theorem card_holds : Rows.FnVerityReadCardSaid :=
  Claim7.holds_tied_plain_at .later [] [.sentinel, .sentinel, .sentinel, .sentinel] true (true, "27ad93f67da15782714a4553ee5475b90bf0b144894fd36f2960d8983790489f") true over (fun _ h => by cases h) (by kernel_rfl) (fun _ h => by cases h) fnVerityRead_row_tie rfl ⟨rfl, rfl⟩ (by kernel_rfl) rfl
    (fun f fn hf hfn => by
      obtain rfl : f = 4 := Option.some.inj ((show Tryd.prog.funcNamed "pub-marram/laws.FnVerityRead" = some 4 by kernel_rfl).symm.trans hf) |>.symm
      obtain rfl : fn = Tryd.f4 := (Option.some.inj (Tryd.func4.symm.trans hfn)).symm
      exact ⟨by kernel_rfl, fun j t ht => by
        rw [Tryd.params4] at ht
        have hm : t ∈ [32, 33] := by simpa using Array.mem_of_getElem? ht
        have hall : ([32, 33].all fun u => !Tryd.prog.wantsStandIn u) = true := by kernel_rfl
        exact (show Tryd.prog.wantsStandIn t = false by simpa using List.all_eq_true.1 hall t hm)⟩)
    (by kernel_rfl)
end Go.Proofs.YtckjbgneblfceaaDoor.Vrd
