/- Proved: for all bytes, places and rows of byte strings FnContainsSlice answers true: bytes contain each part of themselves that is not empty, whatever other byte strings are asked for beside it. The named errors read as the program's text lays them (the card ties them). -/
import Derived.Test.YtckjbgneblfceaaDoorRows
import Derived.Test.YtckjbgneblfceaaDoorAdapter
import Derived.Test.YtckjbgneblfceaaDoorCards
import Derived.Test.YtckjbgneblfceaaDoorTie
import Derived.SevenTiedAt
import Derived.ChangeSame
import Derived.ChangeArms
import Derived.OpenShut
import Derived.ChangeSlices
import Derived.Lib.SmallJoins
import Derived.Laws.Rows
import Derived.Test.YtckjbgneblfceaaDoorOg
import Derived.Test.YtckjbgneblfceaaDoorCf
namespace Go.Proofs.YtckjbgneblfceaaDoor.Csi
open Go.RowKit Go.Proofs.YtckjbgneblfceaaDoorW.PrintWords Go.Proofs.YtckjbgneblfceaaDoorW.PrintLast Go.Proofs.YtckjbgneblfceaaDoorW.PrintMore Go.Proofs.YtckjbgneblfceaaDoor.Ce Go.Proofs.YtckjbgneblfceaaDoor.Cf
set_option linter.unusedVariables false
set_option linter.unusedSimpArgs false
set_option maxRecDepth 100000
open Go.ChangeShapes Go.WideShapes
theorem star : "*" ++ "errors.errorString" = "*errors.errorString" := by decide
theorem row156 (u : TypeId) (h : Tryd.prog.typeName? 3 u = some "*errors.errorString") : u = 156 :=
  typeName_ptr_named (nm := "errors.errorString") (by rw [star]; kernel_rfl) (by kernel_rfl) (by decide) u (by rw [star]; exact h)
theorem cells174 : Tryd.prog.cellsOf 174 = 1 := by kernel_rfl
theorem cells9 : Tryd.prog.cellsOf 9 = 1 := by kernel_rfl
set_option maxRecDepth 100000 in
theorem laid_err {W : World} {n : String} {text : List UInt8} {r : List (String × DataW Unit)} {g : Nat} (h : laidMet Tryd.prog ((n, .iface "*errors.errorString" (.ptr (.agg [.lit (.string text)]))) :: r) W)
    (hg : Tryd.prog.globalNamed n = some g) (ht : (Tryd.prog.globals[g]?).map (·.type) = some 73) : ∃ (a : Addr) (s : ByteArray), W.cell? ⟨g, 0, none⟩ = some (.iface 156 (.pointer (some a))) ∧ W.cell? a = some (.string s) ∧ s.data.toList = text ∧ ∃ c t, W.heap[a.block]? = some (.cells c t (0, 0)) := by
  obtain ⟨ps, ⟨g0, t0, cs0, f0, p0, q0, hg0, ht0, hv0, hd0, _, e0⟩, _, hrows⟩ := h
  obtain rfl := Option.some.inj (hg.symm.trans hg0)
  obtain rfl := Option.some.inj (ht.symm.trans ht0)
  subst e0
  obtain ⟨l0⟩ := cs0
  have ok0 : ∀ u v, l0 = [.iface u v] → Value.okWide Tryd.prog W .any 0 u v := fun u v e => by
    subst e
    exact (hrows g 0 (by simp [MemPlace.row])).2 u v (by simpa using World.var?_cell hg0 hv0 0)
  obtain ⟨a0, s0, rfl, hc0, hs0, hz0, rfl⟩ := errorString_of_trod Tryd.underlying73 row156 Tryd.underlying156 Tryd.underlying174 rfl rfl Tryd.underlying9 cells174 cells9 hd0 ok0
  exact ⟨a0, s0, by simpa using World.var?_cell hg0 hv0 0, hc0, hs0, (hrows a0.block a0.off (by simp [MemPlace.row])).1⟩
def errsL : List (String × DataW Unit) := [("io.EOF", .iface "*errors.errorString" (.ptr (.agg [.lit (.string [69, 79, 70])]))), ("io.ErrUnexpectedEOF", .iface "*errors.errorString" (.ptr (.agg [.lit (.string [117, 110, 101, 120, 112, 101, 99, 116, 101, 100, 32, 69, 79, 70])]))), ("pub-marram/pub/afero/mem.ErrFileClosed", .iface "*errors.errorString" (.ptr (.agg [.lit (.string [70, 105, 108, 101, 32, 105, 115, 32, 99, 108, 111, 115, 101, 100])])))]
theorem errs_of {W : World} (h0 : laidMet Tryd.prog errsL W) : ∃ a1 a2, W.cell? ⟨5, 0, none⟩ = some (.iface 156 (.pointer (some a1))) ∧ W.cell? ⟨6, 0, none⟩ = some (.iface 156 (.pointer (some a2))) := by
  obtain ⟨a1, s1, v1, _⟩ := laid_err h0 (g := 5) (by kernel_rfl) (by kernel_rfl)
  obtain ⟨a2, s2, v2, _⟩ := laid_err h0.tail (g := 6) (by kernel_rfl) (by kernel_rfl)
  exact ⟨a1, a2, v1, v2⟩
open Go.ChangeShapes Go.WideShapes Go.ChangeAt
theorem own : ownKnob Tryd.prog.godebug = none := by kernel_rfl
theorem laidOut : laidOutB Tryd.prog = true := by kernel_rfl
theorem readable5 : ∀ t ∈ Tryd.f5.params.toList, Tryd.prog.readableRec t = true ∧ t < Tryd.prog.types.size := by
  have h : (Tryd.f5.params.toList.all fun t => Tryd.prog.readableRec t && decide (t < Tryd.prog.types.size)) = true := by kernel_rfl
  intro t ht
  have := List.all_eq_true.1 h t ht
  simpa using this
def laidL : List (String × DataW Unit) := [("io.EOF", Rows.laid_io_EOF), ("io.ErrUnexpectedEOF", Rows.laid_io_ErrUnexpectedEOF), ("pub-marram/pub/afero/mem.ErrFileClosed", Rows.laid_pub_marram_pub_afero_mem_ErrFileClosed)]
set_option maxRecDepth 100000 in
theorem lifted (os : Os) (started : os.Started) (H : Type) (enc : TypeId × Value → H) :
    ReturnsInHanded {} Tryd.checked os 5 .any (fun w args => (Rows.fnContainsSliceSpec.pre enc Tryd.prog Tryd.f5 Rows.fnContainsSliceRow.domain false w args ∧ laidMetH Tryd.prog laidL w) ∧ sizedMet enc Tryd.prog Tryd.f5 (OpenSpec.ofChange Rows.fnContainsSliceSpec) false w args) (Rows.fnContainsSliceSpec.post enc Tryd.prog Tryd.f5 false true false false) := by
  refine Adapter.law_lifted_tied (C := Tryd.checked) (X := fun w => laidMetH Tryd.prog laidL w) (fun _ _ hh h => h.of_heap hh) own started (by kernel_rfl) Tryd.func5
    (ChangeSpec.witness_shaped (enc := enc) (C := Tryd.checked) (os := os) (X := fun w _ => laidMetH Tryd.prog laidL w) false (World.laidAll Tryd.prog os laidL) #[.slice none 0 0, .int .i64 0, .int .i64 0, .slice none 0 0, .int .i64 0] 8 (World.laidAll_os _ _ _)
      (World.shaped_of_ZipB (by kernel_rfl) (by kernel_rfl)) (by kernel_rfl) (by kernel_rfl) (by kernel_rfl)
      (by rw [MakeChecks.laidMetH_plain _ _ _ (by kernel_rfl)]; exact laidMet_laidAll _ (by kernel_rfl) (by kernel_rfl)))
    laidOut readable5 (tb := 4) (by kernel_rfl) (by kernel_rfl) rfl ?_ ?_
  · intro ds hds
    rw [show Tryd.f5.params.size = 5 from by kernel_rfl] at hds
    match ds, hds with
    | [d1, d2, d3, d4, d5], _ => rfl
  · intro W base args ds p hval hA _ _ hL0
    have hL : laidMet Tryd.prog laidL W := by rw [MakeChecks.laidMetH_plain _ _ _ (by kernel_rfl)] at hL0; exact hL0
    rw [Tryd.params5] at hA hval
    obtain ⟨v0, vs0, d0, ds0, p0, q0, hargs, rfl, rfl, h0, r0⟩ := trodAll_cons hA
    obtain ⟨v1, vs1, d1, ds1, p1, q1, rfl, rfl, rfl, h1, r1⟩ := trodAll_cons r0
    obtain ⟨v2, vs2, d2, ds2, p2, q2, rfl, rfl, rfl, h2, r2⟩ := trodAll_cons r1
    obtain ⟨v3, vs3, d3, ds3, p3, q3, rfl, rfl, rfl, h3, r3⟩ := trodAll_cons r2
    obtain ⟨v4, vs4, d4, ds4, p4, q4, rfl, rfl, rfl, h4, r4⟩ := trodAll_cons r3
    obtain ⟨rfl, rfl, rfl⟩ := trodAll_nil r4
    obtain rfl : args = #[v0, v1, v2, v3, v4] := by cases args; simp_all
    obtain ⟨a1, a2, g5, g6⟩ := errs_of (show laidMet Tryd.prog errsL W from hL)
    obtain ⟨l0, A0, n0, c0, rfl, hC0, hn0⟩ : ∃ l A n c, v0 = .slice A n c ∧ Kd.C (Kd.int .u8) W A n l ∧ n ≤ c := by
      obtain ⟨a0, len, cap, rfl⟩ := okWide_slice Tryd.underlying33 (hval 0 33 v0 rfl rfl)
      obtain ⟨fuel, hf⟩ := h0
      obtain ⟨A, m, c, l, hcs, hl, hC⟩ := Og.opens_row Tryd.underlying33 (by kernel_rfl) (Og.opens_int Tryd.underlying5) hf
      simp [Value.cells] at hcs
      obtain ⟨rfl, rfl, rfl⟩ := hcs
      exact ⟨l, _, _, _, rfl, hC, hl⟩
    obtain ⟨x1, rfl, rfl, rfl, wx1⟩ := open_int Tryd.underlying3 (hval 1 3 v1 rfl rfl) h1
    obtain ⟨x2, rfl, rfl, rfl, wx2⟩ := open_int Tryd.underlying3 (hval 2 3 v2 rfl rfl) h2
    obtain ⟨l3, A3, n3, c3, rfl, hC3, hn3⟩ : ∃ l A n c, v3 = .slice A n c ∧ Kd.C (kB) W A n l ∧ n ≤ c := by
      obtain ⟨a0, len, cap, rfl⟩ := okWide_slice Tryd.underlying42 (hval 3 42 v3 rfl rfl)
      obtain ⟨fuel, hf⟩ := h3
      obtain ⟨A, m, c, l, hcs, hl, hC⟩ := Og.opens_row Tryd.underlying42 (by kernel_rfl) (Og.opens_slice Tryd.underlying33 (by kernel_rfl) (Og.opens_int Tryd.underlying5)) hf
      simp [Value.cells] at hcs
      obtain ⟨rfl, rfl, rfl⟩ := hcs
      exact ⟨l, _, _, _, rfl, hC, hl⟩
    obtain ⟨x4, rfl, rfl, rfl, wx4⟩ := open_int Tryd.underlying3 (hval 4 3 v4 rfl rfl) h4
    exact law5 W a1 a2 g5 g6 l0 A0 n0 c0 x1 x2 l3 A3 n3 c3 x4 hC0 hn0 hC3 hn3
theorem over : Rows.fnContainsSliceRow.holds Tryd.pinned (OpenSpec.ofChange Rows.fnContainsSliceSpec) :=
  OpenClaim.holds_of_wide 5 Tryd.f5 rfl rfl rfl rfl rfl rfl rfl ⟨rfl, rfl, rfl, rfl, rfl⟩ rfl rfl rfl rfl rfl (by kernel_rfl) Tryd.func5 (by kernel_rfl)
    (of_decide_eq_true (by kernel_rfl)) (by unfold Func.isWrapper; first | (rw [if_pos (by decide +kernel)]; kernel_rfl) | (rw [if_neg (by decide +kernel)]; exact ⟨rfl, rfl⟩))
    (fun os started H enc _ => lifted os started H enc)
theorem card_holds : Rows.FnContainsSliceCardSaid :=
  Claim7.holds_tied_plain_at .later [] [.sentinel, .sentinel, .sentinel] true (true, "27ad93f67da15782714a4553ee5475b90bf0b144894fd36f2960d8983790489f") true over (fun _ h => by cases h) (by kernel_rfl) (fun _ h => by cases h) fnContainsSlice_row_tie rfl ⟨rfl, rfl⟩ (by kernel_rfl) rfl
    (fun f fn hf hfn => by
      obtain rfl : f = 5 := Option.some.inj ((show Tryd.prog.funcNamed "pub-marram/laws.FnContainsSlice" = some 5 by kernel_rfl).symm.trans hf) |>.symm
      obtain rfl : fn = Tryd.f5 := (Option.some.inj (Tryd.func5.symm.trans hfn)).symm
      exact ⟨by kernel_rfl, fun j t ht => by
        rw [Tryd.params5] at ht
        have hm : t ∈ [33, 3, 3, 42, 3] := by simpa using Array.mem_of_getElem? ht
        have hall : ([33, 3, 3, 42, 3].all fun u => !Tryd.prog.wantsStandIn u) = true := by kernel_rfl
        exact (show Tryd.prog.wantsStandIn t = false by simpa using List.all_eq_true.1 hall t hm)⟩)
    (by kernel_rfl)
end Go.Proofs.YtckjbgneblfceaaDoor.Csi
