/- Proved: for every row of attributes and every number FnFitFirst answers true: whether one attribute fits, and where, does not depend on the ones behind it. The prefixes' table reads as the program's text lays it (the card ties it). -/
import Derived.Test.YtckjbgneblfceaaDoorRows
import Derived.Test.YtckjbgneblfceaaDoorAdapter
import Derived.Test.YtckjbgneblfceaaDoorCards
import Derived.Test.YtckjbgneblfceaaDoorTie
import Derived.SevenTiedAt
import Derived.ChangeSame
import Derived.ChangeArms
import Derived.OpenShut
import Derived.ChangeSlices
import Derived.Lib.SmallJoins
import Derived.Laws.Rows
import Derived.Test.YtckjbgneblfceaaDoorOg
import Derived.Test.YtckjbgneblfceaaDoorFg
namespace Go.Proofs.YtckjbgneblfceaaDoor.Ffi
open Go.RowKit Go.Proofs.YtckjbgneblfceaaDoorW.PrintWords Go.Proofs.YtckjbgneblfceaaDoorW.PrintLast Go.Proofs.YtckjbgneblfceaaDoorW.PrintMore Go.Proofs.YtckjbgneblfceaaDoor.PFnFitFirst Go.Proofs.YtckjbgneblfceaaDoor.Fa Go.Proofs.YtckjbgneblfceaaDoor.Fg
set_option linter.unusedVariables false
set_option linter.unusedSimpArgs false
set_option maxRecDepth 100000
open Go.ChangeShapes Go.WideShapes
theorem opens58 : Og.Opens Tryd.prog 58 k58 := fun {H enc w base spare held n cs y} h => by
  obtain ⟨hl, hf⟩ := Og.opens_fields Tryd.underlying58 (by kernel_rfl) (by kernel_rfl) h
  match cs, hl with
  | [c0, c1], _ =>
    obtain ⟨v0, y0, n0, e0, t0⟩ := hf 0 _ rfl
    obtain rfl : c0 = v0 := Option.some.inj e0
    obtain ⟨x0, k0⟩ := Og.opens_string Tryd.underlying9 t0
    have k0' := (List.cons.inj k0).1
    subst k0'
    obtain ⟨v1, y1, n1, e1, t1⟩ := hf 1 _ rfl
    obtain rfl : c1 = v1 := Option.some.inj e1
    obtain ⟨A1, m1, d1, x1, z1, l1, g1⟩ := Og.opens_row Tryd.underlying33 (by kernel_rfl) (Og.opens_int Tryd.underlying5) t1
    have z1' := (List.cons.inj z1).1
    subst z1'
    have q1 := g1.1
    subst q1
    exact ⟨⟨x0, x1⟩, k58_mk w ⟨x0, x1⟩ l1 g1⟩
theorem gl : Tryd.prog.globalNamed "pub-marram/pub/hcsshim/ext4/inner/compactext4.xattrPrefixes" = some 4 := by kernel_rfl
theorem glType : (Tryd.prog.globals[4]?).map (·.type) = some 147 := by kernel_rfl
theorem c29 : Tryd.prog.cellsOf 147 = 14 := by kernel_rfl
theorem c28 : Tryd.prog.cellsOf 146 = 2 := by kernel_rfl
theorem c5 : Tryd.prog.cellsOf 5 = 1 := by kernel_rfl
theorem c9 : Tryd.prog.cellsOf 9 = 1 := by kernel_rfl
theorem str_of (s : ByteArray) (l : List UInt8) (h : s.data.toList = l) : s = ⟨l.toArray⟩ := by
  subst h; cases s; simp
theorem pairAt {H : Type} {enc : TypeId × Value → H} {W : World} {base : Nat} {sp : Nat → Bool} {held : Bool} {fuel : Nat} {l : List Value} {y : DataW H × List MemPlace} {a : Int} {b : List UInt8}
    (h : DataW.trod enc Tryd.prog W base sp held fuel 146 l = some y) (hy : y.1 = .agg [.lit (.int .u8 a), .lit (.string b)]) : l = [.int .u8 a, .string ⟨b.toArray⟩] := by
  obtain ⟨y0, y1, n, rfl, hl, h0, h1⟩ := trod_struct2 Tryd.underlying146 h
  rw [c28] at hl
  match l, hl with
  | [u, v], _ =>
    have h0' : DataW.trod enc Tryd.prog W base sp held n 5 [u] = some y0 := by simpa [c5] using h0
    have h1' : DataW.trod enc Tryd.prog W base sp held n 9 [v] = some y1 := by simpa [c9] using h1
    obtain ⟨x, e0, rfl, _⟩ := DataW.trod_int Tryd.underlying5 h0'
    obtain ⟨s, e1, rfl, _⟩ := DataW.trod_string Tryd.underlying9 h1'
    simp only [List.cons.injEq, and_true] at e0 e1
    subst e0 e1
    simp at hy
    obtain ⟨rfl, hb⟩ := hy
    rw [str_of s b hb]
theorem block4 {W : World} (h : laidMet Tryd.prog [("pub-marram/pub/hcsshim/ext4/inner/compactext4.xattrPrefixes", Rows.laid_pub_marram_pub_hcsshim_ext4_inner_compactext4_xattrPrefixes)] W) : ∃ t fr, W.heap[4]? = some (.cells cells14 t fr) := by
  obtain ⟨ps, ⟨g, t, cs, fuel, p, q, hg, ht, hvar, hd, _, _⟩, _⟩ := h
  obtain rfl := Option.some.inj (gl.symm.trans hg)
  obtain rfl := Option.some.inj (glType.symm.trans ht)
  have hcs : ∃ t fr, W.heap[4]? = some (.cells cs t fr) := by
    unfold World.var? at hvar
    rw [gl] at hvar
    simp only [Option.bind_some] at hvar
    split at hvar
    · rename_i c t fr e
      obtain rfl := Option.some.inj hvar
      exact ⟨t, fr, e⟩
    · cases hvar
  obtain ⟨t, fr, hc⟩ := hcs
  refine ⟨t, fr, ?_⟩
  rw [hc]
  congr 2
  obtain ⟨xs, m, _, hx, hl, hn, hi⟩ := DataW.trod_array Tryd.underlying147 hd
  rw [c29] at hl
  rw [c28] at hi
  simp only [Prod.mk.injEq] at hx
  obtain ⟨hx, _⟩ := hx
  unfold Rows.laid_pub_marram_pub_hcsshim_ext4_inner_compactext4_xattrPrefixes at hx
  have hx := DataW.agg.inj hx
  match xs, hn with
  | [y0, y1, y2, y3, y4, y5, y6], _ =>
    simp only [List.map_cons, List.map_nil, List.cons.injEq, and_true] at hx
    obtain ⟨e0, e1, e2, e3, e4, e5, e6⟩ := hx
    obtain ⟨l⟩ := cs
    have k0 := pairAt (hi 0 (by omega)) e0.symm
    have k1 := pairAt (hi 1 (by omega)) e1.symm
    have k2 := pairAt (hi 2 (by omega)) e2.symm
    have k3 := pairAt (hi 3 (by omega)) e3.symm
    have k4 := pairAt (hi 4 (by omega)) e4.symm
    have k5 := pairAt (hi 5 (by omega)) e5.symm
    have k6 := pairAt (hi 6 (by omega)) e6.symm
    match l, hl with
    | [a0, a1, a2, a3, a4, a5, a6, a7, a8, a9, a10, a11, a12, a13], _ =>
      simp only [Nat.zero_mul, Nat.one_mul, Nat.reduceMul, List.drop_zero, List.drop_succ_cons, List.take_succ_cons, List.take_zero, List.cons.injEq, and_true] at k0 k1 k2 k3 k4 k5 k6
      obtain ⟨rfl, rfl⟩ := k0
      obtain ⟨rfl, rfl⟩ := k1
      obtain ⟨rfl, rfl⟩ := k2
      obtain ⟨rfl, rfl⟩ := k3
      obtain ⟨rfl, rfl⟩ := k4
      obtain ⟨rfl, rfl⟩ := k5
      obtain ⟨rfl, rfl⟩ := k6
      rfl

open Go.ChangeShapes Go.WideShapes Go.ChangeAt
theorem own : ownKnob Tryd.prog.godebug = none := by kernel_rfl
theorem laidOut : laidOutB Tryd.prog = true := by kernel_rfl
theorem readable3 : ∀ t ∈ Tryd.f3.params.toList, Tryd.prog.readableRec t = true ∧ t < Tryd.prog.types.size := by
  have h : (Tryd.f3.params.toList.all fun t => Tryd.prog.readableRec t && decide (t < Tryd.prog.types.size)) = true := by kernel_rfl
  intro t ht
  have := List.all_eq_true.1 h t ht
  simpa using this
def laidL : List (String × DataW Unit) := [("pub-marram/pub/hcsshim/ext4/inner/compactext4.xattrPrefixes", Rows.laid_pub_marram_pub_hcsshim_ext4_inner_compactext4_xattrPrefixes)]
set_option maxRecDepth 100000 in
theorem lifted (os : Os) (started : os.Started) (H : Type) (enc : TypeId × Value → H) :
    ReturnsInHanded {} Tryd.checked os 3 .any (fun w args => (Rows.fnFitFirstSpec.pre enc Tryd.prog Tryd.f3 Rows.fnFitFirstRow.domain false w args ∧ laidMetH Tryd.prog laidL w) ∧ sizedMet enc Tryd.prog Tryd.f3 (OpenSpec.ofChange Rows.fnFitFirstSpec) false w args) (Rows.fnFitFirstSpec.post enc Tryd.prog Tryd.f3 false true false false) := by
  refine Adapter.law_lifted_tied (C := Tryd.checked) (X := fun w => laidMetH Tryd.prog laidL w) (fun _ _ hh h => h.of_heap hh) own started (by kernel_rfl) Tryd.func3
    (ChangeSpec.witness_shaped (enc := enc) (C := Tryd.checked) (os := os) (X := fun w _ => laidMetH Tryd.prog laidL w) false (World.laidAll Tryd.prog os laidL) #[.slice none 0 0, .int .i64 0] 8 (World.laidAll_os _ _ _)
      (World.shaped_of_ZipB (by kernel_rfl) (by kernel_rfl)) (by kernel_rfl) (by kernel_rfl) (by kernel_rfl)
      (by rw [MakeChecks.laidMetH_plain _ _ _ (by kernel_rfl)]; exact laidMet_laidAll _ (by kernel_rfl) (by kernel_rfl)))
    laidOut readable3 (tb := 4) (by kernel_rfl) (by kernel_rfl) rfl ?_ ?_
  · intro ds hds
    rw [show Tryd.f3.params.size = 2 from by kernel_rfl] at hds
    match ds, hds with
    | [d1, d2], _ => rfl
  · intro W base args ds p hval hA _ _ hL0
    have hL : laidMet Tryd.prog laidL W := by rw [MakeChecks.laidMetH_plain _ _ _ (by kernel_rfl)] at hL0; exact hL0
    rw [Tryd.params3] at hA hval
    obtain ⟨v0, vs0, d0, ds0, p0, q0, hargs, rfl, rfl, h0, r0⟩ := trodAll_cons hA
    obtain ⟨v1, vs1, d1, ds1, p1, q1, rfl, rfl, rfl, h1, r1⟩ := trodAll_cons r0
    obtain ⟨rfl, rfl, rfl⟩ := trodAll_nil r1
    obtain rfl : args = #[v0, v1] := by cases args; simp_all
    obtain ⟨l0, A0, n0, c0, rfl, hC0, hn0⟩ : ∃ l A n c, v0 = .slice A n c ∧ Kd.C (k58) W A n l ∧ n ≤ c := by
      obtain ⟨a0, len, cap, rfl⟩ := okWide_slice Tryd.underlying22 (hval 0 22 v0 rfl rfl)
      obtain ⟨fuel, hf⟩ := h0
      obtain ⟨A, m, c, l, hcs, hl, hC⟩ := Og.opens_row Tryd.underlying22 (by kernel_rfl) (opens58) hf
      simp [Value.cells] at hcs
      obtain ⟨rfl, rfl, rfl⟩ := hcs
      exact ⟨l, _, _, _, rfl, hC, hl⟩
    obtain ⟨x1, rfl, rfl, rfl, wx1⟩ := open_int Tryd.underlying3 (hval 1 3 v1 rfl rfl) h1
    have bi : -9223372036854775808 ≤ x1 ∧ x1 ≤ 9223372036854775807 := by simpa [Lit.wf, IntKind.min, IntKind.max, IntKind.bits, IntKind.signed] using wx1
    obtain ⟨t, fr, hg⟩ := block4 hL
    exact law3 W t fr hg l0 A0 n0 c0 x1 hC0 hn0 bi.1 bi.2
theorem over : Rows.fnFitFirstRow.holds Tryd.pinned (OpenSpec.ofChange Rows.fnFitFirstSpec) :=
  OpenClaim.holds_of_wide 3 Tryd.f3 rfl rfl rfl rfl rfl rfl rfl ⟨rfl, rfl, rfl, rfl, rfl⟩ rfl rfl rfl rfl rfl (by kernel_rfl) Tryd.func3 (by kernel_rfl)
    (of_decide_eq_true (by kernel_rfl)) (by unfold Func.isWrapper; first | (rw [if_pos (by decide +kernel)]; kernel_rfl) | (rw [if_neg (by decide +kernel)]; exact ⟨rfl, rfl⟩))
    (fun os started H enc _ => lifted os started H enc)
theorem card_holds : Rows.FnFitFirstCardSaid :=
  Claim7.holds_tied_plain_at .later [] [.data] true (true, "27ad93f67da15782714a4553ee5475b90bf0b144894fd36f2960d8983790489f") true over (fun _ h => by cases h) (by kernel_rfl) (fun _ h => by cases h) fnFitFirst_row_tie rfl ⟨rfl, rfl⟩ (by kernel_rfl) rfl
    (fun f fn hf hfn => by
      obtain rfl : f = 3 := Option.some.inj ((show Tryd.prog.funcNamed "pub-marram/laws.FnFitFirst" = some 3 by kernel_rfl).symm.trans hf) |>.symm
      obtain rfl : fn = Tryd.f3 := (Option.some.inj (Tryd.func3.symm.trans hfn)).symm
      exact ⟨by kernel_rfl, fun j t ht => by
        rw [Tryd.params3] at ht
        have hm : t ∈ [22, 3] := by simpa using Array.mem_of_getElem? ht
        have hall : ([22, 3].all fun u => !Tryd.prog.wantsStandIn u) = true := by kernel_rfl
        exact (show Tryd.prog.wantsStandIn t = false by simpa using List.all_eq_true.1 hall t hm)⟩)
    (by kernel_rfl)
end Go.Proofs.YtckjbgneblfceaaDoor.Ffi
