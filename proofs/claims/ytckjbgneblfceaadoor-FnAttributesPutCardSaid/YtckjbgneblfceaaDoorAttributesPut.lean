/- Proved: for all attributes, sizes and offsets FnAttributesPut answers true: attributes are laid into bytes as the reference lays them, and are read again as they were, by their names; they cannot be laid where they and four bytes more do not fit. The prefixes' table reads as the program's text lays it (the card ties it). -/
import Derived.Deep.Slices
import Derived.Deep.Fields
import Derived.ChangeSame
import Derived.ChangeArms
import Derived.Test.YtckjbgneblfceaaDoorUA
import Derived.Test.YtckjbgneblfceaaDoorRows
import Derived.Test.YtckjbgneblfceaaDoorAdapter
import Derived.Test.YtckjbgneblfceaaDoorCards
import Derived.Test.YtckjbgneblfceaaDoorTie
import Derived.SevenTiedAt
import Derived.OpenShut
import Derived.ChangeSlices
import Derived.Lib.SmallJoins
import Derived.Laws.Rows
import Derived.Test.YtckjbgneblfceaaDoorUG
namespace Go.Proofs.YtckjbgneblfceaaDoor.Og
open Go.RowKit Go.ChangeShapes Go.WideShapes Go.Deep Go.Proofs.YtckjbgneblfceaaDoorW.PrintWords
set_option linter.unusedVariables false
/-- What the reader takes for a value of type t is one of kind d. -/
def Opens {α : Type} (P : Program) (t : TypeId) (d : Kd α) : Prop :=
  ∀ {H : Type} {enc : TypeId × Value → H} {w : World} {base : Nat} {spare : Nat → Bool} {held : Bool} {n : Nat} {cs : List Value} {y : DataW H × List MemPlace}, DataW.trod enc P w base spare held n t cs = some y → ∃ x, d.K w x cs
variable {P : Program}
theorem opens_string {t : TypeId} (ht : P.underlying t = some .string) : Opens P t Kd.string := fun h => by
  obtain ⟨n, rfl, _⟩ := DataW.trod_string ht h
  exact ⟨n, rfl⟩
theorem choose_row {α : Type} {Q : Nat → α → Prop} : ∀ n : Nat, (∀ i, i < n → ∃ x, Q i x) → ∃ xs : List α, xs.length = n ∧ ∀ i x, xs[i]? = some x → Q i x
  | 0, _ => ⟨[], rfl, fun i x h => by simp at h⟩
  | n + 1, h => by
    obtain ⟨xs, hl, hx⟩ := choose_row n (fun i hi => h i (by omega))
    obtain ⟨y, hy⟩ := h n (by omega)
    refine ⟨xs ++ [y], by simp [hl], fun i x hi => ?_⟩
    by_cases hin : i < n
    · rw [List.getElem?_append_left (by omega)] at hi
      exact hx i x hi
    · rw [List.getElem?_append_right (by omega), hl] at hi
      have : i - n = 0 := by
        rcases Nat.eq_zero_or_pos (i - n) with e | e
        · exact e
        · rw [List.getElem?_eq_none (by simp; omega)] at hi; cases hi
      rw [this] at hi
      simp at hi
      subst hi
      have : i = n := by omega
      subst this
      exact hy
theorem opens_row {α : Type} {t e : TypeId} {d : Kd α} (ht : P.underlying t = some (.slice e)) (hC : P.cellsOf e = d.sz) (he : Opens P e d) {H : Type} {enc : TypeId × Value → H} {w : World} {base : Nat} {spare : Nat → Bool} {held : Bool} {n : Nat} {cs : List Value} {y : DataW H × List MemPlace} (h : DataW.trod enc P w base spare held n t cs = some y) :
    ∃ A m c xs, cs = [.slice A m c] ∧ m ≤ c ∧ d.C w A m xs := by
  rcases open_slice ht h with ⟨rfl, _⟩ | ⟨a, len, cap, m, n, D, Pl, rfl, hb, hl, hm, hmm, hx, hi⟩
  · exact ⟨none, 0, 0, [], rfl, Nat.le_refl _, Kd.C_nil _ _⟩
  · have hlm : len ≤ m := by rw [hmm]; split <;> omega
    obtain ⟨xs, hxl, hxs⟩ := choose_row (Q := fun i x => ∃ c, d.K w x c ∧ c.length = d.sz ∧ ∀ j u, c[j]? = some u → w.cell? (a.add (i * d.sz + j)) = some u) len (fun i hil => by
      obtain ⟨cs', hc, ht'⟩ := hi i (by omega)
      obtain ⟨x, hK⟩ := he ht'
      refine ⟨x, cs', hK, d.K_len hK, fun j u hj => ?_⟩
      obtain ⟨_, hcl, hat⟩ := World.cells?_some hc
      have hjl : j < cs'.length := (List.getElem?_eq_some_iff.1 hj).1
      have := hat j (by omega)
      rw [hC] at this
      rw [← Go.Deep.add_add, this, hj])
    refine ⟨some a, len, cap, xs, rfl, hl, hxl, by unfold maxLen at hm; omega, fun _ => ⟨a, rfl, fun j p hj => ?_⟩⟩
    obtain ⟨c, hK, hcl, hcell⟩ := hxs j p hj
    exact ⟨c, hcl, hK, hcell⟩
/-- The fields of a struct of one cell each. -/
theorem opens_fields {t : TypeId} {fs : Array Field} (ht : P.underlying t = some (.struct fs)) (hone : oneCellFields P fs = true) (hC : P.cellsOf t = fs.size) {H : Type} {enc : TypeId × Value → H} {w : World} {base : Nat} {spare : Nat → Bool} {held : Bool} {n : Nat} {cs : List Value} {y : DataW H × List MemPlace} (h : DataW.trod enc P w base spare held n t cs = some y) :
    cs.length = fs.size ∧ ∀ (j : Nat) (f : Field), fs[j]? = some f → ∃ v y n', cs[j]? = some v ∧ DataW.trod enc P w base spare held n' f.type [v] = some y := by
  obtain ⟨ys, n', hn', hy, hlen, hyl, hf⟩ := DataW.trod_struct ht h
  refine ⟨by omega, fun j f hj => ?_⟩
  obtain ⟨ho, hk⟩ := hone_of hone j f hj
  have hjl : j < fs.size := (Array.getElem?_eq_some_iff.1 hj).1
  have hv : cs[j]? = some (cs[j]'(by omega)) := List.getElem?_eq_getElem (by omega)
  have h1 := hf j f hj
  rw [ho, hk] at h1
  have hone' : (cs.drop j).take 1 = [cs[j]'(by omega)] := by
    rw [List.drop_eq_getElem_cons (by omega)]
    rfl
  rw [hone'] at h1
  have hys : ys[j]? = some (ys[j]'(by omega)) := List.getElem?_eq_getElem (by omega)
  exact ⟨_, _, _, hv, h1.trans hys⟩
end Go.Proofs.YtckjbgneblfceaaDoor.Og
namespace Go.Proofs.YtckjbgneblfceaaDoor.Apu
open Go.RowKit Go.Proofs.YtckjbgneblfceaaDoorW.PrintWords Go.Proofs.YtckjbgneblfceaaDoorW.PrintLast Go.Proofs.YtckjbgneblfceaaDoorW.PrintMore Go.Proofs.YtckjbgneblfceaaDoor.PFnFitFirst Go.Proofs.YtckjbgneblfceaaDoor.Fa Go.Proofs.YtckjbgneblfceaaDoor.At Go.Proofs.YtckjbgneblfceaaDoor.Da
set_option linter.unusedVariables false
set_option linter.unusedSimpArgs false
set_option maxRecDepth 100000
open Go.ChangeShapes Go.WideShapes
/-- A kind whose things are as told. -/
def sub {α : Type} (d : Kd α) (p : α → Prop) : Kd α where
  sz := d.sz
  E := d.E
  K := fun w x cs => d.K w x cs ∧ p x
  M := fun w b ok x cs => d.M w b ok x cs ∧ p x
  K_len := fun h => d.K_len h.1
  K_one := fun h => d.K_one h.1
  K_below := fun hb h => ⟨d.K_below hb h.1, h.2⟩
  K_of_M := fun h => ⟨d.K_of_M h.1, h.2⟩
  M_mono := fun hk h => ⟨d.M_mono hk h.1, h.2⟩
  M_bound := fun h => ⟨d.M_bound h.1, h.2⟩
  M_move := fun hm h => ⟨d.M_move hm h.1, h.2⟩
  M_lower := fun hb h => ⟨d.M_lower hb h.1, h.2⟩
theorem sub_all {α : Type} {d : Kd α} {p : α → Prop} {w : World} {A : Option Addr} {n : Nat} {l : List α} (z : α) (h : (sub d p).C w A n l) : ∀ x ∈ l, p x := by
  intro x hx
  obtain ⟨i, hi⟩ := List.getElem?_of_mem hx
  have hl : l.length = n := Kd.C_len h
  have hlt := (List.getElem?_eq_some_iff.1 hi).1
  obtain ⟨ad, c, _, _, hK, _⟩ := Kd.C_get h z (i : Int) (by omega) (by omega)
  rw [Int.toNat_natCast, List.getD_eq_getElem?_getD, hi] at hK
  exact hK.2
theorem sub_plain {α : Type} {d : Kd α} {p : α → Prop} {w : World} {A : Option Addr} {n : Nat} {l : List α} (h : (sub d p).C w A n l) : d.C w A n l := Kd.C_imp (d := sub d p) (d' := d) rfl (fun _ _ _ hh => hh.1) h
def inB (x : Int) : Prop := 0 ≤ x ∧ x < 256
theorem opens5 : Og.Opens Tryd.prog 5 (sub (Kd.int .u8) inB) := fun h => by
  obtain ⟨n, rfl, _, hw⟩ := DataW.trod_int Tryd.underlying5 h
  have : 0 ≤ n ∧ n ≤ 255 := by simpa [Lit.wf, IntKind.min, IntKind.max, IntKind.bits, IntKind.signed] using hw
  exact ⟨n, rfl, by unfold inB; omega⟩
theorem opens58 : Og.Opens Tryd.prog 58 (sub k58 fun x => InBytes x.f1) := fun {H enc w base spare held n cs y} h => by
  obtain ⟨hl, hf⟩ := Og.opens_fields Tryd.underlying58 (by kernel_rfl) (by kernel_rfl) h
  match cs, hl with
  | [c0, c1], _ =>
    obtain ⟨v0, y0, n0, e0, t0⟩ := hf 0 _ rfl
    obtain rfl : c0 = v0 := Option.some.inj e0
    obtain ⟨x0, k0⟩ := Og.opens_string Tryd.underlying9 t0
    have k0' := (List.cons.inj k0).1
    subst k0'
    obtain ⟨v1, y1, n1, e1, t1⟩ := hf 1 _ rfl
    obtain rfl : c1 = v1 := Option.some.inj e1
    obtain ⟨A1, m1, d1, x1, z1, l1, g1⟩ := Og.opens_row Tryd.underlying33 (by kernel_rfl) opens5 t1
    have z1' := (List.cons.inj z1).1
    subst z1'
    have q1 := g1.1
    subst q1
    exact ⟨⟨x0, x1⟩, k58_mk w ⟨x0, x1⟩ l1 (sub_plain g1), sub_all 0 g1⟩
theorem gl : Tryd.prog.globalNamed "pub-marram/pub/hcsshim/ext4/inner/compactext4.xattrPrefixes" = some 4 := by kernel_rfl
theorem glType : (Tryd.prog.globals[4]?).map (·.type) = some 147 := by kernel_rfl
theorem c29 : Tryd.prog.cellsOf 147 = 14 := by kernel_rfl
theorem c28 : Tryd.prog.cellsOf 146 = 2 := by kernel_rfl
theorem c5 : Tryd.prog.cellsOf 5 = 1 := by kernel_rfl
theorem c9 : Tryd.prog.cellsOf 9 = 1 := by kernel_rfl
theorem str_of (s : ByteArray) (l : List UInt8) (h : s.data.toList = l) : s = ⟨l.toArray⟩ := by
  subst h; cases s; simp
theorem pairAt {H : Type} {enc : TypeId × Value → H} {W : World} {base : Nat} {sp : Nat → Bool} {held : Bool} {fuel : Nat} {l : List Value} {y : DataW H × List MemPlace} {a : Int} {b : List UInt8}
    (h : DataW.trod enc Tryd.prog W base sp held fuel 146 l = some y) (hy : y.1 = .agg [.lit (.int .u8 a), .lit (.string b)]) : l = [.int .u8 a, .string ⟨b.toArray⟩] := by
  obtain ⟨y0, y1, n, rfl, hl, h0, h1⟩ := trod_struct2 Tryd.underlying146 h
  rw [c28] at hl
  match l, hl with
  | [u, v], _ =>
    have h0' : DataW.trod enc Tryd.prog W base sp held n 5 [u] = some y0 := by simpa [c5] using h0
    have h1' : DataW.trod enc Tryd.prog W base sp held n 9 [v] = some y1 := by simpa [c9] using h1
    obtain ⟨x, e0, rfl, _⟩ := DataW.trod_int Tryd.underlying5 h0'
    obtain ⟨s, e1, rfl, _⟩ := DataW.trod_string Tryd.underlying9 h1'
    simp only [List.cons.injEq, and_true] at e0 e1
    subst e0 e1
    simp at hy
    obtain ⟨rfl, hb⟩ := hy
    rw [str_of s b hb]
theorem block4 {W : World} (h : laidMet Tryd.prog [("pub-marram/pub/hcsshim/ext4/inner/compactext4.xattrPrefixes", Rows.laid_pub_marram_pub_hcsshim_ext4_inner_compactext4_xattrPrefixes)] W) : ∃ t fr, W.heap[4]? = some (.cells cells14 t fr) := by
  obtain ⟨ps, ⟨g, t, cs, fuel, p, q, hg, ht, hvar, hd, _, _⟩, _⟩ := h
  obtain rfl := Option.some.inj (gl.symm.trans hg)
  obtain rfl := Option.some.inj (glType.symm.trans ht)
  have hcs : ∃ t fr, W.heap[4]? = some (.cells cs t fr) := by
    unfold World.var? at hvar
    rw [gl] at hvar
    simp only [Option.bind_some] at hvar
    split at hvar
    · rename_i c t fr e
      obtain rfl := Option.some.inj hvar
      exact ⟨t, fr, e⟩
    · cases hvar
  obtain ⟨t, fr, hc⟩ := hcs
  refine ⟨t, fr, ?_⟩
  rw [hc]
  congr 2
  obtain ⟨xs, m, _, hx, hl, hn, hi⟩ := DataW.trod_array Tryd.underlying147 hd
  rw [c29] at hl
  rw [c28] at hi
  simp only [Prod.mk.injEq] at hx
  obtain ⟨hx, _⟩ := hx
  unfold Rows.laid_pub_marram_pub_hcsshim_ext4_inner_compactext4_xattrPrefixes at hx
  have hx := DataW.agg.inj hx
  match xs, hn with
  | [y0, y1, y2, y3, y4, y5, y6], _ =>
    simp only [List.map_cons, List.map_nil, List.cons.injEq, and_true] at hx
    obtain ⟨e0, e1, e2, e3, e4, e5, e6⟩ := hx
    obtain ⟨l⟩ := cs
    have k0 := pairAt (hi 0 (by omega)) e0.symm
    have k1 := pairAt (hi 1 (by omega)) e1.symm
    have k2 := pairAt (hi 2 (by omega)) e2.symm
    have k3 := pairAt (hi 3 (by omega)) e3.symm
    have k4 := pairAt (hi 4 (by omega)) e4.symm
    have k5 := pairAt (hi 5 (by omega)) e5.symm
    have k6 := pairAt (hi 6 (by omega)) e6.symm
    match l, hl with
    | [a0, a1, a2, a3, a4, a5, a6, a7, a8, a9, a10, a11, a12, a13], _ =>
      simp only [Nat.zero_mul, Nat.one_mul, Nat.reduceMul, List.drop_zero, List.drop_succ_cons, List.take_succ_cons, List.take_zero, List.cons.injEq, and_true] at k0 k1 k2 k3 k4 k5 k6
      obtain ⟨rfl, rfl⟩ := k0
      obtain ⟨rfl, rfl⟩ := k1
      obtain ⟨rfl, rfl⟩ := k2
      obtain ⟨rfl, rfl⟩ := k3
      obtain ⟨rfl, rfl⟩ := k4
      obtain ⟨rfl, rfl⟩ := k5
      obtain ⟨rfl, rfl⟩ := k6
      rfl
open Go.ChangeShapes Go.WideShapes Go.ChangeAt
theorem own : ownKnob Tryd.prog.godebug = none := by kernel_rfl
theorem laidOut : laidOutB Tryd.prog = true := by kernel_rfl
theorem readable6 : ∀ t ∈ Tryd.f6.params.toList, Tryd.prog.readableRec t = true ∧ t < Tryd.prog.types.size := by
  have h : (Tryd.f6.params.toList.all fun t => Tryd.prog.readableRec t && decide (t < Tryd.prog.types.size)) = true := by kernel_rfl
  intro t ht
  have := List.all_eq_true.1 h t ht
  simpa using this
def laidL : List (String × DataW Unit) := [("pub-marram/pub/hcsshim/ext4/inner/compactext4.xattrPrefixes", Rows.laid_pub_marram_pub_hcsshim_ext4_inner_compactext4_xattrPrefixes)]
set_option maxRecDepth 100000 in
theorem lifted (os : Os) (started : os.Started) (H : Type) (enc : TypeId × Value → H) :
    ReturnsInHanded {} Tryd.checked os 6 .any (fun w args => (Rows.fnAttributesPutSpec.pre enc Tryd.prog Tryd.f6 Rows.fnAttributesPutRow.domain false w args ∧ laidMetH Tryd.prog laidL w) ∧ sizedMet enc Tryd.prog Tryd.f6 (OpenSpec.ofChange Rows.fnAttributesPutSpec) false w args) (Rows.fnAttributesPutSpec.post enc Tryd.prog Tryd.f6 false true false false) := by
  refine Adapter.law_lifted_tied (C := Tryd.checked) (X := fun w => laidMetH Tryd.prog laidL w) (fun _ _ hh h => h.of_heap hh) own started (by kernel_rfl) Tryd.func6
    (ChangeSpec.witness_shaped (enc := enc) (C := Tryd.checked) (os := os) (X := fun w _ => laidMetH Tryd.prog laidL w) false (World.laidAll Tryd.prog os laidL) #[.slice none 0 0, .int .i64 0, .int .u16 0] 8 (World.laidAll_os _ _ _)
      (World.shaped_of_ZipB (by kernel_rfl) (by kernel_rfl)) (by kernel_rfl) (by kernel_rfl) (by kernel_rfl)
      (by rw [MakeChecks.laidMetH_plain _ _ _ (by kernel_rfl)]; exact laidMet_laidAll _ (by kernel_rfl) (by kernel_rfl)))
    laidOut readable6 (tb := 4) (by kernel_rfl) (by kernel_rfl) rfl ?_ ?_
  · intro ds hds
    rw [show Tryd.f6.params.size = 3 from by kernel_rfl] at hds
    match ds, hds with
    | [d1, d2, d3], _ => rfl
  · intro W base args ds p hval hA _ _ hL0
    have hL : laidMet Tryd.prog laidL W := by rw [MakeChecks.laidMetH_plain _ _ _ (by kernel_rfl)] at hL0; exact hL0
    rw [Tryd.params6] at hA hval
    obtain ⟨v0, vs0, d0, ds0, p0, q0, hargs, rfl, rfl, h0, r0⟩ := trodAll_cons hA
    obtain ⟨v1, vs1, d1, ds1, p1, q1, rfl, rfl, rfl, h1, r1⟩ := trodAll_cons r0
    obtain ⟨v2, vs2, d2, ds2, p2, q2, rfl, rfl, rfl, h2, r2⟩ := trodAll_cons r1
    obtain ⟨rfl, rfl, rfl⟩ := trodAll_nil r2
    obtain rfl : args = #[v0, v1, v2] := by cases args; simp_all
    obtain ⟨l0, A0, n0, c0, rfl, hC0, hn0⟩ : ∃ l A n c, v0 = .slice A n c ∧ Kd.C (sub k58 fun x => InBytes x.f1) W A n l ∧ n ≤ c := by
      obtain ⟨a0, len, cap, rfl⟩ := okWide_slice Tryd.underlying22 (hval 0 22 v0 rfl rfl)
      obtain ⟨fuel, hf⟩ := h0
      obtain ⟨A, m, c, l, hcs, hl, hC⟩ := Og.opens_row Tryd.underlying22 (by kernel_rfl) (opens58) hf
      simp [Value.cells] at hcs
      obtain ⟨rfl, rfl, rfl⟩ := hcs
      exact ⟨l, _, _, _, rfl, hC, hl⟩
    obtain ⟨x1, rfl, rfl, rfl, wx1⟩ := open_int Tryd.underlying3 (hval 1 3 v1 rfl rfl) h1
    obtain ⟨x2, rfl, rfl, rfl, wx2⟩ := open_int Tryd.underlying46 (hval 2 46 v2 rfl rfl) h2
    have bi : -9223372036854775808 ≤ x1 ∧ x1 ≤ 9223372036854775807 := by simpa [Lit.wf, IntKind.min, IntKind.max, IntKind.bits, IntKind.signed] using wx1
    have bj : 0 ≤ x2 ∧ x2 ≤ 65535 := by simpa [Lit.wf, IntKind.min, IntKind.max, IntKind.bits, IntKind.signed] using wx2
    obtain ⟨t, fr, hg⟩ := block4 hL
    exact law6 W t fr hg l0 A0 n0 c0 x1 x2 (sub_plain hC0) hn0 (sub_all z58 hC0) bi.1 bi.2 bj.1 bj.2
theorem over : Rows.fnAttributesPutRow.holds Tryd.pinned (OpenSpec.ofChange Rows.fnAttributesPutSpec) :=
  OpenClaim.holds_of_wide 6 Tryd.f6 rfl rfl rfl rfl rfl rfl rfl ⟨rfl, rfl, rfl, rfl, rfl⟩ rfl rfl rfl rfl rfl (by kernel_rfl) Tryd.func6 (by kernel_rfl)
    (of_decide_eq_true (by kernel_rfl)) (by unfold Func.isWrapper; first | (rw [if_pos (by decide +kernel)]; kernel_rfl) | (rw [if_neg (by decide +kernel)]; exact ⟨rfl, rfl⟩))
    (fun os started H enc _ => lifted os started H enc)
theorem card_holds : Rows.FnAttributesPutCardSaid :=
  Claim7.holds_tied_plain_at .later [] [.data] true (true, "27ad93f67da15782714a4553ee5475b90bf0b144894fd36f2960d8983790489f") true over (fun _ h => by cases h) (by kernel_rfl) (fun _ h => by cases h) fnAttributesPut_row_tie rfl ⟨rfl, rfl⟩ (by kernel_rfl) rfl
    (fun f fn hf hfn => by
      obtain rfl : f = 6 := Option.some.inj ((show Tryd.prog.funcNamed "pub-marram/laws.FnAttributesPut" = some 6 by kernel_rfl).symm.trans hf) |>.symm
      obtain rfl : fn = Tryd.f6 := (Option.some.inj (Tryd.func6.symm.trans hfn)).symm
      exact ⟨by kernel_rfl, fun j t ht => by
        rw [Tryd.params6] at ht
        have hm : t ∈ [22, 3, 46] := by simpa using Array.mem_of_getElem? ht
        have hall : ([22, 3, 46].all fun u => !Tryd.prog.wantsStandIn u) = true := by kernel_rfl
        exact (show Tryd.prog.wantsStandIn t = false by simpa using List.all_eq_true.1 hall t hm)⟩)
    (by kernel_rfl)
end Go.Proofs.YtckjbgneblfceaaDoor.Apu
