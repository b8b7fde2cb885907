/- The errors that have a name, where they were laid. -/
import Derived.Test.YtljcdjggjphedaaDoorHl
import Derived.LaidLaws
import Derived.Stop.LaidErr
namespace Go.Proofs.YtljcdjggjphedaaDoor.Hd
open Go.RowKit Go.ChangeShapes Go.Proofs.YtljcdjggjphedaaDoorW.PrintWords Go.Proofs.YtljcdjggjphedaaDoorW.PrintLast Go.Proofs.YtljcdjggjphedaaDoorW.PrintMore
set_option linter.unusedVariables false
set_option linter.unusedSimpArgs false
theorem star : "*" ++ "errors.errorString" = "*errors.errorString" := by decide
theorem row149 (u : TypeId) (h : Tryd.prog.typeName? 3 u = some "*errors.errorString") : u = 149 :=
  typeName_ptr_named (nm := "errors.errorString") (by rw [star]; kernel_rfl) (by kernel_rfl) (by decide) u (by rw [star]; exact h)
theorem cells151 : Tryd.prog.cellsOf 151 = 1 := by kernel_rfl
theorem cells9 : Tryd.prog.cellsOf 9 = 1 := by kernel_rfl
set_option maxRecDepth 100000 in
theorem laid_err {W : World} {n : String} {text : List UInt8} {r : List (String × DataW Unit)} {g : Nat} (h : laidMet Tryd.prog ((n, .iface "*errors.errorString" (.ptr (.agg [.lit (.string text)]))) :: r) W)
    (hg : Tryd.prog.globalNamed n = some g) (ht : (Tryd.prog.globals[g]?).map (·.type) = some 96) : ∃ (a : Addr) (s : ByteArray), W.cell? ⟨g, 0, none⟩ = some (.iface 149 (.pointer (some a))) ∧ W.cell? a = some (.string s) ∧ s.data.toList = text ∧ ∃ c t, W.heap[a.block]? = some (.cells c t (0, 0)) := by
  obtain ⟨ps, ⟨g0, t0, cs0, f0, p0, q0, hg0, ht0, hv0, hd0, _, e0⟩, _, hrows⟩ := h
  obtain rfl := Option.some.inj (hg.symm.trans hg0)
  obtain rfl := Option.some.inj (ht.symm.trans ht0)
  subst e0
  obtain ⟨l0⟩ := cs0
  have ok0 : ∀ u v, l0 = [.iface u v] → Value.okWide Tryd.prog W .any 0 u v := fun u v e => by
    subst e
    exact (hrows g 0 (by simp [MemPlace.row])).2 u v (by simpa using World.var?_cell hg0 hv0 0)
  obtain ⟨a0, s0, rfl, hc0, hs0, hz0, rfl⟩ := errorString_of_trod Tryd.underlying96 row149 Tryd.underlying149 Tryd.underlying151 rfl rfl Tryd.underlying9 cells151 cells9 hd0 ok0
  exact ⟨a0, s0, by simpa using World.var?_cell hg0 hv0 0, hc0, hs0, (hrows a0.block a0.off (by simp [MemPlace.row])).1⟩
def txt : Nat → List UInt8
  | 0 => [70, 105, 108, 101, 32, 105, 115, 32, 99, 108, 111, 115, 101, 100]
  | 1 => [69, 79, 70]
  | 2 => [117, 110, 101, 120, 112, 101, 99, 116, 101, 100, 32, 69, 79, 70]
  | 3 => [111, 117, 116, 32, 111, 102, 32, 114, 97, 110, 103, 101]
  | 4 => [102, 105, 108, 101, 32, 100, 111, 101, 115, 32, 110, 111, 116, 32, 101, 120, 105, 115, 116]
  | 5 => [102, 105, 108, 101, 32, 97, 108, 114, 101, 97, 100, 121, 32, 101, 120, 105, 115, 116, 115]
  | 6 => [110, 111, 116, 32, 97, 32, 100, 105, 114, 101, 99, 116, 111, 114, 121]
  | 7 => [110, 111, 32, 115, 117, 99, 104, 32, 102, 105, 108, 101, 32, 111, 114, 32, 100, 105, 114, 101, 99, 116, 111, 114, 121]
  | 8 => [111, 112, 101, 114, 97, 116, 105, 111, 110, 32, 110, 111, 116, 32, 112, 101, 114, 109, 105, 116, 116, 101, 100]
  | 9 => [102, 105, 108, 101, 32, 100, 101, 115, 99, 114, 105, 112, 116, 111, 114, 32, 105, 110, 32, 98, 97, 100, 32, 115, 116, 97, 116, 101]
  | _ => [105, 110, 112, 117, 116, 47, 111, 117, 116, 112, 117, 116, 32, 101, 114, 114, 111, 114]
theorem txt_inj : ∀ i, i < 11 → ∀ j, j < 11 → txt i = txt j → i = j := by decide
def errsL : List (String × DataW Unit) := [("pub-marram/pub/afero/inner/os.ErrExist", .iface "*errors.errorString" (.ptr (.agg [.lit (.string [102, 105, 108, 101, 32, 97, 108, 114, 101, 97, 100, 121, 32, 101, 120, 105, 115, 116, 115])]))), ("pub-marram/pub/afero/inner/os.ErrNotExist", .iface "*errors.errorString" (.ptr (.agg [.lit (.string [102, 105, 108, 101, 32, 100, 111, 101, 115, 32, 110, 111, 116, 32, 101, 120, 105, 115, 116])]))), ("pub-marram/pub/afero/inner/os.ENOENT", .iface "*errors.errorString" (.ptr (.agg [.lit (.string [110, 111, 32, 115, 117, 99, 104, 32, 102, 105, 108, 101, 32, 111, 114, 32, 100, 105, 114, 101, 99, 116, 111, 114, 121])]))), ("pub-marram/pub/afero/inner/os.ENOTDIR", .iface "*errors.errorString" (.ptr (.agg [.lit (.string [110, 111, 116, 32, 97, 32, 100, 105, 114, 101, 99, 116, 111, 114, 121])]))), ("pub-marram/pub/afero/inner/os.EPERM", .iface "*errors.errorString" (.ptr (.agg [.lit (.string [111, 112, 101, 114, 97, 116, 105, 111, 110, 32, 110, 111, 116, 32, 112, 101, 114, 109, 105, 116, 116, 101, 100])]))), ("pub-marram/pub/afero/inner/os.EIO", .iface "*errors.errorString" (.ptr (.agg [.lit (.string [105, 110, 112, 117, 116, 47, 111, 117, 116, 112, 117, 116, 32, 101, 114, 114, 111, 114])]))), ("pub-marram/pub/afero/inner/os.EBADFD", .iface "*errors.errorString" (.ptr (.agg [.lit (.string [102, 105, 108, 101, 32, 100, 101, 115, 99, 114, 105, 112, 116, 111, 114, 32, 105, 110, 32, 98, 97, 100, 32, 115, 116, 97, 116, 101])]))), ("io.EOF", .iface "*errors.errorString" (.ptr (.agg [.lit (.string [69, 79, 70])]))), ("io.ErrUnexpectedEOF", .iface "*errors.errorString" (.ptr (.agg [.lit (.string [117, 110, 101, 120, 112, 101, 99, 116, 101, 100, 32, 69, 79, 70])]))), ("pub-marram/pub/afero/mem.ErrFileClosed", .iface "*errors.errorString" (.ptr (.agg [.lit (.string [70, 105, 108, 101, 32, 105, 115, 32, 99, 108, 111, 115, 101, 100])]))), ("pub-marram/pub/afero/mem.ErrOutOfRange", .iface "*errors.errorString" (.ptr (.agg [.lit (.string [111, 117, 116, 32, 111, 102, 32, 114, 97, 110, 103, 101])])))]
set_option maxRecDepth 100000 in
theorem sent_of_laid {W : World} (h0 : laidMet Tryd.prog errsL W) : ∃ A, Sent A W := by
  obtain ⟨a5, s5, v5, c5, e5, b5⟩ := laid_err h0 (g := 5) (by kernel_rfl) (by kernel_rfl)
  have h1 := h0.tail
  obtain ⟨a4, s4, v4, c4, e4, b4⟩ := laid_err h1 (g := 4) (by kernel_rfl) (by kernel_rfl)
  have h2 := h1.tail
  obtain ⟨a7, s7, v7, c7, e7, b7⟩ := laid_err h2 (g := 7) (by kernel_rfl) (by kernel_rfl)
  have h3 := h2.tail
  obtain ⟨a6, s6, v6, c6, e6, b6⟩ := laid_err h3 (g := 6) (by kernel_rfl) (by kernel_rfl)
  have h4 := h3.tail
  obtain ⟨a8, s8, v8, c8, e8, b8⟩ := laid_err h4 (g := 8) (by kernel_rfl) (by kernel_rfl)
  have h5 := h4.tail
  obtain ⟨a10, s10, v10, c10, e10, b10⟩ := laid_err h5 (g := 10) (by kernel_rfl) (by kernel_rfl)
  have h6 := h5.tail
  obtain ⟨a9, s9, v9, c9, e9, b9⟩ := laid_err h6 (g := 9) (by kernel_rfl) (by kernel_rfl)
  have h7 := h6.tail
  obtain ⟨a1, s1, v1, c1, e1, b1⟩ := laid_err h7 (g := 1) (by kernel_rfl) (by kernel_rfl)
  have h8 := h7.tail
  obtain ⟨a2, s2, v2, c2, e2, b2⟩ := laid_err h8 (g := 2) (by kernel_rfl) (by kernel_rfl)
  have h9 := h8.tail
  obtain ⟨a0, s0, v0, c0, e0, b0⟩ := laid_err h9 (g := 0) (by kernel_rfl) (by kernel_rfl)
  have h10 := h9.tail
  obtain ⟨a3, s3, v3, c3, e3, b3⟩ := laid_err h10 (g := 3) (by kernel_rfl) (by kernel_rfl)
  let A : Nat → Addr := fun k => match k with | 0 => a0 | 1 => a1 | 2 => a2 | 3 => a3 | 4 => a4 | 5 => a5 | 6 => a6 | 7 => a7 | 8 => a8 | 9 => a9 | _ => a10
  have key : ∀ k, k < 11 → ∃ s, W.cell? (A k) = some (.string s) ∧ s.data.toList = txt k := by
    intro k hk
    match k, hk with
    | 0, _ => exact ⟨s0, c0, e0⟩
    | 1, _ => exact ⟨s1, c1, e1⟩
    | 2, _ => exact ⟨s2, c2, e2⟩
    | 3, _ => exact ⟨s3, c3, e3⟩
    | 4, _ => exact ⟨s4, c4, e4⟩
    | 5, _ => exact ⟨s5, c5, e5⟩
    | 6, _ => exact ⟨s6, c6, e6⟩
    | 7, _ => exact ⟨s7, c7, e7⟩
    | 8, _ => exact ⟨s8, c8, e8⟩
    | 9, _ => exact ⟨s9, c9, e9⟩
    | 10, _ => exact ⟨s10, c10, e10⟩
  refine ⟨A, fun k hk => ?_, fun k hk => ?_, fun i j hi hj hne e => ?_⟩
  · match k, hk with
    | 0, _ => exact v0
    | 1, _ => exact v1
    | 2, _ => exact v2
    | 3, _ => exact v3
    | 4, _ => exact v4
    | 5, _ => exact v5
    | 6, _ => exact v6
    | 7, _ => exact v7
    | 8, _ => exact v8
    | 9, _ => exact v9
    | 10, _ => exact v10
  · match k, hk with
    | 0, _ => exact b0
    | 1, _ => exact b1
    | 2, _ => exact b2
    | 3, _ => exact b3
    | 4, _ => exact b4
    | 5, _ => exact b5
    | 6, _ => exact b6
    | 7, _ => exact b7
    | 8, _ => exact b8
    | 9, _ => exact b9
    | 10, _ => exact b10
  · obtain ⟨si, ci, ti⟩ := key i hi
    obtain ⟨sj, cj, tj⟩ := key j hj
    rw [e, cj] at ci
    injection ci with ci
    injection ci with ci
    subst ci
    exact hne (txt_inj i hi j hj (ti.symm.trans tj))
end Go.Proofs.YtljcdjggjphedaaDoor.Hd
