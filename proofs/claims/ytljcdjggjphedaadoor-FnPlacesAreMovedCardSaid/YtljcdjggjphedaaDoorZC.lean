/- A part of the proof that FnHandleScript answers true for every file and all steps. -/
import Derived.Test.YtljcdjggjphedaaDoorZB
import Derived.IntWalk
import Derived.LaidLaws
import Derived.Stop.LaidErr
import Derived.Deep.QuietTactic
import Derived.BigQuiet
import Derived.Deep.Slices
import Derived.Deep.Fields
import Derived.ChangeSame
import Derived.ChangeArms
import Derived.Test.YtljcdjggjphedaaDoorZA
namespace Go.Proofs.YtljcdjggjphedaaDoor.Hd
open Go.RowKit Go.Proofs.YtljcdjggjphedaaDoorW.PrintWords Go.Proofs.YtljcdjggjphedaaDoorW.PrintLast Go.Proofs.YtljcdjggjphedaaDoorW.PrintMore
open Go.Proofs.YtljcdjggjphedaaDoor.PFnHandleScript
set_option linter.unusedVariables false
set_option linter.unusedSimpArgs false
section
variable {A : Nat → Addr} {h : Hnd} {n : Nod} {data : List Int} {s : S26}
theorem does_trunc (k : Nat) (hop : s.f0 = 17) (ho : s.f7 = k) (hcl : h.cl = false) (hro : h.ro = false) (hk : k ≤ 10000000) (hl : data.length ≤ 10000000) : Does A h n data s (ans 0 0 0 []) h { n with tm := 0 } (cutTo data k) := by
  intro f d base v W F hS hf hd Ad cd hC hc
  rw [hop]
  exact on_trunc F s.f7 s.f8 s.f9 s.f1 s.f2 s.f3 s.f4 s.f5 Ad s.f6.length cd A hS hf hd k hcl hro hk hl ho
theorem does_truncr (hop : s.f0 = 17) (hcl : h.cl = false) (hro : h.ro = true) : Does A h n data s (ans 6 0 0 []) h n data := by
  intro f d base v W F hS hf hd Ad cd hC hc
  rw [hop]
  exact on_truncr F s.f7 s.f8 s.f9 s.f1 s.f2 s.f3 s.f4 s.f5 Ad s.f6.length cd A hS hf hd hcl hro
theorem does_truncn (hop : s.f0 = 17) (hcl : h.cl = false) (hro : h.ro = false) (ho : s.f7 < 0) : Does A h n data s (ans 7 0 0 []) h n data := by
  intro f d base v W F hS hf hd Ad cd hC hc
  rw [hop]
  exact on_truncn F s.f7 s.f8 s.f9 s.f1 s.f2 s.f3 s.f4 s.f5 Ad s.f6.length cd A hS hf hd hcl hro ho
theorem does_truncc (hop : s.f0 = 17) (hcl : h.cl = true) : Does A h n data s (ans 3 0 0 []) h n data := by
  intro f d base v W F hS hf hd Ad cd hC hc
  rw [hop]
  exact on_truncc F s.f7 s.f8 s.f9 s.f1 s.f2 s.f3 s.f4 s.f5 Ad s.f6.length cd A hS hf hd hcl
theorem does_seek (hop : s.f0 = 16) (hcl : h.cl = false) (hp1 : -4611686018427387904 ≤ h.pos) (hp2 : h.pos ≤ 4611686018427387904) (ho1 : -4611686018427387904 ≤ s.f7) (ho2 : s.f7 ≤ 4611686018427387903) (hl : data.length ≤ 4611686018427387904) :
    Does A h n data s (ans 0 0 (seekTo h.pos data.length s.f7 s.f8) []) { h with pos := seekTo h.pos data.length s.f7 s.f8 } n data := by
  intro f d base v W F hS hf hd Ad cd hC hc
  rw [hop]
  exact on_seek F s.f7 s.f8 s.f9 s.f1 s.f2 s.f3 s.f4 s.f5 Ad s.f6.length cd hcl hp1 hp2 ho1 ho2 hl
theorem does_seekc (hop : s.f0 = 16) (hcl : h.cl = true) : Does A h n data s (ans 3 0 0 []) h n data := by
  intro f d base v W F hS hf hd Ad cd hC hc
  rw [hop]
  exact on_seekc F s.f7 s.f8 s.f9 s.f1 s.f2 s.f3 s.f4 s.f5 Ad s.f6.length cd A hS hf hd hcl
theorem does_close (hop : s.f0 = 18) : Does A h n data s (ans 0 0 0 []) { h with cl := true } { n with tm := if h.ro then n.tm else 0 } data := by
  intro f d base v W F hS hf hd Ad cd hC hc
  rw [hop]
  exact on_close F s.f7 s.f8 s.f9 s.f1 s.f2 s.f3 s.f4 s.f5 Ad s.f6.length cd A hS hf hd
theorem does_write (p : Nat) (hop : s.f0 = 14) (hcl : h.cl = false) (hro : h.ro = false) (hp : h.pos = p) (hpm : p ≤ 10000000) (hm : s.f6.length ≤ 10000000) (hl : data.length ≤ 10000000) :
    Does A h n data s (ans 0 s.f6.length 0 []) { h with pos := (p : Int) + s.f6.length } { n with tm := 0 } (overB data p s.f6) := by
  intro f d base v W F hS hf hd Ad cd hC hc
  rw [hop]
  exact on_write_any F _ _ _ s.f6.length 0 s.f7 Ad s.f6.length cd hC hm (write_o F hf s.f6.length p hcl hro hp hpm hm hl) s.f8 s.f9 s.f1 s.f2 s.f3 s.f4 s.f5
theorem does_writec (hop : s.f0 = 14) (hcl : h.cl = true) (hm : s.f6.length ≤ 10000000) : Does A h n data s (ans 3 0 0 []) h n data := by
  intro f d base v W F hS hf hd Ad cd hC hc
  rw [hop]
  exact on_write_any F _ _ _ 0 3 s.f7 Ad s.f6.length cd hC hm (write_c F hS hf hd s.f6.length hcl) s.f8 s.f9 s.f1 s.f2 s.f3 s.f4 s.f5
theorem does_writer (hop : s.f0 = 14) (hcl : h.cl = false) (hro : h.ro = true) (hm : s.f6.length ≤ 10000000) : Does A h n data s (ans 6 0 0 []) h n data := by
  intro f d base v W F hS hf hd Ad cd hC hc
  rw [hop]
  exact on_write_any F _ _ _ 0 6 s.f7 Ad s.f6.length cd hC hm (write_r F hS hf hd s.f6.length hcl hro) s.f8 s.f9 s.f1 s.f2 s.f3 s.f4 s.f5
theorem does_writeat (p : Nat) (hop : s.f0 = 15) (hcl : h.cl = false) (hro : h.ro = false) (hp : s.f7 = p) (hpm : p ≤ 10000000) (hm : s.f6.length ≤ 10000000) (hl : data.length ≤ 10000000) :
    Does A h n data s (ans 0 s.f6.length 0 []) { h with pos := (p : Int) + s.f6.length } { n with tm := 0 } (overB data p s.f6) := by
  intro f d base v W F hS hf hd Ad cd hC hc
  rw [hop]
  exact on_writeat_any F _ _ _ s.f6.length 0 s.f7 Ad s.f6.length cd hC hm (writeat_of F hf s.f7 (fun W0 F0 hM hs => write_o F0 hf s.f6.length p hcl hro hp hpm hm hl)) s.f8 s.f9 s.f1 s.f2 s.f3 s.f4 s.f5
end
theorem SentB.of {A : Nat → Addr} {W : World} (h : Sent A W) : SentB A W.heap.size W := by
  refine ⟨h, ?_, fun k hk => ?_⟩
  · have := h.var 10 (by omega)
    rcases Nat.lt_or_ge 10 W.heap.size with hc | hc
    · exact hc
    · have hn : W.heap[10]? = none := Array.getElem?_eq_none hc
      simp [World.cell?, hn] at this
  · obtain ⟨c, t, e⟩ := h.blk k hk
    exact blk_lt e
end Go.Proofs.YtljcdjggjphedaaDoor.Hd
namespace Go.Proofs.YtljcdjggjphedaaDoor.Hd
open Go.RowKit Go.ChangeShapes Go.Proofs.YtljcdjggjphedaaDoorW.PrintWords Go.Proofs.YtljcdjggjphedaaDoorW.PrintLast Go.Proofs.YtljcdjggjphedaaDoorW.PrintMore
set_option linter.unusedVariables false
set_option linter.unusedSimpArgs false
theorem star : "*" ++ "errors.errorString" = "*errors.errorString" := by decide
theorem row149 (u : TypeId) (h : Tryd.prog.typeName? 3 u = some "*errors.errorString") : u = 149 :=
  typeName_ptr_named (nm := "errors.errorString") (by rw [star]; kernel_rfl) (by kernel_rfl) (by decide) u (by rw [star]; exact h)
theorem cells151 : Tryd.prog.cellsOf 151 = 1 := by kernel_rfl
theorem cells9 : Tryd.prog.cellsOf 9 = 1 := by kernel_rfl
set_option maxRecDepth 100000 in
theorem laid_err {W : World} {n : String} {text : List UInt8} {r : List (String × DataW Unit)} {g : Nat} (h : laidMet Tryd.prog ((n, .iface "*errors.errorString" (.ptr (.agg [.lit (.string text)]))) :: r) W)
    (hg : Tryd.prog.globalNamed n = some g) (ht : (Tryd.prog.globals[g]?).map (·.type) = some 96) : ∃ (a : Addr) (s : ByteArray), W.cell? ⟨g, 0, none⟩ = some (.iface 149 (.pointer (some a))) ∧ W.cell? a = some (.string s) ∧ s.data.toList = text ∧ ∃ c t, W.heap[a.block]? = some (.cells c t (0, 0)) := by
  obtain ⟨ps, ⟨g0, t0, cs0, f0, p0, q0, hg0, ht0, hv0, hd0, _, e0⟩, _, hrows⟩ := h
  obtain rfl := Option.some.inj (hg.symm.trans hg0)
  obtain rfl := Option.some.inj (ht.symm.trans ht0)
  subst e0
  obtain ⟨l0⟩ := cs0
  have ok0 : ∀ u v, l0 = [.iface u v] → Value.okWide Tryd.prog W .any 0 u v := fun u v e => by
    subst e
    exact (hrows g 0 (by simp [MemPlace.row])).2 u v (by simpa using World.var?_cell hg0 hv0 0)
  obtain ⟨a0, s0, rfl, hc0, hs0, hz0, rfl⟩ := errorString_of_trod Tryd.underlying96 row149 Tryd.underlying149 Tryd.underlying151 rfl rfl Tryd.underlying9 cells151 cells9 hd0 ok0
  exact ⟨a0, s0, by simpa using World.var?_cell hg0 hv0 0, hc0, hs0, (hrows a0.block a0.off (by simp [MemPlace.row])).1⟩
def txt : Nat → List UInt8
  | 0 => [70, 105, 108, 101, 32, 105, 115, 32, 99, 108, 111, 115, 101, 100]
  | 1 => [69, 79, 70]
  | 2 => [117, 110, 101, 120, 112, 101, 99, 116, 101, 100, 32, 69, 79, 70]
  | 3 => [111, 117, 116, 32, 111, 102, 32, 114, 97, 110, 103, 101]
  | 4 => [102, 105, 108, 101, 32, 100, 111, 101, 115, 32, 110, 111, 116, 32, 101, 120, 105, 115, 116]
  | 5 => [102, 105, 108, 101, 32, 97, 108, 114, 101, 97, 100, 121, 32, 101, 120, 105, 115, 116, 115]
  | 6 => [110, 111, 116, 32, 97, 32, 100, 105, 114, 101, 99, 116, 111, 114, 121]
  | 7 => [110, 111, 32, 115, 117, 99, 104, 32, 102, 105, 108, 101, 32, 111, 114, 32, 100, 105, 114, 101, 99, 116, 111, 114, 121]
  | 8 => [111, 112, 101, 114, 97, 116, 105, 111, 110, 32, 110, 111, 116, 32, 112, 101, 114, 109, 105, 116, 116, 101, 100]
  | 9 => [102, 105, 108, 101, 32, 100, 101, 115, 99, 114, 105, 112, 116, 111, 114, 32, 105, 110, 32, 98, 97, 100, 32, 115, 116, 97, 116, 101]
  | _ => [105, 110, 112, 117, 116, 47, 111, 117, 116, 112, 117, 116, 32, 101, 114, 114, 111, 114]
theorem txt_inj : ∀ i, i < 11 → ∀ j, j < 11 → txt i = txt j → i = j := by decide
def errsL : List (String × DataW Unit) := [("pub-marram/pub/afero/inner/os.ErrExist", .iface "*errors.errorString" (.ptr (.agg [.lit (.string [102, 105, 108, 101, 32, 97, 108, 114, 101, 97, 100, 121, 32, 101, 120, 105, 115, 116, 115])]))), ("pub-marram/pub/afero/inner/os.ErrNotExist", .iface "*errors.errorString" (.ptr (.agg [.lit (.string [102, 105, 108, 101, 32, 100, 111, 101, 115, 32, 110, 111, 116, 32, 101, 120, 105, 115, 116])]))), ("pub-marram/pub/afero/inner/os.ENOENT", .iface "*errors.errorString" (.ptr (.agg [.lit (.string [110, 111, 32, 115, 117, 99, 104, 32, 102, 105, 108, 101, 32, 111, 114, 32, 100, 105, 114, 101, 99, 116, 111, 114, 121])]))), ("pub-marram/pub/afero/inner/os.ENOTDIR", .iface "*errors.errorString" (.ptr (.agg [.lit (.string [110, 111, 116, 32, 97, 32, 100, 105, 114, 101, 99, 116, 111, 114, 121])]))), ("pub-marram/pub/afero/inner/os.EPERM", .iface "*errors.errorString" (.ptr (.agg [.lit (.string [111, 112, 101, 114, 97, 116, 105, 111, 110, 32, 110, 111, 116, 32, 112, 101, 114, 109, 105, 116, 116, 101, 100])]))), ("pub-marram/pub/afero/inner/os.EIO", .iface "*errors.errorString" (.ptr (.agg [.lit (.string [105, 110, 112, 117, 116, 47, 111, 117, 116, 112, 117, 116, 32, 101, 114, 114, 111, 114])]))), ("pub-marram/pub/afero/inner/os.EBADFD", .iface "*errors.errorString" (.ptr (.agg [.lit (.string [102, 105, 108, 101, 32, 100, 101, 115, 99, 114, 105, 112, 116, 111, 114, 32, 105, 110, 32, 98, 97, 100, 32, 115, 116, 97, 116, 101])]))), ("io.EOF", .iface "*errors.errorString" (.ptr (.agg [.lit (.string [69, 79, 70])]))), ("io.ErrUnexpectedEOF", .iface "*errors.errorString" (.ptr (.agg [.lit (.string [117, 110, 101, 120, 112, 101, 99, 116, 101, 100, 32, 69, 79, 70])]))), ("pub-marram/pub/afero/mem.ErrFileClosed", .iface "*errors.errorString" (.ptr (.agg [.lit (.string [70, 105, 108, 101, 32, 105, 115, 32, 99, 108, 111, 115, 101, 100])]))), ("pub-marram/pub/afero/mem.ErrOutOfRange", .iface "*errors.errorString" (.ptr (.agg [.lit (.string [111, 117, 116, 32, 111, 102, 32, 114, 97, 110, 103, 101])])))]
set_option maxRecDepth 100000 in
theorem sent_of_laid {W : World} (h0 : laidMet Tryd.prog errsL W) : ∃ A, Sent A W := by
  obtain ⟨a5, s5, v5, c5, e5, b5⟩ := laid_err h0 (g := 5) (by kernel_rfl) (by kernel_rfl)
  have h1 := h0.tail
  obtain ⟨a4, s4, v4, c4, e4, b4⟩ := laid_err h1 (g := 4) (by kernel_rfl) (by kernel_rfl)
  have h2 := h1.tail
  obtain ⟨a7, s7, v7, c7, e7, b7⟩ := laid_err h2 (g := 7) (by kernel_rfl) (by kernel_rfl)
  have h3 := h2.tail
  obtain ⟨a6, s6, v6, c6, e6, b6⟩ := laid_err h3 (g := 6) (by kernel_rfl) (by kernel_rfl)
  have h4 := h3.tail
  obtain ⟨a8, s8, v8, c8, e8, b8⟩ := laid_err h4 (g := 8) (by kernel_rfl) (by kernel_rfl)
  have h5 := h4.tail
  obtain ⟨a10, s10, v10, c10, e10, b10⟩ := laid_err h5 (g := 10) (by kernel_rfl) (by kernel_rfl)
  have h6 := h5.tail
  obtain ⟨a9, s9, v9, c9, e9, b9⟩ := laid_err h6 (g := 9) (by kernel_rfl) (by kernel_rfl)
  have h7 := h6.tail
  obtain ⟨a1, s1, v1, c1, e1, b1⟩ := laid_err h7 (g := 1) (by kernel_rfl) (by kernel_rfl)
  have h8 := h7.tail
  obtain ⟨a2, s2, v2, c2, e2, b2⟩ := laid_err h8 (g := 2) (by kernel_rfl) (by kernel_rfl)
  have h9 := h8.tail
  obtain ⟨a0, s0, v0, c0, e0, b0⟩ := laid_err h9 (g := 0) (by kernel_rfl) (by kernel_rfl)
  have h10 := h9.tail
  obtain ⟨a3, s3, v3, c3, e3, b3⟩ := laid_err h10 (g := 3) (by kernel_rfl) (by kernel_rfl)
  let A : Nat → Addr := fun k => match k with | 0 => a0 | 1 => a1 | 2 => a2 | 3 => a3 | 4 => a4 | 5 => a5 | 6 => a6 | 7 => a7 | 8 => a8 | 9 => a9 | _ => a10
  have key : ∀ k, k < 11 → ∃ s, W.cell? (A k) = some (.string s) ∧ s.data.toList = txt k := by
    intro k hk
    match k, hk with
    | 0, _ => exact ⟨s0, c0, e0⟩
    | 1, _ => exact ⟨s1, c1, e1⟩
    | 2, _ => exact ⟨s2, c2, e2⟩
    | 3, _ => exact ⟨s3, c3, e3⟩
    | 4, _ => exact ⟨s4, c4, e4⟩
    | 5, _ => exact ⟨s5, c5, e5⟩
    | 6, _ => exact ⟨s6, c6, e6⟩
    | 7, _ => exact ⟨s7, c7, e7⟩
    | 8, _ => exact ⟨s8, c8, e8⟩
    | 9, _ => exact ⟨s9, c9, e9⟩
    | 10, _ => exact ⟨s10, c10, e10⟩
  refine ⟨A, fun k hk => ?_, fun k hk => ?_, fun i j hi hj hne e => ?_⟩
  · match k, hk with
    | 0, _ => exact v0
    | 1, _ => exact v1
    | 2, _ => exact v2
    | 3, _ => exact v3
    | 4, _ => exact v4
    | 5, _ => exact v5
    | 6, _ => exact v6
    | 7, _ => exact v7
    | 8, _ => exact v8
    | 9, _ => exact v9
    | 10, _ => exact v10
  · match k, hk with
    | 0, _ => exact b0
    | 1, _ => exact b1
    | 2, _ => exact b2
    | 3, _ => exact b3
    | 4, _ => exact b4
    | 5, _ => exact b5
    | 6, _ => exact b6
    | 7, _ => exact b7
    | 8, _ => exact b8
    | 9, _ => exact b9
    | 10, _ => exact b10
  · obtain ⟨si, ci, ti⟩ := key i hi
    obtain ⟨sj, cj, tj⟩ := key j hj
    rw [e, cj] at ci
    injection ci with ci
    injection ci with ci
    subst ci
    exact hne (txt_inj i hi j hj (ti.symm.trans tj))
end Go.Proofs.YtljcdjggjphedaaDoor.Hd
namespace Go.Proofs.YtljcdjggjphedaaDoor.PFnHandleScript
open Go.RowKit Go.Proofs.YtljcdjggjphedaaDoorW.PrintWords Go.Proofs.YtljcdjggjphedaaDoorW.PrintLast Go.Proofs.YtljcdjggjphedaaDoorW.PrintMore
attribute [local go_sem] max2_int min2_int max_two min_two max_three min_three max_four min_four   -- for this text's walks alone
set_option linter.unusedVariables false
set_option linter.unusedSimpArgs false
def laws_zzFits2.f (a0_0 : Int) (a0_1 : ByteArray) (a0_2 : ByteArray) (a0_3 : Int) (a0_4 : Int) (a0_5 : Int) (l0_6 : List Int) (a0_7 : Int) (a0_8 : Int) (a0_9 : Int) : Option (Bool) := if (a0_1.size : Int) > 2147483647 then (some false) else (if (a0_2.size : Int) > 2147483647 then (some false) else (if (l0_6.length : Int) > 2147483647 then (some false) else (some true)))
set_option maxHeartbeats 8000000 in
set_option maxRecDepth 100000 in
theorem laws_zzFits2.calls (a0_0 : Int) (a0_1 : ByteArray) (a0_2 : ByteArray) (a0_3 : Int) (a0_4 : Int) (a0_5 : Int) (A0_6 : Option Addr) (c0_6 : Nat) (l0_6 : List Int) (a0_7 : Int) (a0_8 : Int) (a0_9 : Int) (r : Bool) (w : World) (hr0_6 : Kd.C (Kd.int .u8) w A0_6 l0_6.length l0_6) (hc0_6 : l0_6.length ≤ c0_6) (h : laws_zzFits2.f a0_0 a0_1 a0_2 a0_3 a0_4 a0_5 l0_6 a0_7 a0_8 a0_9 = some r) :
    Calls Tryd.prog 23 #[.agg #[.int .i64 a0_0, .string a0_1, .string a0_2, .int .i64 a0_3, .int .i64 a0_4, .int .i64 a0_5, .slice A0_6 l0_6.length c0_6, .int .i64 a0_7, .int .i64 a0_8, .int .i64 a0_9]] w fun e w' => e = .returned (.bool r) ∧ Below w.heap.size w w' := by
  have hu26 := Tryd.underlying26
  have HR0_6 := Aside0.mk hr0_6
  have HC0_6 := Aside0.mk hc0_6
  clear hr0_6 hc0_6
  have HB := Aside0.mk (Below.refl w.heap.size w)
  have H : (if (a0_1.size : Int) > 2147483647 then (some false) else (if (a0_2.size : Int) > 2147483647 then (some false) else (if (l0_6.length : Int) > 2147483647 then (some false) else (some true)))) = some r := h
  clear h
  by_cases c2 : (a0_1.size : Int) > 2147483647
  · rw [if_pos c2] at H
    have c2b0 : decide (2147483647 < (a0_1.size : Int)) = true := decide_eq_true c2
    have c2b1 : decide (2147483647 < a0_1.size) = true := decide_eq_true (by omega)
    clear c2
    obtain rfl := Option.some.inj H
    go_enter Tryd.func23, Tryd.ntmps23
    go_wp2_with (first | ((with_reducible refine gate_dst (N := 1) rfl ?_); refine box_event ?hg (N := 1) ?hd (cs := #[.int .i64 a0_0, .string a0_1, .string a0_2, .int .i64 a0_3, .int .i64 a0_4, .int .i64 a0_5, .slice A0_6 l0_6.length c0_6, .int .i64 a0_7, .int .i64 a0_8, .int .i64 a0_9]) (t := 26) ?hr ?_; (case hd => rfl); (case hg => rfl); (case hr => first | (go_simp; done) | (go_simp; rfl)); intro gb101 hg w3 hbox hb; have n0_ := Aside0.mk (below_step (by repeat (first | (with_reducible first | exact HB.out | apply below_alloc | apply pw_below_drewN | apply below_drew1) | exact HB.out)) hb); have n1_ := Aside0.mk (hbox); have n2_ := Aside0.mk ((by rw [hg]; exact (below_size (by repeat (first | (with_reducible first | exact HB.out | apply below_alloc | apply pw_below_drewN | apply below_drew1) | exact HB.out))) : w.heap.size ≤ gb101)); have n3_ := Aside0.mk ((by rw [hg]; exact (below_size (by repeat (first | (with_reducible first | exact HB.out | apply below_alloc | apply pw_below_drewN | apply below_drew1) | exact HB.out))) : w.heap.size ≤ gb101)); clear HB; have HB := n0_; have BK101 := n1_; have GW101 := n2_; have GE101 := n3_; clear n0_ n1_ n2_ n3_; clear hb hbox hg; have hcz4_0 : w3.cell? ⟨gb101, 0, none⟩ = some (.int .i64 a0_0) := (blk_cell BK101.out 0).trans rfl; have hcz4_1 : w3.cell? ⟨gb101, 1, none⟩ = some (.string a0_1) := (blk_cell BK101.out 1).trans rfl; have hcz4_2 : w3.cell? ⟨gb101, 2, none⟩ = some (.string a0_2) := (blk_cell BK101.out 2).trans rfl; have hcz4_3 : w3.cell? ⟨gb101, 3, none⟩ = some (.int .i64 a0_3) := (blk_cell BK101.out 3).trans rfl; have hcz4_4 : w3.cell? ⟨gb101, 4, none⟩ = some (.int .i64 a0_4) := (blk_cell BK101.out 4).trans rfl; have hcz4_5 : w3.cell? ⟨gb101, 5, none⟩ = some (.int .i64 a0_5) := (blk_cell BK101.out 5).trans rfl; have hcz4_6 : w3.cell? ⟨gb101, 6, none⟩ = some (.slice A0_6 l0_6.length c0_6) := (blk_cell BK101.out 6).trans rfl; have hcz4_7 : w3.cell? ⟨gb101, 7, none⟩ = some (.int .i64 a0_7) := (blk_cell BK101.out 7).trans rfl; have hcz4_8 : w3.cell? ⟨gb101, 8, none⟩ = some (.int .i64 a0_8) := (blk_cell BK101.out 8).trans rfl; have hcz4_9 : w3.cell? ⟨gb101, 9, none⟩ = some (.int .i64 a0_9) := (blk_cell BK101.out 9).trans rfl; have hfz4_0 := blk_frozen BK101.out 0; have hfz4_1 := blk_frozen BK101.out 1; have hfz4_2 := blk_frozen BK101.out 2; have hfz4_3 := blk_frozen BK101.out 3; have hfz4_4 := blk_frozen BK101.out 4; have hfz4_5 := blk_frozen BK101.out 5; have hfz4_6 := blk_frozen BK101.out 6; have hfz4_7 := blk_frozen BK101.out 7; have hfz4_8 := blk_frozen BK101.out 8; have hfz4_9 := blk_frozen BK101.out 9))
    go_ret
    exact ⟨by first | rfl | (simp [errW_none, errW_some] <;> rfl) | (simp [*, errW_none, errW_some] <;> rfl), by repeat (first | (with_reducible first | exact HB.out | apply below_alloc | apply pw_below_drewN | apply below_drew1 | refine below_set ?_ GE101.out) | exact HB.out)⟩
  · rw [if_neg c2] at H
    have c2b0 : decide (2147483647 < (a0_1.size : Int)) = false := decide_eq_false c2
    have c2b1 : decide (2147483647 < a0_1.size) = false := decide_eq_false (by omega)
    clear c2
    by_cases c5 : (a0_2.size : Int) > 2147483647
    · rw [if_pos c5] at H
      have c5b0 : decide (2147483647 < (a0_2.size : Int)) = true := decide_eq_true c5
      have c5b1 : decide (2147483647 < a0_2.size) = true := decide_eq_true (by omega)
      clear c5
      obtain rfl := Option.some.inj H
      go_enter Tryd.func23, Tryd.ntmps23
      go_wp2_with (first | ((with_reducible refine gate_dst (N := 1) rfl ?_); refine box_event ?hg (N := 1) ?hd (cs := #[.int .i64 a0_0, .string a0_1, .string a0_2, .int .i64 a0_3, .int .i64 a0_4, .int .i64 a0_5, .slice A0_6 l0_6.length c0_6, .int .i64 a0_7, .int .i64 a0_8, .int .i64 a0_9]) (t := 26) ?hr ?_; (case hd => rfl); (case hg => rfl); (case hr => first | (go_simp; done) | (go_simp; rfl)); intro gb101 hg w6 hbox hb; have n0_ := Aside0.mk (below_step (by repeat (first | (with_reducible first | exact HB.out | apply below_alloc | apply pw_below_drewN | apply below_drew1) | exact HB.out)) hb); have n1_ := Aside0.mk (hbox); have n2_ := Aside0.mk ((by rw [hg]; exact (below_size (by repeat (first | (with_reducible first | exact HB.out | apply below_alloc | apply pw_below_drewN | apply below_drew1) | exact HB.out))) : w.heap.size ≤ gb101)); have n3_ := Aside0.mk ((by rw [hg]; exact (below_size (by repeat (first | (with_reducible first | exact HB.out | apply below_alloc | apply pw_below_drewN | apply below_drew1) | exact HB.out))) : w.heap.size ≤ gb101)); clear HB; have HB := n0_; have BK101 := n1_; have GW101 := n2_; have GE101 := n3_; clear n0_ n1_ n2_ n3_; clear hb hbox hg; have hcz7_0 : w6.cell? ⟨gb101, 0, none⟩ = some (.int .i64 a0_0) := (blk_cell BK101.out 0).trans rfl; have hcz7_1 : w6.cell? ⟨gb101, 1, none⟩ = some (.string a0_1) := (blk_cell BK101.out 1).trans rfl; have hcz7_2 : w6.cell? ⟨gb101, 2, none⟩ = some (.string a0_2) := (blk_cell BK101.out 2).trans rfl; have hcz7_3 : w6.cell? ⟨gb101, 3, none⟩ = some (.int .i64 a0_3) := (blk_cell BK101.out 3).trans rfl; have hcz7_4 : w6.cell? ⟨gb101, 4, none⟩ = some (.int .i64 a0_4) := (blk_cell BK101.out 4).trans rfl; have hcz7_5 : w6.cell? ⟨gb101, 5, none⟩ = some (.int .i64 a0_5) := (blk_cell BK101.out 5).trans rfl; have hcz7_6 : w6.cell? ⟨gb101, 6, none⟩ = some (.slice A0_6 l0_6.length c0_6) := (blk_cell BK101.out 6).trans rfl; have hcz7_7 : w6.cell? ⟨gb101, 7, none⟩ = some (.int .i64 a0_7) := (blk_cell BK101.out 7).trans rfl; have hcz7_8 : w6.cell? ⟨gb101, 8, none⟩ = some (.int .i64 a0_8) := (blk_cell BK101.out 8).trans rfl; have hcz7_9 : w6.cell? ⟨gb101, 9, none⟩ = some (.int .i64 a0_9) := (blk_cell BK101.out 9).trans rfl; have hfz7_0 := blk_frozen BK101.out 0; have hfz7_1 := blk_frozen BK101.out 1; have hfz7_2 := blk_frozen BK101.out 2; have hfz7_3 := blk_frozen BK101.out 3; have hfz7_4 := blk_frozen BK101.out 4; have hfz7_5 := blk_frozen BK101.out 5; have hfz7_6 := blk_frozen BK101.out 6; have hfz7_7 := blk_frozen BK101.out 7; have hfz7_8 := blk_frozen BK101.out 8; have hfz7_9 := blk_frozen BK101.out 9))
      go_ret
      exact ⟨by first | rfl | (simp [errW_none, errW_some] <;> rfl) | (simp [*, errW_none, errW_some] <;> rfl), by repeat (first | (with_reducible first | exact HB.out | apply below_alloc | apply pw_below_drewN | apply below_drew1 | refine below_set ?_ GE101.out) | exact HB.out)⟩
    · rw [if_neg c5] at H
      have c5b0 : decide (2147483647 < (a0_2.size : Int)) = false := decide_eq_false c5
      have c5b1 : decide (2147483647 < a0_2.size) = false := decide_eq_false (by omega)
      clear c5
      by_cases c8 : (l0_6.length : Int) > 2147483647
      · rw [if_pos c8] at H
        have c8b0 : decide (2147483647 < (l0_6.length : Int)) = true := decide_eq_true c8
        have c8b1 : decide (2147483647 < l0_6.length) = true := decide_eq_true (by omega)
        clear c8
        obtain rfl := Option.some.inj H
        go_enter Tryd.func23, Tryd.ntmps23
        go_wp2_with (first | ((with_reducible refine gate_dst (N := 1) rfl ?_); refine box_event ?hg (N := 1) ?hd (cs := #[.int .i64 a0_0, .string a0_1, .string a0_2, .int .i64 a0_3, .int .i64 a0_4, .int .i64 a0_5, .slice A0_6 l0_6.length c0_6, .int .i64 a0_7, .int .i64 a0_8, .int .i64 a0_9]) (t := 26) ?hr ?_; (case hd => rfl); (case hg => rfl); (case hr => first | (go_simp; done) | (go_simp; rfl)); intro gb101 hg w9 hbox hb; have n0_ := Aside0.mk (below_step (by repeat (first | (with_reducible first | exact HB.out | apply below_alloc | apply pw_below_drewN | apply below_drew1) | exact HB.out)) hb); have n1_ := Aside0.mk (hbox); have n2_ := Aside0.mk ((by rw [hg]; exact (below_size (by repeat (first | (with_reducible first | exact HB.out | apply below_alloc | apply pw_below_drewN | apply below_drew1) | exact HB.out))) : w.heap.size ≤ gb101)); have n3_ := Aside0.mk ((by rw [hg]; exact (below_size (by repeat (first | (with_reducible first | exact HB.out | apply below_alloc | apply pw_below_drewN | apply below_drew1) | exact HB.out))) : w.heap.size ≤ gb101)); clear HB; have HB := n0_; have BK101 := n1_; have GW101 := n2_; have GE101 := n3_; clear n0_ n1_ n2_ n3_; clear hb hbox hg; have hcz10_0 : w9.cell? ⟨gb101, 0, none⟩ = some (.int .i64 a0_0) := (blk_cell BK101.out 0).trans rfl; have hcz10_1 : w9.cell? ⟨gb101, 1, none⟩ = some (.string a0_1) := (blk_cell BK101.out 1).trans rfl; have hcz10_2 : w9.cell? ⟨gb101, 2, none⟩ = some (.string a0_2) := (blk_cell BK101.out 2).trans rfl; have hcz10_3 : w9.cell? ⟨gb101, 3, none⟩ = some (.int .i64 a0_3) := (blk_cell BK101.out 3).trans rfl; have hcz10_4 : w9.cell? ⟨gb101, 4, none⟩ = some (.int .i64 a0_4) := (blk_cell BK101.out 4).trans rfl; have hcz10_5 : w9.cell? ⟨gb101, 5, none⟩ = some (.int .i64 a0_5) := (blk_cell BK101.out 5).trans rfl; have hcz10_6 : w9.cell? ⟨gb101, 6, none⟩ = some (.slice A0_6 l0_6.length c0_6) := (blk_cell BK101.out 6).trans rfl; have hcz10_7 : w9.cell? ⟨gb101, 7, none⟩ = some (.int .i64 a0_7) := (blk_cell BK101.out 7).trans rfl; have hcz10_8 : w9.cell? ⟨gb101, 8, none⟩ = some (.int .i64 a0_8) := (blk_cell BK101.out 8).trans rfl; have hcz10_9 : w9.cell? ⟨gb101, 9, none⟩ = some (.int .i64 a0_9) := (blk_cell BK101.out 9).trans rfl; have hfz10_0 := blk_frozen BK101.out 0; have hfz10_1 := blk_frozen BK101.out 1; have hfz10_2 := blk_frozen BK101.out 2; have hfz10_3 := blk_frozen BK101.out 3; have hfz10_4 := blk_frozen BK101.out 4; have hfz10_5 := blk_frozen BK101.out 5; have hfz10_6 := blk_frozen BK101.out 6; have hfz10_7 := blk_frozen BK101.out 7; have hfz10_8 := blk_frozen BK101.out 8; have hfz10_9 := blk_frozen BK101.out 9))
        go_ret
        exact ⟨by first | rfl | (simp [errW_none, errW_some] <;> rfl) | (simp [*, errW_none, errW_some] <;> rfl), by repeat (first | (with_reducible first | exact HB.out | apply below_alloc | apply pw_below_drewN | apply below_drew1 | refine below_set ?_ GE101.out) | exact HB.out)⟩
      · rw [if_neg c8] at H
        have c8b0 : decide (2147483647 < (l0_6.length : Int)) = false := decide_eq_false c8
        have c8b1 : decide (2147483647 < l0_6.length) = false := decide_eq_false (by omega)
        clear c8
        obtain rfl := Option.some.inj H
        go_enter Tryd.func23, Tryd.ntmps23
        go_wp2_with (first | ((with_reducible refine gate_dst (N := 1) rfl ?_); refine box_event ?hg (N := 1) ?hd (cs := #[.int .i64 a0_0, .string a0_1, .string a0_2, .int .i64 a0_3, .int .i64 a0_4, .int .i64 a0_5, .slice A0_6 l0_6.length c0_6, .int .i64 a0_7, .int .i64 a0_8, .int .i64 a0_9]) (t := 26) ?hr ?_; (case hd => rfl); (case hg => rfl); (case hr => first | (go_simp; done) | (go_simp; rfl)); intro gb101 hg w11 hbox hb; have n0_ := Aside0.mk (below_step (by repeat (first | (with_reducible first | exact HB.out | apply below_alloc | apply pw_below_drewN | apply below_drew1) | exact HB.out)) hb); have n1_ := Aside0.mk (hbox); have n2_ := Aside0.mk ((by rw [hg]; exact (below_size (by repeat (first | (with_reducible first | exact HB.out | apply below_alloc | apply pw_below_drewN | apply below_drew1) | exact HB.out))) : w.heap.size ≤ gb101)); have n3_ := Aside0.mk ((by rw [hg]; exact (below_size (by repeat (first | (with_reducible first | exact HB.out | apply below_alloc | apply pw_below_drewN | apply below_drew1) | exact HB.out))) : w.heap.size ≤ gb101)); clear HB; have HB := n0_; have BK101 := n1_; have GW101 := n2_; have GE101 := n3_; clear n0_ n1_ n2_ n3_; clear hb hbox hg; have hcz12_0 : w11.cell? ⟨gb101, 0, none⟩ = some (.int .i64 a0_0) := (blk_cell BK101.out 0).trans rfl; have hcz12_1 : w11.cell? ⟨gb101, 1, none⟩ = some (.string a0_1) := (blk_cell BK101.out 1).trans rfl; have hcz12_2 : w11.cell? ⟨gb101, 2, none⟩ = some (.string a0_2) := (blk_cell BK101.out 2).trans rfl; have hcz12_3 : w11.cell? ⟨gb101, 3, none⟩ = some (.int .i64 a0_3) := (blk_cell BK101.out 3).trans rfl; have hcz12_4 : w11.cell? ⟨gb101, 4, none⟩ = some (.int .i64 a0_4) := (blk_cell BK101.out 4).trans rfl; have hcz12_5 : w11.cell? ⟨gb101, 5, none⟩ = some (.int .i64 a0_5) := (blk_cell BK101.out 5).trans rfl; have hcz12_6 : w11.cell? ⟨gb101, 6, none⟩ = some (.slice A0_6 l0_6.length c0_6) := (blk_cell BK101.out 6).trans rfl; have hcz12_7 : w11.cell? ⟨gb101, 7, none⟩ = some (.int .i64 a0_7) := (blk_cell BK101.out 7).trans rfl; have hcz12_8 : w11.cell? ⟨gb101, 8, none⟩ = some (.int .i64 a0_8) := (blk_cell BK101.out 8).trans rfl; have hcz12_9 : w11.cell? ⟨gb101, 9, none⟩ = some (.int .i64 a0_9) := (blk_cell BK101.out 9).trans rfl; have hfz12_0 := blk_frozen BK101.out 0; have hfz12_1 := blk_frozen BK101.out 1; have hfz12_2 := blk_frozen BK101.out 2; have hfz12_3 := blk_frozen BK101.out 3; have hfz12_4 := blk_frozen BK101.out 4; have hfz12_5 := blk_frozen BK101.out 5; have hfz12_6 := blk_frozen BK101.out 6; have hfz12_7 := blk_frozen BK101.out 7; have hfz12_8 := blk_frozen BK101.out 8; have hfz12_9 := blk_frozen BK101.out 9))
        go_ret
        exact ⟨by first | rfl | (simp [errW_none, errW_some] <;> rfl) | (simp [*, errW_none, errW_some] <;> rfl), by repeat (first | (with_reducible first | exact HB.out | apply below_alloc | apply pw_below_drewN | apply below_drew1 | refine below_set ?_ GE101.out) | exact HB.out)⟩
def laws_zzFits1.l0 : Nat → List (S26) → Int → Int → Option (Bool)
  | 0, _, _, _ => none
  | k + 1, x8, x9, x10 => if x10 < x9 then (if 0 ≤ x10 then (if x10 < (x8.length : Int) then ((laws_zzFits2.f ((rd_T26 x8 x10).f0) ((rd_T26 x8 x10).f1) ((rd_T26 x8 x10).f2) ((rd_T26 x8 x10).f3) ((rd_T26 x8 x10).f4) ((rd_T26 x8 x10).f5) ((rd_T26 x8 x10).f6) ((rd_T26 x8 x10).f7) ((rd_T26 x8 x10).f8) ((rd_T26 x8 x10).f9)).bind fun t104 => (if t104 = true then (laws_zzFits1.l0 k x8 x9 (wrap64 (x10 + 1))) else (some false))) else (none)) else (none)) else (some true)
def laws_zzFits1.f (k : Nat) (l0 : List (S26)) : Option (Bool) := if (l0.length : Int) > 2147483647 then (some false) else (laws_zzFits1.l0 k l0 (l0.length : Int) 0)
theorem laws_zzFits1.mono_l : ∀ k, (∀ y0 y1 y2, LeO (laws_zzFits1.l0 k y0 y1 y2) (laws_zzFits1.l0 (k + 1) y0 y1 y2))
  | 0 => fun _ _ _ r h => by simp [laws_zzFits1.l0] at h
  | k + 1 => by
    have ih0 := laws_zzFits1.mono_l k
    · intro y0 y1 y2
      unfold laws_zzFits1.l0
      repeat' first
      | (with_reducible exact ih0 _ _ _)
      | (with_reducible exact LeO.refl _)
      | (with_reducible exact LeO.none _)
      | (with_reducible refine LeO.ite ?_ ?_)
      | (with_reducible refine LeO.bind ?_ (fun _ => ?_))
      | exact ih0 _ _ _
      | exact LeO.none _
      | refine LeO.ite ?_ ?_
      | refine LeO.bind ?_ (fun _ => ?_)
theorem laws_zzFits1.mono : ∀ a0 k, LeO (laws_zzFits1.f k a0) (laws_zzFits1.f (k + 1) a0) := by
  intro a0 k
  have ih0 := laws_zzFits1.mono_l k
  unfold laws_zzFits1.f
  repeat' first
      | (with_reducible exact ih0 _ _ _)
      | (with_reducible exact LeO.refl _)
      | (with_reducible exact LeO.none _)
      | (with_reducible refine LeO.ite ?_ ?_)
      | (with_reducible refine LeO.bind ?_ (fun _ => ?_))
      | exact ih0 _ _ _
      | exact LeO.none _
      | refine LeO.ite ?_ ?_
      | refine LeO.bind ?_ (fun _ => ?_)
set_option maxHeartbeats 8000000 in
set_option maxRecDepth 100000 in
theorem laws_zzFits1.calls (k : Nat) (A0 : Option Addr) (c0 : Nat) (l0 : List (S26)) (r : Bool) (w : World) (hr0 : Kd.C k26 w A0 l0.length l0) (hc0 : l0.length ≤ c0) (h : laws_zzFits1.f k l0 = some r) :
    Calls Tryd.prog 12 #[.slice A0 l0.length c0] w fun e w' => e = .returned (.bool r) ∧ Below w.heap.size w w' := by
  have hu26 := Tryd.underlying26
  have HR0 := Aside0.mk hr0
  have HC0 := Aside0.mk hc0
  clear hr0 hc0
  have HB := Aside0.mk (Below.refl w.heap.size w)
  have H : (if (l0.length : Int) > 2147483647 then (some false) else (laws_zzFits1.l0 k l0 (l0.length : Int) 0)) = some r := h
  clear h
  by_cases c2 : (l0.length : Int) > 2147483647
  · rw [if_pos c2] at H
    have c2b0 : decide (2147483647 < (l0.length : Int)) = true := decide_eq_true c2
    have c2b1 : decide (2147483647 < l0.length) = true := decide_eq_true (by omega)
    clear c2
    obtain rfl := Option.some.inj H
    go_enter Tryd.func12, Tryd.ntmps12
    go_wp2
    go_ret
    exact ⟨by first | rfl | (simp [errW_none, errW_some] <;> rfl) | (simp [*, errW_none, errW_some] <;> rfl), by repeat (first | (with_reducible first | exact HB.out | apply below_alloc | apply pw_below_drewN | apply below_drew1) | exact HB.out)⟩
  · rw [if_neg c2] at H
    have c2b0 : decide (2147483647 < (l0.length : Int)) = false := decide_eq_false c2
    have c2b1 : decide (2147483647 < l0.length) = false := decide_eq_false (by omega)
    clear c2
    have H' := Aside0.mk H
    clear H
    go_enter Tryd.func12, Tryd.ntmps12
    go_wp2
    go_loopg [10] k (fun kq v10 w' => ∃ (x10_1 : Int), v10 = .int .i64 x10_1 ∧ Aside0 (laws_zzFits1.l0 kq l0 (l0.length : Int) x10_1 = some r) ∧ Aside0 (kq ≤ k) ∧ Aside0 (Below w.heap.size w w'))
    case atStart => exact ⟨(0), (by first | rfl | (simp; done) | (simp [*]; done)), H', ⟨Nat.le_refl _⟩, ⟨by repeat (first | (with_reducible first | exact HB.out | apply below_alloc | apply pw_below_drewN | apply below_drew1) | exact HB.out)⟩⟩
    case round =>
      clear H'
      try clear c1
      try clear c2
      try clear c2b0
      try clear c2b1
      try clear p2
      obtain ⟨x10_1, rfl, HA, HK1, HB⟩ := hrel
      cases gk with
      | zero => exact absurd HA.out (by simp [laws_zzFits1.l0])
      | succ k1 =>
        have H := HA.out
        clear HA
        simp only [laws_zzFits1.l0] at H
        by_cases c3 : x10_1 < (l0.length : Int)
        · rw [if_pos c3] at H
          have c3b0 : decide (x10_1 < (l0.length : Int)) = true := decide_eq_true c3
          clear c3
          by_cases c4 : 0 ≤ x10_1
          · rw [if_pos c4] at H
            have c4b0 : decide (0 ≤ x10_1) = true := decide_eq_true c4
            clear c4
            by_cases c5 : x10_1 < (l0.length : Int)
            · rw [if_pos c5] at H
              have c5b0 : decide (x10_1 < (l0.length : Int)) = true := decide_eq_true c5
              clear c5
              replace H := Option.bind_eq_some_iff.mp H
              obtain ⟨t104, A60, H⟩ := H
              replace H : (if t104 = true then (laws_zzFits1.l0 k1 l0 (l0.length : Int) (wrap64 (x10_1 + 1))) else (some false)) = some r := H
              have A6 := Aside0.mk A60
              clear A60
              by_cases c7 : t104 = true
              · subst c7
                have H1 : (laws_zzFits1.l0 k1 l0 (l0.length : Int) (wrap64 (x10_1 + 1))) = some r := by rw [if_pos rfl] at H; exact H
                clear H
                have H := H1
                clear H1
                have H' := Aside0.mk H
                clear H
                have p102 : 0 ≤ (x10_1 : Int) := of_decide_eq_true (by first | (with_reducible assumption) | assumption)
                have q102 : x10_1 < (l0.length : Int) := of_decide_eq_true (by first | (with_reducible assumption) | assumption)
                obtain ⟨ad102, A102_6, c102_6, e102, hx102_0, hx102_1, hx102_2, hx102_3, hx102_4, hx102_5, hx102_6, hx102_7, hx102_8, hx102_9, hl102_6, hi102_6⟩ := at_T26 HR0.out x10_1 p102 q102
                cases e102
                replace hx102_0 := (HB.out.cell (World.block_lt_of_cell? w _ hx102_0)).trans hx102_0
                replace hx102_1 := (HB.out.cell (World.block_lt_of_cell? w _ hx102_1)).trans hx102_1
                replace hx102_2 := (HB.out.cell (World.block_lt_of_cell? w _ hx102_2)).trans hx102_2
                replace hx102_3 := (HB.out.cell (World.block_lt_of_cell? w _ hx102_3)).trans hx102_3
                replace hx102_4 := (HB.out.cell (World.block_lt_of_cell? w _ hx102_4)).trans hx102_4
                replace hx102_5 := (HB.out.cell (World.block_lt_of_cell? w _ hx102_5)).trans hx102_5
                replace hx102_6 := (HB.out.cell (World.block_lt_of_cell? w _ hx102_6)).trans hx102_6
                replace hx102_7 := (HB.out.cell (World.block_lt_of_cell? w _ hx102_7)).trans hx102_7
                replace hx102_8 := (HB.out.cell (World.block_lt_of_cell? w _ hx102_8)).trans hx102_8
                replace hx102_9 := (HB.out.cell (World.block_lt_of_cell? w _ hx102_9)).trans hx102_9
                have HR102_6 := Aside0.mk hi102_6
                have HC102_6 := Aside0.mk hl102_6
                clear hi102_6 hl102_6
                replace p102 := eq_true p102
                replace q102 := eq_true q102
                go_wp2_with (first | ((with_reducible refine gate_dst (N := 4) rfl ?_); refine box_event ?hg (N := 4) ?hd (cs := #[.int .i64 0, .string (⟨#[]⟩ : ByteArray), .string (⟨#[]⟩ : ByteArray), .int .i64 0, .int .i64 0, .int .i64 0, .slice none 0 0, .int .i64 0, .int .i64 0, .int .i64 0]) (t := 26) ?hr ?_; (case hd => rfl); (case hg => rfl); (case hr => first | (go_simp; done) | (go_simp; rfl)); intro gb103 hg w8 hbox hb; have n0_ := Aside0.mk (below_step (by repeat (first | (with_reducible first | exact HB.out | apply below_alloc | apply pw_below_drewN | apply below_drew1) | exact HB.out)) hb); have n1_ := Aside0.mk (hbox); have n2_ := Aside0.mk ((by rw [hg]; exact (below_size (by repeat (first | (with_reducible first | exact HB.out | apply below_alloc | apply pw_below_drewN | apply below_drew1) | exact HB.out))) : w.heap.size ≤ gb103)); have n3_ := Aside0.mk ((by rw [hg]; exact (below_size (by repeat (first | (with_reducible first | exact HB.out | apply below_alloc | apply pw_below_drewN | apply below_drew1) | exact HB.out))) : w.heap.size ≤ gb103)); clear HB; have HB := n0_; have BK103 := n1_; have GW103 := n2_; have GE103 := n3_; clear n0_ n1_ n2_ n3_; clear hb hbox hg; have hcz9_0 : w8.cell? ⟨gb103, 0, none⟩ = some (.int .i64 0) := (blk_cell BK103.out 0).trans rfl; have hcz9_1 : w8.cell? ⟨gb103, 1, none⟩ = some (.string (⟨#[]⟩ : ByteArray)) := (blk_cell BK103.out 1).trans rfl; have hcz9_2 : w8.cell? ⟨gb103, 2, none⟩ = some (.string (⟨#[]⟩ : ByteArray)) := (blk_cell BK103.out 2).trans rfl; have hcz9_3 : w8.cell? ⟨gb103, 3, none⟩ = some (.int .i64 0) := (blk_cell BK103.out 3).trans rfl; have hcz9_4 : w8.cell? ⟨gb103, 4, none⟩ = some (.int .i64 0) := (blk_cell BK103.out 4).trans rfl; have hcz9_5 : w8.cell? ⟨gb103, 5, none⟩ = some (.int .i64 0) := (blk_cell BK103.out 5).trans rfl; have hcz9_6 : w8.cell? ⟨gb103, 6, none⟩ = some (.slice none 0 0) := (blk_cell BK103.out 6).trans rfl; have hcz9_7 : w8.cell? ⟨gb103, 7, none⟩ = some (.int .i64 0) := (blk_cell BK103.out 7).trans rfl; have hcz9_8 : w8.cell? ⟨gb103, 8, none⟩ = some (.int .i64 0) := (blk_cell BK103.out 8).trans rfl; have hcz9_9 : w8.cell? ⟨gb103, 9, none⟩ = some (.int .i64 0) := (blk_cell BK103.out 9).trans rfl; have hfz9_0 := blk_frozen BK103.out 0; have hfz9_1 := blk_frozen BK103.out 1; have hfz9_2 := blk_frozen BK103.out 2; have hfz9_3 := blk_frozen BK103.out 3; have hfz9_4 := blk_frozen BK103.out 4; have hfz9_5 := blk_frozen BK103.out 5; have hfz9_6 := blk_frozen BK103.out 6; have hfz9_7 := blk_frozen BK103.out 7; have hfz9_8 := blk_frozen BK103.out 8; have hfz9_9 := blk_frozen BK103.out 9) | ((with_reducible refine gate_callee (f := 23) rfl ?_); refine goesL_ (some 15) rfl rfl Tryd.func23 (by kernel_rfl) rfl #[.agg #[.int .i64 ((rd_T26 l0 x10_1).f0), .string ((rd_T26 l0 x10_1).f1), .string ((rd_T26 l0 x10_1).f2), .int .i64 ((rd_T26 l0 x10_1).f3), .int .i64 ((rd_T26 l0 x10_1).f4), .int .i64 ((rd_T26 l0 x10_1).f5), .slice A102_6 ((rd_T26 l0 x10_1).f6).length c102_6, .int .i64 ((rd_T26 l0 x10_1).f7), .int .i64 ((rd_T26 l0 x10_1).f8), .int .i64 ((rd_T26 l0 x10_1).f9)]] rfl (by (try simp only [List.map_toArray, List.map_cons, List.map_nil]); first | done | rfl | (simp only [List.length_drop, List.length_take]; rfl)) ?_; (with_reducible refine (laws_zzFits2.calls ((rd_T26 l0 x10_1).f0) ((rd_T26 l0 x10_1).f1) ((rd_T26 l0 x10_1).f2) ((rd_T26 l0 x10_1).f3) ((rd_T26 l0 x10_1).f4) ((rd_T26 l0 x10_1).f5) _ _ ((rd_T26 l0 x10_1).f6) ((rd_T26 l0 x10_1).f7) ((rd_T26 l0 x10_1).f8) ((rd_T26 l0 x10_1).f9) true _ ?side1 ?side2 A6.out).mono ?_); (case side1 => exact Kd.C_below HR102_6.out (by repeat (first | (with_reducible first | exact HB.out | apply below_alloc | apply pw_below_drewN | apply below_drew1 | refine below_set ?_ GE103.out) | exact HB.out))); (case side2 => exact HC102_6.out); rintro e w10 ⟨rfl, hb⟩; refine ⟨_, rfl, ?_⟩; have n0_ := Aside0.mk (blk_below (g := gb103) (o := .cells #[.int .i64 ((rd_T26 l0 x10_1).f0), .string ((rd_T26 l0 x10_1).f1), .string ((rd_T26 l0 x10_1).f2), .int .i64 ((rd_T26 l0 x10_1).f3), .int .i64 ((rd_T26 l0 x10_1).f4), .int .i64 ((rd_T26 l0 x10_1).f5), .slice A102_6 ((rd_T26 l0 x10_1).f6).length c102_6, .int .i64 ((rd_T26 l0 x10_1).f7), .int .i64 ((rd_T26 l0 x10_1).f8), .int .i64 ((rd_T26 l0 x10_1).f9)] 26 (0, 0)) (by (with_reducible repeat (first | refine blk_drewN ?_ _ | refine blk_drew ?_ | refine blk_alloc ?_ _)); refine blk_put (cs := #[.int .i64 ((rd_T26 l0 x10_1).f0), .string ((rd_T26 l0 x10_1).f1), .string ((rd_T26 l0 x10_1).f2), .int .i64 ((rd_T26 l0 x10_1).f3), .int .i64 ((rd_T26 l0 x10_1).f4), .int .i64 ((rd_T26 l0 x10_1).f5), .slice A102_6 ((rd_T26 l0 x10_1).f6).length c102_6, .int .i64 ((rd_T26 l0 x10_1).f7), .int .i64 ((rd_T26 l0 x10_1).f8), .int .i64 0]) ?_ 9 _ rfl; (with_reducible repeat (first | refine blk_drewN ?_ _ | refine blk_drew ?_ | refine blk_alloc ?_ _)); refine blk_put (cs := #[.int .i64 ((rd_T26 l0 x10_1).f0), .string ((rd_T26 l0 x10_1).f1), .string ((rd_T26 l0 x10_1).f2), .int .i64 ((rd_T26 l0 x10_1).f3), .int .i64 ((rd_T26 l0 x10_1).f4), .int .i64 ((rd_T26 l0 x10_1).f5), .slice A102_6 ((rd_T26 l0 x10_1).f6).length c102_6, .int .i64 ((rd_T26 l0 x10_1).f7), .int .i64 0, .int .i64 0]) ?_ 8 _ rfl; (with_reducible repeat (first | refine blk_drewN ?_ _ | refine blk_drew ?_ | refine blk_alloc ?_ _)); refine blk_put (cs := #[.int .i64 ((rd_T26 l0 x10_1).f0), .string ((rd_T26 l0 x10_1).f1), .string ((rd_T26 l0 x10_1).f2), .int .i64 ((rd_T26 l0 x10_1).f3), .int .i64 ((rd_T26 l0 x10_1).f4), .int .i64 ((rd_T26 l0 x10_1).f5), .slice A102_6 ((rd_T26 l0 x10_1).f6).length c102_6, .int .i64 0, .int .i64 0, .int .i64 0]) ?_ 7 _ rfl; (with_reducible repeat (first | refine blk_drewN ?_ _ | refine blk_drew ?_ | refine blk_alloc ?_ _)); refine blk_put (cs := #[.int .i64 ((rd_T26 l0 x10_1).f0), .string ((rd_T26 l0 x10_1).f1), .string ((rd_T26 l0 x10_1).f2), .int .i64 ((rd_T26 l0 x10_1).f3), .int .i64 ((rd_T26 l0 x10_1).f4), .int .i64 ((rd_T26 l0 x10_1).f5), .slice none 0 0, .int .i64 0, .int .i64 0, .int .i64 0]) ?_ 6 _ rfl; (with_reducible repeat (first | refine blk_drewN ?_ _ | refine blk_drew ?_ | refine blk_alloc ?_ _)); refine blk_put (cs := #[.int .i64 ((rd_T26 l0 x10_1).f0), .string ((rd_T26 l0 x10_1).f1), .string ((rd_T26 l0 x10_1).f2), .int .i64 ((rd_T26 l0 x10_1).f3), .int .i64 ((rd_T26 l0 x10_1).f4), .int .i64 0, .slice none 0 0, .int .i64 0, .int .i64 0, .int .i64 0]) ?_ 5 _ rfl; (with_reducible repeat (first | refine blk_drewN ?_ _ | refine blk_drew ?_ | refine blk_alloc ?_ _)); refine blk_put (cs := #[.int .i64 ((rd_T26 l0 x10_1).f0), .string ((rd_T26 l0 x10_1).f1), .string ((rd_T26 l0 x10_1).f2), .int .i64 ((rd_T26 l0 x10_1).f3), .int .i64 0, .int .i64 0, .slice none 0 0, .int .i64 0, .int .i64 0, .int .i64 0]) ?_ 4 _ rfl; (with_reducible repeat (first | refine blk_drewN ?_ _ | refine blk_drew ?_ | refine blk_alloc ?_ _)); refine blk_put (cs := #[.int .i64 ((rd_T26 l0 x10_1).f0), .string ((rd_T26 l0 x10_1).f1), .string ((rd_T26 l0 x10_1).f2), .int .i64 0, .int .i64 0, .int .i64 0, .slice none 0 0, .int .i64 0, .int .i64 0, .int .i64 0]) ?_ 3 _ rfl; (with_reducible repeat (first | refine blk_drewN ?_ _ | refine blk_drew ?_ | refine blk_alloc ?_ _)); refine blk_put (cs := #[.int .i64 ((rd_T26 l0 x10_1).f0), .string ((rd_T26 l0 x10_1).f1), .string (⟨#[]⟩ : ByteArray), .int .i64 0, .int .i64 0, .int .i64 0, .slice none 0 0, .int .i64 0, .int .i64 0, .int .i64 0]) ?_ 2 _ rfl; (with_reducible repeat (first | refine blk_drewN ?_ _ | refine blk_drew ?_ | refine blk_alloc ?_ _)); refine blk_put (cs := #[.int .i64 ((rd_T26 l0 x10_1).f0), .string (⟨#[]⟩ : ByteArray), .string (⟨#[]⟩ : ByteArray), .int .i64 0, .int .i64 0, .int .i64 0, .slice none 0 0, .int .i64 0, .int .i64 0, .int .i64 0]) ?_ 1 _ rfl; (with_reducible repeat (first | refine blk_drewN ?_ _ | refine blk_drew ?_ | refine blk_alloc ?_ _)); refine blk_put (cs := #[.int .i64 0, .string (⟨#[]⟩ : ByteArray), .string (⟨#[]⟩ : ByteArray), .int .i64 0, .int .i64 0, .int .i64 0, .slice none 0 0, .int .i64 0, .int .i64 0, .int .i64 0]) ?_ 0 _ rfl; (with_reducible repeat (first | refine blk_drewN ?_ _ | refine blk_drew ?_ | refine blk_alloc ?_ _)); exact BK103.out) hb); have n1_ := Aside0.mk (below_step (by repeat (first | (with_reducible first | exact HB.out | apply below_alloc | apply pw_below_drewN | apply below_drew1 | refine below_set ?_ GE103.out) | exact HB.out)) hb); clear BK103; clear HB; have BK103 := n0_; have HB := n1_; clear n0_ n1_; (try clear hb); (try clear hb2); (try clear hk); (try clear hi)))
                go_roundg k1
                case measure => have := HK1.out; omega
                case rel => exact ⟨(wrap64 (x10_1 + 1)), (by first | rfl | (simp; done) | (simp [*]; done)), H', ⟨by have := HK1.out; omega⟩, ⟨by repeat (first | (with_reducible first | exact HB.out | apply below_alloc | apply pw_below_drewN | apply below_drew1 | refine below_set ?_ GE103.out) | exact HB.out)⟩⟩
              · replace c7 := Bool.eq_false_iff.mpr c7
                subst c7
                have H1 : (some false) = some r := by rw [if_neg (show ¬ (false = true) by decide)] at H; exact H
                clear H
                have H := H1
                clear H1
                obtain rfl := Option.some.inj H
                have p102 : 0 ≤ (x10_1 : Int) := of_decide_eq_true (by first | (with_reducible assumption) | assumption)
                have q102 : x10_1 < (l0.length : Int) := of_decide_eq_true (by first | (with_reducible assumption) | assumption)
                obtain ⟨ad102, A102_6, c102_6, e102, hx102_0, hx102_1, hx102_2, hx102_3, hx102_4, hx102_5, hx102_6, hx102_7, hx102_8, hx102_9, hl102_6, hi102_6⟩ := at_T26 HR0.out x10_1 p102 q102
                cases e102
                replace hx102_0 := (HB.out.cell (World.block_lt_of_cell? w _ hx102_0)).trans hx102_0
                replace hx102_1 := (HB.out.cell (World.block_lt_of_cell? w _ hx102_1)).trans hx102_1
                replace hx102_2 := (HB.out.cell (World.block_lt_of_cell? w _ hx102_2)).trans hx102_2
                replace hx102_3 := (HB.out.cell (World.block_lt_of_cell? w _ hx102_3)).trans hx102_3
                replace hx102_4 := (HB.out.cell (World.block_lt_of_cell? w _ hx102_4)).trans hx102_4
                replace hx102_5 := (HB.out.cell (World.block_lt_of_cell? w _ hx102_5)).trans hx102_5
                replace hx102_6 := (HB.out.cell (World.block_lt_of_cell? w _ hx102_6)).trans hx102_6
                replace hx102_7 := (HB.out.cell (World.block_lt_of_cell? w _ hx102_7)).trans hx102_7
                replace hx102_8 := (HB.out.cell (World.block_lt_of_cell? w _ hx102_8)).trans hx102_8
                replace hx102_9 := (HB.out.cell (World.block_lt_of_cell? w _ hx102_9)).trans hx102_9
                have HR102_6 := Aside0.mk hi102_6
                have HC102_6 := Aside0.mk hl102_6
                clear hi102_6 hl102_6
                replace p102 := eq_true p102
                replace q102 := eq_true q102
                go_wp2_with (first | ((with_reducible refine gate_dst (N := 4) rfl ?_); refine box_event ?hg (N := 4) ?hd (cs := #[.int .i64 0, .string (⟨#[]⟩ : ByteArray), .string (⟨#[]⟩ : ByteArray), .int .i64 0, .int .i64 0, .int .i64 0, .slice none 0 0, .int .i64 0, .int .i64 0, .int .i64 0]) (t := 26) ?hr ?_; (case hd => rfl); (case hg => rfl); (case hr => first | (go_simp; done) | (go_simp; rfl)); intro gb103 hg w11 hbox hb; have n0_ := Aside0.mk (below_step (by repeat (first | (with_reducible first | exact HB.out | apply below_alloc | apply pw_below_drewN | apply below_drew1) | exact HB.out)) hb); have n1_ := Aside0.mk (hbox); have n2_ := Aside0.mk ((by rw [hg]; exact (below_size (by repeat (first | (with_reducible first | exact HB.out | apply below_alloc | apply pw_below_drewN | apply below_drew1) | exact HB.out))) : w.heap.size ≤ gb103)); have n3_ := Aside0.mk ((by rw [hg]; exact (below_size (by repeat (first | (with_reducible first | exact HB.out | apply below_alloc | apply pw_below_drewN | apply below_drew1) | exact HB.out))) : w.heap.size ≤ gb103)); clear HB; have HB := n0_; have BK103 := n1_; have GW103 := n2_; have GE103 := n3_; clear n0_ n1_ n2_ n3_; clear hb hbox hg; have hcz12_0 : w11.cell? ⟨gb103, 0, none⟩ = some (.int .i64 0) := (blk_cell BK103.out 0).trans rfl; have hcz12_1 : w11.cell? ⟨gb103, 1, none⟩ = some (.string (⟨#[]⟩ : ByteArray)) := (blk_cell BK103.out 1).trans rfl; have hcz12_2 : w11.cell? ⟨gb103, 2, none⟩ = some (.string (⟨#[]⟩ : ByteArray)) := (blk_cell BK103.out 2).trans rfl; have hcz12_3 : w11.cell? ⟨gb103, 3, none⟩ = some (.int .i64 0) := (blk_cell BK103.out 3).trans rfl; have hcz12_4 : w11.cell? ⟨gb103, 4, none⟩ = some (.int .i64 0) := (blk_cell BK103.out 4).trans rfl; have hcz12_5 : w11.cell? ⟨gb103, 5, none⟩ = some (.int .i64 0) := (blk_cell BK103.out 5).trans rfl; have hcz12_6 : w11.cell? ⟨gb103, 6, none⟩ = some (.slice none 0 0) := (blk_cell BK103.out 6).trans rfl; have hcz12_7 : w11.cell? ⟨gb103, 7, none⟩ = some (.int .i64 0) := (blk_cell BK103.out 7).trans rfl; have hcz12_8 : w11.cell? ⟨gb103, 8, none⟩ = some (.int .i64 0) := (blk_cell BK103.out 8).trans rfl; have hcz12_9 : w11.cell? ⟨gb103, 9, none⟩ = some (.int .i64 0) := (blk_cell BK103.out 9).trans rfl; have hfz12_0 := blk_frozen BK103.out 0; have hfz12_1 := blk_frozen BK103.out 1; have hfz12_2 := blk_frozen BK103.out 2; have hfz12_3 := blk_frozen BK103.out 3; have hfz12_4 := blk_frozen BK103.out 4; have hfz12_5 := blk_frozen BK103.out 5; have hfz12_6 := blk_frozen BK103.out 6; have hfz12_7 := blk_frozen BK103.out 7; have hfz12_8 := blk_frozen BK103.out 8; have hfz12_9 := blk_frozen BK103.out 9) | ((with_reducible refine gate_callee (f := 23) rfl ?_); refine goesL_ (some 15) rfl rfl Tryd.func23 (by kernel_rfl) rfl #[.agg #[.int .i64 ((rd_T26 l0 x10_1).f0), .string ((rd_T26 l0 x10_1).f1), .string ((rd_T26 l0 x10_1).f2), .int .i64 ((rd_T26 l0 x10_1).f3), .int .i64 ((rd_T26 l0 x10_1).f4), .int .i64 ((rd_T26 l0 x10_1).f5), .slice A102_6 ((rd_T26 l0 x10_1).f6).length c102_6, .int .i64 ((rd_T26 l0 x10_1).f7), .int .i64 ((rd_T26 l0 x10_1).f8), .int .i64 ((rd_T26 l0 x10_1).f9)]] rfl (by (try simp only [List.map_toArray, List.map_cons, List.map_nil]); first | done | rfl | (simp only [List.length_drop, List.length_take]; rfl)) ?_; (with_reducible refine (laws_zzFits2.calls ((rd_T26 l0 x10_1).f0) ((rd_T26 l0 x10_1).f1) ((rd_T26 l0 x10_1).f2) ((rd_T26 l0 x10_1).f3) ((rd_T26 l0 x10_1).f4) ((rd_T26 l0 x10_1).f5) _ _ ((rd_T26 l0 x10_1).f6) ((rd_T26 l0 x10_1).f7) ((rd_T26 l0 x10_1).f8) ((rd_T26 l0 x10_1).f9) false _ ?side1 ?side2 A6.out).mono ?_); (case side1 => exact Kd.C_below HR102_6.out (by repeat (first | (with_reducible first | exact HB.out | apply below_alloc | apply pw_below_drewN | apply below_drew1 | refine below_set ?_ GE103.out) | exact HB.out))); (case side2 => exact HC102_6.out); rintro e w13 ⟨rfl, hb⟩; refine ⟨_, rfl, ?_⟩; have n0_ := Aside0.mk (blk_below (g := gb103) (o := .cells #[.int .i64 ((rd_T26 l0 x10_1).f0), .string ((rd_T26 l0 x10_1).f1), .string ((rd_T26 l0 x10_1).f2), .int .i64 ((rd_T26 l0 x10_1).f3), .int .i64 ((rd_T26 l0 x10_1).f4), .int .i64 ((rd_T26 l0 x10_1).f5), .slice A102_6 ((rd_T26 l0 x10_1).f6).length c102_6, .int .i64 ((rd_T26 l0 x10_1).f7), .int .i64 ((rd_T26 l0 x10_1).f8), .int .i64 ((rd_T26 l0 x10_1).f9)] 26 (0, 0)) (by (with_reducible repeat (first | refine blk_drewN ?_ _ | refine blk_drew ?_ | refine blk_alloc ?_ _)); refine blk_put (cs := #[.int .i64 ((rd_T26 l0 x10_1).f0), .string ((rd_T26 l0 x10_1).f1), .string ((rd_T26 l0 x10_1).f2), .int .i64 ((rd_T26 l0 x10_1).f3), .int .i64 ((rd_T26 l0 x10_1).f4), .int .i64 ((rd_T26 l0 x10_1).f5), .slice A102_6 ((rd_T26 l0 x10_1).f6).length c102_6, .int .i64 ((rd_T26 l0 x10_1).f7), .int .i64 ((rd_T26 l0 x10_1).f8), .int .i64 0]) ?_ 9 _ rfl; (with_reducible repeat (first | refine blk_drewN ?_ _ | refine blk_drew ?_ | refine blk_alloc ?_ _)); refine blk_put (cs := #[.int .i64 ((rd_T26 l0 x10_1).f0), .string ((rd_T26 l0 x10_1).f1), .string ((rd_T26 l0 x10_1).f2), .int .i64 ((rd_T26 l0 x10_1).f3), .int .i64 ((rd_T26 l0 x10_1).f4), .int .i64 ((rd_T26 l0 x10_1).f5), .slice A102_6 ((rd_T26 l0 x10_1).f6).length c102_6, .int .i64 ((rd_T26 l0 x10_1).f7), .int .i64 0, .int .i64 0]) ?_ 8 _ rfl; (with_reducible repeat (first | refine blk_drewN ?_ _ | refine blk_drew ?_ | refine blk_alloc ?_ _)); refine blk_put (cs := #[.int .i64 ((rd_T26 l0 x10_1).f0), .string ((rd_T26 l0 x10_1).f1), .string ((rd_T26 l0 x10_1).f2), .int .i64 ((rd_T26 l0 x10_1).f3), .int .i64 ((rd_T26 l0 x10_1).f4), .int .i64 ((rd_T26 l0 x10_1).f5), .slice A102_6 ((rd_T26 l0 x10_1).f6).length c102_6, .int .i64 0, .int .i64 0, .int .i64 0]) ?_ 7 _ rfl; (with_reducible repeat (first | refine blk_drewN ?_ _ | refine blk_drew ?_ | refine blk_alloc ?_ _)); refine blk_put (cs := #[.int .i64 ((rd_T26 l0 x10_1).f0), .string ((rd_T26 l0 x10_1).f1), .string ((rd_T26 l0 x10_1).f2), .int .i64 ((rd_T26 l0 x10_1).f3), .int .i64 ((rd_T26 l0 x10_1).f4), .int .i64 ((rd_T26 l0 x10_1).f5), .slice none 0 0, .int .i64 0, .int .i64 0, .int .i64 0]) ?_ 6 _ rfl; (with_reducible repeat (first | refine blk_drewN ?_ _ | refine blk_drew ?_ | refine blk_alloc ?_ _)); refine blk_put (cs := #[.int .i64 ((rd_T26 l0 x10_1).f0), .string ((rd_T26 l0 x10_1).f1), .string ((rd_T26 l0 x10_1).f2), .int .i64 ((rd_T26 l0 x10_1).f3), .int .i64 ((rd_T26 l0 x10_1).f4), .int .i64 0, .slice none 0 0, .int .i64 0, .int .i64 0, .int .i64 0]) ?_ 5 _ rfl; (with_reducible repeat (first | refine blk_drewN ?_ _ | refine blk_drew ?_ | refine blk_alloc ?_ _)); refine blk_put (cs := #[.int .i64 ((rd_T26 l0 x10_1).f0), .string ((rd_T26 l0 x10_1).f1), .string ((rd_T26 l0 x10_1).f2), .int .i64 ((rd_T26 l0 x10_1).f3), .int .i64 0, .int .i64 0, .slice none 0 0, .int .i64 0, .int .i64 0, .int .i64 0]) ?_ 4 _ rfl; (with_reducible repeat (first | refine blk_drewN ?_ _ | refine blk_drew ?_ | refine blk_alloc ?_ _)); refine blk_put (cs := #[.int .i64 ((rd_T26 l0 x10_1).f0), .string ((rd_T26 l0 x10_1).f1), .string ((rd_T26 l0 x10_1).f2), .int .i64 0, .int .i64 0, .int .i64 0, .slice none 0 0, .int .i64 0, .int .i64 0, .int .i64 0]) ?_ 3 _ rfl; (with_reducible repeat (first | refine blk_drewN ?_ _ | refine blk_drew ?_ | refine blk_alloc ?_ _)); refine blk_put (cs := #[.int .i64 ((rd_T26 l0 x10_1).f0), .string ((rd_T26 l0 x10_1).f1), .string (⟨#[]⟩ : ByteArray), .int .i64 0, .int .i64 0, .int .i64 0, .slice none 0 0, .int .i64 0, .int .i64 0, .int .i64 0]) ?_ 2 _ rfl; (with_reducible repeat (first | refine blk_drewN ?_ _ | refine blk_drew ?_ | refine blk_alloc ?_ _)); refine blk_put (cs := #[.int .i64 ((rd_T26 l0 x10_1).f0), .string (⟨#[]⟩ : ByteArray), .string (⟨#[]⟩ : ByteArray), .int .i64 0, .int .i64 0, .int .i64 0, .slice none 0 0, .int .i64 0, .int .i64 0, .int .i64 0]) ?_ 1 _ rfl; (with_reducible repeat (first | refine blk_drewN ?_ _ | refine blk_drew ?_ | refine blk_alloc ?_ _)); refine blk_put (cs := #[.int .i64 0, .string (⟨#[]⟩ : ByteArray), .string (⟨#[]⟩ : ByteArray), .int .i64 0, .int .i64 0, .int .i64 0, .slice none 0 0, .int .i64 0, .int .i64 0, .int .i64 0]) ?_ 0 _ rfl; (with_reducible repeat (first | refine blk_drewN ?_ _ | refine blk_drew ?_ | refine blk_alloc ?_ _)); exact BK103.out) hb); have n1_ := Aside0.mk (below_step (by repeat (first | (with_reducible first | exact HB.out | apply below_alloc | apply pw_below_drewN | apply below_drew1 | refine below_set ?_ GE103.out) | exact HB.out)) hb); clear BK103; clear HB; have BK103 := n0_; have HB := n1_; clear n0_ n1_; (try clear hb); (try clear hb2); (try clear hk); (try clear hi)))
                go_ret
                exact ⟨by first | rfl | (simp [errW_none, errW_some] <;> rfl) | (simp [*, errW_none, errW_some] <;> rfl), by repeat (first | (with_reducible first | exact HB.out | apply below_alloc | apply pw_below_drewN | apply below_drew1 | refine below_set ?_ GE103.out) | exact HB.out)⟩
            · rw [if_neg c5] at H
              exact absurd H (by simp)
          · rw [if_neg c4] at H
            exact absurd H (by simp)
        · rw [if_neg c3] at H
          have c3b0 : decide (x10_1 < (l0.length : Int)) = false := decide_eq_false c3
          clear c3
          obtain rfl := Option.some.inj H
          go_wp2
          go_ret
          exact ⟨by first | rfl | (simp [errW_none, errW_some] <;> rfl) | (simp [*, errW_none, errW_some] <;> rfl), by repeat (first | (with_reducible first | exact HB.out | apply below_alloc | apply pw_below_drewN | apply below_drew1) | exact HB.out)⟩
end Go.Proofs.YtljcdjggjphedaaDoor.PFnHandleScript
namespace Go.Proofs.YtljcdjggjphedaaDoor.Hd
open Go.RowKit Go.Proofs.YtljcdjggjphedaaDoorW.PrintWords Go.Proofs.YtljcdjggjphedaaDoorW.PrintLast Go.Proofs.YtljcdjggjphedaaDoorW.PrintMore
open Go.Proofs.YtljcdjggjphedaaDoor.PFnHandleScript
set_option linter.unusedVariables false
set_option linter.unusedSimpArgs false
theorem fits2_any (a0 : Int) (a1 a2 : ByteArray) (a3 a4 a5 : Int) (l6 : List Int) (a7 a8 a9 : Int) : ∃ r, laws_zzFits2.f a0 a1 a2 a3 a4 a5 l6 a7 a8 a9 = some r := by
  unfold laws_zzFits2.f
  split
  · exact ⟨_, rfl⟩
  · split
    · exact ⟨_, rfl⟩
    · split <;> exact ⟨_, rfl⟩
theorem fits1_from (l : List S26) (hl : l.length ≤ 2147483647) : ∀ (d i : Nat), i + d = l.length → ∃ r, laws_zzFits1.l0 (d + 1) l (l.length : Int) i = some r
  | 0, i, h => by
    unfold laws_zzFits1.l0
    rw [if_neg (by omega)]
    exact ⟨_, rfl⟩
  | d + 1, i, h => by
    unfold laws_zzFits1.l0
    rw [if_pos (by omega), if_pos (by omega), if_pos (by omega)]
    obtain ⟨r, hr⟩ := fits2_any (rd_T26 l i).f0 (rd_T26 l i).f1 (rd_T26 l i).f2 (rd_T26 l i).f3 (rd_T26 l i).f4 (rd_T26 l i).f5 (rd_T26 l i).f6 (rd_T26 l i).f7 (rd_T26 l i).f8 (rd_T26 l i).f9
    rw [hr]
    simp only [Option.bind_some]
    split
    · have hw : wrap64 ((i : Int) + 1) = ((i + 1 : Nat) : Int) := by unfold wrap64; omega
      rw [hw]
      exact fits1_from l hl d (i + 1) (by omega)
    · exact ⟨_, rfl⟩
theorem fits1_any (l : List S26) : ∃ k r, laws_zzFits1.f k l = some r := by
  by_cases h : l.length ≤ 2147483647
  · obtain ⟨r, hr⟩ := fits1_from l h l.length 0 (by omega)
    refine ⟨l.length + 1, r, ?_⟩
    unfold laws_zzFits1.f
    rw [if_neg (by omega)]
    exact hr
  · refine ⟨0, false, ?_⟩
    unfold laws_zzFits1.f
    rw [if_pos (by omega)]
/-- Whether steps are short enough is told. -/
theorem zz12 (w : World) (l : List S26) (A : Option Addr) (m c : Nat) (hC : k26.C w A m l) (hc : m ≤ c) : ∃ r : Bool, ∀ W, Below w.heap.size w W → Calls Tryd.prog 12 #[.slice A m c] W fun e w' => e = .returned (.bool r) ∧ Below W.heap.size W w' := by
  obtain rfl := hC.1
  obtain ⟨k, r, h⟩ := fits1_any l
  exact ⟨r, fun W hb => laws_zzFits1.calls k A c l r W (Kd.C_below hC hb) hc h⟩
theorem cellb {W W1 : World} {a : Addr} {v : Value} (h : W.cell? a = some v) (hb : Below W.heap.size W W1) : W1.cell? a = some v := by
  have hlt : a.block < W.heap.size := by
    rcases Nat.lt_or_ge a.block W.heap.size with hc | hc
    · exact hc
    · have hn : W.heap[a.block]? = none := Array.getElem?_eq_none hc
      simp [World.cell?, hn] at h
  rw [World.cell?_of_block (a := a) (hb.block a.block hlt)]
  exact h
theorem lit_row {α : Type} (d : Kd α) {W : World} {base e : Nat} {x : α} {cs : List Value} {ok okp : Nat → Prop} (hp : d.M W base okp x cs) (hok : ∀ k, okp k → ok k) (hfresh : ok W.heap.size) (hbase : base ≤ W.heap.size) :
    d.R e (W.alloc (.cells cs.toArray e)) base ok (.slice (some ⟨W.heap.size, 0, none⟩) 1 1) [x] := by
  refine ⟨fun k hk => ?_, cs, ?_, ?_⟩
  · have : W.heap.size = k := by simpa [Value.ownBlock] using hk
    subst this
    exact hfresh
  · have h2 := World.ownsRow_lit (base := base) (e := e) (size := d.sz) W cs.toArray 1 hbase (by simp [maxLen]) (by simpa using d.K_len (d.K_of_M hp))
    simpa using h2
  · refine ⟨by simpa using d.K_len (d.K_of_M hp), fun j p hj => ?_⟩
    match j, hj with
    | 0, hj =>
      simp at hj
      subst hj
      have hlen := d.K_len (d.K_of_M hp)
      have e : (cs.drop (0 * d.sz)).take d.sz = cs := by rw [Nat.zero_mul, List.drop_zero, List.take_of_length_le (by omega)]
      rw [e]
      refine d.M_mono (fun k hk => ⟨hok k hk.1, fun h => ?_⟩) (Kd.M_below (d.M_bound hp) (below_alloc (Below.refl _ _) _))
      have : k = W.heap.size := by simpa [Value.ownBlock] using h
      have := hk.2.2.1
      omega
section
variable {ops : Array Oper} {rest : List Oper} {o : Oper} {a : Act} {Q : Exit → Act → World → Prop}
end
section
variable {A : Nat → Addr} {h : Hnd} {n : Nod} {data : List Int} {s : S26}
theorem does_read (m : Nat) (hop : s.f0 = 12) (hN : s.f9 = m) (hm : m ≤ 1000000) (hl : data.length ≤ 1000000) (hp : h.cl = false → 0 ≤ h.pos) :
    Does A h n data s (ans (rdE h.cl data.length h.pos m) 0 0 (rdD h.cl data h.pos m)) { h with pos := h.pos + (rdD h.cl data h.pos m).length } n data := by
  intro f d base v W F hS hf hd Ad cd hC hc
  rw [hop, hN]
  exact on_read_any F m _ _ _ _ _ rfl (rdD_len _ _ _ _) hm s.f7 (read_spec A F hS.sent m hm hl hp) (fun w2 hM => kind_rd A h.cl data.length h.pos m w2 ((hS.moves hM (F.tch hf hd) (Nat.le_trans hf (Nat.le_of_lt (blk_lt F.hf)))).sent)) s.f8 s.f1 s.f2 s.f3 s.f4 s.f5 Ad s.f6.length cd
theorem does_readat (m : Nat) (hop : s.f0 = 13) (hN : s.f9 = m) (hm : m ≤ 1000000) (hl : data.length ≤ 1000000) (hp : h.cl = false → 0 ≤ s.f7) : Does A h n data s (ans (rdE h.cl data.length s.f7 m) 0 0 (rdD h.cl data s.f7 m)) h n data := by
  intro f d base v W F hS hf hd Ad cd hC hc
  rw [hop, hN]
  exact on_readat_any F m _ _ h _ _ rfl (rdD_len _ _ _ _) hm s.f7 (readat_spec A F hS hf hd m hm hl s.f7 hp) (fun w2 hM => kind_rd A h.cl data.length s.f7 m w2 ((hS.moves hM (F.tch hf hd) (Nat.le_trans hf (Nat.le_of_lt (blk_lt F.hf)))).sent)) s.f8 s.f1 s.f2 s.f3 s.f4 s.f5 Ad s.f6.length cd
theorem does_writeatc (hop : s.f0 = 15) (hcl : h.cl = true) (hm : s.f6.length ≤ 10000000) : Does A h n data s (ans 3 0 0 []) { h with pos := s.f7 } n data := by
  intro f d base v W F hS hf hd Ad cd hC hc
  rw [hop]
  exact on_writeat_any F _ _ _ 0 3 s.f7 Ad s.f6.length cd hC hm (writeat_of F hf s.f7 (fun W0 F0 hM hs => write_c F0 (hS.moves hM (fun k hk => by subst hk; exact hf) (Nat.le_trans hf (Nat.le_of_lt (blk_lt F.hf)))) hf hd s.f6.length hcl)) s.f8 s.f9 s.f1 s.f2 s.f3 s.f4 s.f5
theorem does_writeatr (hop : s.f0 = 15) (hcl : h.cl = false) (hro : h.ro = true) (hm : s.f6.length ≤ 10000000) : Does A h n data s (ans 6 0 0 []) { h with pos := s.f7 } n data := by
  intro f d base v W F hS hf hd Ad cd hC hc
  rw [hop]
  exact on_writeat_any F _ _ _ 0 6 s.f7 Ad s.f6.length cd hC hm (writeat_of F hf s.f7 (fun W0 F0 hM hs => write_r F0 (hS.moves hM (fun k hk => by subst hk; exact hf) (Nat.le_trans hf (Nat.le_of_lt (blk_lt F.hf)))) hf hd s.f6.length hcl hro)) s.f8 s.f9 s.f1 s.f2 s.f3 s.f4 s.f5
end
end Go.Proofs.YtljcdjggjphedaaDoor.Hd
namespace Go.Proofs.YtljcdjggjphedaaDoor.Bq
open Go.RowKit Go.Proofs.YtljcdjggjphedaaDoorW.PrintWords Go.Proofs.YtljcdjggjphedaaDoorW.PrintLast Go.Proofs.YtljcdjggjphedaaDoorW.PrintMore
/-- The worlds that have new blocks alone. -/
def BW (w : World) := { w' : World // Below w.heap.size w w' }
instance (w : World) : Nonempty (BW w) := ⟨⟨w, Below.refl _ _⟩⟩
theorem BW.b {w : World} (n : BW w) : Below w.heap.size w n.1 := n.2
end Go.Proofs.YtljcdjggjphedaaDoor.Bq
namespace Go.Proofs.YtljcdjggjphedaaDoor.Og
open Go.RowKit Go.ChangeShapes Go.WideShapes Go.Deep Go.Proofs.YtljcdjggjphedaaDoorW.PrintWords
set_option linter.unusedVariables false
/-- What the reader takes for a value of type t is one of kind d. -/
def Opens {α : Type} (P : Program) (t : TypeId) (d : Kd α) : Prop :=
  ∀ {H : Type} {enc : TypeId × Value → H} {w : World} {base : Nat} {spare : Nat → Bool} {held : Bool} {n : Nat} {cs : List Value} {y : DataW H × List MemPlace}, DataW.trod enc P w base spare held n t cs = some y → ∃ x, d.K w x cs
variable {P : Program}
theorem opens_int {t : TypeId} {k : IntKind} (ht : P.underlying t = some (.int k)) : Opens P t (Kd.int k) := fun h => by
  obtain ⟨n, rfl, _⟩ := DataW.trod_int ht h
  exact ⟨n, rfl⟩
theorem opens_string {t : TypeId} (ht : P.underlying t = some .string) : Opens P t Kd.string := fun h => by
  obtain ⟨n, rfl, _⟩ := DataW.trod_string ht h
  exact ⟨n, rfl⟩
theorem choose_row {α : Type} {Q : Nat → α → Prop} : ∀ n : Nat, (∀ i, i < n → ∃ x, Q i x) → ∃ xs : List α, xs.length = n ∧ ∀ i x, xs[i]? = some x → Q i x
  | 0, _ => ⟨[], rfl, fun i x h => by simp at h⟩
  | n + 1, h => by
    obtain ⟨xs, hl, hx⟩ := choose_row n (fun i hi => h i (by omega))
    obtain ⟨y, hy⟩ := h n (by omega)
    refine ⟨xs ++ [y], by simp [hl], fun i x hi => ?_⟩
    by_cases hin : i < n
    · rw [List.getElem?_append_left (by omega)] at hi
      exact hx i x hi
    · rw [List.getElem?_append_right (by omega), hl] at hi
      have : i - n = 0 := by
        rcases Nat.eq_zero_or_pos (i - n) with e | e
        · exact e
        · rw [List.getElem?_eq_none (by simp; omega)] at hi; cases hi
      rw [this] at hi
      simp at hi
      subst hi
      have : i = n := by omega
      subst this
      exact hy
theorem opens_row {α : Type} {t e : TypeId} {d : Kd α} (ht : P.underlying t = some (.slice e)) (hC : P.cellsOf e = d.sz) (he : Opens P e d) {H : Type} {enc : TypeId × Value → H} {w : World} {base : Nat} {spare : Nat → Bool} {held : Bool} {n : Nat} {cs : List Value} {y : DataW H × List MemPlace} (h : DataW.trod enc P w base spare held n t cs = some y) :
    ∃ A m c xs, cs = [.slice A m c] ∧ m ≤ c ∧ d.C w A m xs := by
  rcases open_slice ht h with ⟨rfl, _⟩ | ⟨a, len, cap, m, n, D, Pl, rfl, hb, hl, hm, hmm, hx, hi⟩
  · exact ⟨none, 0, 0, [], rfl, Nat.le_refl _, Kd.C_nil _ _⟩
  · have hlm : len ≤ m := by rw [hmm]; split <;> omega
    obtain ⟨xs, hxl, hxs⟩ := choose_row (Q := fun i x => ∃ c, d.K w x c ∧ c.length = d.sz ∧ ∀ j u, c[j]? = some u → w.cell? (a.add (i * d.sz + j)) = some u) len (fun i hil => by
      obtain ⟨cs', hc, ht'⟩ := hi i (by omega)
      obtain ⟨x, hK⟩ := he ht'
      refine ⟨x, cs', hK, d.K_len hK, fun j u hj => ?_⟩
      obtain ⟨_, hcl, hat⟩ := World.cells?_some hc
      have hjl : j < cs'.length := (List.getElem?_eq_some_iff.1 hj).1
      have := hat j (by omega)
      rw [hC] at this
      rw [← Go.Deep.add_add, this, hj])
    refine ⟨some a, len, cap, xs, rfl, hl, hxl, by unfold maxLen at hm; omega, fun _ => ⟨a, rfl, fun j p hj => ?_⟩⟩
    obtain ⟨c, hK, hcl, hcell⟩ := hxs j p hj
    exact ⟨c, hcl, hK, hcell⟩
/-- The fields of a struct of one cell each. -/
theorem opens_fields {t : TypeId} {fs : Array Field} (ht : P.underlying t = some (.struct fs)) (hone : oneCellFields P fs = true) (hC : P.cellsOf t = fs.size) {H : Type} {enc : TypeId × Value → H} {w : World} {base : Nat} {spare : Nat → Bool} {held : Bool} {n : Nat} {cs : List Value} {y : DataW H × List MemPlace} (h : DataW.trod enc P w base spare held n t cs = some y) :
    cs.length = fs.size ∧ ∀ (j : Nat) (f : Field), fs[j]? = some f → ∃ v y n', cs[j]? = some v ∧ DataW.trod enc P w base spare held n' f.type [v] = some y := by
  obtain ⟨ys, n', hn', hy, hlen, hyl, hf⟩ := DataW.trod_struct ht h
  refine ⟨by omega, fun j f hj => ?_⟩
  obtain ⟨ho, hk⟩ := hone_of hone j f hj
  have hjl : j < fs.size := (Array.getElem?_eq_some_iff.1 hj).1
  have hv : cs[j]? = some (cs[j]'(by omega)) := List.getElem?_eq_getElem (by omega)
  have h1 := hf j f hj
  rw [ho, hk] at h1
  have hone' : (cs.drop j).take 1 = [cs[j]'(by omega)] := by
    rw [List.drop_eq_getElem_cons (by omega)]
    rfl
  rw [hone'] at h1
  have hys : ys[j]? = some (ys[j]'(by omega)) := List.getElem?_eq_getElem (by omega)
  exact ⟨_, _, _, hv, h1.trans hys⟩
end Go.Proofs.YtljcdjggjphedaaDoor.Og
namespace Go.Proofs.YtljcdjggjphedaaDoor.PFnHandleScript
open Go.RowKit Go.Proofs.YtljcdjggjphedaaDoorW.PrintWords Go.Proofs.YtljcdjggjphedaaDoorW.PrintLast Go.Proofs.YtljcdjggjphedaaDoorW.PrintMore
attribute [local go_sem] max2_int min2_int max_two min_two max_three min_three max_four min_four   -- for this text's walks alone
set_option linter.unusedVariables false
set_option linter.unusedSimpArgs false
theorem eqA75 (d : Nat) (w : World) (x0 y0 : ByteArray) (x1 y1 : Int) (x2 y2 : Int) (x3 y3 : Bool) (x4 y4 : Int) :
    (Op.equalIn (d + 2) 75 (.agg #[.string x0, .int .i64 x1, .int .i64 x2, .bool x3, .int .i64 x4]) (.agg #[.string y0, .int .i64 y1, .int .i64 y2, .bool y3, .int .i64 y4])).run Tryd.prog w = .ok (x0.toList == y0.toList && (x1 == y1 && (x2 == y2 && (x3 == y3 && (x4 == y4))))) w := by
  refine eqA_of Tryd.underlying75 (by kernel_rfl) ?_
  refine eqf_cons (by rfl) (by go_simp; rfl) (by go_simp; rfl) (by go_simp) ?_
  refine eqf_cons (by rfl) (by go_simp; rfl) (by go_simp; rfl) (by go_simp) ?_
  refine eqf_cons (by rfl) (by go_simp; rfl) (by go_simp; rfl) (by go_simp) ?_
  refine eqf_cons (by rfl) (by go_simp; rfl) (by go_simp; rfl) (by go_simp) ?_
  exact eqf_last (by rfl) (by go_simp; rfl) (by go_simp; rfl) (by go_simp)
end Go.Proofs.YtljcdjggjphedaaDoor.PFnHandleScript
namespace Go.Proofs.YtljcdjggjphedaaDoor.PFnHandleScript
open Go.RowKit Go.Proofs.YtljcdjggjphedaaDoorW.PrintWords Go.Proofs.YtljcdjggjphedaaDoorW.PrintLast Go.Proofs.YtljcdjggjphedaaDoorW.PrintMore
attribute [local go_sem] max2_int min2_int max_two min_two max_three min_three max_four min_four   -- for this text's walks alone
set_option linter.unusedVariables false
set_option linter.unusedSimpArgs false
mutual
def spec_MemName.j0 : Nat → ByteArray → List ByteArray → Bool → Option (ByteArray)
  | 0, _, _, _ => none
  | k + 1, x0, x3, x4 => spec_MemName.l0 k x0 x3 x4 0
def spec_MemName.l0 : Nat → ByteArray → List ByteArray → Bool → Int → Option (ByteArray)
  | 0, _, _, _, _ => none
  | k + 1, x0, x3, x4, x5 => if x5 < (x0.size : Int) then (spec_MemName.l1 k x0 x3 x4 x5 x5) else (spec_MemName.l2 k x4 (⟨#[]⟩ : ByteArray) x3 (x3.length : Int) 0)
def spec_MemName.j3 : Nat → ByteArray → List ByteArray → Bool → Int → Int → Option (ByteArray)
  | 0, _, _, _, _, _ => none
  | k + 1, x0, x3, x4, x5, x6 => if 0 ≤ x5 then (if x5 ≤ x6 then (if x6 ≤ (x0.size : Int) then (if (x0.extract (x5 : Int).toNat (x6 : Int).toNat).toList = ([] : List UInt8) then (spec_MemName.j4 k x0 x3 x4 x6 (x0.extract (x5 : Int).toNat (x6 : Int).toNat) true) else (spec_MemName.j4 k x0 x3 x4 x6 (x0.extract (x5 : Int).toNat (x6 : Int).toNat) ((x0.extract (x5 : Int).toNat (x6 : Int).toNat).toList == ([46] : List UInt8)))) else (none)) else (none)) else (none)
def spec_MemName.j4 : Nat → ByteArray → List ByteArray → Bool → Int → ByteArray → Bool → Option (ByteArray)
  | 0, _, _, _, _, _, _ => none
  | k + 1, x0, x3, x4, x6, x7, x41 => if x41 = true then (spec_MemName.l0 k x0 x3 x4 (wrap64 (x6 + 1))) else (if x7.toList = ([46, 46] : List UInt8) then (if (x3.length : Int) > 0 then (if 0 ≤ (wrap64 ((x3.length : Int) - 1)) then (if (wrap64 ((x3.length : Int) - 1)) < (x3.length : Int) then (spec_MemName.j5 k x0 x3 x4 x6 x7 ((rdOf ByteArray.empty x3 (wrap64 ((x3.length : Int) - 1))).toList != ([46, 46] : List UInt8))) else (none)) else (none)) else (spec_MemName.j5 k x0 x3 x4 x6 x7 false)) else (if x3.length < 8796093022208 then (spec_MemName.l0 k x0 (x3 ++ [x7]) x4 (wrap64 (x6 + 1))) else (none)))
def spec_MemName.j5 : Nat → ByteArray → List ByteArray → Bool → Int → ByteArray → Bool → Option (ByteArray)
  | 0, _, _, _, _, _, _ => none
  | k + 1, x0, x3, x4, x6, x7, x55 => if x55 = true then (if 0 ≤ (wrap64 ((x3.length : Int) - 1)) then (if (wrap64 ((x3.length : Int) - 1)) ≤ (x3.length : Int) then (spec_MemName.l0 k x0 (x3.take ((wrap64 ((x3.length : Int) - 1)) : Int).toNat) x4 (wrap64 (x6 + 1))) else (none)) else (none)) else (if x4 = true then (spec_MemName.l0 k x0 x3 x4 (wrap64 (x6 + 1))) else (if x3.length < 8796093022208 then (spec_MemName.l0 k x0 (x3 ++ [x7]) x4 (wrap64 (x6 + 1))) else (none)))
def spec_MemName.l1 : Nat → ByteArray → List ByteArray → Bool → Int → Int → Option (ByteArray)
  | 0, _, _, _, _, _ => none
  | k + 1, x0, x3, x4, x5, x6 => if x6 < (x0.size : Int) then (if 0 ≤ x6 then (if (bt x0 x6) = 47 then (spec_MemName.j3 k x0 x3 x4 x5 x6) else (spec_MemName.l1 k x0 x3 x4 x5 (wrap64 (x6 + 1)))) else (none)) else (spec_MemName.j3 k x0 x3 x4 x5 x6)
def spec_MemName.l2 : Nat → Bool → ByteArray → List ByteArray → Int → Int → Option (ByteArray)
  | 0, _, _, _, _, _ => none
  | k + 1, x4, x8, x82, x83, x84 => if x84 < x83 then (if 0 ≤ x84 then (if x84 < (x82.length : Int) then (if x84 > 0 then (if x8.size + 1 ≤ 9223372036854775807 then (if (x8 ++ (⟨#[47]⟩ : ByteArray)).size + (rdOf ByteArray.empty x82 x84).size ≤ 9223372036854775807 then (spec_MemName.l2 k x4 ((x8 ++ (⟨#[47]⟩ : ByteArray)) ++ (rdOf ByteArray.empty x82 x84)) x82 x83 (wrap64 (x84 + 1))) else (none)) else (none)) else (if x4 = true then (if x8.size + 1 ≤ 9223372036854775807 then (if (x8 ++ (⟨#[47]⟩ : ByteArray)).size + (rdOf ByteArray.empty x82 x84).size ≤ 9223372036854775807 then (spec_MemName.l2 k x4 ((x8 ++ (⟨#[47]⟩ : ByteArray)) ++ (rdOf ByteArray.empty x82 x84)) x82 x83 (wrap64 (x84 + 1))) else (none)) else (none)) else (if x8.size + (rdOf ByteArray.empty x82 x84).size ≤ 9223372036854775807 then (spec_MemName.l2 k x4 (x8 ++ (rdOf ByteArray.empty x82 x84)) x82 x83 (wrap64 (x84 + 1))) else (none)))) else (none)) else (none)) else (if x8.toList = ([] : List UInt8) then (some (⟨#[47]⟩ : ByteArray)) else (if x8.toList = ([46, 46] : List UInt8) then (some (⟨#[47]⟩ : ByteArray)) else (some x8)))
end
def spec_MemName.f (k : Nat) (a0 : ByteArray) : Option (ByteArray) := (some (([] : List ByteArray) : List ByteArray)).bind fun y108 => (if (a0.size : Int) > 0 then (if 0 < (a0.size : Int) then (spec_MemName.j0 k a0 y108 ((bt a0 0) == 47)) else (none)) else (spec_MemName.j0 k a0 y108 false))
theorem spec_MemName.mono_l : ∀ k, (∀ y0 y1 y2, LeO (spec_MemName.j0 k y0 y1 y2) (spec_MemName.j0 (k + 1) y0 y1 y2)) ∧ (∀ y0 y1 y2 y3, LeO (spec_MemName.l0 k y0 y1 y2 y3) (spec_MemName.l0 (k + 1) y0 y1 y2 y3)) ∧ (∀ y0 y1 y2 y3 y4, LeO (spec_MemName.j3 k y0 y1 y2 y3 y4) (spec_MemName.j3 (k + 1) y0 y1 y2 y3 y4)) ∧ (∀ y0 y1 y2 y3 y4 y5, LeO (spec_MemName.j4 k y0 y1 y2 y3 y4 y5) (spec_MemName.j4 (k + 1) y0 y1 y2 y3 y4 y5)) ∧ (∀ y0 y1 y2 y3 y4 y5, LeO (spec_MemName.j5 k y0 y1 y2 y3 y4 y5) (spec_MemName.j5 (k + 1) y0 y1 y2 y3 y4 y5)) ∧ (∀ y0 y1 y2 y3 y4, LeO (spec_MemName.l1 k y0 y1 y2 y3 y4) (spec_MemName.l1 (k + 1) y0 y1 y2 y3 y4)) ∧ (∀ y0 y1 y2 y3 y4, LeO (spec_MemName.l2 k y0 y1 y2 y3 y4) (spec_MemName.l2 (k + 1) y0 y1 y2 y3 y4))
  | 0 => ⟨fun _ _ _ r h => by simp [spec_MemName.j0] at h, fun _ _ _ _ r h => by simp [spec_MemName.l0] at h, fun _ _ _ _ _ r h => by simp [spec_MemName.j3] at h, fun _ _ _ _ _ _ r h => by simp [spec_MemName.j4] at h, fun _ _ _ _ _ _ r h => by simp [spec_MemName.j5] at h, fun _ _ _ _ _ r h => by simp [spec_MemName.l1] at h, fun _ _ _ _ _ r h => by simp [spec_MemName.l2] at h⟩
  | k + 1 => by
    obtain ⟨ih0, ih1, ih2, ih3, ih4, ih5, ih6⟩ := spec_MemName.mono_l k
    refine ⟨?_, ?_, ?_, ?_, ?_, ?_, ?_⟩
    · intro y0 y1 y2
      unfold spec_MemName.j0
      repeat' first
      | (with_reducible exact ih0 _ _ _)
      | (with_reducible exact ih1 _ _ _ _)
      | (with_reducible exact ih2 _ _ _ _ _)
      | (with_reducible exact ih3 _ _ _ _ _ _)
      | (with_reducible exact ih4 _ _ _ _ _ _)
      | (with_reducible exact ih5 _ _ _ _ _)
      | (with_reducible exact ih6 _ _ _ _ _)
      | (with_reducible exact LeO.refl _)
      | (with_reducible exact LeO.none _)
      | (with_reducible refine LeO.ite ?_ ?_)
      | (with_reducible refine LeO.bind ?_ (fun _ => ?_))
      | exact ih0 _ _ _
      | exact ih1 _ _ _ _
      | exact ih2 _ _ _ _ _
      | exact ih3 _ _ _ _ _ _
      | exact ih4 _ _ _ _ _ _
      | exact ih5 _ _ _ _ _
      | exact ih6 _ _ _ _ _
      | exact LeO.none _
      | refine LeO.ite ?_ ?_
      | refine LeO.bind ?_ (fun _ => ?_)
    · intro y0 y1 y2 y3
      unfold spec_MemName.l0
      repeat' first
      | (with_reducible exact ih0 _ _ _)
      | (with_reducible exact ih1 _ _ _ _)
      | (with_reducible exact ih2 _ _ _ _ _)
      | (with_reducible exact ih3 _ _ _ _ _ _)
      | (with_reducible exact ih4 _ _ _ _ _ _)
      | (with_reducible exact ih5 _ _ _ _ _)
      | (with_reducible exact ih6 _ _ _ _ _)
      | (with_reducible exact LeO.refl _)
      | (with_reducible exact LeO.none _)
      | (with_reducible refine LeO.ite ?_ ?_)
      | (with_reducible refine LeO.bind ?_ (fun _ => ?_))
      | exact ih0 _ _ _
      | exact ih1 _ _ _ _
      | exact ih2 _ _ _ _ _
      | exact ih3 _ _ _ _ _ _
      | exact ih4 _ _ _ _ _ _
      | exact ih5 _ _ _ _ _
      | exact ih6 _ _ _ _ _
      | exact LeO.none _
      | refine LeO.ite ?_ ?_
      | refine LeO.bind ?_ (fun _ => ?_)
    · intro y0 y1 y2 y3 y4
      unfold spec_MemName.j3
      repeat' first
      | (with_reducible exact ih0 _ _ _)
      | (with_reducible exact ih1 _ _ _ _)
      | (with_reducible exact ih2 _ _ _ _ _)
      | (with_reducible exact ih3 _ _ _ _ _ _)
      | (with_reducible exact ih4 _ _ _ _ _ _)
      | (with_reducible exact ih5 _ _ _ _ _)
      | (with_reducible exact ih6 _ _ _ _ _)
      | (with_reducible exact LeO.refl _)
      | (with_reducible exact LeO.none _)
      | (with_reducible refine LeO.ite ?_ ?_)
      | (with_reducible refine LeO.bind ?_ (fun _ => ?_))
      | exact ih0 _ _ _
      | exact ih1 _ _ _ _
      | exact ih2 _ _ _ _ _
      | exact ih3 _ _ _ _ _ _
      | exact ih4 _ _ _ _ _ _
      | exact ih5 _ _ _ _ _
      | exact ih6 _ _ _ _ _
      | exact LeO.none _
      | refine LeO.ite ?_ ?_
      | refine LeO.bind ?_ (fun _ => ?_)
    · intro y0 y1 y2 y3 y4 y5
      unfold spec_MemName.j4
      repeat' first
      | (with_reducible exact ih0 _ _ _)
      | (with_reducible exact ih1 _ _ _ _)
      | (with_reducible exact ih2 _ _ _ _ _)
      | (with_reducible exact ih3 _ _ _ _ _ _)
      | (with_reducible exact ih4 _ _ _ _ _ _)
      | (with_reducible exact ih5 _ _ _ _ _)
      | (with_reducible exact ih6 _ _ _ _ _)
      | (with_reducible exact LeO.refl _)
      | (with_reducible exact LeO.none _)
      | (with_reducible refine LeO.ite ?_ ?_)
      | (with_reducible refine LeO.bind ?_ (fun _ => ?_))
      | exact ih0 _ _ _
      | exact ih1 _ _ _ _
      | exact ih2 _ _ _ _ _
      | exact ih3 _ _ _ _ _ _
      | exact ih4 _ _ _ _ _ _
      | exact ih5 _ _ _ _ _
      | exact ih6 _ _ _ _ _
      | exact LeO.none _
      | refine LeO.ite ?_ ?_
      | refine LeO.bind ?_ (fun _ => ?_)
    · intro y0 y1 y2 y3 y4 y5
      unfold spec_MemName.j5
      repeat' first
      | (with_reducible exact ih0 _ _ _)
      | (with_reducible exact ih1 _ _ _ _)
      | (with_reducible exact ih2 _ _ _ _ _)
      | (with_reducible exact ih3 _ _ _ _ _ _)
      | (with_reducible exact ih4 _ _ _ _ _ _)
      | (with_reducible exact ih5 _ _ _ _ _)
      | (with_reducible exact ih6 _ _ _ _ _)
      | (with_reducible exact LeO.refl _)
      | (with_reducible exact LeO.none _)
      | (with_reducible refine LeO.ite ?_ ?_)
      | (with_reducible refine LeO.bind ?_ (fun _ => ?_))
      | exact ih0 _ _ _
      | exact ih1 _ _ _ _
      | exact ih2 _ _ _ _ _
      | exact ih3 _ _ _ _ _ _
      | exact ih4 _ _ _ _ _ _
      | exact ih5 _ _ _ _ _
      | exact ih6 _ _ _ _ _
      | exact LeO.none _
      | refine LeO.ite ?_ ?_
      | refine LeO.bind ?_ (fun _ => ?_)
    · intro y0 y1 y2 y3 y4
      unfold spec_MemName.l1
      repeat' first
      | (with_reducible exact ih0 _ _ _)
      | (with_reducible exact ih1 _ _ _ _)
      | (with_reducible exact ih2 _ _ _ _ _)
      | (with_reducible exact ih3 _ _ _ _ _ _)
      | (with_reducible exact ih4 _ _ _ _ _ _)
      | (with_reducible exact ih5 _ _ _ _ _)
      | (with_reducible exact ih6 _ _ _ _ _)
      | (with_reducible exact LeO.refl _)
      | (with_reducible exact LeO.none _)
      | (with_reducible refine LeO.ite ?_ ?_)
      | (with_reducible refine LeO.bind ?_ (fun _ => ?_))
      | exact ih0 _ _ _
      | exact ih1 _ _ _ _
      | exact ih2 _ _ _ _ _
      | exact ih3 _ _ _ _ _ _
      | exact ih4 _ _ _ _ _ _
      | exact ih5 _ _ _ _ _
      | exact ih6 _ _ _ _ _
      | exact LeO.none _
      | refine LeO.ite ?_ ?_
      | refine LeO.bind ?_ (fun _ => ?_)
    · intro y0 y1 y2 y3 y4
      unfold spec_MemName.l2
      repeat' first
      | (with_reducible exact ih0 _ _ _)
      | (with_reducible exact ih1 _ _ _ _)
      | (with_reducible exact ih2 _ _ _ _ _)
      | (with_reducible exact ih3 _ _ _ _ _ _)
      | (with_reducible exact ih4 _ _ _ _ _ _)
      | (with_reducible exact ih5 _ _ _ _ _)
      | (with_reducible exact ih6 _ _ _ _ _)
      | (with_reducible exact LeO.refl _)
      | (with_reducible exact LeO.none _)
      | (with_reducible refine LeO.ite ?_ ?_)
      | (with_reducible refine LeO.bind ?_ (fun _ => ?_))
      | exact ih0 _ _ _
      | exact ih1 _ _ _ _
      | exact ih2 _ _ _ _ _
      | exact ih3 _ _ _ _ _ _
      | exact ih4 _ _ _ _ _ _
      | exact ih5 _ _ _ _ _
      | exact ih6 _ _ _ _ _
      | exact LeO.none _
      | refine LeO.ite ?_ ?_
      | refine LeO.bind ?_ (fun _ => ?_)
theorem spec_MemName.mono : ∀ a0 k, LeO (spec_MemName.f k a0) (spec_MemName.f (k + 1) a0) := by
  intro a0 k
  obtain ⟨ih0, ih1, ih2, ih3, ih4, ih5, ih6⟩ := spec_MemName.mono_l k
  unfold spec_MemName.f
  repeat' first
      | (with_reducible exact ih0 _ _ _)
      | (with_reducible exact ih1 _ _ _ _)
      | (with_reducible exact ih2 _ _ _ _ _)
      | (with_reducible exact ih3 _ _ _ _ _ _)
      | (with_reducible exact ih4 _ _ _ _ _ _)
      | (with_reducible exact ih5 _ _ _ _ _)
      | (with_reducible exact ih6 _ _ _ _ _)
      | (with_reducible exact LeO.refl _)
      | (with_reducible exact LeO.none _)
      | (with_reducible refine LeO.ite ?_ ?_)
      | (with_reducible refine LeO.bind ?_ (fun _ => ?_))
      | exact ih0 _ _ _
      | exact ih1 _ _ _ _
      | exact ih2 _ _ _ _ _
      | exact ih3 _ _ _ _ _ _
      | exact ih4 _ _ _ _ _ _
      | exact ih5 _ _ _ _ _
      | exact ih6 _ _ _ _ _
      | exact LeO.none _
      | refine LeO.ite ?_ ?_
      | refine LeO.bind ?_ (fun _ => ?_)
def spec_MemName.T1 : Bool × List (List Nat × List Nat) := (true, [([], []), ([], []), ([1], [1]), ([2], [2]), ([3], [3]), ([4], [4]), ([5, 4], [4, 5]), ([6, 4], [4, 6]), ([4, 7], [4, 7]), ([0, 4, 0], [0]), ([8, 9, 0, 1, 2, 3, 4, 5, 6, 7, 8, 9], [8])])
def spec_MemName.B1 : List Nat := [0, 0, 2, 6, 14, 30, 62, 126, 254, 31, 1023]
theorem spec_MemName.tab1 : rtab .any (opsOf Tryd.f57 1) = spec_MemName.T1 := by kernel_rfl
theorem spec_MemName.bits1 : waitsOk spec_MemName.T1.2 spec_MemName.B1 = true := by kernel_rfl
set_option maxHeartbeats 8000000 in
set_option maxRecDepth 100000 in
theorem spec_MemName.calls (k : Nat) (a0 : ByteArray) (r : ByteArray) (w : World) (h : spec_MemName.f k a0 = some r) :
    Calls Tryd.prog 57 #[.string a0] w fun e w' => e = .returned (.string r) ∧ Below w.heap.size w w' := by
  have HB := Aside0.mk (Below.refl w.heap.size w)
  have H : ((some (([] : List ByteArray) : List ByteArray)).bind fun y108 => (if (a0.size : Int) > 0 then (if 0 < (a0.size : Int) then (spec_MemName.j0 k a0 y108 ((bt a0 0) == 47)) else (none)) else (spec_MemName.j0 k a0 y108 false))) = some r := h
  clear h
  have HC2 := Aside0.mk H
  clear H
  go_enter Tryd.func57, Tryd.ntmps57
  go_upto_region 1 with (fail)
  go_cut [3, 4] (fun v3 v4 wc => ∃ (kq : Nat) (x3_1 : List ByteArray) (x4_1 : Bool), v4 = .bool x4_1 ∧ Aside0 (spec_MemName.j0 kq a0 x3_1 x4_1 = some r) ∧ Aside0 (kq ≤ k) ∧ Aside0 (Kd.R Kd.string 9 wc w.heap.size (fun _ => True) v3 x3_1) ∧ Aside0 (Below w.heap.size w wc))
  case first =>
    have H := HC2.out
    clear HC2
    obtain ⟨y108, hy108⟩ : ∃ y_ : List ByteArray, y_ = (([] : List ByteArray)) := ⟨_, rfl⟩
    replace H : (if (a0.size : Int) > 0 then (if 0 < (a0.size : Int) then (spec_MemName.j0 k a0 y108 ((bt a0 0) == 47)) else (none)) else (spec_MemName.j0 k a0 y108 false)) = some r := by first | (rw [hy108]; with_reducible exact H) | (have H2_ := (Option.bind_some _ _).symm.trans H; rw [hy108]; with_reducible exact H2_) | (have H2_ := (Option.bind_some _ _).symm.trans H; with_reducible exact H2_) | with_reducible exact H | (rw [hy108]; exact H) | exact H
    have Ny108 := Aside0.mk hy108
    clear hy108
    by_cases c3 : (a0.size : Int) > 0
    · rw [if_pos c3] at H
      have c3b0 : decide (0 < (a0.size : Int)) = true := decide_eq_true c3
      have c3b1 : decide (0 < a0.size) = true := decide_eq_true (by omega)
      clear c3
      (first | rw [c3b0] | (simp only [i64_w, i32_w]; rw [c3b0]) | skip)
      by_cases c4 : 0 < (a0.size : Int)
      · rw [if_pos c4] at H
        have c4b0 : decide (0 < (a0.size : Int)) = true := decide_eq_true c4
        have c4b1 : decide (0 < a0.size) = true := decide_eq_true (by omega)
        clear c4
        have H' := Aside0.mk H
        clear H
        try go_wp2
        have n0_ := Aside0.mk (below_drew1 HB.out)
        clear HB
        have HB := n0_
        clear n0_
        have p5 : 0 ≤ (0 : Int) := (by omega)
        have q5 : 0 < a0.size := (by have : (0 : Int) < (a0.size : Int) := of_decide_eq_true (by first | (with_reducible assumption) | assumption); omega)
        have hx5 : ∀ h : 0 < a0.size, ((a0[0]'h).toNat : Int) = bt a0 0 := bt_at a0 0
        clear p5
        have qi5 : (0 < (a0.size : Int)) = True := eq_true (of_decide_eq_true (by first | (with_reducible assumption) | assumption))
        replace q5 := eq_true q5
        refine start_ (n := 11) (S := fun w' => True) (ds := []) #[false, false, false, false, false, false, false, false, false, false, false] (by kernel_rfl) rfl rfl trivial (fun hHeld => ?_); refine with_tabW spec_MemName.tab1 spec_MemName.bits1 (fun HT_ HW_ => ?_)
        generalize w.drew = w6 at HB hHeld ⊢
        refine pure_ (i := 1) (N := some 12) (v := ?_) (a' := ?_) #[false, true, false, false, false, false, false, false, false, false, false] rfl rfl (any_of HT_.out (by kernel_rfl)) (fun _ _ _ h => h) (Or.inl ⟨by rfl, ?_⟩) ?_ ?_
        rotate_left
        · intro w'
          go_simp
          with_reducible rfl
        rotate_left
        · simp only [Act.put, List.setIfInBounds_toArray, List.set_cons_zero, List.set_cons_succ, i64_w, i32_w]
          rfl
        refine pure_ (i := 2) (N := some 13) (v := ?_) (a' := ?_) #[false, true, true, false, false, false, false, false, false, false, false] rfl rfl (any_of HT_.out (by kernel_rfl)) (fun _ _ _ h => h) (Or.inl ⟨by rfl, ?_⟩) ?_ ?_
        rotate_left
        · intro w'
          go_simp
          with_reducible rfl
        rotate_left
        · simp only [Act.put, List.setIfInBounds_toArray, List.set_cons_zero, List.set_cons_succ, i64_w, i32_w]
          rfl
        refine pure_ (i := 3) (N := some 14) (v := ?_) (a' := ?_) #[false, true, true, true, false, false, false, false, false, false, false] rfl rfl (any_of HT_.out (by kernel_rfl)) (fun _ _ _ h => h) (Or.inl ⟨by rfl, ?_⟩) ?_ ?_
        rotate_left
        · intro w'
          go_simp
          with_reducible rfl
        rotate_left
        · simp only [Act.put, List.setIfInBounds_toArray, List.set_cons_zero, List.set_cons_succ, i64_w, i32_w]
          rfl
        refine pure_ (i := 4) (N := some 15) (v := ?_) (a' := ?_) #[false, true, true, true, true, false, false, false, false, false, false] rfl rfl (any_of HT_.out (by kernel_rfl)) (fun _ _ _ h => h) (Or.inl ⟨by rfl, ?_⟩) ?_ ?_
        rotate_left
        · intro w'
          go_simp
          with_reducible rfl
        rotate_left
        · simp only [Act.put, List.setIfInBounds_toArray, List.set_cons_zero, List.set_cons_succ, i64_w, i32_w]
          rfl
        refine pure_ (i := 5) (N := some 16) (v := ?_) (a' := ?_) #[false, true, true, true, true, true, false, false, false, false, false] rfl rfl (any_of HT_.out (by kernel_rfl)) (fun _ _ _ h => h) (Or.inl ⟨by rfl, ?_⟩) ?_ ?_
        rotate_left
        · intro w'
          go_simp
          with_reducible rfl
        rotate_left
        · simp only [Act.put, List.setIfInBounds_toArray, List.set_cons_zero, List.set_cons_succ, i64_w, i32_w]
          rfl
        refine take_ (i := 6) (N := some 17) (v := ?_) (a' := ?_) #[false, true, true, true, true, true, true, false, false, false, false] rfl rfl (take_ofW HT_.out HW_.out (by kernel_rfl)) (fun _ _ _ h => h) (Or.inl ⟨by rfl, ?_⟩) hHeld ?_ ?_
        rotate_left
        · intro w' _
          go_simp
          with_reducible rfl
        rotate_left
        · simp only [Act.put, List.setIfInBounds_toArray, List.set_cons_zero, List.set_cons_succ, i64_w, i32_w]
          rfl
        refine pure_ (i := 7) (N := some 18) (v := ?_) (a' := ?_) #[false, true, true, true, true, true, true, true, false, false, false] rfl rfl (any_of HT_.out (by kernel_rfl)) (fun _ _ _ h => h) (Or.inl ⟨by rfl, ?_⟩) ?_ ?_
        rotate_left
        · intro w'
          go_simp
          with_reducible rfl
        rotate_left
        · simp only [Act.put, List.setIfInBounds_toArray, List.set_cons_zero, List.set_cons_succ, i64_w, i32_w]
          rfl
        refine pure_ (i := 8) (N := some 19) (v := ?_) (a' := ?_) #[false, true, true, true, true, true, true, true, true, false, false] rfl rfl (any_of HT_.out (by kernel_rfl)) (fun _ _ _ h => h) (Or.inl ⟨by rfl, ?_⟩) ?_ ?_
        rotate_left
        · intro w'
          go_simp
          with_reducible rfl
        rotate_left
        · simp only [Act.put, List.setIfInBounds_toArray, List.set_cons_zero, List.set_cons_succ, i64_w, i32_w]
          rfl
        refine one_ (i := 0) (N := some 11) #[true, true, true, true, true, true, true, true, true, false, false] rfl rfl (one_of HT_.out (by kernel_rfl)) (by decide) (fun K hK => ?_)
        refine Kd.R_lit_step Kd.string _ 9 ?hg (N := 11) ?hd (xs := ([] : List ByteArray)) (inner := []) (ok := fun _ => True) (okp := fun _ => True) ?hr ?hp (fun _ hk => hk) trivial (Below.refl _ _) (Nat.le_refl _) (by simp) ?_; (case hd => rfl); (case hg => rfl); (case hr => first | (go_simp; done) | (go_simp; rfl)); (case hp => exact (Reps.none _ _))
        intro v109 w7 ho8 hb hg_ hnew_
        clear hg_ hnew_
        (first | rw [← Ny108.out] at ho8 | (simp only [Int.reduceToNat] at ho8; rw [← Ny108.out] at ho8))
        have n0_ := Aside0.mk (Kd.R_lower ho8 (below_size (by repeat (first | (with_reducible first | exact HB.out | apply below_alloc | apply pw_below_drewN | apply below_drew1) | exact HB.out))))
        have n1_ := Aside0.mk (below_step (by repeat (first | (with_reducible first | exact HB.out | apply below_alloc | apply pw_below_drewN | apply below_drew1) | exact HB.out)) hb)
        clear HB
        have HO110 := n0_
        have HB := n1_
        clear n0_ n1_
        clear hb ho8
        refine hK.out _ _ trivial (fun hHeld => ?_)
        clear hK K
        refine norm_ (a' := ?_) ?_ ?_
        rotate_left
        · show Act.put _ (some 11) _ = _
          simp only [Act.put, List.setIfInBounds_toArray, List.set_cons_zero, List.set_cons_succ, i64_w, i32_w]
          rfl
        refine pure_ (i := 9) (N := some 3) (v := ?_) (a' := ?_) #[true, true, true, true, true, true, true, true, true, true, false] rfl rfl (any_of HT_.out (by kernel_rfl)) (fun _ _ _ h => h) (Or.inl ⟨by rfl, ?_⟩) ?_ ?_
        rotate_left
        · intro w'
          go_simp
          with_reducible rfl
        rotate_left
        · simp only [Act.put, List.setIfInBounds_toArray, List.set_cons_zero, List.set_cons_succ, i64_w, i32_w]
          rfl
        refine pure_ (i := 10) (N := some 4) (v := ?_) (a' := ?_) #[true, true, true, true, true, true, true, true, true, true, true] rfl rfl (any_of HT_.out (by kernel_rfl)) (fun _ _ _ h => h) (Or.inl ⟨by rfl, ?_⟩) ?_ ?_
        rotate_left
        · intro w'
          go_simp
          with_reducible rfl
        rotate_left
        · simp only [Act.put, List.setIfInBounds_toArray, List.set_cons_zero, List.set_cons_succ, i64_w, i32_w]
          rfl
        refine done_ (done_of HT_.out (by kernel_rfl)) ?_
        try go_wp2
        go_meet
        case rel => exact ⟨_, (y108), (((bt a0 0) == 47)), (by first | rfl | (simp; done) | (simp [*]; done)), H', ⟨by first | omega | exact Nat.le_refl _⟩, ⟨by (with_reducible repeat (first | apply Kd.R_alloc | apply Kd.R_drewN | apply Kd.R_drew)); exact HO110.out⟩, ⟨by repeat (first | (with_reducible first | exact HB.out | apply below_alloc | apply pw_below_drewN | apply below_drew1) | exact HB.out)⟩⟩
      · rw [if_neg c4] at H
        exact absurd H (by simp)
    · rw [if_neg c3] at H
      have c3b0 : decide (0 < (a0.size : Int)) = false := decide_eq_false c3
      have c3b1 : decide (0 < a0.size) = false := decide_eq_false (by omega)
      clear c3
      (first | rw [c3b0] | (simp only [i64_w, i32_w]; rw [c3b0]) | skip)
      have H' := Aside0.mk H
      clear H
      try go_wp2
      have n0_ := Aside0.mk (below_drew1 HB.out)
      clear HB
      have HB := n0_
      clear n0_
      refine start_ (n := 11) (S := fun w' => True) (ds := []) #[false, false, false, false, false, false, false, false, false, false, false] (by kernel_rfl) rfl rfl trivial (fun hHeld => ?_); refine with_tabW spec_MemName.tab1 spec_MemName.bits1 (fun HT_ HW_ => ?_)
      generalize w.drew = w9 at HB hHeld ⊢
      refine pure_ (i := 1) (N := some 12) (v := ?_) (a' := ?_) #[false, true, false, false, false, false, false, false, false, false, false] rfl rfl (any_of HT_.out (by kernel_rfl)) (fun _ _ _ h => h) (Or.inl ⟨by rfl, ?_⟩) ?_ ?_
      rotate_left
      · intro w'
        go_simp
        with_reducible rfl
      rotate_left
      · simp only [Act.put, List.setIfInBounds_toArray, List.set_cons_zero, List.set_cons_succ, i64_w, i32_w]
        rfl
      refine pure_ (i := 2) (N := some 13) (v := ?_) (a' := ?_) #[false, true, true, false, false, false, false, false, false, false, false] rfl rfl (any_of HT_.out (by kernel_rfl)) (fun _ _ _ h => h) (Or.inl ⟨by rfl, ?_⟩) ?_ ?_
      rotate_left
      · intro w'
        go_simp
        with_reducible rfl
      rotate_left
      · simp only [Act.put, List.setIfInBounds_toArray, List.set_cons_zero, List.set_cons_succ, i64_w, i32_w]
        rfl
      refine pure_ (i := 3) (N := some 14) (v := ?_) (a' := ?_) #[false, true, true, true, false, false, false, false, false, false, false] rfl rfl (any_of HT_.out (by kernel_rfl)) (fun _ _ _ h => h) (Or.inl ⟨by rfl, ?_⟩) ?_ ?_
      rotate_left
      · intro w'
        go_simp
        with_reducible rfl
      rotate_left
      · simp only [Act.put, List.setIfInBounds_toArray, List.set_cons_zero, List.set_cons_succ, i64_w, i32_w]
        rfl
      refine pure_ (i := 4) (N := some 15) (v := ?_) (a' := ?_) #[false, true, true, true, true, false, false, false, false, false, false] rfl rfl (any_of HT_.out (by kernel_rfl)) (fun _ _ _ h => h) (Or.inl ⟨by rfl, ?_⟩) ?_ ?_
      rotate_left
      · intro w'
        go_simp
        with_reducible rfl
      rotate_left
      · simp only [Act.put, List.setIfInBounds_toArray, List.set_cons_zero, List.set_cons_succ, i64_w, i32_w]
        rfl
      refine pure_ (i := 5) (N := some 16) (v := undef) (a' := ?_) #[false, true, true, true, true, true, false, false, false, false, false] rfl rfl (any_of HT_.out (by kernel_rfl)) (fun _ _ _ h => h) (Or.inr ⟨by rfl, rfl⟩) ?_ ?_
      rotate_left
      · simp only [Act.put, List.setIfInBounds_toArray, List.set_cons_zero, List.set_cons_succ, i64_w, i32_w]
        rfl
      refine pure_ (i := 6) (N := some 17) (v := undef) (a' := ?_) #[false, true, true, true, true, true, true, false, false, false, false] rfl rfl (any_of HT_.out (by kernel_rfl)) (fun _ _ _ h => h) (Or.inr ⟨by rfl, rfl⟩) ?_ ?_
      rotate_left
      · simp only [Act.put, List.setIfInBounds_toArray, List.set_cons_zero, List.set_cons_succ, i64_w, i32_w]
        rfl
      refine pure_ (i := 7) (N := some 18) (v := undef) (a' := ?_) #[false, true, true, true, true, true, true, true, false, false, false] rfl rfl (any_of HT_.out (by kernel_rfl)) (fun _ _ _ h => h) (Or.inr ⟨by rfl, rfl⟩) ?_ ?_
      rotate_left
      · simp only [Act.put, List.setIfInBounds_toArray, List.set_cons_zero, List.set_cons_succ, i64_w, i32_w]
        rfl
      refine pure_ (i := 8) (N := some 19) (v := ?_) (a' := ?_) #[false, true, true, true, true, true, true, true, true, false, false] rfl rfl (any_of HT_.out (by kernel_rfl)) (fun _ _ _ h => h) (Or.inl ⟨by rfl, ?_⟩) ?_ ?_
      rotate_left
      · intro w'
        go_simp
        with_reducible rfl
      rotate_left
      · simp only [Act.put, List.setIfInBounds_toArray, List.set_cons_zero, List.set_cons_succ, i64_w, i32_w]
        rfl
      refine one_ (i := 0) (N := some 11) #[true, true, true, true, true, true, true, true, true, false, false] rfl rfl (one_of HT_.out (by kernel_rfl)) (by decide) (fun K hK => ?_)
      refine Kd.R_lit_step Kd.string _ 9 ?hg (N := 11) ?hd (xs := ([] : List ByteArray)) (inner := []) (ok := fun _ => True) (okp := fun _ => True) ?hr ?hp (fun _ hk => hk) trivial (Below.refl _ _) (Nat.le_refl _) (by simp) ?_; (case hd => rfl); (case hg => rfl); (case hr => first | (go_simp; done) | (go_simp; rfl)); (case hp => exact (Reps.none _ _))
      intro v109 w10 ho11 hb hg_ hnew_
      clear hg_ hnew_
      (first | rw [← Ny108.out] at ho11 | (simp only [Int.reduceToNat] at ho11; rw [← Ny108.out] at ho11))
      have n0_ := Aside0.mk (Kd.R_lower ho11 (below_size (by repeat (first | (with_reducible first | exact HB.out | apply below_alloc | apply pw_below_drewN | apply below_drew1) | exact HB.out))))
      have n1_ := Aside0.mk (below_step (by repeat (first | (with_reducible first | exact HB.out | apply below_alloc | apply pw_below_drewN | apply below_drew1) | exact HB.out)) hb)
      clear HB
      have HO110 := n0_
      have HB := n1_
      clear n0_ n1_
      clear hb ho11
      refine hK.out _ _ trivial (fun hHeld => ?_)
      clear hK K
      refine norm_ (a' := ?_) ?_ ?_
      rotate_left
      · show Act.put _ (some 11) _ = _
        simp only [Act.put, List.setIfInBounds_toArray, List.set_cons_zero, List.set_cons_succ, i64_w, i32_w]
        rfl
      refine pure_ (i := 9) (N := some 3) (v := ?_) (a' := ?_) #[true, true, true, true, true, true, true, true, true, true, false] rfl rfl (any_of HT_.out (by kernel_rfl)) (fun _ _ _ h => h) (Or.inl ⟨by rfl, ?_⟩) ?_ ?_
      rotate_left
      · intro w'
        go_simp
        with_reducible rfl
      rotate_left
      · simp only [Act.put, List.setIfInBounds_toArray, List.set_cons_zero, List.set_cons_succ, i64_w, i32_w]
        rfl
      refine pure_ (i := 10) (N := some 4) (v := ?_) (a' := ?_) #[true, true, true, true, true, true, true, true, true, true, true] rfl rfl (any_of HT_.out (by kernel_rfl)) (fun _ _ _ h => h) (Or.inl ⟨by rfl, ?_⟩) ?_ ?_
      rotate_left
      · intro w'
        go_simp
        with_reducible rfl
      rotate_left
      · simp only [Act.put, List.setIfInBounds_toArray, List.set_cons_zero, List.set_cons_succ, i64_w, i32_w]
        rfl
      refine done_ (done_of HT_.out (by kernel_rfl)) ?_
      try go_wp2
      go_meet
      case rel => exact ⟨_, (y108), (false), (by first | rfl | (simp; done) | (simp [*]; done)), H', ⟨by first | omega | exact Nat.le_refl _⟩, ⟨by (with_reducible repeat (first | apply Kd.R_alloc | apply Kd.R_drewN | apply Kd.R_drew)); exact HO110.out⟩, ⟨by repeat (first | (with_reducible first | exact HB.out | apply below_alloc | apply pw_below_drewN | apply below_drew1) | exact HB.out)⟩⟩
  case rest =>
    clear HC2
    try clear p2
    try clear c3
    try clear c3b0
    try clear c3b1
    try clear c4
    try clear c4b0
    try clear c4b1
    try clear c5
    try clear p5
    try clear q5
    try clear hx5
    try clear qi5
    try clear p5
    try clear q5
    obtain ⟨kq, x3_1, x4_1, rfl, HA, HJ1, HO_3, HB⟩ := hcut
    cases kq with
    | zero => exact absurd HA.out (by simp [spec_MemName.j0])
    | succ kj1 =>
      have H := HA.out
      clear HA
      simp only [spec_MemName.j0] at H
      have H' := Aside0.mk H
      clear H
      go_wp2
      go_loopg [3, 5] kj1 (fun kq v3 v5 w' => ∃ (x3_2 : List ByteArray) (x5_2 : Int), v5 = .int .i64 x5_2 ∧ Aside0 (spec_MemName.l0 kq a0 x3_2 x4_1 x5_2 = some r) ∧ Aside0 (kq ≤ kj1) ∧ Aside0 (Kd.R Kd.string 9 w' w.heap.size (fun _ => True) v3 x3_2) ∧ Aside0 (Below w.heap.size w w'))
      case atStart => exact ⟨(x3_1), (0), (by first | rfl | (simp; done) | (simp [*]; done)), H', ⟨Nat.le_refl _⟩, ⟨by (with_reducible repeat (first | apply Kd.R_alloc | apply Kd.R_drewN | apply Kd.R_drew)); exact HO_3.out⟩, ⟨by repeat (first | (with_reducible first | exact HB.out | apply below_alloc | apply pw_below_drewN | apply below_drew1) | exact HB.out)⟩⟩
      case round =>
        clear H'
        try clear p2
        try clear c3
        try clear c3b0
        try clear c3b1
        try clear c4
        try clear c4b0
        try clear c4b1
        try clear c5
        try clear p5
        try clear q5
        try clear hx5
        try clear qi5
        try clear p2
        try clear p5
        try clear q5
        obtain ⟨x3_2, x5_2, rfl, HA, HK2, HO_3, HB⟩ := hrel
        cases gk with
        | zero => exact absurd HA.out (by simp [spec_MemName.l0])
        | succ k2 =>
          have H := HA.out
          clear HA
          simp only [spec_MemName.l0] at H
          by_cases c12 : x5_2 < (a0.size : Int)
          · rw [if_pos c12] at H
            have c12b0 : decide (x5_2 < (a0.size : Int)) = true := decide_eq_true c12
            clear c12
            have HC13 := Aside0.mk H
            clear H
            go_upto_block 2 with (fail)
            go_cut [6] (fun v6 wc => ∃ (kq : Nat) (x6_12 : Int), v6 = .int .i64 x6_12 ∧ Aside0 (spec_MemName.j3 kq a0 x3_2 x4_1 x5_2 x6_12 = some r) ∧ Aside0 (kq ≤ k2) ∧ Aside0 (Kd.R Kd.string 9 wc w.heap.size (fun _ => True) u3 x3_2) ∧ Aside0 (Below w.heap.size w wc))
            case first =>
              have H := HC13.out
              clear HC13
              have H' := Aside0.mk H
              clear H
              go_wp2
              go_loopg [6] k2 (fun kq v6 w' => ∃ (x6_3 : Int), v6 = .int .i64 x6_3 ∧ Aside0 (spec_MemName.l1 kq a0 x3_2 x4_1 x5_2 x6_3 = some r) ∧ Aside0 (kq ≤ k2) ∧ Aside0 (Kd.R Kd.string 9 w' w.heap.size (fun _ => True) u3 x3_2) ∧ Aside0 (Below w.heap.size w w'))
              case atStart => exact ⟨(x5_2), (by first | rfl | (simp; done) | (simp [*]; done)), H', ⟨Nat.le_refl _⟩, ⟨by (with_reducible repeat (first | apply Kd.R_alloc | apply Kd.R_drewN | apply Kd.R_drew)); exact HO_3.out⟩, ⟨by repeat (first | (with_reducible first | exact HB.out | apply below_alloc | apply pw_below_drewN | apply below_drew1) | exact HB.out)⟩⟩
              case round =>
                clear H'
                try clear c1
                try clear p2
                try clear c3
                try clear c3b0
                try clear c3b1
                try clear c4
                try clear c4b0
                try clear c4b1
                try clear c5
                try clear p5
                try clear q5
                try clear hx5
                try clear qi5
                try clear c12
                try clear c12b0
                try clear p2
                try clear p5
                try clear q5
                obtain ⟨x6_3, rfl, HA, HK3, HO_3, HB⟩ := hrel
                cases gk with
                | zero => exact absurd HA.out (by simp [spec_MemName.l1])
                | succ k3 =>
                  have H := HA.out
                  clear HA
                  simp only [spec_MemName.l1] at H
                  by_cases c14 : x6_3 < (a0.size : Int)
                  · rw [if_pos c14] at H
                    have c14b0 : decide (x6_3 < (a0.size : Int)) = true := decide_eq_true c14
                    clear c14
                    (first | rw [c14b0] | (simp only [i64_w, i32_w]; rw [c14b0]) | skip)
                    by_cases c15 : 0 ≤ x6_3
                    · rw [if_pos c15] at H
                      have c15b0 : decide (0 ≤ x6_3) = true := decide_eq_true c15
                      clear c15
                      by_cases c17 : (bt a0 x6_3) = 47
                      · rw [if_pos c17] at H
                        have c17b0 : ((bt a0 x6_3) == 47) = true := beq_iff_eq.mpr c17
                        have c17b1 : ((bt a0 x6_3) != 47) = false := bne_eq_false_iff_eq.mpr c17
                        clear c17
                        have H' := Aside0.mk H
                        clear H
                        have p16 : 0 ≤ (x6_3 : Int) := of_decide_eq_true (by first | (with_reducible assumption) | assumption)
                        have q16 : x6_3 < (a0.size : Int) := of_decide_eq_true (by first | (with_reducible assumption) | assumption)
                        have hx16 := bt_at a0 x6_3
                        replace p16 := eq_true p16
                        replace q16 := eq_true q16
                        go_wp2
                        go_meet
                        case rel => exact ⟨_, (x6_3), (by first | rfl | (simp; done) | (simp [*]; done)), H', ⟨by have := HJ1.out; have := HK2.out; have := HK3.out; first | omega | exact Nat.le_refl _⟩, ⟨by (with_reducible repeat (first | apply Kd.R_alloc | apply Kd.R_drewN | apply Kd.R_drew)); exact HO_3.out⟩, ⟨by repeat (first | (with_reducible first | exact HB.out | apply below_alloc | apply pw_below_drewN | apply below_drew1) | exact HB.out)⟩⟩
                      · rw [if_neg c17] at H
                        have c17b0 : ((bt a0 x6_3) == 47) = false := beq_eq_false_iff_ne.mpr c17
                        have c17b1 : ((bt a0 x6_3) != 47) = true := bne_iff_ne.mpr c17
                        have H' := Aside0.mk H
                        clear H
                        have p16 : 0 ≤ (x6_3 : Int) := of_decide_eq_true (by first | (with_reducible assumption) | assumption)
                        have q16 : x6_3 < (a0.size : Int) := of_decide_eq_true (by first | (with_reducible assumption) | assumption)
                        have hx16 := bt_at a0 x6_3
                        replace p16 := eq_true p16
                        replace q16 := eq_true q16
                        go_wp2
                        go_roundg k3
                        case measure => have := HJ1.out; have := HK2.out; have := HK3.out; omega
                        case rel => exact ⟨(wrap64 (x6_3 + 1)), (by first | rfl | (simp; done) | (simp [*]; done)), H', ⟨by have := HJ1.out; have := HK2.out; have := HK3.out; omega⟩, ⟨by (with_reducible repeat (first | apply Kd.R_alloc | apply Kd.R_drewN | apply Kd.R_drew)); exact HO_3.out⟩, ⟨by repeat (first | (with_reducible first | exact HB.out | apply below_alloc | apply pw_below_drewN | apply below_drew1) | exact HB.out)⟩⟩
                    · rw [if_neg c15] at H
                      exact absurd H (by simp)
                  · rw [if_neg c14] at H
                    have c14b0 : decide (x6_3 < (a0.size : Int)) = false := decide_eq_false c14
                    clear c14
                    (first | rw [c14b0] | (simp only [i64_w, i32_w]; rw [c14b0]) | skip)
                    have H' := Aside0.mk H
                    clear H
                    go_wp2
                    go_meet
                    case rel => exact ⟨_, (x6_3), (by first | rfl | (simp; done) | (simp [*]; done)), H', ⟨by have := HJ1.out; have := HK2.out; have := HK3.out; first | omega | exact Nat.le_refl _⟩, ⟨by (with_reducible repeat (first | apply Kd.R_alloc | apply Kd.R_drewN | apply Kd.R_drew)); exact HO_3.out⟩, ⟨by repeat (first | (with_reducible first | exact HB.out | apply below_alloc | apply pw_below_drewN | apply below_drew1) | exact HB.out)⟩⟩
            case rest =>
              clear HC13
              try clear c1
              try clear p1
              try clear q1
              try clear hx1
              try clear p2
              try clear c3
              try clear c3b0
              try clear c3b1
              try clear c4
              try clear c4b0
              try clear c4b1
              try clear c5
              try clear p5
              try clear q5
              try clear hx5
              try clear qi5
              try clear p6
              try clear c12
              try clear c12b0
              try clear c14
              try clear c14b0
              try clear c15
              try clear c15b0
              try clear p16
              try clear q16
              try clear hx16
              try clear c17
              try clear c17b0
              try clear c17b1
              try clear p16
              try clear p2
              try clear p5
              try clear q16
              try clear q5
              obtain ⟨kq, x6_12, rfl, HA, HJ12, HO_3, HB⟩ := hcut
              cases kq with
              | zero => exact absurd HA.out (by simp [spec_MemName.j3])
              | succ kj12 =>
                have H := HA.out
                clear HA
                simp only [spec_MemName.j3] at H
                by_cases c18 : 0 ≤ x5_2
                · rw [if_pos c18] at H
                  have c18b0 := eq_true c18
                  have c18b1 : decide (0 ≤ x5_2) = true := decide_eq_true c18
                  clear c18
                  by_cases c19 : x5_2 ≤ x6_12
                  · rw [if_pos c19] at H
                    have c19b0 := eq_true c19
                    have c19b1 : decide (x5_2 ≤ x6_12) = true := decide_eq_true c19
                    clear c19
                    by_cases c20 : x6_12 ≤ (a0.size : Int)
                    · rw [if_pos c20] at H
                      have c20b0 := eq_true c20
                      have c20b1 : decide (x6_12 ≤ (a0.size : Int)) = true := decide_eq_true c20
                      clear c20
                      have HC21 := Aside0.mk H
                      clear H
                      go_upto_region 8 with (fail)
                      go_cut [41] (fun v41 wc => ∃ (kq : Nat) (x41_20 : Bool), v41 = .bool x41_20 ∧ Aside0 (spec_MemName.j4 kq a0 x3_2 x4_1 x6_12 (a0.extract (x5_2 : Int).toNat (x6_12 : Int).toNat) x41_20 = some r) ∧ Aside0 (kq ≤ kj12) ∧ Aside0 (Kd.R Kd.string 9 wc w.heap.size (fun _ => True) u3 x3_2) ∧ Aside0 (Below w.heap.size w wc))
                      case first =>
                        have H := HC21.out
                        clear HC21
                        by_cases c22 : (a0.extract (x5_2 : Int).toNat (x6_12 : Int).toNat).toList = ([] : List UInt8)
                        · rw [if_pos c22] at H
                          have c22b0 : ((a0.extract (x5_2 : Int).toNat (x6_12 : Int).toNat).toList == ([] : List UInt8)) = true := beq_iff_eq.mpr c22
                          have c22b1 : ((a0.extract (x5_2 : Int).toNat (x6_12 : Int).toNat).toList != ([] : List UInt8)) = false := bne_eq_false_iff_eq.mpr c22
                          clear c22
                          (first | rw [c22b0] | (simp only [i64_w, i32_w]; rw [c22b0]) | skip)
                          have H' := Aside0.mk H
                          clear H
                          go_wp2
                          go_meet
                          case rel => exact ⟨_, (true), (by first | rfl | (simp; done) | (simp [*]; done)), H', ⟨by have := HJ1.out; have := HK2.out; have := HJ12.out; first | omega | exact Nat.le_refl _⟩, ⟨by (with_reducible repeat (first | apply Kd.R_alloc | apply Kd.R_drewN | apply Kd.R_drew)); exact HO_3.out⟩, ⟨by repeat (first | (with_reducible first | exact HB.out | apply below_alloc | apply pw_below_drewN | apply below_drew1) | exact HB.out)⟩⟩
                        · rw [if_neg c22] at H
                          have c22b0 : ((a0.extract (x5_2 : Int).toNat (x6_12 : Int).toNat).toList == ([] : List UInt8)) = false := beq_eq_false_iff_ne.mpr c22
                          have c22b1 : ((a0.extract (x5_2 : Int).toNat (x6_12 : Int).toNat).toList != ([] : List UInt8)) = true := bne_iff_ne.mpr c22
                          (first | rw [c22b0] | (simp only [i64_w, i32_w]; rw [c22b0]) | skip)
                          have H' := Aside0.mk H
                          clear H
                          go_wp2
                          go_meet
                          case rel => exact ⟨_, (((a0.extract (x5_2 : Int).toNat (x6_12 : Int).toNat).toList == ([46] : List UInt8))), (by first | rfl | (simp; done) | (simp [*]; done)), H', ⟨by have := HJ1.out; have := HK2.out; have := HJ12.out; first | omega | exact Nat.le_refl _⟩, ⟨by (with_reducible repeat (first | apply Kd.R_alloc | apply Kd.R_drewN | apply Kd.R_drew)); exact HO_3.out⟩, ⟨by repeat (first | (with_reducible first | exact HB.out | apply below_alloc | apply pw_below_drewN | apply below_drew1) | exact HB.out)⟩⟩
                      case rest =>
                        clear HC21
                        try clear c1
                        try clear p1
                        try clear q1
                        try clear hx1
                        try clear c2
                        try clear p2
                        try clear c3
                        try clear c3b0
                        try clear c3b1
                        try clear c4
                        try clear c4b0
                        try clear c4b1
                        try clear c5
                        try clear p5
                        try clear q5
                        try clear hx5
                        try clear qi5
                        try clear p6
                        try clear c12
                        try clear c12b0
                        try clear c14
                        try clear c14b0
                        try clear c15
                        try clear c15b0
                        try clear p16
                        try clear q16
                        try clear hx16
                        try clear c17
                        try clear c17b0
                        try clear c17b1
                        try clear c18
                        try clear c18b0
                        try clear c18b1
                        try clear c19
                        try clear c19b0
                        try clear c19b1
                        try clear c20
                        try clear c20b0
                        try clear c20b1
                        try clear c22
                        try clear c22b0
                        try clear c22b1
                        try clear p1
                        try clear p16
                        try clear p2
                        try clear p5
                        try clear p6
                        try clear q1
                        try clear q16
                        try clear q5
                        obtain ⟨kq, x41_20, rfl, HA, HJ20, HO_3, HB⟩ := hcut
                        cases kq with
                        | zero => exact absurd HA.out (by simp [spec_MemName.j4])
                        | succ kj20 =>
                          have H := HA.out
                          clear HA
                          simp only [spec_MemName.j4] at H
                          by_cases c23 : x41_20 = true
                          · subst c23
                            have H1 : (spec_MemName.l0 kj20 a0 x3_2 x4_1 (wrap64 (x6_12 + 1))) = some r := by rw [if_pos rfl] at H; exact H
                            clear H
                            have H := H1
                            clear H1
                            have H' := Aside0.mk H
                            clear H
                            go_wp2
                            go_roundg kj20
                            case measure => have := HJ1.out; have := HK2.out; have := HJ12.out; have := HJ20.out; omega
                            case rel => exact ⟨(x3_2), (wrap64 (x6_12 + 1)), (by first | rfl | (simp; done) | (simp [*]; done)), H', ⟨by have := HJ1.out; have := HK2.out; have := HJ12.out; have := HJ20.out; omega⟩, ⟨by (with_reducible repeat (first | apply Kd.R_alloc | apply Kd.R_drewN | apply Kd.R_drew)); exact HO_3.out⟩, ⟨by repeat (first | (with_reducible first | exact HB.out | apply below_alloc | apply pw_below_drewN | apply below_drew1) | exact HB.out)⟩⟩
                          · replace c23 := Bool.eq_false_iff.mpr c23
                            subst c23
                            have H1 : (if (a0.extract (x5_2 : Int).toNat (x6_12 : Int).toNat).toList = ([46, 46] : List UInt8) then (if (x3_2.length : Int) > 0 then (if 0 ≤ (wrap64 ((x3_2.length : Int) - 1)) then (if (wrap64 ((x3_2.length : Int) - 1)) < (x3_2.length : Int) then (spec_MemName.j5 kj20 a0 x3_2 x4_1 x6_12 (a0.extract (x5_2 : Int).toNat (x6_12 : Int).toNat) ((rdOf ByteArray.empty x3_2 (wrap64 ((x3_2.length : Int) - 1))).toList != ([46, 46] : List UInt8))) else (none)) else (none)) else (spec_MemName.j5 kj20 a0 x3_2 x4_1 x6_12 (a0.extract (x5_2 : Int).toNat (x6_12 : Int).toNat) false)) else (if x3_2.length < 8796093022208 then (spec_MemName.l0 kj20 a0 (x3_2 ++ [(a0.extract (x5_2 : Int).toNat (x6_12 : Int).toNat)]) x4_1 (wrap64 (x6_12 + 1))) else (none))) = some r := by rw [if_neg (show ¬ (false = true) by decide)] at H; exact H
                            clear H
                            have H := H1
                            clear H1
                            by_cases c24 : (a0.extract (x5_2 : Int).toNat (x6_12 : Int).toNat).toList = ([46, 46] : List UInt8)
                            · rw [if_pos c24] at H
                              have c24b0 : ((a0.extract (x5_2 : Int).toNat (x6_12 : Int).toNat).toList == ([46, 46] : List UInt8)) = true := beq_iff_eq.mpr c24
                              have c24b1 : ((a0.extract (x5_2 : Int).toNat (x6_12 : Int).toNat).toList != ([46, 46] : List UInt8)) = false := bne_eq_false_iff_eq.mpr c24
                              clear c24
                              have HC25 := Aside0.mk H
                              clear H
                              go_upto_region 11 with (fail)
                              go_cut [55] (fun v55 wc => ∃ (kq : Nat) (x55_24 : Bool), v55 = .bool x55_24 ∧ Aside0 (spec_MemName.j5 kq a0 x3_2 x4_1 x6_12 (a0.extract (x5_2 : Int).toNat (x6_12 : Int).toNat) x55_24 = some r) ∧ Aside0 (kq ≤ kj20) ∧ Aside0 (Kd.R Kd.string 9 wc w.heap.size (fun _ => True) u3 x3_2) ∧ Aside0 (Below w.heap.size w wc))
                              case first =>
                                have H := HC25.out
                                clear HC25
                                by_cases c26 : (x3_2.length : Int) > 0
                                · rw [if_pos c26] at H
                                  have c26b0 : decide (0 < (x3_2.length : Int)) = true := decide_eq_true c26
                                  have c26b1 : decide (0 < x3_2.length) = true := decide_eq_true (by omega)
                                  clear c26
                                  (first | rw [c26b0] | (simp only [i64_w, i32_w]; rw [c26b0]) | skip)
                                  obtain ⟨ji27, hji27⟩ : ∃ j_ : Int, (wrap64 ((x3_2.length : Int) - 1)) = j_ := ⟨_, rfl⟩
                                  replace H : (if 0 ≤ (ji27) then (if (ji27) < (x3_2.length : Int) then (spec_MemName.j5 kj20 a0 x3_2 x4_1 x6_12 (a0.extract (x5_2 : Int).toNat (x6_12 : Int).toNat) ((rdOf ByteArray.empty x3_2 (ji27)).toList != ([46, 46] : List UInt8))) else (none)) else (none)) = some r := by first | (rw [hji27] at H; exact H) | (simp only [hji27] at H ⊢; exact H)
                                  have hji27w : (IntKind.i64.wrap ((x3_2.length : Int) - 1)) = ji27 := (i64_w _).trans hji27
                                  by_cases c28 : 0 ≤ (ji27)
                                  · rw [if_pos c28] at H
                                    have c28b0 : decide (0 ≤ (ji27)) = true := decide_eq_true c28
                                    clear c28
                                    by_cases c29 : (ji27) < (x3_2.length : Int)
                                    · rw [if_pos c29] at H
                                      have c29b0 : decide ((ji27) < (x3_2.length : Int)) = true := decide_eq_true c29
                                      clear c29
                                      have H' := Aside0.mk H
                                      clear H
                                      obtain ⟨Ao30, co30, eo30⟩ := Kd.R_slice HO_3.out
                                      subst eo30
                                      have p111 : 0 ≤ ((ji27) : Int) := of_decide_eq_true (by first | (with_reducible assumption) | assumption)
                                      have q111 : (ji27) < (x3_2.length : Int) := of_decide_eq_true (by first | (with_reducible assumption) | assumption)
                                      obtain ⟨ad111, e111, hx111_0⟩ := Kd.at_string (Kd.R_reads' HO_3.out).2.2 (ji27) p111 q111
                                      cases e111
                                      replace p111 := eq_true p111
                                      replace q111 := eq_true q111
                                      go_wp2
                                      go_meet
                                      case rel => exact ⟨_, (((rdOf ByteArray.empty x3_2 (ji27)).toList != ([46, 46] : List UInt8))), (by first | rfl | (simp; done) | (simp only [← hji27] <;> (first | rfl | simp)) | (simp [*]; done)), H', ⟨by have := HJ1.out; have := HK2.out; have := HJ12.out; have := HJ20.out; first | omega | exact Nat.le_refl _⟩, ⟨by (with_reducible repeat (first | apply Kd.R_alloc | apply Kd.R_drewN | apply Kd.R_drew)); exact HO_3.out⟩, ⟨by repeat (first | (with_reducible first | exact HB.out | apply below_alloc | apply pw_below_drewN | apply below_drew1) | exact HB.out)⟩⟩
                                    · rw [if_neg c29] at H
                                      exact absurd H (by simp)
                                  · rw [if_neg c28] at H
                                    exact absurd H (by simp)
                                · rw [if_neg c26] at H
                                  have c26b0 : decide (0 < (x3_2.length : Int)) = false := decide_eq_false c26
                                  have c26b1 : decide (0 < x3_2.length) = false := decide_eq_false (by omega)
                                  clear c26
                                  (first | rw [c26b0] | (simp only [i64_w, i32_w]; rw [c26b0]) | skip)
                                  have H' := Aside0.mk H
                                  clear H
                                  obtain ⟨Ao31, co31, eo31⟩ := Kd.R_slice HO_3.out
                                  subst eo31
                                  go_wp2
                                  go_meet
                                  case rel => exact ⟨_, (false), (by first | rfl | (simp; done) | (simp [*]; done)), H', ⟨by have := HJ1.out; have := HK2.out; have := HJ12.out; have := HJ20.out; first | omega | exact Nat.le_refl _⟩, ⟨by (with_reducible repeat (first | apply Kd.R_alloc | apply Kd.R_drewN | apply Kd.R_drew)); exact HO_3.out⟩, ⟨by repeat (first | (with_reducible first | exact HB.out | apply below_alloc | apply pw_below_drewN | apply below_drew1) | exact HB.out)⟩⟩
                              case rest =>
                                clear HC25
                                try clear c1
                                try clear p1
                                try clear q1
                                try clear hx1
                                try clear c2
                                try clear p2
                                try clear c3
                                try clear c3b0
                                try clear c3b1
                                try clear c4
                                try clear c4b0
                                try clear c4b1
                                try clear c5
                                try clear p5
                                try clear q5
                                try clear hx5
                                try clear qi5
                                try clear p6
                                try clear p11
                                try clear q11
                                try clear hx11
                                try clear c12
                                try clear c12b0
                                try clear c14
                                try clear c14b0
                                try clear c15
                                try clear c15b0
                                try clear p16
                                try clear q16
                                try clear hx16
                                try clear c17
                                try clear c17b0
                                try clear c17b1
                                try clear c18
                                try clear c18b0
                                try clear c18b1
                                try clear c19
                                try clear c19b0
                                try clear c19b1
                                try clear c20
                                try clear c20b0
                                try clear c20b1
                                try clear c22
                                try clear c22b0
                                try clear c22b1
                                try clear c23
                                try clear c24
                                try clear c24b0
                                try clear c24b1
                                try clear c26
                                try clear c26b0
                                try clear c26b1
                                try clear c28
                                try clear c28b0
                                try clear c29
                                try clear c29b0
                                try clear hx111_0
                                try clear p1
                                try clear p111
                                try clear p16
                                try clear p2
                                try clear p5
                                try clear p6
                                try clear q1
                                try clear q111
                                try clear q16
                                try clear q5
                                obtain ⟨kq, x55_24, rfl, HA, HJ24, HO_3, HB⟩ := hcut
                                cases kq with
                                | zero => exact absurd HA.out (by simp [spec_MemName.j5])
                                | succ kj24 =>
                                  have H := HA.out
                                  clear HA
                                  simp only [spec_MemName.j5] at H
                                  by_cases c32 : x55_24 = true
                                  · subst c32
                                    have H1 : (if 0 ≤ (wrap64 ((x3_2.length : Int) - 1)) then (if (wrap64 ((x3_2.length : Int) - 1)) ≤ (x3_2.length : Int) then (spec_MemName.l0 kj24 a0 (x3_2.take ((wrap64 ((x3_2.length : Int) - 1)) : Int).toNat) x4_1 (wrap64 (x6_12 + 1))) else (none)) else (none)) = some r := by rw [if_pos rfl] at H; exact H
                                    clear H
                                    have H := H1
                                    clear H1
                                    obtain ⟨ji33, hji33⟩ : ∃ j_ : Int, (wrap64 ((x3_2.length : Int) - 1)) = j_ := ⟨_, rfl⟩
                                    replace H : (if 0 ≤ (ji33) then (if (ji33) ≤ (x3_2.length : Int) then (spec_MemName.l0 kj24 a0 (x3_2.take ((ji33) : Int).toNat) x4_1 (wrap64 (x6_12 + 1))) else (none)) else (none)) = some r := by first | (rw [hji33] at H; exact H) | (simp only [hji33] at H ⊢; exact H)
                                    have hji33w : (IntKind.i64.wrap ((x3_2.length : Int) - 1)) = ji33 := (i64_w _).trans hji33
                                    by_cases c34 : 0 ≤ (ji33)
                                    · rw [if_pos c34] at H
                                      have c34b0 := eq_true c34
                                      have c34b1 : decide (0 ≤ (ji33)) = true := decide_eq_true c34
                                      clear c34
                                      by_cases c35 : (ji33) ≤ (x3_2.length : Int)
                                      · rw [if_pos c35] at H
                                        have c35b0 := eq_true c35
                                        have c35b1 : decide ((ji33) ≤ (x3_2.length : Int)) = true := decide_eq_true c35
                                        clear c35
                                        obtain ⟨y112, hy112⟩ : ∃ y_ : List ByteArray, y_ = (x3_2.take ((ji33) : Int).toNat) := ⟨_, rfl⟩
                                        replace H : (spec_MemName.l0 kj24 a0 y112 x4_1 (wrap64 (x6_12 + 1))) = some r := by first | (rw [hy112]; with_reducible exact H) | (have H2_ := (Option.bind_some _ _).symm.trans H; rw [hy112]; with_reducible exact H2_) | (have H2_ := (Option.bind_some _ _).symm.trans H; with_reducible exact H2_) | with_reducible exact H | (rw [hy112]; exact H) | exact H
                                        have Ny112 := Aside0.mk hy112
                                        clear hy112
                                        have H' := Aside0.mk H
                                        clear H
                                        obtain ⟨Ao36, co36, eo36⟩ := Kd.R_slice HO_3.out
                                        subst eo36
                                        have q37 : ((ji33) : Int) ≤ ((x3_2.length : Int) : Int) := of_decide_eq_true (by first | (with_reducible assumption) | assumption)
                                        obtain ⟨i037, hi037, _, hsz37, _⟩ := info_parts info9
                                        have hcut37 := cut_to (P := Tryd.prog) 30 9 .i64 Tryd.underlying30 hi037 Ao36 x3_2.length co36 (ji33) (of_decide_eq_true (by first | (with_reducible assumption) | assumption)) q37 (Kd.R_reads' HO_3.out).2.1
                                        have hr37 := Kd.R_take (m := ((ji33) : Int).toNat) HO_3.out (by omega)
                                        have hy37 : y112.length = ((ji33) : Int).toNat := (by rw [Ny112.out, List.length_take]; omega)
                                        rw [← Ny112.out] at hr37
                                        rw [← hy37] at hr37 hcut37
                                        clear hy37 hi037 hsz37 HO_3
                                        have HO114 := Aside0.mk hr37
                                        clear hr37
                                        replace q37 := eq_true q37
                                        go_wp2
                                        go_roundg kj24
                                        case measure => have := HJ1.out; have := HK2.out; have := HJ12.out; have := HJ20.out; have := HJ24.out; omega
                                        case rel => exact ⟨(y112), (wrap64 (x6_12 + 1)), (by first | rfl | (simp; done) | (simp [*]; done)), H', ⟨by have := HJ1.out; have := HK2.out; have := HJ12.out; have := HJ20.out; have := HJ24.out; omega⟩, ⟨by (with_reducible repeat (first | apply Kd.R_alloc | apply Kd.R_drewN | apply Kd.R_drew)); exact HO114.out⟩, ⟨by repeat (first | (with_reducible first | exact HB.out | apply below_alloc | apply pw_below_drewN | apply below_drew1) | exact HB.out)⟩⟩
                                      · rw [if_neg c35] at H
                                        exact absurd H (by simp)
                                    · rw [if_neg c34] at H
                                      exact absurd H (by simp)
                                  · replace c32 := Bool.eq_false_iff.mpr c32
                                    subst c32
                                    have H1 : (if x4_1 = true then (spec_MemName.l0 kj24 a0 x3_2 x4_1 (wrap64 (x6_12 + 1))) else (if x3_2.length < 8796093022208 then (spec_MemName.l0 kj24 a0 (x3_2 ++ [(a0.extract (x5_2 : Int).toNat (x6_12 : Int).toNat)]) x4_1 (wrap64 (x6_12 + 1))) else (none))) = some r := by rw [if_neg (show ¬ (false = true) by decide)] at H; exact H
                                    clear H
                                    have H := H1
                                    clear H1
                                    by_cases c38 : x4_1 = true
                                    · subst c38
                                      have H1 : (spec_MemName.l0 kj24 a0 x3_2 true (wrap64 (x6_12 + 1))) = some r := by rw [if_pos rfl] at H; exact H
                                      clear H
                                      have H := H1
                                      clear H1
                                      have H' := Aside0.mk H
                                      clear H
                                      go_wp2
                                      go_roundg kj24
                                      case measure => have := HJ1.out; have := HK2.out; have := HJ12.out; have := HJ20.out; have := HJ24.out; omega
                                      case rel => exact ⟨(x3_2), (wrap64 (x6_12 + 1)), (by first | rfl | (simp; done) | (simp [*]; done)), H', ⟨by have := HJ1.out; have := HK2.out; have := HJ12.out; have := HJ20.out; have := HJ24.out; omega⟩, ⟨by (with_reducible repeat (first | apply Kd.R_alloc | apply Kd.R_drewN | apply Kd.R_drew)); exact HO_3.out⟩, ⟨by repeat (first | (with_reducible first | exact HB.out | apply below_alloc | apply pw_below_drewN | apply below_drew1) | exact HB.out)⟩⟩
                                    · replace c38 := Bool.eq_false_iff.mpr c38
                                      subst c38
                                      have H1 : (if x3_2.length < 8796093022208 then (spec_MemName.l0 kj24 a0 (x3_2 ++ [(a0.extract (x5_2 : Int).toNat (x6_12 : Int).toNat)]) false (wrap64 (x6_12 + 1))) else (none)) = some r := by rw [if_neg (show ¬ (false = true) by decide)] at H; exact H
                                      clear H
                                      have H := H1
                                      clear H1
                                      by_cases c39 : x3_2.length < 8796093022208
                                      · rw [if_pos c39] at H
                                        have LMc39 := Aside0.mk c39
                                        clear c39
                                        obtain ⟨y115, hy115⟩ : ∃ y_ : List ByteArray, y_ = (x3_2 ++ [(a0.extract (x5_2 : Int).toNat (x6_12 : Int).toNat)]) := ⟨_, rfl⟩
                                        replace H : (spec_MemName.l0 kj24 a0 y115 false (wrap64 (x6_12 + 1))) = some r := by first | (rw [hy115]; with_reducible exact H) | (have H2_ := (Option.bind_some _ _).symm.trans H; rw [hy115]; with_reducible exact H2_) | (have H2_ := (Option.bind_some _ _).symm.trans H; with_reducible exact H2_) | with_reducible exact H | (rw [hy115]; exact H) | exact H
                                        have Ny115 := Aside0.mk hy115
                                        clear hy115
                                        have H' := Aside0.mk H
                                        clear H
                                        go_wp2_with (first | ((with_reducible refine gate_builtin (b := .append) (xs := #[.tmp 76, .tmp 78]) rfl ?_); (try (refine gate_guard (by rfl) ?_; dsimp only)); at_builtin; refine Kd.R_append Kd.string (w0 := w) w.heap.size rfl (.tmp 76) (.tmp 78) 30 9 (.string ⟨#[]⟩) 16 rfl Tryd.underlying30 info9 rfl (by decide) (by omega) u3 x3_2 (a0.extract (x5_2 : Int).toNat (x6_12 : Int).toNat) [.string (a0.extract (x5_2 : Int).toNat (x6_12 : Int).toNat)] (fun _ => True) (fun _ => False) rfl rfl ?aP (fun _ hk => hk.elim) ?aF ?aO ?aB ?aS ?aL ?_; (case aP => exact rfl); (case aB => exact (by repeat (first | (with_reducible first | exact HB.out | apply below_alloc | apply pw_below_drewN | apply below_drew1) | exact HB.out))); (case aF => exact (fun _ _ => trivial)); (case aO => exact (by (with_reducible repeat (first | apply Kd.R_alloc | apply Kd.R_drewN | apply Kd.R_drew)); exact HO_3.out)); (case aS => exact (below_size (by repeat (first | (with_reducible first | exact HB.out | apply below_alloc | apply pw_below_drewN | apply below_drew1) | exact HB.out)))); (case aL => have := LMc39.out; omega); intro v116 w40 ho hb hg hat; rw [← Ny115.out] at ho; have n0_ := Aside0.mk (hb); have n1_ := Aside0.mk (ho); clear HB; clear HO_3; have HB := n0_; have HO117 := n1_; clear n0_ n1_; clear ho hb hg hat))
                                        go_roundg kj24
                                        case measure => have := HJ1.out; have := HK2.out; have := HJ12.out; have := HJ20.out; have := HJ24.out; omega
                                        case rel => exact ⟨(y115), (wrap64 (x6_12 + 1)), (by first | rfl | (simp; done) | (simp [*]; done)), H', ⟨by have := HJ1.out; have := HK2.out; have := HJ12.out; have := HJ20.out; have := HJ24.out; omega⟩, ⟨by (with_reducible repeat (first | apply Kd.R_alloc | apply Kd.R_drewN | apply Kd.R_drew)); exact HO117.out⟩, ⟨by repeat (first | (with_reducible first | exact HB.out | apply below_alloc | apply pw_below_drewN | apply below_drew1) | exact HB.out)⟩⟩
                                      · rw [if_neg c39] at H
                                        exact absurd H (by simp)
                            · rw [if_neg c24] at H
                              have c24b0 : ((a0.extract (x5_2 : Int).toNat (x6_12 : Int).toNat).toList == ([46, 46] : List UInt8)) = false := beq_eq_false_iff_ne.mpr c24
                              have c24b1 : ((a0.extract (x5_2 : Int).toNat (x6_12 : Int).toNat).toList != ([46, 46] : List UInt8)) = true := bne_iff_ne.mpr c24
                              by_cases c41 : x3_2.length < 8796093022208
                              · rw [if_pos c41] at H
                                have LMc41 := Aside0.mk c41
                                clear c41
                                obtain ⟨y118, hy118⟩ : ∃ y_ : List ByteArray, y_ = (x3_2 ++ [(a0.extract (x5_2 : Int).toNat (x6_12 : Int).toNat)]) := ⟨_, rfl⟩
                                replace H : (spec_MemName.l0 kj20 a0 y118 x4_1 (wrap64 (x6_12 + 1))) = some r := by first | (rw [hy118]; with_reducible exact H) | (have H2_ := (Option.bind_some _ _).symm.trans H; rw [hy118]; with_reducible exact H2_) | (have H2_ := (Option.bind_some _ _).symm.trans H; with_reducible exact H2_) | with_reducible exact H | (rw [hy118]; exact H) | exact H
                                have Ny118 := Aside0.mk hy118
                                clear hy118
                                have H' := Aside0.mk H
                                clear H
                                go_wp2_with (first | ((with_reducible refine gate_builtin (b := .append) (xs := #[.tmp 51, .tmp 53]) rfl ?_); (try (refine gate_guard (by rfl) ?_; dsimp only)); at_builtin; refine Kd.R_append Kd.string (w0 := w) w.heap.size rfl (.tmp 51) (.tmp 53) 30 9 (.string ⟨#[]⟩) 16 rfl Tryd.underlying30 info9 rfl (by decide) (by omega) u3 x3_2 (a0.extract (x5_2 : Int).toNat (x6_12 : Int).toNat) [.string (a0.extract (x5_2 : Int).toNat (x6_12 : Int).toNat)] (fun _ => True) (fun _ => False) rfl rfl ?aP (fun _ hk => hk.elim) ?aF ?aO ?aB ?aS ?aL ?_; (case aP => exact rfl); (case aB => exact (by repeat (first | (with_reducible first | exact HB.out | apply below_alloc | apply pw_below_drewN | apply below_drew1) | exact HB.out))); (case aF => exact (fun _ _ => trivial)); (case aO => exact (by (with_reducible repeat (first | apply Kd.R_alloc | apply Kd.R_drewN | apply Kd.R_drew)); exact HO_3.out)); (case aS => exact (below_size (by repeat (first | (with_reducible first | exact HB.out | apply below_alloc | apply pw_below_drewN | apply below_drew1) | exact HB.out)))); (case aL => have := LMc41.out; omega); intro v119 w42 ho hb hg hat; rw [← Ny118.out] at ho; have n0_ := Aside0.mk (hb); have n1_ := Aside0.mk (ho); clear HB; clear HO_3; have HB := n0_; have HO120 := n1_; clear n0_ n1_; clear ho hb hg hat))
                                go_roundg kj20
                                case measure => have := HJ1.out; have := HK2.out; have := HJ12.out; have := HJ20.out; omega
                                case rel => exact ⟨(y118), (wrap64 (x6_12 + 1)), (by first | rfl | (simp; done) | (simp [*]; done)), H', ⟨by have := HJ1.out; have := HK2.out; have := HJ12.out; have := HJ20.out; omega⟩, ⟨by (with_reducible repeat (first | apply Kd.R_alloc | apply Kd.R_drewN | apply Kd.R_drew)); exact HO120.out⟩, ⟨by repeat (first | (with_reducible first | exact HB.out | apply below_alloc | apply pw_below_drewN | apply below_drew1) | exact HB.out)⟩⟩
                              · rw [if_neg c41] at H
                                exact absurd H (by simp)
                    · rw [if_neg c20] at H
                      exact absurd H (by simp)
                  · rw [if_neg c19] at H
                    exact absurd H (by simp)
                · rw [if_neg c18] at H
                  exact absurd H (by simp)
          · rw [if_neg c12] at H
            have c12b0 : decide (x5_2 < (a0.size : Int)) = false := decide_eq_false c12
            clear c12
            have H' := Aside0.mk H
            clear H
            obtain ⟨Ao43, co43, eo43⟩ := Kd.R_slice HO_3.out
            subst eo43
            go_wp2
            go_loopg [8, 84] k2 (fun kq v8 v84 w' => ∃ (x8_3 : ByteArray) (x84_3 : Int), v8 = .string x8_3 ∧ v84 = .int .i64 x84_3 ∧ Aside0 (spec_MemName.l2 kq x4_1 x8_3 x3_2 (x3_2.length : Int) x84_3 = some r) ∧ Aside0 (kq ≤ k2) ∧ Aside0 (Kd.R Kd.string 9 w' w.heap.size (fun _ => True) (.slice Ao43 x3_2.length co43) x3_2) ∧ Aside0 (Below w.heap.size w w'))
            case atStart => exact ⟨((⟨#[]⟩ : ByteArray)), (0), (by first | rfl | (simp; done) | (simp [*]; done)), (by first | rfl | (simp; done) | (simp [*]; done)), H', ⟨Nat.le_refl _⟩, ⟨by (with_reducible repeat (first | apply Kd.R_alloc | apply Kd.R_drewN | apply Kd.R_drew)); exact HO_3.out⟩, ⟨by repeat (first | (with_reducible first | exact HB.out | apply below_alloc | apply pw_below_drewN | apply below_drew1) | exact HB.out)⟩⟩
            case round =>
              clear H'
              try clear c1
              try clear p1
              try clear q1
              try clear hx1
              try clear c2
              try clear p2
              try clear c3
              try clear c3b0
              try clear c3b1
              try clear q3
              try clear c4
              try clear c4b0
              try clear c4b1
              try clear c5
              try clear p5
              try clear q5
              try clear hx5
              try clear qi5
              try clear p6
              try clear p11
              try clear q11
              try clear hx11
              try clear c12
              try clear c12b0
              try clear c14
              try clear c14b0
              try clear c15
              try clear c15b0
              try clear p16
              try clear q16
              try clear hx16
              try clear c17
              try clear c17b0
              try clear c17b1
              try clear c18
              try clear c18b0
              try clear c18b1
              try clear c19
              try clear c19b0
              try clear c19b1
              try clear c20
              try clear c20b0
              try clear c20b1
              try clear c22
              try clear c22b0
              try clear c22b1
              try clear c23
              try clear c24
              try clear c24b0
              try clear c24b1
              try clear c26
              try clear c26b0
              try clear c26b1
              try clear c28
              try clear c28b0
              try clear c29
              try clear c29b0
              try clear c32
              try clear c34
              try clear c34b0
              try clear c34b1
              try clear c35
              try clear c35b0
              try clear c35b1
              try clear q37
              try clear c38
              try clear c39
              try clear c41
              try clear hx111_0
              try clear p1
              try clear p11
              try clear p111
              try clear p16
              try clear p2
              try clear p5
              try clear p6
              try clear q1
              try clear q11
              try clear q111
              try clear q16
              try clear q37
              try clear q5
              obtain ⟨x8_3, x84_3, rfl, rfl, HA, HK3, HO_82, HB⟩ := hrel
              cases gk with
              | zero => exact absurd HA.out (by simp [spec_MemName.l2])
              | succ k3 =>
                have H := HA.out
                clear HA
                simp only [spec_MemName.l2] at H
                by_cases c44 : x84_3 < (x3_2.length : Int)
                · rw [if_pos c44] at H
                  have c44b0 : decide (x84_3 < (x3_2.length : Int)) = true := decide_eq_true c44
                  clear c44
                  by_cases c45 : 0 ≤ x84_3
                  · rw [if_pos c45] at H
                    have c45b0 : decide (0 ≤ x84_3) = true := decide_eq_true c45
                    clear c45
                    by_cases c46 : x84_3 < (x3_2.length : Int)
                    · rw [if_pos c46] at H
                      have c46b0 : decide (x84_3 < (x3_2.length : Int)) = true := decide_eq_true c46
                      clear c46
                      by_cases c47 : x84_3 > 0
                      · rw [if_pos c47] at H
                        have c47b0 : decide (0 < x84_3) = true := decide_eq_true c47
                        clear c47
                        by_cases c48 : x8_3.size + 1 ≤ 9223372036854775807
                        · rw [if_pos c48] at H
                          have c48b0 := eq_true c48
                          have c48b1 : decide (x8_3.size + 1 ≤ 9223372036854775807) = true := decide_eq_true c48
                          try have c48b2 : (9223372036854775807 < x8_3.size + 1) = False := eq_false (Nat.not_lt.2 c48)
                          by_cases c49 : (x8_3 ++ (⟨#[47]⟩ : ByteArray)).size + (rdOf ByteArray.empty x3_2 x84_3).size ≤ 9223372036854775807
                          · rw [if_pos c49] at H
                            have c49b0 := eq_true c49
                            have c49b1 : decide ((x8_3 ++ (⟨#[47]⟩ : ByteArray)).size + (rdOf ByteArray.empty x3_2 x84_3).size ≤ 9223372036854775807) = true := decide_eq_true c49
                            try have c49b2 : (9223372036854775807 < (x8_3 ++ (⟨#[47]⟩ : ByteArray)).size + (rdOf ByteArray.empty x3_2 x84_3).size) = False := eq_false (Nat.not_lt.2 c49)
                            have H' := Aside0.mk H
                            clear H
                            have p121 : 0 ≤ (x84_3 : Int) := of_decide_eq_true (by first | (with_reducible assumption) | assumption)
                            have q121 : x84_3 < (x3_2.length : Int) := of_decide_eq_true (by first | (with_reducible assumption) | assumption)
                            obtain ⟨ad121, e121, hx121_0⟩ := Kd.at_string (Kd.R_reads' HO_82.out).2.2 x84_3 p121 q121
                            cases e121
                            replace p121 := eq_true p121
                            replace q121 := eq_true q121
                            go_wp2
                            go_roundg k3
                            case measure => have := HJ1.out; have := HK2.out; have := HK3.out; omega
                            case rel => exact ⟨((x8_3 ++ (⟨#[47]⟩ : ByteArray)) ++ (rdOf ByteArray.empty x3_2 x84_3)), (wrap64 (x84_3 + 1)), (by first | rfl | (simp; done) | (simp [*]; done)), (by first | rfl | (simp; done) | (simp [*]; done)), H', ⟨by have := HJ1.out; have := HK2.out; have := HK3.out; omega⟩, ⟨by (with_reducible repeat (first | apply Kd.R_alloc | apply Kd.R_drewN | apply Kd.R_drew)); exact HO_82.out⟩, ⟨by repeat (first | (with_reducible first | exact HB.out | apply below_alloc | apply pw_below_drewN | apply below_drew1) | exact HB.out)⟩⟩
                          · rw [if_neg c49] at H
                            exact absurd H (by simp)
                        · rw [if_neg c48] at H
                          exact absurd H (by simp)
                      · rw [if_neg c47] at H
                        have c47b0 : decide (0 < x84_3) = false := decide_eq_false c47
                        clear c47
                        by_cases c50 : x4_1 = true
                        · subst c50
                          have H1 : (if x8_3.size + 1 ≤ 9223372036854775807 then (if (x8_3 ++ (⟨#[47]⟩ : ByteArray)).size + (rdOf ByteArray.empty x3_2 x84_3).size ≤ 9223372036854775807 then (spec_MemName.l2 k3 true ((x8_3 ++ (⟨#[47]⟩ : ByteArray)) ++ (rdOf ByteArray.empty x3_2 x84_3)) x3_2 (x3_2.length : Int) (wrap64 (x84_3 + 1))) else (none)) else (none)) = some r := by rw [if_pos rfl] at H; exact H
                          clear H
                          have H := H1
                          clear H1
                          by_cases c51 : x8_3.size + 1 ≤ 9223372036854775807
                          · rw [if_pos c51] at H
                            have c51b0 := eq_true c51
                            have c51b1 : decide (x8_3.size + 1 ≤ 9223372036854775807) = true := decide_eq_true c51
                            try have c51b2 : (9223372036854775807 < x8_3.size + 1) = False := eq_false (Nat.not_lt.2 c51)
                            by_cases c52 : (x8_3 ++ (⟨#[47]⟩ : ByteArray)).size + (rdOf ByteArray.empty x3_2 x84_3).size ≤ 9223372036854775807
                            · rw [if_pos c52] at H
                              have c52b0 := eq_true c52
                              have c52b1 : decide ((x8_3 ++ (⟨#[47]⟩ : ByteArray)).size + (rdOf ByteArray.empty x3_2 x84_3).size ≤ 9223372036854775807) = true := decide_eq_true c52
                              try have c52b2 : (9223372036854775807 < (x8_3 ++ (⟨#[47]⟩ : ByteArray)).size + (rdOf ByteArray.empty x3_2 x84_3).size) = False := eq_false (Nat.not_lt.2 c52)
                              have H' := Aside0.mk H
                              clear H
                              have p121 : 0 ≤ (x84_3 : Int) := of_decide_eq_true (by first | (with_reducible assumption) | assumption)
                              have q121 : x84_3 < (x3_2.length : Int) := of_decide_eq_true (by first | (with_reducible assumption) | assumption)
                              obtain ⟨ad121, e121, hx121_0⟩ := Kd.at_string (Kd.R_reads' HO_82.out).2.2 x84_3 p121 q121
                              cases e121
                              replace p121 := eq_true p121
                              replace q121 := eq_true q121
                              go_wp2
                              go_roundg k3
                              case measure => have := HJ1.out; have := HK2.out; have := HK3.out; omega
                              case rel => exact ⟨((x8_3 ++ (⟨#[47]⟩ : ByteArray)) ++ (rdOf ByteArray.empty x3_2 x84_3)), (wrap64 (x84_3 + 1)), (by first | rfl | (simp; done) | (simp [*]; done)), (by first | rfl | (simp; done) | (simp [*]; done)), H', ⟨by have := HJ1.out; have := HK2.out; have := HK3.out; omega⟩, ⟨by (with_reducible repeat (first | apply Kd.R_alloc | apply Kd.R_drewN | apply Kd.R_drew)); exact HO_82.out⟩, ⟨by repeat (first | (with_reducible first | exact HB.out | apply below_alloc | apply pw_below_drewN | apply below_drew1) | exact HB.out)⟩⟩
                            · rw [if_neg c52] at H
                              exact absurd H (by simp)
                          · rw [if_neg c51] at H
                            exact absurd H (by simp)
                        · replace c50 := Bool.eq_false_iff.mpr c50
                          subst c50
                          have H1 : (if x8_3.size + (rdOf ByteArray.empty x3_2 x84_3).size ≤ 9223372036854775807 then (spec_MemName.l2 k3 false (x8_3 ++ (rdOf ByteArray.empty x3_2 x84_3)) x3_2 (x3_2.length : Int) (wrap64 (x84_3 + 1))) else (none)) = some r := by rw [if_neg (show ¬ (false = true) by decide)] at H; exact H
                          clear H
                          have H := H1
                          clear H1
                          by_cases c53 : x8_3.size + (rdOf ByteArray.empty x3_2 x84_3).size ≤ 9223372036854775807
                          · rw [if_pos c53] at H
                            have c53b0 := eq_true c53
                            have c53b1 : decide (x8_3.size + (rdOf ByteArray.empty x3_2 x84_3).size ≤ 9223372036854775807) = true := decide_eq_true c53
                            try have c53b2 : (9223372036854775807 < x8_3.size + (rdOf ByteArray.empty x3_2 x84_3).size) = False := eq_false (Nat.not_lt.2 c53)
                            have H' := Aside0.mk H
                            clear H
                            have p121 : 0 ≤ (x84_3 : Int) := of_decide_eq_true (by first | (with_reducible assumption) | assumption)
                            have q121 : x84_3 < (x3_2.length : Int) := of_decide_eq_true (by first | (with_reducible assumption) | assumption)
                            obtain ⟨ad121, e121, hx121_0⟩ := Kd.at_string (Kd.R_reads' HO_82.out).2.2 x84_3 p121 q121
                            cases e121
                            replace p121 := eq_true p121
                            replace q121 := eq_true q121
                            go_wp2
                            go_roundg k3
                            case measure => have := HJ1.out; have := HK2.out; have := HK3.out; omega
                            case rel => exact ⟨(x8_3 ++ (rdOf ByteArray.empty x3_2 x84_3)), (wrap64 (x84_3 + 1)), (by first | rfl | (simp; done) | (simp [*]; done)), (by first | rfl | (simp; done) | (simp [*]; done)), H', ⟨by have := HJ1.out; have := HK2.out; have := HK3.out; omega⟩, ⟨by (with_reducible repeat (first | apply Kd.R_alloc | apply Kd.R_drewN | apply Kd.R_drew)); exact HO_82.out⟩, ⟨by repeat (first | (with_reducible first | exact HB.out | apply below_alloc | apply pw_below_drewN | apply below_drew1) | exact HB.out)⟩⟩
                          · rw [if_neg c53] at H
                            exact absurd H (by simp)
                    · rw [if_neg c46] at H
                      exact absurd H (by simp)
                  · rw [if_neg c45] at H
                    exact absurd H (by simp)
                · rw [if_neg c44] at H
                  have c44b0 : decide (x84_3 < (x3_2.length : Int)) = false := decide_eq_false c44
                  clear c44
                  by_cases c54 : x8_3.toList = ([] : List UInt8)
                  · rw [if_pos c54] at H
                    have c54b0 : (x8_3.toList == ([] : List UInt8)) = true := beq_iff_eq.mpr c54
                    have c54b1 : (x8_3.toList != ([] : List UInt8)) = false := bne_eq_false_iff_eq.mpr c54
                    clear c54
                    obtain rfl := Option.some.inj H
                    go_wp2
                    go_ret
                    exact ⟨by first | rfl | (simp [errW_none, errW_some] <;> rfl) | (simp [*, errW_none, errW_some] <;> rfl), by repeat (first | (with_reducible first | exact HB.out | apply below_alloc | apply pw_below_drewN | apply below_drew1) | exact HB.out)⟩
                  · rw [if_neg c54] at H
                    have c54b0 : (x8_3.toList == ([] : List UInt8)) = false := beq_eq_false_iff_ne.mpr c54
                    have c54b1 : (x8_3.toList != ([] : List UInt8)) = true := bne_iff_ne.mpr c54
                    by_cases c55 : x8_3.toList = ([46, 46] : List UInt8)
                    · rw [if_pos c55] at H
                      have c55b0 : (x8_3.toList == ([46, 46] : List UInt8)) = true := beq_iff_eq.mpr c55
                      have c55b1 : (x8_3.toList != ([46, 46] : List UInt8)) = false := bne_eq_false_iff_eq.mpr c55
                      clear c55
                      obtain rfl := Option.some.inj H
                      go_wp2
                      go_ret
                      exact ⟨by first | rfl | (simp [errW_none, errW_some] <;> rfl) | (simp [*, errW_none, errW_some] <;> rfl), by repeat (first | (with_reducible first | exact HB.out | apply below_alloc | apply pw_below_drewN | apply below_drew1) | exact HB.out)⟩
                    · rw [if_neg c55] at H
                      have c55b0 : (x8_3.toList == ([46, 46] : List UInt8)) = false := beq_eq_false_iff_ne.mpr c55
                      have c55b1 : (x8_3.toList != ([46, 46] : List UInt8)) = true := bne_iff_ne.mpr c55
                      obtain rfl := Option.some.inj H
                      go_wp2
                      go_ret
                      exact ⟨by first | rfl | (simp [errW_none, errW_some] <;> rfl) | (simp [*, errW_none, errW_some] <;> rfl), by repeat (first | (with_reducible first | exact HB.out | apply below_alloc | apply pw_below_drewN | apply below_drew1) | exact HB.out)⟩
end Go.Proofs.YtljcdjggjphedaaDoor.PFnHandleScript
