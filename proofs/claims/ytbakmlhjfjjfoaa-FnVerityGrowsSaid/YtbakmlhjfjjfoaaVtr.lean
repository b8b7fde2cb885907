/- The contract of VerityTree. -/
import Derived.Test.YtbakmlhjfjjfoaaVgt
import Derived.Deep.RegionHeld3
import Derived.BigQuiet
import Derived.Deep.QuietTactic
namespace Go.Proofs.Ytbakmlhjfjjfoaa.Vg
open Go.RowKit Go.Proofs.YtbakmlhjfjjfoaaW.PrintWords Go.Proofs.YtbakmlhjfjjfoaaW.PrintLast Go.Proofs.YtbakmlhjfjjfoaaW.PrintMore
open Go.Proofs.Ytbakmlhjfjjfoaa.PFnVerityGrows Go.Proofs.Ytbakmlhjfjjfoaa.Vh
set_option linter.unusedVariables false
set_option linter.unusedSimpArgs false
section
variable {ops : Array Oper} {o : Oper} {a : Act} {Q : Exit → Act → World → Prop}
theorem app_rowL_step {w W : World} {Kc : Act → World → Prop} (hw : Region.wanted o (yielded ops a.tmps) = true) (s x : Operand)
    (ho : o.op = .call { callee := .builtin .append, args := #[s, x], argTypes := #[27, 27] })
    (v : Value) (xs ys : List Int) (g off m c : Nat) (hs : a.eval s = v) (hx : a.eval x = .slice (some ⟨g, off, none⟩) m c) (hm : ys.length = m)
    (HO : Row w v xs W) (HR : ∀ k x, ys[k]? = some x → W.cell? ⟨g, off + k, none⟩ = some (.int .u8 x)) (hl : xs.length ≤ 10000000) (hy : ys.length ≤ 10000000)
    (h : ∀ v1 w1, Row w v1 (xs ++ ys) w1 → W.grownBy w1 v.ownBlock → Kc (a.put o.dst v1) w1) :
    if Region.wanted o (yielded ops a.tmps) = true then Oper.wp Try.prog o a W Kc Q else Kc (a.put o.dst undef) W := by
  refine Kd.R_append_rows_step (Kd.int .u8) (w0 := w) w.heap.size hw s x 27 5 (.int .u8 0) 1 ho Try.underlying27 Go.Proofs.Ytbakmlhjfjjfoaa.PFnVhdSum.info5 rfl (by decide) (by decide) v xs ys (some ⟨g, off, none⟩) m c (fun _ => True) (fun _ => False) hs hx HO.1 (by rw [← hm]; exact row_u8L W g off ys hy HR) (fun x cs hc => hc) (fun _ hk => hk.elim) (fun _ _ => trivial) HO.2 HO.2.size (by omega) ?_
  intro v1 w1 h1 h2 hg _
  exact h v1 w1 ⟨h1, h2⟩ hg
end
set_option maxHeartbeats 1000000 in
theorem digest17 (A B C D : Int) (W : World) : Calls Try.prog 17 #[.agg #[.int .u64 A, .int .u64 B, .int .u64 C, .int .u64 D]] W fun e w' => ∃ gd, e = .returned (.func (.func 23) #[] #[.pointer (some ⟨gd, 0, none⟩)]) ∧ Dig gd A B C D w' ∧ Below W.heap.size W w' := by
  go_enter Try.func17, Try.ntmps17
  go_wp2_with fail
  go_ret
  exact ⟨W.heap.size, rfl, ⟨by simp, by simp, by simp, by simp⟩, below_alloc (Below.refl _ _) _⟩
theorem dup_form {w w1 : World} {v1 : Value} {dv : List Int} {n4 : Nat} (h : Row w v1 ([] ++ dv) w1) (hl : dv.length = n4) (hp : 0 < n4) :
    ∃ g1 c1, v1 = .slice (some ⟨g1, 0, none⟩) n4 c1 ∧ Hid (n4 ≤ c1) ∧ Hid (Lies g1 0 dv w1) ∧ Hid (Row w v1 dv w1) := by
  rw [List.nil_append] at h
  obtain ⟨g1, c1, e, hc, _⟩ := row_at h (by omega)
  rw [hl] at e hc
  subst e
  exact ⟨g1, c1, rfl, Lib.hid hc, Lib.hid (lies_row h (by omega)), Lib.hid h⟩
def Tells (A B C D : Int) (dv : List Int) (n : Nat) (w : World) (e : Ending) (w' : World) : Prop := ∃ v P, e = .returned (.tuple #[v, .bool true]) ∧ Row w v (P ++ level A B C D dv n) w'
theorem Dig.far {gd : Nat} {A B C D : Int} {W w1 : World} (h : Dig gd A B C D W) (hg : W.grownBy w1 (Value.slice none 0 0).ownBlock) : Dig gd A B C D w1 := by
  have key : ∀ i x, W.cell? ⟨gd, i, none⟩ = some x → w1.cell? ⟨gd, i, none⟩ = some x := fun i x hx => (hg.cell_far ⟨gd, i, none⟩ (World.block_lt_of_cell? _ _ hx) (by simp [Value.ownBlock])).trans hx
  exact ⟨key _ _ h.1, key _ _ h.2.1, key _ _ h.2.2.1, key _ _ h.2.2.2⟩
set_option maxHeartbeats 4000000 in
set_option maxRecDepth 100000 in
theorem tree10 (A B C D : Int) (dv : List Int) (n g cc : Nat) (w : World) (hn1 : 1 ≤ n) (hn2 : n ≤ 300) (hdl : dv.length = 4096 * n) (hdi : InBytes dv) (hlies : Lies g 0 dv w) (hcc : 4096 * n ≤ cc) :
    Calls Try.prog 10 #[.agg #[.int .u64 A, .int .u64 B, .int .u64 C, .int .u64 D], .slice (some ⟨g, 0, none⟩) (4096 * n : Nat) cc] w (Tells A B C D dv n w) := by
  have HDL := Lib.hid hdl
  have HDI := Lib.hid hdi
  have HLI := Lib.hid hlies
  have HD := Lib.hid (digest17 A B C D)
  have HT := Lib.hid (fun g W cc gd h1 h2 h3 => tree16 A B C D dv n g cc gd W hn1 hn2 hdl hdi h1 h2 h3)
  clear hdl hdi hlies
  obtain ⟨n4, h4⟩ : ∃ n4, n4 = 4096 * n := ⟨_, rfl⟩
  have h4a : ((n4 : Int) == 0) = false := by simp; omega
  have h4b : (n4 : Int) ≤ 10000000 := by omega
  have HPOS := Lib.hid (show 0 < n4 by omega)
  rw [← h4] at HDL HT hcc ⊢
  have H4 := Lib.hid h4
  clear h4
  go_enter Try.func10, Try.ntmps10
  go_wp2_with fail
  have hB1 : Below w.heap.size w (w.alloc (.cells #[.int .u64 A, .int .u64 B, .int .u64 C, .int .u64 D] 32)) := below_alloc (Below.refl _ _) _
  have hc0 : (w.alloc (.cells #[.int .u64 A, .int .u64 B, .int .u64 C, .int .u64 D] 32)).cell? ⟨w.heap.size, 0, none⟩ = some (.int .u64 A) := by simp
  have hc1 : (w.alloc (.cells #[.int .u64 A, .int .u64 B, .int .u64 C, .int .u64 D] 32)).cell? ⟨w.heap.size, 1, none⟩ = some (.int .u64 B) := by simp
  have hc2 : (w.alloc (.cells #[.int .u64 A, .int .u64 B, .int .u64 C, .int .u64 D] 32)).cell? ⟨w.heap.size, 2, none⟩ = some (.int .u64 C) := by simp
  have hc3 : (w.alloc (.cells #[.int .u64 A, .int .u64 B, .int .u64 C, .int .u64 D] 32)).cell? ⟨w.heap.size, 3, none⟩ = some (.int .u64 D) := by simp
  have hL1 := HLI.out.later hB1
  generalize w.alloc (.cells #[.int .u64 A, .int .u64 B, .int .u64 C, .int .u64 D] 32) = W1 at *
  generalize w.heap.size = bx at hc0 hc1 hc2 hc3 ⊢
  have HB1 := Lib.hid (show Below w.heap.size w W1.drew from below_drew hB1)
  have HL1 := Lib.hid (show Lies g 0 dv W1.drew from hL1)
  have HBD := Lib.hid (show Dig bx A B C D W1.drew from ⟨hc0, hc1, hc2, hc3⟩)
  clear hB1 hL1
  have HLE := Lib.hid (show dv.length ≤ 10000000 by rw [HDL.out]; omega)
  have HLE0 := Lib.hid (show ([] : List Int).length ≤ 10000000 by simp)
  go_region_held3 (fun w' => w'.cell? ⟨bx, 0, none⟩ = some (.int .u64 A) ∧ w'.cell? ⟨bx, 1, none⟩ = some (.int .u64 B) ∧ w'.cell? ⟨bx, 2, none⟩ = some (.int .u64 C) ∧ w'.cell? ⟨bx, 3, none⟩ = some (.int .u64 D))
    (first | exact Q3.out | exact Q2.out | exact Q1.out | go_keep)
    (first | (go_at_call 17; (with_reducible refine (HD.out w1).mono ?_); rintro e w2 ⟨gd, rfl, hd, hb⟩; have GD := Lib.hid hd; have GB := Lib.hid hb; have Q2 := Lib.hid (Q1.out.later hb); clear hd hb) | (go_at_call 16; (with_reducible refine (HT.out g1 w2 c1 gd (L1.out.later GB.out) C1.out GD.out).mono ?_); rintro e w3 ⟨v3, P3, rfl, hr⟩; have R3 := Lib.hid hr; have Q3 := Lib.hid (Q2.out.later hr.2); clear hr) | (refine app_rowL_step (w := W1.drew) (by rfl) _ _ (by rfl) (.slice none 0 0) [] dv g 0 n4 cc (by rfl) (by rfl) HDL.out (Row.nil _) HL1.out HLE0.out HLE.out ?_; intro v1 w1 hr hg; have Q1 := Lib.hid (Dig.far HBD.out hg); clear hg; obtain ⟨g1, c1, rfl, C1, L1, R1⟩ := dup_form hr HDL.out HPOS.out; clear hr))
  go_wp2
  go_quiet (fail)
  go_wp2
  go_ret2
  have k1 := below_then HB1.out HB1.out.size R1.out.2
  have k2 := below_then k1 k1.size GB.out
  exact ⟨v3, P3, rfl, Kd.R_drewN (Kd.R_lower R3.out.1 k2.size) _, pw_below_drewN (below_then k2 k2.size R3.out.2) _⟩
end Go.Proofs.Ytbakmlhjfjjfoaa.Vg
