/- The contract of the hash of a block. -/
import Derived.Test.YtbakmlhjfjjfoaaVg
namespace Go.Proofs.Ytbakmlhjfjjfoaa.Vg
open Go.RowKit Go.Proofs.YtbakmlhjfjjfoaaW.PrintWords Go.Proofs.YtbakmlhjfjjfoaaW.PrintLast Go.Proofs.YtbakmlhjfjjfoaaW.PrintMore
open Go.Proofs.Ytbakmlhjfjjfoaa.PFnVerityGrows Go.Proofs.Ytbakmlhjfjjfoaa.Vh
set_option linter.unusedVariables false
set_option linter.unusedSimpArgs false
theorem row_u8L (W : World) (g o : Nat) (l : List Int) (hl : l.length ≤ 10000000) (h : ∀ k x, l[k]? = some x → W.cell? ⟨g, o + k, none⟩ = some (.int .u8 x)) :
    ReadsRow (fun (x : Int) (cs : List Value) => cs = [.int .u8 x]) 1 W (some ⟨g, o, none⟩) l.length l := by
  refine ⟨rfl, by omega, fun _ => ⟨_, rfl, fun j p hj => ⟨[.int .u8 p], rfl, rfl, fun i u hi => ?_⟩⟩⟩
  match i, hi with
  | 0, hi =>
    simp at hi
    subst hi
    have h1 := h j p hj
    have h2 : (⟨g, o, none⟩ : Addr).add (j * 1 + 0) = ⟨g, o + j, none⟩ := by
      simp [Addr.add]
    rw [h2]; exact h1
section
variable {ops : Array Oper} {rest : List Oper} {o : Oper} {a : Act} {Q : Exit → Act → World → Prop}
/-- append of a long row of bytes that can be read. -/
theorem app_rowL {w W : World} (hgd : o.guard = none) (s x : Operand)
    (ho : o.op = .call { callee := .builtin .append, args := #[s, x], argTypes := #[27, 27] })
    (v : Value) (xs ys : List Int) (g off m c : Nat) (hs : a.eval s = v) (hx : a.eval x = .slice (some ⟨g, off, none⟩) m c) (hm : ys.length = m)
    (HO : Row w v xs W) (HR : ∀ k x, ys[k]? = some x → W.cell? ⟨g, off + k, none⟩ = some (.int .u8 x)) (hl : xs.length ≤ 10000000) (hy : ys.length ≤ 10000000)
    (h : ∀ v1 w1, Row w v1 (xs ++ ys) w1 → wpList Try.prog ops Q rest (a.put o.dst v1) w1) :
    wpList Try.prog ops Q (o :: rest) a W := by
  refine Kd.R_append_rows (Kd.int .u8) (w0 := w) w.heap.size hgd s x 27 5 (.int .u8 0) 1 ho Try.underlying27 Go.Proofs.Ytbakmlhjfjjfoaa.PFnVhdSum.info5 rfl (by decide) (by decide) v xs ys (some ⟨g, off, none⟩) m c (fun _ => True) (fun _ => False) hs hx HO.1 (by rw [← hm]; exact row_u8L W g off ys hy HR) (fun x cs hc => hc) (fun _ hk => hk.elim) (fun _ _ => trivial) HO.2 HO.2.size (by omega) ?_
  intro v1 w1 h1 h2 _ _
  exact h v1 w1 ⟨h1, h2⟩
end
/-- The digest's cells. -/
def Dig (gd : Nat) (A B C D : Int) (w : World) : Prop := w.cell? ⟨gd, 0, none⟩ = some (.int .u64 A) ∧ w.cell? ⟨gd, 1, none⟩ = some (.int .u64 B) ∧ w.cell? ⟨gd, 2, none⟩ = some (.int .u64 C) ∧ w.cell? ⟨gd, 3, none⟩ = some (.int .u64 D)
theorem Dig.later {gd : Nat} {A B C D : Int} {w W : World} (h : Dig gd A B C D w) (hb : Below w.heap.size w W) : Dig gd A B C D W := ⟨cell_later hb h.1, cell_later hb h.2.1, cell_later hb h.2.2.1, cell_later hb h.2.2.2⟩
/-- The hash of a block behind 32 zeros. -/
def hashOf (A B C D : Int) (b : List Int) : List Int := digTo [A, B, C, D] (List.replicate 32 0 ++ b) 4
theorem hashOf_len (A B C D : Int) (b : List Int) : (hashOf A B C D b).length = 32 := digTo_len _ _ _ (by simp)
theorem hashOf_in (A B C D : Int) (b : List Int) : InBytes (hashOf A B C D b) := digTo_in _ _ _
/-- Bytes that lie at a place. -/
def Lies (g o : Nat) (b : List Int) (w : World) : Prop := ∀ k x, b[k]? = some x → w.cell? ⟨g, o + k, none⟩ = some (.int .u8 x)
theorem Lies.later {g o : Nat} {b : List Int} {w W : World} (h : Lies g o b w) (hb : Below w.heap.size w W) : Lies g o b W := fun k x hk => cell_later hb (h k x hk)
set_option maxHeartbeats 4000000 in
set_option maxRecDepth 100000 in
theorem hash22 (A B C D : Int) (b : List Int) (g1 c1 g2 o2 c2 gd : Nat) (w : World) (hz : Lies g1 0 (List.replicate 32 0) w) (hb : b.length = 4096) (hib : InBytes b) (hl : Lies g2 o2 b w) (hd : Dig gd A B C D w) :
    Calls Try.prog 22 #[.slice (some ⟨g1, 0, none⟩) 32 c1, .slice (some ⟨g2, o2, none⟩) 4096 c2, .func (.func 23) #[] #[.pointer (some ⟨gd, 0, none⟩)]] w (Gives w (hashOf A B C D b)) := by
  have HZ := Lib.hid hz
  have HL := Lib.hid hl
  have HD := Lib.hid hd
  have HB := Lib.hid hb
  have hin : InBytes (List.replicate 32 0 ++ b) := inb_app (rep_in _) hib
  have HIN := Lib.hid hin
  have HLN := Lib.hid (show (List.replicate 32 (0 : Int) ++ b).length = 4128 by rw [List.length_append, List.length_replicate, hb])
  clear hz hl hd hib hin hb
  go_enter Try.func22, Try.ntmps22
  go_wp2_with (first | ((with_reducible refine gate_builtin (b := .append) (xs := #[.const (.slice none 0 0), .tmp 8]) rfl ?_); at_builtin; refine app_rowL (w := w) rfl _ _ rfl (.slice none 0 0) [] (List.replicate 32 0) g1 0 32 c1 rfl rfl List.length_replicate (Row.nil w) HZ.out (by simp) (by simp) ?_; intro v1 w1 hr; have R1 := Lib.hid hr; clear hr) | ((with_reducible refine gate_builtin (b := .append) (xs := #[.tmp 9, .tmp 10]) rfl ?_); at_builtin; refine app_rowL (w := w) rfl _ _ rfl v1 _ b g2 o2 4096 c2 rfl rfl HB.out R1.out (HL.out.later R1.out.2) (by simp) (by rw [HB.out]; decide) ?_; intro v2 w2 hr; have R2 := Lib.hid hr; clear hr; obtain ⟨g3, c3, e3, _, hc3⟩ := row_at R2.out (by rw [List.nil_append, HLN.out]; decide); rw [List.nil_append, HLN.out] at e3; subst e3; have HC3 := Lib.hid hc3; clear hc3))
  refine (dig23 g3 4128 c3 gd _ A B C D _ HLN.out (by decide) HC3.out HIN.out (HD.out.later R2.out.2).1 (HD.out.later R2.out.2).2.1 (HD.out.later R2.out.2).2.2.1 (HD.out.later R2.out.2).2.2.2).mono ?_
  rintro e w3 ⟨v, rfl, hr⟩
  have R3 := Lib.hid hr
  clear hr
  go_wp2
  go_ret
  exact ⟨v, rfl, Kd.R_lower R3.out.1 R2.out.2.size, below_then R2.out.2 R2.out.2.size R3.out.2⟩
end Go.Proofs.Ytbakmlhjfjjfoaa.Vg
