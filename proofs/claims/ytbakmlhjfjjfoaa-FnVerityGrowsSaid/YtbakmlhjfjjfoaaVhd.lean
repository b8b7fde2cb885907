/- The contracts of the footer's bytes. -/
import Derived.Test.YtbakmlhjfjjfoaaPFnVhdSumx1
import Derived.WalkKit
import Derived.WalkSpells
import Derived.Lib.Hide
import Derived.Handy
import Derived.LoopTactic
import Derived.WalkLawsBesides
import Derived.Deep.RegionHeld3
namespace Go.Proofs.Ytbakmlhjfjjfoaa.Vh
open Go.RowKit Go.Proofs.YtbakmlhjfjjfoaaW.PrintWords Go.Proofs.YtbakmlhjfjjfoaaW.PrintLast Go.Proofs.YtbakmlhjfjjfoaaW.PrintMore
open Go.Proofs.Ytbakmlhjfjjfoaa.PFnVhdSum
set_option linter.unusedVariables false
set_option linter.unusedSimpArgs false
/-- A row of bytes of the call's own. -/
def Row (w : World) (v : Value) (l : List Int) (W : World) : Prop := Kd.R (Kd.int .u8) 5 W w.heap.size (fun _ => True) v l ∧ Below w.heap.size w W
def be32 (x : Int) : List Int := [x / 16777216 % 256, x / 65536 % 256, x / 256 % 256, x % 256]
def be64 (x : Int) : List Int := be32 (x / 4294967296 % 4294967296) ++ be32 (x % 4294967296)
def Gives (w : World) (l : List Int) (e : Ending) (w' : World) : Prop := ∃ v, e = .returned v ∧ Row w v l w'
theorem put32_ (w W : World) (v : Value) (l : List Int) (x : Int) (h : Row w v l W) (hl : l.length ≤ 100000) :
    Calls Try.prog 26 #[v, .int .u32 x] W (Gives w (l ++ be32 x)) := by
  refine (tar2ext4_put32.calls (fun _ => True) v l x (l ++ be32 x) w W h.2 h.1 ?_).mono ?_
  · simp [tar2ext4_put32.f, be32]; omega
  · rintro e w' ⟨v', rfl, h1, h2, _⟩
    exact ⟨v', rfl, Kd.R_mono h1 (fun _ _ => trivial), h2⟩
theorem put64_ (w W : World) (v : Value) (l : List Int) (x : Int) (h : Row w v l W) (hl : l.length ≤ 100000) :
    Calls Try.prog 27 #[v, .int .u64 x] W (Gives w (l ++ be64 x)) := by
  refine (tar2ext4_put64.calls (fun _ => True) v l x (l ++ be64 x) w W h.2 h.1 ?_).mono ?_
  · have h1 : l.length + 4 < 140737488355328 := by omega
    have h2 : l.length + 4 + 4 < 140737488355328 := by omega
    simp [tar2ext4_put64.f, tar2ext4_put32.f, be64, be32, h1, h2]
  · rintro e w' ⟨v', rfl, h1, h2, _⟩
    exact ⟨v', rfl, Kd.R_mono h1 (fun _ _ => trivial), h2⟩
theorem be32_len (x : Int) : (be32 x).length = 4 := rfl
theorem be64_len (x : Int) : (be64 x).length = 8 := rfl
theorem Row.drew {w W : World} {v : Value} {l : List Int} (h : Row w v l W) : Row w v l W.drew := ⟨Kd.R_drew h.1, below_drew h.2⟩
theorem Row.alloc {w W : World} {v : Value} {l : List Int} (h : Row w v l W) (o : Obj) : Row w v l (W.alloc o) := ⟨Kd.R_alloc h.1 o, below_alloc h.2 o⟩
theorem Row.drewN {w W : World} {v : Value} {l : List Int} (h : Row w v l W) (n : Nat) : Row w v l (W.drewN n) := ⟨Kd.R_drewN h.1 n, pw_below_drewN h.2 n⟩
def cookie : List Int := [99, 111, 110, 101, 99, 116, 105, 120]
def u8s (l : List Int) : List Value := l.map (Value.int .u8)
/-- The cells of a footer. -/
def footCells (ck : List Int) (sz chk : Int) (u : List Int) : List Value :=
  u8s ck ++ [.int .u32 2, .int .u32 65536, .int .i64 (-1), .int .u32 0] ++ u8s (List.replicate 4 0) ++ [.int .u32 655360] ++ u8s (List.replicate 4 0) ++ [.int .i64 sz, .int .i64 sz, .int .u32 0, .int .u32 2, .int .u32 chk] ++ u8s u ++ [.int .u8 0] ++ u8s (List.replicate 427 0)
/-- A footer lies at block g. -/
structure Foot (g : Nat) (ck : List Int) (sz chk : Int) (u : List Int) (W : World) : Prop where
  lt : g < W.heap.size
  cell : ∀ k v, (footCells ck sz chk u)[k]? = some v → W.cell? ⟨g, k, none⟩ = some v
theorem Foot.later {g : Nat} {ck : List Int} {sz chk : Int} {u : List Int} {w W : World} (h : Foot g ck sz chk u w) (hb : Below w.heap.size w W) : Foot g ck sz chk u W :=
  ⟨Nat.lt_of_lt_of_le h.lt hb.size, fun k v hk => cell_later hb (h.cell k v hk)⟩
def footBytes (ck : List Int) (sz chk : Int) (u : List Int) : List Int :=
  ck ++ be32 2 ++ be32 65536 ++ be64 (IntKind.u64.wrap (-1)) ++ be32 0 ++ List.replicate 4 0 ++ be32 655360 ++ List.replicate 4 0 ++ be64 (IntKind.u64.wrap sz) ++ be64 (IntKind.u64.wrap sz) ++ be32 0 ++ be32 2 ++ be32 chk ++ u ++ [0] ++ List.replicate 427 0
theorem row_u8 (W : World) (g o : Nat) (l : List Int) (hl : l.length ≤ 1000) (h : ∀ k x, l[k]? = some x → W.cell? ⟨g, o + k, none⟩ = some (.int .u8 x)) :
    ReadsRow (fun (x : Int) (cs : List Value) => cs = [.int .u8 x]) 1 W (some ⟨g, o, none⟩) l.length l := by
  refine ⟨rfl, by omega, fun _ => ⟨_, rfl, fun j p hj => ⟨[.int .u8 p], rfl, rfl, fun i u hi => ?_⟩⟩⟩
  match i, hi with
  | 0, hi =>
    simp at hi
    subst hi
    have h1 := h j p hj
    have h2 : (⟨g, o, none⟩ : Addr).add (j * 1 + 0) = ⟨g, o + j, none⟩ := by
      simp [Addr.add]
    rw [h2]; exact h1
theorem Row.nil (w : World) : Row w (.slice none 0 0) [] w := ⟨Kd.R_nil _ _ _ _ _, Below.refl _ _⟩
section
variable {ops : Array Oper} {rest : List Oper} {o : Oper} {a : Act} {Q : Exit → Act → World → Prop}
/-- append of a row of bytes that can be read. -/
theorem app_row {w W : World} (hgd : o.guard = none) (s x : Operand)
    (ho : o.op = .call { callee := .builtin .append, args := #[s, x], argTypes := #[27, 27] })
    (v : Value) (xs ys : List Int) (g off m c : Nat) (hs : a.eval s = v) (hx : a.eval x = .slice (some ⟨g, off, none⟩) m c) (hm : ys.length = m)
    (HO : Row w v xs W) (HR : ∀ k x, ys[k]? = some x → W.cell? ⟨g, off + k, none⟩ = some (.int .u8 x)) (hl : xs.length ≤ 100000) (hy : ys.length ≤ 1000)
    (h : ∀ v1 w1, Row w v1 (xs ++ ys) w1 → wpList Try.prog ops Q rest (a.put o.dst v1) w1) :
    wpList Try.prog ops Q (o :: rest) a W := by
  refine Kd.R_append_rows (Kd.int .u8) (w0 := w) w.heap.size hgd s x 27 5 (.int .u8 0) 1 ho Try.underlying27 info5 rfl (by decide) (by decide) v xs ys (some ⟨g, off, none⟩) m c (fun _ => True) (fun _ => False) hs hx HO.1 (by rw [← hm]; exact row_u8 W g off ys hy HR) (fun x cs hc => hc) (fun _ hk => hk.elim) (fun _ _ => trivial) HO.2 HO.2.size (by omega) ?_
  intro v1 w1 h1 h2 _ _
  exact h v1 w1 ⟨h1, h2⟩
theorem app_row_step {w W : World} {Kc : Act → World → Prop} (hw : Region.wanted o (yielded ops a.tmps) = true) (s x : Operand)
    (ho : o.op = .call { callee := .builtin .append, args := #[s, x], argTypes := #[27, 27] })
    (v : Value) (xs ys : List Int) (g off m c : Nat) (hs : a.eval s = v) (hx : a.eval x = .slice (some ⟨g, off, none⟩) m c) (hm : ys.length = m)
    (HO : Row w v xs W) (HR : ∀ k x, ys[k]? = some x → W.cell? ⟨g, off + k, none⟩ = some (.int .u8 x)) (hl : xs.length ≤ 100000) (hy : ys.length ≤ 1000)
    (h : ∀ v1 w1, Row w v1 (xs ++ ys) w1 → (∀ b i x, W.cell? ⟨b, i, none⟩ = some x → v.ownBlock ≠ some b → w1.cell? ⟨b, i, none⟩ = some x) → Kc (a.put o.dst v1) w1) :
    if Region.wanted o (yielded ops a.tmps) = true then Oper.wp Try.prog o a W Kc Q else Kc (a.put o.dst undef) W := by
  refine Kd.R_append_rows_step (Kd.int .u8) (w0 := w) w.heap.size hw s x 27 5 (.int .u8 0) 1 ho Try.underlying27 info5 rfl (by decide) (by decide) v xs ys (some ⟨g, off, none⟩) m c (fun _ => True) (fun _ => False) hs hx HO.1 (by rw [← hm]; exact row_u8 W g off ys hy HR) (fun x cs hc => hc) (fun _ hk => hk.elim) (fun _ _ => trivial) HO.2 HO.2.size (by omega) ?_
  intro v1 w1 h1 h2 hg _
  exact h v1 w1 ⟨h1, h2⟩ (fun b i x hx hne => (hg.cell_far ⟨b, i, none⟩ (World.block_lt_of_cell? _ _ hx) (fun e => hne e.symm)).trans hx)
end
/-- What a footer's loads read. -/
structure FootReads (g : Nat) (ck : List Int) (sz chk : Int) (u : List Int) (W : World) : Prop where
  rck : ∀ k x, ck[k]? = some x → W.cell? ⟨g, 0 + k, none⟩ = some (.int .u8 x)
  c8 : W.cell? ⟨g, 8, none⟩ = some (.int .u32 2)
  c9 : W.cell? ⟨g, 9, none⟩ = some (.int .u32 65536)
  c10 : W.cell? ⟨g, 10, none⟩ = some (.int .i64 (-1))
  c11 : W.cell? ⟨g, 11, none⟩ = some (.int .u32 0)
  r12 : ∀ k x, (List.replicate 4 (0 : Int))[k]? = some x → W.cell? ⟨g, 12 + k, none⟩ = some (.int .u8 x)
  c16 : W.cell? ⟨g, 16, none⟩ = some (.int .u32 655360)
  r17 : ∀ k x, (List.replicate 4 (0 : Int))[k]? = some x → W.cell? ⟨g, 17 + k, none⟩ = some (.int .u8 x)
  c21 : W.cell? ⟨g, 21, none⟩ = some (.int .i64 sz)
  c22 : W.cell? ⟨g, 22, none⟩ = some (.int .i64 sz)
  c23 : W.cell? ⟨g, 23, none⟩ = some (.int .u32 0)
  c24 : W.cell? ⟨g, 24, none⟩ = some (.int .u32 2)
  c25 : W.cell? ⟨g, 25, none⟩ = some (.int .u32 chk)
  r26 : ∀ k x, u[k]? = some x → W.cell? ⟨g, 26 + k, none⟩ = some (.int .u8 x)
  c42 : W.cell? ⟨g, 42, none⟩ = some (.int .u8 0)
  r43 : ∀ k x, (List.replicate 427 (0 : Int))[k]? = some x → W.cell? ⟨g, 43 + k, none⟩ = some (.int .u8 x)
theorem u8s_get (l : List Int) (k : Nat) (x : Int) (h : l[k]? = some x) : (u8s l)[k]? = some (.int .u8 x) := by simp [u8s, h]
theorem get_off (A B : List Value) (n k : Nat) (v : Value) (hA : A.length = n) (h : B[k]? = some v) : (A ++ B)[n + k]? = some v := by
  subst hA; rw [List.getElem?_append_right (by omega)]; simpa using h
theorem get_left (A B : List Value) (k : Nat) (v : Value) (h : A[k]? = some v) : (A ++ B)[k]? = some v := by
  obtain ⟨hl, _⟩ := List.getElem?_eq_some_iff.1 h
  rw [List.getElem?_append_left hl]; exact h
theorem Foot.reads {g : Nat} {ck : List Int} {sz chk : Int} {u : List Int} {W : World} (h : Foot g ck sz chk u W) (hck : ck.length = 8) (hu : u.length = 16) : FootReads g ck sz chk u W := by
  have l1 : (u8s ck).length = 8 := by simp [u8s, hck]
  have l2 : (u8s u).length = 16 := by simp [u8s, hu]
  have hz : ∀ n, (u8s (List.replicate n 0)).length = n := by simp [u8s]
  have key : ∀ k v, (footCells ck sz chk u)[k]? = some v → W.cell? ⟨g, k, none⟩ = some v := h.cell
  unfold footCells at key
  refine ⟨fun k x hk => key _ _ ?_, key _ _ ?_, key _ _ ?_, key _ _ ?_, key _ _ ?_, fun k x hk => key _ _ ?_, key _ _ ?_, fun k x hk => key _ _ ?_, key _ _ ?_, key _ _ ?_, key _ _ ?_, key _ _ ?_, key _ _ ?_, fun k x hk => key _ _ ?_, key _ _ ?_, fun k x hk => key _ _ ?_⟩
  · rw [Nat.zero_add]
    iterate 8 refine get_left _ _ _ _ ?_
    exact u8s_get _ _ _ hk
  · iterate 7 refine get_left _ _ _ _ ?_
    exact get_off _ _ 8 0 _ l1 rfl
  · iterate 7 refine get_left _ _ _ _ ?_
    exact get_off _ _ 8 1 _ l1 rfl
  · iterate 7 refine get_left _ _ _ _ ?_
    exact get_off _ _ 8 2 _ l1 rfl
  · iterate 7 refine get_left _ _ _ _ ?_
    exact get_off _ _ 8 3 _ l1 rfl
  · iterate 6 refine get_left _ _ _ _ ?_
    exact get_off _ _ 12 k _ (by simp only [List.length_append, l1, l2, hz, List.length_cons, List.length_nil]) (u8s_get _ _ _ hk)
  · iterate 5 refine get_left _ _ _ _ ?_
    exact get_off _ _ 16 0 _ (by simp only [List.length_append, l1, l2, hz, List.length_cons, List.length_nil]) rfl
  · iterate 4 refine get_left _ _ _ _ ?_
    exact get_off _ _ 17 k _ (by simp only [List.length_append, l1, l2, hz, List.length_cons, List.length_nil]) (u8s_get _ _ _ hk)
  · iterate 3 refine get_left _ _ _ _ ?_
    exact get_off _ _ 21 0 _ (by simp only [List.length_append, l1, l2, hz, List.length_cons, List.length_nil]) rfl
  · iterate 3 refine get_left _ _ _ _ ?_
    exact get_off _ _ 21 1 _ (by simp only [List.length_append, l1, l2, hz, List.length_cons, List.length_nil]) rfl
  · iterate 3 refine get_left _ _ _ _ ?_
    exact get_off _ _ 21 2 _ (by simp only [List.length_append, l1, l2, hz, List.length_cons, List.length_nil]) rfl
  · iterate 3 refine get_left _ _ _ _ ?_
    exact get_off _ _ 21 3 _ (by simp only [List.length_append, l1, l2, hz, List.length_cons, List.length_nil]) rfl
  · iterate 3 refine get_left _ _ _ _ ?_
    exact get_off _ _ 21 4 _ (by simp only [List.length_append, l1, l2, hz, List.length_cons, List.length_nil]) rfl
  · iterate 2 refine get_left _ _ _ _ ?_
    exact get_off _ _ 26 k _ (by simp only [List.length_append, l1, l2, hz, List.length_cons, List.length_nil]) (u8s_get _ _ _ hk)
  · refine get_left _ _ _ _ ?_
    exact get_off _ _ 42 0 _ (by simp only [List.length_append, l1, l2, hz, List.length_cons, List.length_nil]) rfl
  · exact get_off _ _ 43 k _ (by simp only [List.length_append, l1, l2, hz, List.length_cons, List.length_nil]) (u8s_get _ _ _ hk)
theorem cell_one (w : World) (x : Value) (t : TypeId) (k : Nat) (v : Value) (h : [x][k]? = some v) : (w.alloc (.cells #[x] t)).cell? ⟨w.heap.size, 0 + k, none⟩ = some v := by
  match k, h with
  | 0, h => simp at h; subst h; simp
theorem cell_one8 (w : World) (t : TypeId) (k : Nat) (x : Int) (h : [(0 : Int)][k]? = some x) : (w.alloc (.cells #[.int .u8 0] t)).cell? ⟨w.heap.size, 0 + k, none⟩ = some (.int .u8 x) := by
  match k, h with
  | 0, h => simp at h; subst h; simp
theorem cell_one9 (w : World) (t : TypeId) : ((w.alloc (.cells #[.int .u8 0] t)).drew).cell? ⟨w.heap.size, 0, none⟩ = some (.int .u8 0) := by simp
theorem cell_same8 {W : World} {b : Nat} (h : W.cell? ⟨b, 0, none⟩ = some (.int .u8 0)) (k : Nat) (x : Int) (hk : [(0 : Int)][k]? = some x) : W.cell? ⟨b, 0 + k, none⟩ = some (.int .u8 x) := by
  match k, hk with
  | 0, hk => simp at hk; subst hk; exact h
set_option maxHeartbeats 4000000 in
theorem bytes20 (g : Nat) (ck : List Int) (sz chk : Int) (u : List Int) (w : World) (hf : Foot g ck sz chk u w) (hck : ck.length = 8) (hu : u.length = 16) :
    Calls Try.prog 20 #[.pointer (some ⟨g, 0, none⟩)] w (Gives w (footBytes ck sz chk u)) := by
  have HF := Lib.hid (fun (W : World) (hb : Below w.heap.size w W) => (Foot.later hf hb).reads hck hu)
  have HF0 := Lib.hid (hf.reads hck hu)
  clear hf
  go_enter Try.func20, Try.ntmps20
  go_wp2_with (first | ((with_reducible refine gate_builtin (b := .append) (xs := #[.const (.slice none 0 0), .tmp 7]) rfl ?_); at_builtin; refine app_row (w := w) rfl _ _ rfl (.slice none 0 0) [] ck g 0 8 8 rfl rfl hck (Row.nil w) HF0.out.rck (by simp) (by omega) ?_; intro v1 w1 hr; have R1 := Lib.hid hr; clear hr))
  have hc8 := (HF.out _ R1.out.2).c8
  have hc9 := (HF.out _ R1.out.2).c9
  go_region_held3 (fun w' => w'.cell? ⟨g, 8, none⟩ = some (.int .u32 2) ∧ w'.cell? ⟨g, 9, none⟩ = some (.int .u32 65536))
    (first | exact ⟨(HF.out _ R3.out.2).c8, (HF.out _ R3.out.2).c9⟩ | exact ⟨(HF.out _ R2.out.2).c8, (HF.out _ R2.out.2).c9⟩ | go_keep)
    (first | (go_at_call 26; first | ((with_reducible refine (put32_ w _ _ _ _ R1.out.drew (by simp only [List.length_append, be32_len, be64_len, List.length_replicate, List.length_nil, List.length_cons]; omega)).mono ?_); rintro e w2 ⟨v2, rfl, hr⟩; have R2 := Lib.hid hr; clear hr) | ((with_reducible refine (put32_ w _ _ _ _ R2.out (by simp only [List.length_append, be32_len, be64_len, List.length_replicate, List.length_nil, List.length_cons]; omega)).mono ?_); rintro e w3 ⟨v3, rfl, hr⟩; have R3 := Lib.hid hr; clear hr)))
  go_wp2
  have hc10 := (HF.out _ R3.out.2).c10
  have hc11 := (HF.out _ R3.out.2).c11
  go_region_held3 (fun w' => w'.cell? ⟨g, 10, none⟩ = some (.int .i64 (-1)) ∧ w'.cell? ⟨g, 11, none⟩ = some (.int .u32 0))
    (first | exact ⟨(HF.out _ R5.out.2).c10, (HF.out _ R5.out.2).c11⟩ | exact ⟨(HF.out _ R4.out.2).c10, (HF.out _ R4.out.2).c11⟩ | go_keep)
    (first | (go_at_call 27; ((with_reducible refine (put64_ w _ _ _ _ R3.out.drew (by simp only [List.length_append, be32_len, be64_len, List.length_replicate, List.length_nil, List.length_cons]; omega)).mono ?_); rintro e w4 ⟨v4, rfl, hr⟩; have R4 := Lib.hid hr; clear hr)) | (go_at_call 26; ((with_reducible refine (put32_ w _ _ _ _ R4.out (by simp only [List.length_append, be32_len, be64_len, List.length_replicate, List.length_nil, List.length_cons]; omega)).mono ?_); rintro e w5 ⟨v5, rfl, hr⟩; have R5 := Lib.hid hr; clear hr)))
  go_wp2
  have hc16 := (HF.out _ R5.out.2).c16
  go_region_held3 (fun w' => w'.cell? ⟨g, 16, none⟩ = some (.int .u32 655360))
    (first | exact (HF.out _ R7.out.2).c16 | exact (HF.out _ R6.out.2).c16 | go_keep)
    (first | (go_at_call 26; ((with_reducible refine (put32_ w _ _ _ _ R6.out (by simp only [List.length_append, be32_len, be64_len, List.length_replicate, List.length_nil, List.length_cons]; omega)).mono ?_); rintro e w7 ⟨v7, rfl, hr⟩; have R7 := Lib.hid hr; clear hr)) | ((refine app_row_step (w := w) rfl _ _ rfl v5 _ (List.replicate 4 0) g 12 4 4 rfl rfl rfl R5.out.drew (HF.out _ R5.out.drew.2).r12 (by simp only [List.length_append, be32_len, be64_len, List.length_replicate, List.length_nil, List.length_cons]; omega) (by simp) ?_); intro v6 w6 hr hkp; have R6 := Lib.hid hr; clear hr hkp))
  go_wp2_with (first | ((with_reducible refine gate_builtin (b := .append) (xs := #[.tmp 43, .tmp 47]) rfl ?_); at_builtin; refine app_row (w := w) rfl _ _ rfl v7 _ (List.replicate 4 0) g 17 4 4 rfl rfl rfl R7.out (HF.out _ R7.out.2).r17 (by simp only [List.length_append, be32_len, be64_len, List.length_replicate, List.length_nil, List.length_cons]; omega) (by simp) ?_; intro v8 w8 hr; have R8 := Lib.hid hr; clear hr))
  have hc21 := (HF.out _ R8.out.2).c21
  have hc22 := (HF.out _ R8.out.2).c22
  go_region_held3 (fun w' => w'.cell? ⟨g, 21, none⟩ = some (.int .i64 sz) ∧ w'.cell? ⟨g, 22, none⟩ = some (.int .i64 sz))
    (first | exact ⟨(HF.out _ R10.out.2).c21, (HF.out _ R10.out.2).c22⟩ | exact ⟨(HF.out _ R9.out.2).c21, (HF.out _ R9.out.2).c22⟩ | go_keep)
    (first | (go_at_call 27; first | ((with_reducible refine (put64_ w _ _ _ _ R8.out.drew (by simp only [List.length_append, be32_len, be64_len, List.length_replicate, List.length_nil, List.length_cons]; omega)).mono ?_); rintro e w9 ⟨v9, rfl, hr⟩; have R9 := Lib.hid hr; clear hr) | ((with_reducible refine (put64_ w _ _ _ _ R9.out (by simp only [List.length_append, be32_len, be64_len, List.length_replicate, List.length_nil, List.length_cons]; omega)).mono ?_); rintro e w10 ⟨v10, rfl, hr⟩; have R10 := Lib.hid hr; clear hr)))
  go_wp2
  have hc23 := (HF.out _ R10.out.2).c23
  have hc24 := (HF.out _ R10.out.2).c24
  have hc25 := (HF.out _ R10.out.2).c25
  go_region_held3 (fun w' => w'.cell? ⟨g, 23, none⟩ = some (.int .u32 0) ∧ w'.cell? ⟨g, 24, none⟩ = some (.int .u32 2) ∧ w'.cell? ⟨g, 25, none⟩ = some (.int .u32 chk))
    (first | exact ⟨(HF.out _ R13.out.2).c23, (HF.out _ R13.out.2).c24, (HF.out _ R13.out.2).c25⟩ | exact ⟨(HF.out _ R12.out.2).c23, (HF.out _ R12.out.2).c24, (HF.out _ R12.out.2).c25⟩ | exact ⟨(HF.out _ R11.out.2).c23, (HF.out _ R11.out.2).c24, (HF.out _ R11.out.2).c25⟩ | go_keep)
    (first | (go_at_call 26; first | ((with_reducible refine (put32_ w _ _ _ _ R10.out.drew (by simp only [List.length_append, be32_len, be64_len, List.length_replicate, List.length_nil, List.length_cons]; omega)).mono ?_); rintro e w11 ⟨v11, rfl, hr⟩; have R11 := Lib.hid hr; clear hr) | ((with_reducible refine (put32_ w _ _ _ _ R11.out (by simp only [List.length_append, be32_len, be64_len, List.length_replicate, List.length_nil, List.length_cons]; omega)).mono ?_); rintro e w12 ⟨v12, rfl, hr⟩; have R12 := Lib.hid hr; clear hr) | ((with_reducible refine (put32_ w _ _ _ _ R12.out (by simp only [List.length_append, be32_len, be64_len, List.length_replicate, List.length_nil, List.length_cons]; omega)).mono ?_); rintro e w13 ⟨v13, rfl, hr⟩; have R13 := Lib.hid hr; clear hr)))
  go_wp2
  have L13 := Lib.hid (show ([] ++ ck ++ be32 2 ++ be32 65536 ++ be64 (IntKind.u64.wrap (-1)) ++ be32 0 ++ List.replicate 4 0 ++ be32 655360 ++ List.replicate 4 0 ++ be64 (IntKind.u64.wrap sz) ++ be64 (IntKind.u64.wrap sz) ++ be32 0 ++ be32 2 ++ be32 chk).length ≤ 100000 by simp only [List.length_append, be32_len, be64_len, List.length_replicate, List.length_nil, List.length_cons]; omega)
  have L14 := Lib.hid (show ([] ++ ck ++ be32 2 ++ be32 65536 ++ be64 (IntKind.u64.wrap (-1)) ++ be32 0 ++ List.replicate 4 0 ++ be32 655360 ++ List.replicate 4 0 ++ be64 (IntKind.u64.wrap sz) ++ be64 (IntKind.u64.wrap sz) ++ be32 0 ++ be32 2 ++ be32 chk ++ u).length ≤ 100000 by simp only [List.length_append, be32_len, be64_len, List.length_replicate, List.length_nil, List.length_cons]; omega)
  have L15 := Lib.hid (show ([] ++ ck ++ be32 2 ++ be32 65536 ++ be64 (IntKind.u64.wrap (-1)) ++ be32 0 ++ List.replicate 4 0 ++ be32 655360 ++ List.replicate 4 0 ++ be64 (IntKind.u64.wrap sz) ++ be64 (IntKind.u64.wrap sz) ++ be32 0 ++ be32 2 ++ be32 chk ++ u ++ [0]).length ≤ 100000 by simp only [List.length_append, be32_len, be64_len, List.length_replicate, List.length_nil, List.length_cons]; omega)
  have LU := Lib.hid (show u.length ≤ 1000 by omega)
  have hc42 := (HF.out _ R13.out.2).c42
  have HN := Lib.hid (fun e => Nat.lt_irrefl _ (Kd.R_lt R13.out.1 _ e) : v13.ownBlock ≠ some w13.heap.size)
  go_region_held3 (fun w' => w'.cell? ⟨g, 42, none⟩ = some (.int .u8 0))
    (first | exact (HF.out _ R15.out.2).c42 | exact (HF.out _ (R14.out.alloc _).2).c42 | exact (HF.out _ R14.out.2).c42 | exact (HF.out _ R14b.out.2).c42 | exact (HF.out _ (R13.out.alloc _).drew.2).c42 | go_keep)
    (first | (refine app_row_step (w := w) (by rfl) _ _ (by rfl) v13 _ u g 26 16 16 (by rfl) (by rfl) hu R13.out.drew (HF.out _ R13.out.drew.2).r26 L13.out LU.out ?_; intro v14 w14 hr hkp; have R14 := Lib.hid hr; clear hr hkp) | (refine app_row_step (w := w) (by rfl) _ _ (by rfl) v13 _ u g 26 16 16 (by rfl) (by rfl) hu (R13.out.alloc _).drew (HF.out _ (R13.out.alloc _).drew.2).r26 L13.out LU.out ?_; intro v14 w14 hr hkp; have R14b := Lib.hid hr; have HCB := Lib.hid (hkp _ _ _ (cell_one9 w13 5) HN.out); clear hr hkp) | (refine app_row_step (w := w) (by rfl) _ _ (by rfl) v14 _ [0] w14.heap.size 0 1 1 (by rfl) (by rfl) rfl (R14.out.alloc _) (fun k x hk => cell_one8 w14 _ k x hk) L14.out (by decide) ?_; intro v15 w15 hr hkp; have R15 := Lib.hid hr; clear hr hkp) | (refine app_row_step (w := w) (by rfl) _ _ (by rfl) v14 _ [0] w13.heap.size 0 1 1 (by rfl) (by rfl) rfl R14b.out (cell_same8 HCB.out) L14.out (by decide) ?_; intro v15 w15 hr hkp; have R15 := Lib.hid hr; clear hr hkp) | fail)
  all_goals go_wp2_with (first | ((with_reducible refine gate_builtin (b := .append) (xs := #[.tmp 90, .tmp 94]) rfl ?_); at_builtin; refine app_row (w := w) rfl _ _ rfl v15 _ (List.replicate 427 0) g 43 427 427 (by rfl) (by rfl) List.length_replicate R15.out (HF.out _ R15.out.2).r43 L15.out (by rw [List.length_replicate]; decide) ?_; intro v16 w16 hr; have R16 := Lib.hid hr; clear hr))
  all_goals go_ret
  all_goals exact ⟨v16, rfl, R16.out⟩
end Go.Proofs.Ytbakmlhjfjjfoaa.Vh
