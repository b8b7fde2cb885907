/- The digest of bytes; bytes that lie at a place. -/
import Derived.WalkSpells
import Derived.Test.YtckjbgneblfceaaDoorCf
import Derived.Test.YtckjbgneblfceaaDoorPFnVerityReadx0
import Derived.Test.YtckjbgneblfceaaDoorVx1
import Derived.Test.YtckjbgneblfceaaDoorVx2
namespace Go.Proofs.YtckjbgneblfceaaDoor.Da
open Go.RowKit Go.Maps Go.Proofs.YtckjbgneblfceaaDoorW.PrintWords Go.Proofs.YtckjbgneblfceaaDoorW.PrintLast Go.Proofs.YtckjbgneblfceaaDoorW.PrintMore
open Go.Proofs.YtckjbgneblfceaaDoor.PFnVerityRead Go.Proofs.YtckjbgneblfceaaDoor.Fa
set_option linter.unusedVariables false
set_option linter.unusedSimpArgs false
/-- A row of bytes of the call's own. -/
def Row (w : World) (v : Value) (l : List Int) (W : World) : Prop := Kd.R (Kd.int .u8) 5 W w.heap.size (fun _ => True) v l ∧ Below w.heap.size w W
def Gives (w : World) (l : List Int) (e : Ending) (w' : World) : Prop := ∃ v, e = .returned v ∧ Row w v l w'
theorem row_u8 (W : World) (g o : Nat) (l : List Int) (hl : l.length ≤ 1000) (h : ∀ k x, l[k]? = some x → W.cell? ⟨g, o + k, none⟩ = some (.int .u8 x)) :
    ReadsRow (fun (x : Int) (cs : List Value) => cs = [.int .u8 x]) 1 W (some ⟨g, o, none⟩) l.length l := by
  refine ⟨rfl, by omega, fun _ => ⟨_, rfl, fun j p hj => ⟨[.int .u8 p], rfl, rfl, fun i u hi => ?_⟩⟩⟩
  match i, hi with
  | 0, hi =>
    simp at hi
    subst hi
    have h1 := h j p hj
    have h2 : (⟨g, o, none⟩ : Addr).add (j * 1 + 0) = ⟨g, o + j, none⟩ := by
      simp [Addr.add]
    rw [h2]; exact h1
theorem Row.nil (w : World) : Row w (.slice none 0 0) [] w := ⟨Kd.R_nil _ _ _ _ _, Below.refl _ _⟩
theorem Row.drew {w W : World} {v : Value} {l : List Int} (h : Row w v l W) : Row w v l W.drew := ⟨Kd.R_drew h.1, below_drew h.2⟩
theorem Row.alloc {w W : World} {v : Value} {l : List Int} (h : Row w v l W) (o : Obj) : Row w v l (W.alloc o) := ⟨Kd.R_alloc h.1 o, below_alloc h.2 o⟩
theorem Row.drewN {w W : World} {v : Value} {l : List Int} (h : Row w v l W) (n : Nat) : Row w v l (W.drewN n) := ⟨Kd.R_drewN h.1 n, pw_below_drewN h.2 n⟩
section
variable {ops : Array Oper} {rest : List Oper} {o : Oper} {a : Act} {Q : Exit → Act → World → Prop}
/-- append of a row of bytes that can be read. -/
theorem app_row {w W : World} (hgd : o.guard = none) (s x : Operand)
    (ho : o.op = .call { callee := .builtin .append, args := #[s, x], argTypes := #[33, 33] })
    (v : Value) (xs ys : List Int) (g off m c : Nat) (hs : a.eval s = v) (hx : a.eval x = .slice (some ⟨g, off, none⟩) m c) (hm : ys.length = m)
    (HO : Row w v xs W) (HR : ∀ k x, ys[k]? = some x → W.cell? ⟨g, off + k, none⟩ = some (.int .u8 x)) (hl : xs.length ≤ 100000) (hy : ys.length ≤ 1000)
    (h : ∀ v1 w1, Row w v1 (xs ++ ys) w1 → wpList Tryd.prog ops Q rest (a.put o.dst v1) w1) :
    wpList Tryd.prog ops Q (o :: rest) a W := by
  refine Kd.R_append_rows (Kd.int .u8) (w0 := w) w.heap.size hgd s x 33 5 (.int .u8 0) 1 ho Tryd.underlying33 info5 rfl (by decide) (by decide) v xs ys (some ⟨g, off, none⟩) m c (fun _ => True) (fun _ => False) hs hx HO.1 (by rw [← hm]; exact row_u8 W g off ys hy HR) (fun x cs hc => hc) (fun _ hk => hk.elim) (fun _ _ => trivial) HO.2 HO.2.size (by omega) ?_
  intro v1 w1 h1 h2 _ _
  exact h v1 w1 ⟨h1, h2⟩
end
def InBytes (l : List Int) : Prop := ∀ x ∈ l, 0 ≤ x ∧ x < 256
theorem inb_app {a b : List Int} (ha : InBytes a) (hb : InBytes b) : InBytes (a ++ b) := by
  intro x hx; rcases List.mem_append.1 hx with h | h
  · exact ha x h
  · exact hb x h
theorem rep_in (n : Nat) : InBytes (List.replicate n 0) := by intro x hx; rw [List.eq_of_mem_replicate hx]; omega
theorem row_at {w W : World} {v : Value} {l : List Int} (h : Row w v l W) (hl : 0 < l.length) : ∃ g c, v = .slice (some ⟨g, 0, none⟩) l.length c ∧ l.length ≤ c ∧ ∀ j x, l[j]? = some x → W.cell? ⟨g, j, none⟩ = some (.int .u8 x) := by
  obtain ⟨A, c, hv, hcc, hC⟩ := Kd.R_reads h.1
  obtain ⟨inner, ho⟩ := Kd.R_own h.1
  obtain ⟨g, cap, hf, _, _⟩ := ho.form hl
  rw [hv] at hf
  simp only [Value.slice.injEq] at hf
  obtain ⟨hA, _, rfl⟩ := hf
  subst hA
  refine ⟨g, c, hv, hcc, fun j x hj => ?_⟩
  have hrd := Kd.reads_of_C (d := (0 : Int)) hC
  obtain ⟨ad, hA, hcell⟩ := hrd.2.2 hl
  obtain rfl := Option.some.inj hA
  have hlt := (List.getElem?_eq_some_iff.1 hj).1
  have h1 := hcell j hlt
  rw [List.getD_eq_getElem?_getD, hj] at h1
  have h2 : (⟨g, 0, none⟩ : Addr).add j = ⟨g, j, none⟩ := by simp [Addr.add]; intro e; rw [e]
  rw [h2] at h1; exact h1
/-- One word, mixed with bytes; its eight bytes, the highest first. -/
def mixB (x : Int) (b : List Int) : Int := b.foldl (fun w c => IntKind.u64.wrap (bits BinOp.xor IntKind.u64 w c * 1099511628211)) x
def byteAt (x : Int) (k : Nat) : Int := x / 2 ^ (8 * k) % 256
def bytes8 (x : Int) (k : Nat) : List Int := (List.range k).map fun j => byteAt x (7 - j)
def digTo (ws : List Int) (b : List Int) (i : Nat) : List Int := (ws.take i).flatMap fun x => bytes8 (mixB x b) 8
theorem index4_0 (A B C D : Int) (W : World) : (Instr.index 119 (.agg #[.int .u64 A, .int .u64 B, .int .u64 C, .int .u64 D]) (.int .i64 0)).run Tryd.prog W = .ok (.int .u64 A) W := by kernel_rfl
theorem index4_1 (A B C D : Int) (W : World) : (Instr.index 119 (.agg #[.int .u64 A, .int .u64 B, .int .u64 C, .int .u64 D]) (.int .i64 1)).run Tryd.prog W = .ok (.int .u64 B) W := by kernel_rfl
theorem index4_2 (A B C D : Int) (W : World) : (Instr.index 119 (.agg #[.int .u64 A, .int .u64 B, .int .u64 C, .int .u64 D]) (.int .i64 2)).run Tryd.prog W = .ok (.int .u64 C) W := by kernel_rfl
theorem index4_3 (A B C D : Int) (W : World) : (Instr.index 119 (.agg #[.int .u64 A, .int .u64 B, .int .u64 C, .int .u64 D]) (.int .i64 3)).run Tryd.prog W = .ok (.int .u64 D) W := by kernel_rfl
theorem index4 (A B C D : Int) (i : Nat) (x : Int) (hx : [A, B, C, D][i]? = some x) (W : World) : (Instr.index 119 (.agg #[.int .u64 A, .int .u64 B, .int .u64 C, .int .u64 D]) (.int .i64 i)).run Tryd.prog W = .ok (.int .u64 x) W := by
  match i, hx with
  | 0, hx => simp at hx; subst hx; exact index4_0 _ _ _ _ W
  | 1, hx => simp at hx; subst hx; exact index4_1 _ _ _ _ W
  | 2, hx => simp at hx; subst hx; exact index4_2 _ _ _ _ W
  | 3, hx => simp at hx; subst hx; exact index4_3 _ _ _ _ W
theorem mixB_snoc (x : Int) (b : List Int) (c : Int) : mixB x (b ++ [c]) = IntKind.u64.wrap (bits BinOp.xor IntKind.u64 (mixB x b) c * 1099511628211) := by simp [mixB]
theorem bytes8_len (x : Int) (k : Nat) : (bytes8 x k).length = k := by simp [bytes8]
theorem bytes8_succ (x : Int) (k : Nat) : bytes8 x (k + 1) = bytes8 x k ++ [byteAt x (7 - k)] := by simp [bytes8, List.range_succ]
theorem digTo_len (ws : List Int) (b : List Int) (i : Nat) (h : i ≤ ws.length) : (digTo ws b i).length = 8 * i := by
  have : ∀ l : List Int, (l.flatMap fun x => bytes8 (mixB x b) 8).length = 8 * l.length := by
    intro l
    induction l with
    | nil => rfl
    | cons a t ih => rw [List.flatMap_cons, List.length_append, ih, bytes8_len, List.length_cons]; omega
  unfold digTo
  rw [this, List.length_take]
  omega
theorem digTo_succ (ws : List Int) (b : List Int) (i : Nat) (x : Int) (h : ws[i]? = some x) : digTo ws b (i + 1) = digTo ws b i ++ bytes8 (mixB x b) 8 := by
  unfold digTo
  rw [List.take_add_one, h]
  simp
theorem cell_oneV (w : World) (e : Int) (t : TypeId) (k : Nat) (x : Int) (h : [e][k]? = some x) : (w.alloc (.cells #[.int .u8 e] t)).cell? ⟨w.heap.size, 0 + k, none⟩ = some (.int .u8 x) := by
  match k, h with
  | 0, h => simp at h; subst h; simp
set_option maxHeartbeats 4000000 in
set_option maxRecDepth 100000 in
theorem dig56 (gb nb cb gd : Nat) (b : List Int) (A B C D : Int) (w : World) (hb : b.length = nb) (hn : nb ≤ 100000) (hcell : ∀ j x, b[j]? = some x → w.cell? ⟨gb, j, none⟩ = some (.int .u8 x)) (hib : InBytes b)
    (h0 : w.cell? ⟨gd, 0, none⟩ = some (.int .u64 A)) (h1 : w.cell? ⟨gd, 1, none⟩ = some (.int .u64 B)) (h2 : w.cell? ⟨gd, 2, none⟩ = some (.int .u64 C)) (h3 : w.cell? ⟨gd, 3, none⟩ = some (.int .u64 D)) :
    Calls Tryd.prog 56 #[.slice (some ⟨gb, 0, none⟩) nb cb, .pointer (some ⟨gd, 0, none⟩)] w (Gives w (digTo [A, B, C, D] b 4)) := by
  have HC := Lib.hid hcell
  have HI := Lib.hid hib
  clear hcell hib
  go_enter Tryd.func56, Tryd.ntmps56
  go_wp2_with fail
  go_loopw [4, 19] (fun v4 v19 wr => ∃ (i : Nat), v19 = .int .i64 i ∧ i ≤ 4 ∧ Hid (Row w v4 (digTo [A, B, C, D] b i) wr)) (fun _ i _ => 4 - (intOf i).toNat)
  case atStart => exact ⟨0, rfl, by omega, Lib.hid (Row.nil w)⟩
  case round =>
    obtain ⟨i, rfl, hi, HR⟩ := hrel
    by_cases hlt : i < 4
    · have hc2 := Lib.hid (fun j x hj => cell_later HR.out.2 (HC.out j x hj))
      obtain ⟨x, hx⟩ : ∃ x, [A, B, C, D][i]? = some x := ⟨_, List.getElem?_eq_getElem hlt⟩
      have hix := index4 A B C D i x hx
      have HX := Lib.hid hx
      clear hx
      go_wp2_with fail
      go_loop [6, 24] (fun v6 v24 => ∃ j : Nat, v24 = .int .i64 j ∧ j ≤ nb ∧ v6 = .int .u64 (mixB x (b.take j))) (fun _ j => nb - (intOf j).toNat)
      case atStart => exact ⟨0, rfl, by omega, by simp [mixB]⟩
      case round =>
        obtain ⟨j, rfl, hj, rfl⟩ := hrel
        by_cases hjl : j < nb
        · obtain ⟨c, hc⟩ : ∃ c, b[j]? = some c := ⟨_, List.getElem?_eq_getElem (by omega)⟩
          have hcc := hc2.out j c hc
          have hcr := HI.out c (List.mem_of_getElem? hc)
          have HS := Lib.hid (show mixB x (b.take (j + 1)) = IntKind.u64.wrap (bits BinOp.xor IntKind.u64 (mixB x (b.take j)) c * 1099511628211) by rw [List.take_add_one, hc]; exact mixB_snoc x (b.take j) c)
          generalize mixB x (b.take j) = m at HS
          clear hc
          go_wp2_with fail
          go_round
          case rel => exact ⟨j + 1, by first | rfl | go_num, by omega, by rw [HS.out]⟩
          case measure => simp [intOf] <;> omega
        · obtain rfl : j = nb := by omega
          have HM := Lib.hid (show mixB x (b.take j) = mixB x b by rw [List.take_of_length_le (by omega)])
          generalize mixB x (b.take j) = m at HM
          go_wp2_with fail
          go_loopw [4, 9] (fun v4 v9 w2 => ∃ t : Nat, v9 = .int .i64 (7 - (t : Int)) ∧ t ≤ 8 ∧ Hid (Row w v4 (digTo [A, B, C, D] b i ++ bytes8 m t) w2)) (fun _ k _ => (intOf k + 1).toNat)
          case atStart => exact ⟨0, rfl, by omega, by simpa [bytes8] using HR⟩
          case round =>
            obtain ⟨t, rfl, ht, HR2⟩ := hrel
            by_cases htl : t < 8
            · have HL2 := Lib.hid (show (digTo [A, B, C, D] b i ++ bytes8 m t).length ≤ 100000 by
                rw [List.length_append, digTo_len _ _ _ (by simp; omega), bytes8_len]; omega)
              have HS2 := Lib.hid (bytes8_succ m t)
              go_wp2_with (first | ((with_reducible refine gate_builtin (b := .append) (xs := #[.tmp 38, .tmp 44]) rfl ?_); at_builtin; refine app_row (w := w) rfl _ _ rfl _ _ [byteAt m (7 - t)] _ 0 1 1 rfl rfl rfl (HR2.out.alloc _) (cell_oneV _ _ _) HL2.out (by simp) ?_; intro v3 w3 hr; have HR3 := Lib.hid hr; clear hr))
              go_roundw
              case rel => exact ⟨t + 1, by first | rfl | go_num | (congr 1; omega), by omega, Lib.hid (by rw [HS2.out, ← List.append_assoc]; exact HR3.out)⟩
              case measure => simp [intOf] <;> omega
            · obtain rfl : t = 8 := by omega
              have HD := Lib.hid (digTo_succ [A, B, C, D] b i x HX.out)
              go_wp2_with fail
              go_roundw
              case rel => exact ⟨i + 1, by first | rfl | go_num, by omega, Lib.hid (by rw [HD.out, ← HM.out]; exact HR2.out)⟩
              case measure => simp [intOf] <;> omega
    · obtain rfl : i = 4 := by omega
      go_wp2_with fail
      go_ret
      exact ⟨_, rfl, HR.out⟩
theorem digTo_in (ws : List Int) (b : List Int) (i : Nat) : InBytes (digTo ws b i) := by
  intro x hx
  unfold digTo at hx
  obtain ⟨y, _, hy⟩ := List.mem_flatMap.1 hx
  unfold bytes8 at hy
  obtain ⟨j, _, rfl⟩ := List.mem_map.1 hy
  unfold byteAt
  omega
theorem row_u8L (W : World) (g o : Nat) (l : List Int) (hl : l.length ≤ 10000000) (h : ∀ k x, l[k]? = some x → W.cell? ⟨g, o + k, none⟩ = some (.int .u8 x)) :
    ReadsRow (fun (x : Int) (cs : List Value) => cs = [.int .u8 x]) 1 W (some ⟨g, o, none⟩) l.length l := by
  refine ⟨rfl, by omega, fun _ => ⟨_, rfl, fun j p hj => ⟨[.int .u8 p], rfl, rfl, fun i u hi => ?_⟩⟩⟩
  match i, hi with
  | 0, hi =>
    simp at hi
    subst hi
    have h1 := h j p hj
    have h2 : (⟨g, o, none⟩ : Addr).add (j * 1 + 0) = ⟨g, o + j, none⟩ := by
      simp [Addr.add]
    rw [h2]; exact h1
section
variable {ops : Array Oper} {rest : List Oper} {o : Oper} {a : Act} {Q : Exit → Act → World → Prop}
/-- append of a long row of bytes that can be read. -/
theorem app_rowL {w W : World} (hgd : o.guard = none) (s x : Operand)
    (ho : o.op = .call { callee := .builtin .append, args := #[s, x], argTypes := #[33, 33] })
    (v : Value) (xs ys : List Int) (g off m c : Nat) (hs : a.eval s = v) (hx : a.eval x = .slice (some ⟨g, off, none⟩) m c) (hm : ys.length = m)
    (HO : Row w v xs W) (HR : ∀ k x, ys[k]? = some x → W.cell? ⟨g, off + k, none⟩ = some (.int .u8 x)) (hl : xs.length ≤ 10000000) (hy : ys.length ≤ 10000000)
    (h : ∀ v1 w1, Row w v1 (xs ++ ys) w1 → wpList Tryd.prog ops Q rest (a.put o.dst v1) w1) :
    wpList Tryd.prog ops Q (o :: rest) a W := by
  refine Kd.R_append_rows (Kd.int .u8) (w0 := w) w.heap.size hgd s x 33 5 (.int .u8 0) 1 ho Tryd.underlying33 info5 rfl (by decide) (by decide) v xs ys (some ⟨g, off, none⟩) m c (fun _ => True) (fun _ => False) hs hx HO.1 (by rw [← hm]; exact row_u8L W g off ys hy HR) (fun x cs hc => hc) (fun _ hk => hk.elim) (fun _ _ => trivial) HO.2 HO.2.size (by omega) ?_
  intro v1 w1 h1 h2 _ _
  exact h v1 w1 ⟨h1, h2⟩
end
/-- The digest's cells. -/
def Dig (gd : Nat) (A B C D : Int) (w : World) : Prop := w.cell? ⟨gd, 0, none⟩ = some (.int .u64 A) ∧ w.cell? ⟨gd, 1, none⟩ = some (.int .u64 B) ∧ w.cell? ⟨gd, 2, none⟩ = some (.int .u64 C) ∧ w.cell? ⟨gd, 3, none⟩ = some (.int .u64 D)
theorem Dig.later {gd : Nat} {A B C D : Int} {w W : World} (h : Dig gd A B C D w) (hb : Below w.heap.size w W) : Dig gd A B C D W := ⟨cell_later hb h.1, cell_later hb h.2.1, cell_later hb h.2.2.1, cell_later hb h.2.2.2⟩
/-- Bytes that lie at a place. -/
def Lies (g o : Nat) (b : List Int) (w : World) : Prop := ∀ k x, b[k]? = some x → w.cell? ⟨g, o + k, none⟩ = some (.int .u8 x)
theorem Lies.later {g o : Nat} {b : List Int} {w W : World} (h : Lies g o b w) (hb : Below w.heap.size w W) : Lies g o b W := fun k x hk => cell_later hb (h k x hk)
end Go.Proofs.YtckjbgneblfceaaDoor.Da
