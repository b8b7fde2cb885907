/- The names and values of attributes, each by itself. -/
import Derived.Test.YtckjbgneblfceaaDoorFb
namespace Go.Proofs.YtckjbgneblfceaaDoor.Fc
open Go.RowKit Go.Maps Go.Proofs.YtckjbgneblfceaaDoorW.PrintWords Go.Proofs.YtckjbgneblfceaaDoorW.PrintLast Go.Proofs.YtckjbgneblfceaaDoorW.PrintMore Go.Proofs.YtckjbgneblfceaaDoor.PFnFitFirst Go.Proofs.YtckjbgneblfceaaDoor.Fa Go.Proofs.YtckjbgneblfceaaDoor.Fm Go.Proofs.YtckjbgneblfceaaDoor.Fb
set_option linter.unusedVariables false
set_option linter.unusedSimpArgs false
/-- Rows of bytes of which the lengths alone are told. -/
def kLen : Kd Nat where
  sz := 1
  E := []
  K := fun _ x cs => ∃ A c, cs = [.slice A x c]
  M := fun _ _ _ x cs => ∃ A c, cs = [.slice A x c]
  K_len := by rintro _ _ _ ⟨A, c, rfl⟩; rfl
  K_one := by rintro _ _ _ ⟨A, c, rfl⟩ u hu; simp at hu; subst hu; rfl
  K_below := fun _ h => h
  K_of_M := fun h => h
  M_mono := fun _ h => h
  M_bound := fun h => h
  M_move := fun _ h => h
  M_lower := fun _ h => h
theorem info33 : (Tryd.prog.info? 33).map (fun i => (i.zero, i.size, i.bytes)) = some (some (.slice none 0 0), 1, 24) := by kernel_rfl
theorem info9 : (Tryd.prog.info? 9).map (fun i => (i.zero, i.size, i.bytes)) = some (some (.string ⟨#[]⟩), 1, 16) := by kernel_rfl
theorem info5 : (Tryd.prog.info? 5).map (fun i => (i.zero, i.size, i.bytes)) = some (some (.int .u8 0), 1, 1) := by kernel_rfl
theorem info3 : (Tryd.prog.info? 3).map (fun i => (i.zero, i.size, i.bytes)) = some (some (.int .i64 0), 1, 8) := by kernel_rfl
section
variable {ops : Array Oper} {rest : List Oper} {o : Oper} {a : Act} {Q : Exit → Act → World → Prop}
theorem app_str1 {W wb : World} (base : Nat) (hgd : o.guard = none) (s x : Operand) (ho : o.op = .call { callee := .builtin .append, args := #[s, x], argTypes := #[64, 64] })
    (v : Value) (xs : List ByteArray) (p : ByteArray) (hs : a.eval s = v) {g : Nat} (hx : a.eval x = .slice (some ⟨g, 0, none⟩) 1 1) (hgs : W.heap.size = g)
    (HO : Kd.string.R 9 W base (fun _ => True) v xs) (HB : Below base wb W) (hbase : base ≤ W.heap.size) (hl : xs.length ≤ 1000)
    (h : ∀ A1 c1 w1, Kd.string.R 9 w1 base (fun _ => True) (.slice A1 (xs ++ [p]).length c1) (xs ++ [p]) → Below base wb w1 → W.grownBy w1 v.ownBlock → wpList Tryd.prog ops Q rest (a.put o.dst (.slice A1 (xs ++ [p]).length c1)) w1) :
    wpList Tryd.prog ops Q (o :: rest) a (W.alloc (.cells #[.string p] 9)) := by
  subst hgs
  refine Kd.R_append Kd.string (w0 := wb) base hgd s x 64 9 _ 16 ho Tryd.underlying64 info9 rfl (by decide) (by decide) v xs p [.string p] (fun _ => True) (fun _ => False) hs hx rfl (fun _ hk => hk.elim) (fun _ _ => trivial) HO HB hbase (by omega) ?_
  intro v1 w1 h1 hb h2 _
  obtain ⟨A1, c1, e1, _, _⟩ := Kd.R_reads h1
  subst e1
  exact h A1 c1 w1 h1 hb h2
theorem app_len1 {W wb : World} (base : Nat) (hgd : o.guard = none) (s x : Operand) (ho : o.op = .call { callee := .builtin .append, args := #[s, x], argTypes := #[42, 42] })
    (v : Value) (xs : List Nat) (A : Option Addr) (p c : Nat) (hs : a.eval s = v) {g : Nat} (hx : a.eval x = .slice (some ⟨g, 0, none⟩) 1 1) (hgs : W.heap.size = g)
    (HO : kLen.R 33 W base (fun _ => True) v xs) (HB : Below base wb W) (hbase : base ≤ W.heap.size) (hl : xs.length ≤ 1000)
    (h : ∀ A1 c1 w1, kLen.R 33 w1 base (fun _ => True) (.slice A1 (xs ++ [p]).length c1) (xs ++ [p]) → Below base wb w1 → W.grownBy w1 v.ownBlock → wpList Tryd.prog ops Q rest (a.put o.dst (.slice A1 (xs ++ [p]).length c1)) w1) :
    wpList Tryd.prog ops Q (o :: rest) a (W.alloc (.cells #[.slice A p c] 33)) := by
  subst hgs
  refine Kd.R_append kLen (w0 := wb) base hgd s x 42 33 _ 24 ho Tryd.underlying42 info33 rfl (by decide) (by decide) v xs p [.slice A p c] (fun _ => True) (fun _ => False) hs hx ⟨A, c, rfl⟩ (fun _ hk => hk.elim) (fun _ _ => trivial) HO HB hbase (by omega) ?_
  intro v1 w1 h1 hb h2 _
  obtain ⟨A1, c1, e1, _, _⟩ := Kd.R_reads h1
  subst e1
  exact h A1 c1 w1 h1 hb h2
theorem app_int1 {W wb : World} (base : Nat) (hgd : o.guard = none) (s x : Operand) (ho : o.op = .call { callee := .builtin .append, args := #[s, x], argTypes := #[67, 67] })
    (v : Value) (xs : List Int) (p : Int) (hs : a.eval s = v) {g : Nat} (hx : a.eval x = .slice (some ⟨g, 0, none⟩) 1 1) (hgs : W.heap.size = g)
    (HO : (Kd.int .i64).R 3 W base (fun _ => True) v xs) (HB : Below base wb W) (hbase : base ≤ W.heap.size) (hl : xs.length ≤ 1000)
    (h : ∀ A1 c1 w1, (Kd.int .i64).R 3 w1 base (fun _ => True) (.slice A1 (xs ++ [p]).length c1) (xs ++ [p]) → Below base wb w1 → W.grownBy w1 v.ownBlock → NewOr W v (.slice A1 (xs ++ [p]).length c1) → wpList Tryd.prog ops Q rest (a.put o.dst (.slice A1 (xs ++ [p]).length c1)) w1) :
    wpList Tryd.prog ops Q (o :: rest) a (W.alloc (.cells #[.int .i64 p] 3)) := by
  subst hgs
  refine Kd.R_append (Kd.int .i64) (w0 := wb) base hgd s x 67 3 _ 8 ho Tryd.underlying67 info3 rfl (by decide) (by decide) v xs p [.int .i64 p] (fun _ => True) (fun _ => False) hs hx rfl (fun _ hk => hk.elim) (fun _ _ => trivial) HO HB hbase (by omega) ?_
  intro v1 w1 h1 hb h2 h3
  obtain ⟨A1, c1, e1, _, _⟩ := Kd.R_reads h1
  subst e1
  exact h A1 c1 w1 h1 hb h2 h3
theorem copy_bytes {W wb : World} (base : Nat) (hgd : o.guard = none) (s x : Operand) (ho : o.op = .call { callee := .builtin .append, args := #[s, x], argTypes := #[33, 33] })
    (ys : List Int) (A : Option Addr) (m c : Nat) (hs : a.eval s = .slice none 0 0) (hx : a.eval x = .slice A m c) (HR : (Kd.int .u8).C W A m ys) (HB : Below base wb W) (hbase : base ≤ W.heap.size) (hl : m ≤ 2147483647)
    (h : ∀ A1 c1 w1, (Kd.int .u8).R 5 w1 base (fun _ => True) (.slice A1 m c1) ys → Below base wb w1 → W.grownBy w1 none → wpList Tryd.prog ops Q rest (a.put o.dst (.slice A1 m c1)) w1) :
    wpList Tryd.prog ops Q (o :: rest) a W := by
  refine Kd.R_append_rows (Kd.int .u8) (w0 := wb) base hgd s x 33 5 (.int .u8 0) 1 ho Tryd.underlying33 info5 rfl (by decide) (by decide) (.slice none 0 0) [] ys A m c (fun _ => True) (fun _ => False) hs hx (Kd.R_nil _ _ _ _ _) HR (fun x cs hc => hc) (fun _ hk => hk.elim) (fun _ _ => trivial) HB hbase (by simp; omega) ?_
  intro v1 w1 h1 hb h2 _
  rw [List.nil_append] at h1
  obtain ⟨A1, c1, e1, _, _⟩ := Kd.R_reads h1
  rw [HR.1] at e1
  subst e1
  exact h A1 c1 w1 h1 hb h2
end
theorem take_succ {α β : Type} (f : α → β) (l : List α) (i : Nat) (z : α) (h : i < l.length) : (l.map f).take (i + 1) = (l.map f).take i ++ [f (l.getD i z)] := by
  rw [List.take_add_one]
  congr 1
  rw [List.getD_eq_getElem?_getD, List.getElem?_map, List.getElem?_eq_getElem h]
  rfl
set_option maxHeartbeats 4000000 in
set_option maxRecDepth 100000 in
theorem split_calls (W : World) (l : List S58) (A : Option Addr) (c : Nat) (hC : k58.C W A l.length l) (hl : l.length ≤ 1000) (hv : ∀ i : Nat, i < l.length → (rd_T58 l i).f1.length ≤ 2147483647) :
    Calls Tryd.prog 28 #[.slice A l.length c] W fun e w' => ∃ A1 c1 A2 c2, e = .returned (.tuple #[.slice A1 l.length c1, .slice A2 l.length c2]) ∧ Kd.string.C w' A1 l.length (l.map (fun x => x.f0)) ∧ kLen.C w' A2 l.length (l.map (fun x => x.f1.length)) ∧ Below W.heap.size W w' := by
  have HC := Lib.hid hC
  have HV := Lib.hid hv
  obtain ⟨n, hn⟩ : ∃ n, n = l.length := ⟨_, rfl⟩
  rw [← hn] at hl HC ⊢
  have HN := Lib.hid hn
  clear hC hv hn
  go_enter Tryd.func28, Tryd.ntmps28
  go_wp2_with fail
  go_loopw [10, 4, 5] (fun v10 v4 v5 wr => ∃ i : Nat, v10 = .int .i64 i ∧ i ≤ n ∧ Hid (Kd.string.R 9 wr W.heap.size (fun _ => True) v4 ((l.map (fun x => x.f0)).take i)) ∧ Hid (kLen.R 33 wr W.heap.size (fun _ => True) v5 ((l.map (fun x => x.f1.length)).take i)) ∧ Hid (Below W.heap.size W wr)) (fun v10 _ _ _ => n - (intOf v10).toNat)
  case atStart => exact ⟨0, rfl, Nat.zero_le _, Lib.hid (Kd.R_nil _ _ _ _ _), Lib.hid (Kd.R_nil _ _ _ _ _), Lib.hid (Below.refl _ _)⟩
  case round =>
    obtain ⟨i, rfl, hi, R1, R2, BI⟩ := hrel
    by_cases hlt : i < n
    · have hlt' : (i : Int) < (n : Int) := by omega
      have T1 := Lib.hid (take_succ (fun x : S58 => x.f0) l i z58 (by rw [← HN.out]; exact hlt))
      have T2 := Lib.hid (take_succ (fun x : S58 => x.f1.length) l i z58 (by rw [← HN.out]; exact hlt))
      obtain ⟨ad, B1, d1, eA, k0, k1, m1, g1⟩ := at_T58 HC.out (i : Int) (by omega) hlt'
      have k0 := cellb0 k0 BI.out
      have k1 := cellb0 k1 BI.out
      have hv1 := HV.out i (by rw [← HN.out]; exact hlt)
      obtain ⟨x, hx⟩ : ∃ x, x = rd_T58 l (i : Int) := ⟨_, rfl⟩
      have hx2 : l.getD i z58 = x := by rw [hx]; unfold rd_T58; rw [Int.toNat_natCast]
      rw [hx2] at T1 T2
      rw [← hx] at k0 k1 m1 g1 hv1
      rw [Int.toNat_natCast] at k0 k1
      subst eA
      have G1 := Lib.hid g1
      have hsz := BI.out.size
      have hle1 : ((l.map (fun x => x.f0)).take i).length ≤ i := List.length_take_le _ _
      have hle2 : ((l.map (fun x => x.f1.length)).take i).length ≤ i := List.length_take_le _ _
      clear hx hx2 g1
      have BA := Lib.hid (below_then BI.out hsz (below_alloc (Below.refl _ _) (.cells #[.string x.f0, .slice B1 x.f1.length d1] 58)))
      have NB := Lib.hid (blk_new wr (.cells #[.string x.f0, .slice B1 x.f1.length d1] 58))
      have R1a := Lib.hid (Kd.R_below R1.out (below_alloc (Below.refl _ _) (.cells #[.string x.f0, .slice B1 x.f1.length d1] 58)))
      have R2a := Lib.hid (Kd.R_below R2.out (below_alloc (Below.refl _ _) (.cells #[.string x.f0, .slice B1 x.f1.length d1] 58)))
      have NE := Lib.hid (own_ne R1.out R2.out (by decide))
      have SA : W.heap.size ≤ (wr.alloc (.cells #[.string x.f0, .slice B1 x.f1.length d1] 58)).heap.size := by simp; omega
      go_upto_region 7 with (first
        | ((with_reducible refine gate_builtin (b := .append) (xs := #[.tmp 14, .tmp 17]) rfl ?_); at_builtin; refine app_str1 (W := wr.alloc (.cells #[.string x.f0, .slice B1 x.f1.length d1] 58)) (wb := W) W.heap.size rfl (.tmp 14) (.tmp 17) rfl u4 _ x.f0 rfl rfl (by simp) R1a.out BA.out SA (by omega) ?_; intro A3 c3 w3 hr hb hg; have R3 := Lib.hid hr; have B3 := Lib.hid hb; have HG3 := Lib.hid hg; clear hr hb hg))
      have cx1 := blk_cell (blk_grown NB.out HG3.out (Kd.R_ne R1a.out NB.out (by decide))) 1
      simp at cx1
      have R2b := Lib.hid (Kd.R_grown2 R2a.out rfl HG3.out (fun k hk e => NE.out k hk e.symm))
      have S3 := B3.out.size
      clear k0 k1
      go_upto_region 8 with (first
        | ((with_reducible refine gate_builtin (b := .append) (xs := #[.const (.slice none 0 0), .tmp 21]) rfl ?_); at_builtin; refine copy_bytes (wb := w3) w3.heap.size rfl (.const (.slice none 0 0)) (.tmp 21) rfl x.f1 B1 x.f1.length d1 rfl rfl (Kd.C_below G1.out B3.out) (Below.refl _ _) (Nat.le_refl _) hv1 ?_; intro A4 c4 w4 hr hb hg; have B4 := Lib.hid (below_then B3.out B3.out.size hb); have R2c := Lib.hid (Kd.R_below R2b.out hb); have R3c := Lib.hid (Kd.R_below R3.out hb); clear hr hb hg)
        | ((with_reducible refine gate_builtin (b := .append) (xs := #[.tmp 19, .tmp 23]) rfl ?_); at_builtin; refine app_len1 (W := w4) (wb := W) W.heap.size rfl (.tmp 19) (.tmp 23) rfl u5 _ A4 x.f1.length c4 rfl rfl (by simp) R2c.out B4.out B4.out.size (by omega) ?_; intro A5 c5 w5 hr hb hg; have R5 := Lib.hid hr; have B5 := Lib.hid hb; have R3d := Lib.hid (Kd.R_grown2 R3c.out rfl hg (fun k hk e => own_ne R2c.out R3c.out (by decide) k hk e.symm)); clear hr hb hg))
      go_wp2_with fail
      go_roundw
      case rel => exact ⟨i + 1, by push_cast; rfl, hlt, Lib.hid (by rw [T1.out]; have h := R3d.out; simp only [List.length_append, List.length_take, List.length_map, List.length_singleton] at h; exact h), Lib.hid (by rw [T2.out]; have h := R5.out; simp only [List.length_append, List.length_take, List.length_map, List.length_singleton] at h; exact h), B5⟩
      case measure => simp only [intOf]; omega
    · obtain rfl : i = n := by omega
      have e1 : (l.map (fun x => x.f0)).take i = l.map (fun x => x.f0) := List.take_of_length_le (by rw [List.length_map, ← HN.out]; exact Nat.le_refl _)
      have e2 : (l.map (fun x => x.f1.length)).take i = l.map (fun x => x.f1.length) := List.take_of_length_le (by rw [List.length_map, ← HN.out]; exact Nat.le_refl _)
      have r1 := R1.out
      have r2 := R2.out
      rw [e1] at r1
      rw [e2] at r2
      obtain ⟨A7, c7, h7, _, g7⟩ := Kd.R_reads r1
      obtain ⟨A8, c8, h8, _, g8⟩ := Kd.R_reads r2
      rw [List.length_map, ← HN.out] at h7 g7 h8 g8
      subst h7 h8
      have G7 := Lib.hid g7
      have G8 := Lib.hid g8
      clear r1 r2 g7 g8 R1 R2 e1 e2
      go_wp2_with fail
      go_ret2
      exact ⟨A7, c7, A8, c8, rfl, G7.out, G8.out, BI.out⟩
end Go.Proofs.YtckjbgneblfceaaDoor.Fc
