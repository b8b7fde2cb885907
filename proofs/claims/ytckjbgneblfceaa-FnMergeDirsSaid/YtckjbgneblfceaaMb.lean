/- Infos of files made of entries, and what is told of them. -/
import Derived.Test.YtckjbgneblfceaaMa
import Derived.Deep.RegionHeld3
namespace Go.Proofs.Ytckjbgneblfceaa.Ma
open Go.RowKit Go.Proofs.YtckjbgneblfceaaW.PrintWords Go.Proofs.YtckjbgneblfceaaW.PrintLast Go.Proofs.YtckjbgneblfceaaW.PrintMore
open Go.Proofs.Ytckjbgneblfceaa.PFnMergeDirs
set_option linter.unusedVariables false
set_option linter.unusedSimpArgs false
/-- A row of pointers to heads of blocks. -/
def encP (p : Nat) : Value := .pointer (some ⟨p, 0, none⟩)
def kp : Kd Nat := Kd.scalar encP (fun _ => rfl)
theorem Fi.grown {p : Nat} {x : S30} {W w1 : World} {v : Value} {ps : List Nat} {base : Nat} {ok : Nat → Prop} (h : Fi p x W) (hR : kp.R 46 W base ok v ps) (hg : W.grownBy w1 v.ownBlock) : Fi p x w1 := by
  obtain ⟨q, A, c, h1, h2⟩ := h.out
  refine ⟨q, A, c, ?_, ?_⟩
  · rw [hg.block _ (blk_ltM h1) (Kd.R_ne hR h1 (by decide))]; exact h1
  · rw [hg.block _ (blk_ltM h2) (Kd.R_ne hR h2 (by decide))]; exact h2
/-- The infos of entries. -/
structure Fis (ps : List Nat) (l : List S30) (w : World) : Prop where
  len : ps.length = l.length
  ent : ∀ (j p : Nat) (x : S30), ps[j]? = some p → l[j]? = some x → Fi p x w
theorem Fis.later {ps : List Nat} {l : List S30} {w W : World} (h : Fis ps l w) (hb : Below w.heap.size w W) : Fis ps l W := ⟨h.len, fun j p x hp hx => (h.ent j p x hp hx).later hb⟩
theorem Fis.grown {ps qs : List Nat} {l : List S30} {W w1 : World} {v : Value} {base : Nat} {ok : Nat → Prop} (h : Fis ps l W) (hR : kp.R 46 W base ok v qs) (hg : W.grownBy w1 v.ownBlock) : Fis ps l w1 := ⟨h.len, fun j p x hp hx => (h.ent j p x hp hx).grown hR hg⟩
theorem Fis.snoc {ps : List Nat} {l : List S30} {i : Nat} {w : World} {p : Nat} {x : S30} (h : Fis ps (l.take i) w) (hx : l[i]? = some x) (hp : Fi p x w) : Fis (ps ++ [p]) (l.take (i + 1)) w := by
  have hi : i < l.length := (List.getElem?_eq_some_iff.1 hx).1
  have hl : ps.length = i := by rw [h.len, List.length_take]; omega
  refine ⟨by rw [List.length_append, hl, List.length_take, List.length_singleton]; omega, fun j p' x' hj hx' => ?_⟩
  by_cases hji : j < i
  · rw [List.getElem?_append_left (by omega)] at hj
    rw [List.getElem?_take, if_pos (by omega)] at hx'
    exact h.ent j p' x' hj (by rw [List.getElem?_take, if_pos hji]; exact hx')
  · have hj1 := (List.getElem?_eq_some_iff.1 hj).1
    rw [List.length_append, List.length_singleton] at hj1
    obtain rfl : j = i := by omega
    rw [List.getElem?_append_right (by omega), hl, Nat.sub_self] at hj
    obtain rfl := Option.some.inj hj
    rw [List.getElem?_take, if_pos (by omega), hx] at hx'
    obtain rfl := Option.some.inj hx'
    exact hp
section
variable {ops : Array Oper} {o : Oper} {a : Act} {Kc : Act → World → Prop} {Q : Exit → Act → World → Prop}
theorem info5 : (Try.prog.info? 5).map (fun i => (i.zero, i.size, i.bytes)) = some (some (.int .u8 0), 1, 1) := by kernel_rfl
theorem info46 : (Try.prog.info? 46).map (fun i => (i.zero, i.size, i.bytes)) = some (some (.pointer none), 1, 8) := by kernel_rfl
theorem info35 : (Try.prog.info? 35).map (fun i => (i.zero, i.size, i.bytes)) = some (some (.agg #[.string ⟨#[]⟩, .int .i64 0, .int .i64 0, .bool false, .int .i64 0]), 5, 48) := by kernel_rfl
/-- A copy of bytes, in a drawn region. -/
theorem app_byte_step {W : World} (hw : Region.wanted o (yielded ops a.tmps) = true) (s x : Operand) (ho : o.op = .call { callee := .builtin .append, args := #[s, x], argTypes := #[28, 28] })
    (ys : List Int) (A : Option Addr) (m c : Nat) (hs : a.eval s = .slice none 0 0) (hx : a.eval x = .slice A m c) (HR : (Kd.int .u8).C W A m ys) (hl : m ≤ 9223372036854775807) (hm : m ≤ 4294967296)
    (h : ∀ A1 c1 w1, Below W.heap.size W w1 → Kc (a.put o.dst (.slice A1 m c1)) w1) :
    if Region.wanted o (yielded ops a.tmps) = true then Oper.wp Try.prog o a W Kc Q else Kc (a.put o.dst undef) W := by
  refine Kd.R_append_rows_step (Kd.int .u8) (w0 := W) W.heap.size hw s x 28 5 (.int .u8 0) 1 ho Try.underlying28 info5 rfl (by decide) (by decide) (.slice none 0 0) [] ys A m c (fun _ => True) (fun _ => False) hs hx (Kd.R_nil _ _ _ _ _) HR (fun x cs hc => hc) (fun _ hk => hk.elim) (fun _ _ => trivial) (Below.refl _ _) (Nat.le_refl _) (by simp; omega) ?_
  intro v1 w1 h1 h2 _ _
  rw [List.nil_append] at h1
  obtain ⟨A1, c1, rfl, _, _⟩ := Kd.R_reads h1
  rw [show ys.length = m from Kd.C_len HR]
  exact h A1 c1 w1 h2
/-- A pointer behind a row of pointers, in a drawn region. -/
theorem app_ptr_step {w0 W : World} (base : Nat) (hw : Region.wanted o (yielded ops a.tmps) = true) (s x : Operand) (ho : o.op = .call { callee := .builtin .append, args := #[s, x], argTypes := #[36, 36] })
    (v : Value) (ps : List Nat) (p : Nat) (hs : a.eval s = v) (hx : a.eval x = .slice (some ⟨W.heap.size, 0, none⟩) 1 1) (HR : kp.R 46 W base (fun _ => True) v ps) (HB : Below base w0 W) (hbase : base ≤ W.heap.size) (hl : ps.length ≤ 100000)
    (h : ∀ v1 w1, kp.R 46 w1 base (fun _ => True) v1 (ps ++ [p]) → Below base w0 w1 → W.grownBy w1 v.ownBlock → Kc (a.put o.dst v1) w1) :
    if Region.wanted o (yielded ops a.tmps) = true then Oper.wp Try.prog o a (W.alloc (.cells #[encP p] 46)) Kc Q else Kc (a.put o.dst undef) (W.alloc (.cells #[encP p] 46)) := by
  refine Kd.R_append_step kp (w0 := w0) (W := W) base hw s x 36 46 (.pointer none) 8 ho Try.underlying36 info46 rfl (by decide) (by decide) v ps p [encP p] (fun _ => True) (fun _ => False) hs hx rfl (fun _ hk => hk.elim) (fun _ _ => trivial) HR HB hbase (by omega) ?_
  intro v1 w1 h1 h2 h3 _
  exact h v1 w1 h1 h2 h3
end
theorem C_cells {W : World} {g : Nat} {cs : Array Value} {t : TypeId} (h : W.heap[g]? = some (.cells cs t (0, 0))) (v0 v1 v2 v3 v4 : Value) (hc : cs = #[v0, v1, v2, v3, v4]) :
    W.cell? ⟨g, 0, none⟩ = some v0 ∧ W.cell? ⟨g, 1, none⟩ = some v1 ∧ W.cell? ⟨g, 2, none⟩ = some v2 ∧ W.cell? ⟨g, 3, none⟩ = some v3 ∧ W.cell? ⟨g, 4, none⟩ = some v4 := by
  subst hc
  exact ⟨(cell_blkM h 0 _ rfl).1, (cell_blkM h 1 _ rfl).1, (cell_blkM h 2 _ rfl).1, (cell_blkM h 3 _ rfl).1, (cell_blkM h 4 _ rfl).1⟩
theorem cellb0 {w wr : World} {ad : Addr} {v : Value} (h : w.cell? ad = some v) (hb : Below w.heap.size w wr) : wr.cell? ad = some v := (hb.cell (World.block_lt_of_cell? w _ h)).trans h
theorem intOf_i (i : Nat) : intOf (.int .i64 (i : Int)) = (i : Int) := rfl
set_option maxHeartbeats 8000000 in
set_option maxRecDepth 100000 in
theorem infos13 (A : Option Addr) (n c : Nat) (l : List S30) (w : World) (hC : Kd.C k30 w A n l) (hnc : n ≤ c) (hn : n ≤ 1000) (hmd : ∀ x ∈ l, 0 ≤ x.f1 ∧ x.f1 < 4294967296) (hlen : ∀ x ∈ l, x.f3.length ≤ 4294967296) :
    Calls Try.prog 13 #[.slice A n c] w fun e w' => ∃ v ps, e = .returned v ∧ kp.R 46 w' w.heap.size (fun _ => True) v ps ∧ Fis ps l w' ∧ Below w.heap.size w w' := by
  have HC := Lib.hid hC
  have HL := Lib.hid (show l.length = n from Kd.C_len hC)
  have HM := Lib.hid hmd
  have HN := Lib.hid hlen
  clear hC hmd hlen
  go_enter Try.func13, Try.ntmps13
  go_wp2
  go_loopw [3, 8] (fun v3 v8 wr => ∃ (i : Nat) (ps : List Nat), v8 = .int .i64 i ∧ i ≤ n ∧ Hid (kp.R 46 wr w.heap.size (fun _ => True) v3 ps) ∧ Hid (Fis ps (l.take i) wr) ∧ Hid (Below w.heap.size w wr)) (fun _ v8 _ => n - (intOf v8).toNat)
  case atStart => exact ⟨0, [], rfl, Nat.zero_le _, Lib.hid (Kd.R_nil _ _ _ _ _), Lib.hid ⟨by simp, fun j p x hj => by simp at hj⟩, Lib.hid (Below.refl _ _)⟩
  case round =>
    obtain ⟨i, ps, rfl, hin, R1, F1, B1⟩ := hrel
    by_cases hlt : i < n
    · have hlt' : (i : Int) < (n : Int) := by omega
      have j1 : decide ((i : Int) < (n : Int)) = true := decide_eq_true hlt'
      have j2 : (0 ≤ (i : Int)) = True := eq_true (by omega)
      have j3 : ((i : Int) < (n : Int)) = True := eq_true hlt'
      have j4 : IntKind.i64.wrap ((i : Int) + 1) = (i : Int) + 1 := IntWalk.i64_in _ (by omega)
      obtain ⟨ad, A3, c3, eA, k0, k1, k2, k3, k4, m3, g3⟩ := at_T30 HC.out (i : Int) (by omega) hlt'
      have k0 := cellb0 k0 B1.out
      have k1 := cellb0 k1 B1.out
      have k2 := cellb0 k2 B1.out
      have k3 := cellb0 k3 B1.out
      have k4 := cellb0 k4 B1.out
      obtain ⟨x, hx⟩ : ∃ x, x = rd_T30 l (i : Int) := ⟨_, rfl⟩
      have hxl : l[i]? = some x := by
        rw [hx]; unfold rd_T30
        rw [Int.toNat_natCast, List.getD_eq_getElem?_getD, List.getElem?_eq_getElem (by rw [HL.out]; exact hlt)]; rfl
      rw [← hx] at k0 k1 k2 k3 k4 m3 g3
      have HX := Lib.hid hxl
      have hmx := HM.out x (List.mem_of_getElem? hxl)
      have hlx := HN.out x (List.mem_of_getElem? hxl)
      have j5 : IntKind.u32.wrap x.f1 = x.f1 := by rw [IntKind.wrap_u32]; omega
      rw [Int.toNat_natCast] at k0 k1 k2 k3 k4
      subst eA
      clear hx hxl
      have hpl : ps.length ≤ 100000 := by rw [F1.out.len, List.length_take]; omega
      have N5 := Lib.hid (blk_newM wr #[.string x.f0, .int .i64 x.f1, .bool x.f2, .slice A3 x.f3.length c3, .int .i64 x.f4] 30)
      have B5 := Lib.hid (below_alloc (Below.refl wr.heap.size wr) (.cells #[.string x.f0, .int .i64 x.f1, .bool x.f2, .slice A3 x.f3.length c3, .int .i64 x.f4] 30))
      have C5 := Lib.hid (Kd.C_below g3 (below_then B1.out B1.out.size B5.out))
      clear g3
      go_wp2
      go_region_held3 (fun w' => w'.cell? ⟨wr.heap.size, 0, none⟩ = some (.string x.f0) ∧ w'.cell? ⟨wr.heap.size, 1, none⟩ = some (.int .i64 x.f1) ∧ w'.cell? ⟨wr.heap.size, 2, none⟩ = some (.bool x.f2) ∧ w'.cell? ⟨wr.heap.size, 3, none⟩ = some (.slice A3 x.f3.length c3) ∧ w'.cell? ⟨wr.heap.size, 4, none⟩ = some (.int .i64 x.f4)) (go_keep) (first | (refine app_byte_step (by rfl) _ _ rfl x.f3 A3 x.f3.length c3 rfl rfl (Kd.C_drew C5.out) (by omega) hlx ?_; intro A6 c6 w6 hb6; have B6 := Lib.hid (below_then (below_drew B5.out) (by simp) hb6); have N6 := Lib.hid (show w6.heap[wr.heap.size]? = _ from (hb6.block _ (by simp)).trans N5.out); clear hb6; obtain ⟨p60, p61, p62, p63, p64⟩ := C_cells N6.out _ _ _ _ _ rfl) | (go_at_call 18; (with_reducible refine (info18 x A6 c6 _).mono ?_); rintro e w7 ⟨p, rfl, hp, hlo, hb7⟩; have P7 := Lib.hid hp; have B7 := Lib.hid (below_then B6.out B6.out.size hb7); have N7 := Lib.hid (show w7.heap[wr.heap.size]? = _ from (hb7.block _ (blk_ltM N6.out)).trans N6.out); have R7 := Lib.hid (Kd.R_below R1.out B7.out); have F7 := Lib.hid (F1.out.later B7.out); have BW7 := Lib.hid (below_then B1.out B1.out.size B7.out); clear hp hb7; obtain ⟨p70, p71, p72, p73, p74⟩ := C_cells N7.out _ _ _ _ _ rfl) | (refine app_ptr_step (w0 := w) (W := w7) w.heap.size (by rfl) _ _ rfl u3 ps p rfl rfl R7.out BW7.out BW7.out.size hpl ?_; intro v8 w8 hr hb hg; have R8 := Lib.hid hr; have F8 := Lib.hid ((F7.out.snoc HX.out P7.out).grown R7.out hg); have B8 := Lib.hid hb; have N8 := Lib.hid (show w8.heap[wr.heap.size]? = _ from (hg.block _ (blk_ltM N7.out) (Kd.R_ne R7.out N7.out (by decide))).trans N7.out); clear hr hb hg; obtain ⟨p80, p81, p82, p83, p84⟩ := C_cells N8.out _ _ _ _ _ rfl))
      go_wp2
      go_roundw
      case rel => exact ⟨i + 1, ps ++ [p], by push_cast; rfl, hlt, R8, F8, B8⟩
      case measure => simp only [intOf]; omega
    · obtain rfl : i = n := by omega
      have j1 : decide ((i : Int) < (i : Int)) = false := decide_eq_false (by omega)
      go_wp2
      go_returns
      have e1 : l.take i = l := List.take_of_length_le (by rw [HL.out]; exact Nat.le_refl _)
      exact ⟨_, ps, rfl, R1.out, by have := F1.out; rw [e1] at this; exact this, B1.out⟩
end Go.Proofs.Ytckjbgneblfceaa.Ma
