/- Rows of bytes: append as a step, in place, too. -/
import Derived.Test.YtljcdjggjphedaaDoorHt
import Derived.Deep.RegionLaw
import Derived.IntWalk
namespace Go.Proofs.YtljcdjggjphedaaDoor.Hd
open Go.RowKit Go.Proofs.YtljcdjggjphedaaDoorW.PrintWords Go.Proofs.YtljcdjggjphedaaDoorW.PrintLast Go.Proofs.YtljcdjggjphedaaDoorW.PrintMore
set_option linter.unusedVariables false
set_option linter.unusedSimpArgs false
section
variable {ops : Array Oper} {o : Oper} {a : Act} {Q : Exit → Act → World → Prop} {Kc : Act → World → Prop}
theorem app_bytes_step {W : World} (base : Nat) (hw : Region.wanted o (yielded ops a.tmps) = true) (s x : Operand) (ho : o.op = .call { callee := .builtin .append, args := #[s, x], argTypes := #[22, 22] })
    (v : Value) (xs ys : List Int) (A : Option Addr) (m c : Nat) (hs : a.eval s = v) (hx : a.eval x = .slice A m c) (HO : Kd.R (Kd.int .u8) 5 W base (fun _ => True) v xs) (HR : Kd.C (Kd.int .u8) W A m ys) (hbase : base ≤ W.heap.size) (hl : xs.length + m ≤ 140737488355328)
    (h : ∀ A1 nl c1 w1, Kd.R (Kd.int .u8) 5 w1 base (fun _ => True) (.slice A1 nl c1) (xs ++ ys) → W.grownBy w1 v.ownBlock → ((Value.slice A1 nl c1).ownBlock = v.ownBlock ∨ ∃ b, (Value.slice A1 nl c1).ownBlock = some b ∧ W.heap.size ≤ b) → Kc (a.put o.dst (.slice A1 nl c1)) w1) :
    if Region.wanted o (yielded ops a.tmps) = true then Oper.wp Tryd.prog o a W Kc Q else Kc (a.put o.dst undef) W := by
  refine Kd.R_append_rows_step (Kd.int .u8) (w0 := W) base hw s x 22 5 (.int .u8 0) 1 ho Tryd.underlying22 PFnHandleScript.info5 rfl (by decide) (by decide) v xs ys A m c (fun _ => True) (fun _ => False) hs hx HO HR (fun x cs hc => hc) (fun _ hk => hk.elim) (fun _ _ => trivial) (Below.refl _ _) hbase (by omega) ?_
  intro v1 w1 h1 _ h2 h3
  obtain ⟨A1, c1, e1, _, _⟩ := Kd.R_reads h1
  subst e1
  exact h _ _ _ _ h1 h2 h3
theorem make_bytes_step {W : World} (hw : Region.wanted o (yielded ops a.tmps) = true) {N : Tmp} (hd : o.dst = some N) (x y : Operand) (ho : o.op = .makeSlice 22 x y) (n : Nat) (hx : a.eval x = .int .i64 n) (hy : a.eval y = .int .i64 n) (hn : n ≤ 100000000)
    (h : ∀ A1 c1 w1, Kd.R (Kd.int .u8) 5 w1 W.heap.size (fun _ => True) (.slice A1 n c1) (List.replicate n 0) → Below W.heap.size W w1 → Kc (a.put o.dst (.slice A1 n c1)) w1) :
    if Region.wanted o (yielded ops a.tmps) = true then Oper.wp Tryd.prog o a W Kc Q else Kc (a.put o.dst undef) W := by
  refine Kd.R_make_step (Kd.int .u8) (w0 := W) W.heap.size 5 hw hd 22 x y ho n hx hy Tryd.underlying22 (.int .u8 0) 1 PFnHandleScript.info5 rfl (by decide) (by decide) (0 : Int) (ok := fun _ => True) (okp := fun _ => False) rfl (fun _ hk => hk.elim) trivial (by omega) (by simp; omega) (Below.refl _ _) (Nat.le_refl _) ?_
  intro v1 w1 h1 h2 _ _
  rw [Int.toNat_natCast] at h1
  obtain ⟨A1, c1, e1, _, _⟩ := Kd.R_reads h1
  rw [List.length_replicate] at e1
  subst e1
  exact h _ _ _ h1 h2
/-- append in place, into a row that is longer already: the row's other bytes stay. -/
theorem inplace_step {W : World} {base g len c p m cb : Nat} {Ab : Option Addr} {xs b : List Int} (hw : Region.wanted o (yielded ops a.tmps) = true) (hgd : o.guard = none) (s x : Operand) (ho : o.op = .call { callee := .builtin .append, args := #[s, x], argTypes := #[22, 22] })
    (HO : Kd.R (Kd.int .u8) 5 W base (fun _ => True) (.slice (some ⟨g, 0, none⟩) len c) xs) (HR : Kd.C (Kd.int .u8) W Ab m b) (hp : p + m ≤ xs.length) (hs : a.eval s = .slice (some ⟨g, 0, none⟩) p c) (hx : a.eval x = .slice Ab m cb)
    (h : ∀ w1, Kd.R (Kd.int .u8) 5 w1 base (fun _ => True) (.slice (some ⟨g, 0, none⟩) len c) (xs.take p ++ b ++ xs.drop (p + m)) → W.grownBy w1 (some g) → Kc (a.put o.dst (.slice (some ⟨g, 0, none⟩) (p + m) c)) w1) :
    if Region.wanted o (yielded ops a.tmps) = true then Oper.wp Tryd.prog o a W Kc Q else Kc (a.put o.dst undef) W := by
  obtain ⟨i0, hi, hzz⟩ := Option.map_eq_some_iff.1 PFnHandleScript.info5
  simp only [Prod.mk.injEq] at hzz
  obtain ⟨hz0, hz1, hz2⟩ := hzz
  have hlen := Kd.R_reads' HO
  have hbl : b.length = m := HR.1
  have hR := Kd.reads_of_C (enc := Value.int .u8) (d := (0 : Int)) (h1 := enc1 .u8) HR
  have hcell : ∀ j, j < xs.length → (W.cell? ⟨g, j, none⟩).isSome = true ∧ W.frozen? ⟨g, j, none⟩ = false := by
    intro j hj
    have := Kd.R_celln (h1 := enc1 .u8) (0 : Int) HO (j : Int) (by omega) (by omega)
    rw [Int.toNat_natCast] at this
    exact ⟨by rw [this.1]; rfl, this.2⟩
  rcases Nat.eq_zero_or_pos m with h0 | hm
  · subst h0
    obtain rfl : b = [] := List.eq_nil_of_length_eq_zero hbl
    have hk := h W (by simpa using HO) (World.grownBy.refl W _)
    have hrun : (Builtin.append_ #[22, 22] o.type #[.slice (some ⟨g, 0, none⟩) p c, .slice Ab 0 cb]).run Tryd.prog W = .ok (.slice (some ⟨g, 0, none⟩) (p + 0) c) W := by
      cases Ab with
      | none => simp [Builtin.append_, run_underlying Tryd.underlying22, sizeOf, typeInfo, hi, Builtin.lenOf, Builtin.firstCells, show p ≤ c by omega, storeCells]
      | some ad =>
        have := run_append_room_cells (P := Tryd.prog) W 22 o.type 5 i0 Tryd.underlying22 hi g 0 p c ad 0 cb [] (by simp) (by simp) (by simp) (by omega) (by simp) (by simp)
        simpa [World.setCells] using this
    refine event_step hw ?_ hk
    unfold execOp
    simp only [ho, resolve, invoke, builtin, Sem.run_bind, Sem.run_pure, Result.andThen_ok, List.map_toArray, List.map_cons, List.map_nil, hs, hx, hrun]
  · obtain ⟨ad, hA, hc⟩ := hR.2.2 hm
    have hlaid := row_laid HO p b (by omega)
    have hsrc : ∀ j u, (encs (Value.int .u8) b)[j]? = some u → W.cell? (ad.add j) = some u := by
      intro j u hu
      have hj : j < b.length := by
        rcases Nat.lt_or_ge j b.length with h | h
        · exact h
        · rw [List.getElem?_eq_none (by rw [encs_length]; exact h)] at hu
          cases hu
      rw [encs_get (d := (0 : Int)) _ j hj] at hu
      rw [hc j (by omega), ← hu]
    have hrun := run_append_room_cells (P := Tryd.prog) W 22 o.type 5 i0 Tryd.underlying22 hi g 0 p c ad m cb (encs (Value.int .u8) b) (by rw [encs_length, hbl, hz1, Nat.mul_one]) hsrc (by intro u hu; simp only [encs, List.mem_map] at hu; obtain ⟨q, _, rfl⟩ := hu; rfl) (by omega)
      (fun j hj => by rw [encs_length] at hj; rw [hz1, show 0 + p * 1 + j = p + j by omega]; exact (hcell (p + j) (by omega)).1)
      (fun j hj => by rw [encs_length] at hj; rw [hz1, show 0 + p * 1 + j = p + j by omega]; exact (hcell (p + j) (by omega)).2)
    rw [hz1, show 0 + p * 1 = p by omega] at hrun
    refine event_step hw ?_ (h _ (by have := hlaid.1; rw [hbl] at this; exact this) hlaid.2)
    unfold execOp
    rw [hA] at hx
    simp only [ho, resolve, invoke, builtin, Sem.run_bind, Sem.run_pure, Result.andThen_ok, List.map_toArray, List.map_cons, List.map_nil, hs, hx, hrun]
end
/-- Two steps, one after the other. -/
theorem own_then {v v1 v2 : Value} {w w1 : World} (hle : w.heap.size ≤ w1.heap.size) (h1 : v1.ownBlock = v.ownBlock ∨ ∃ b, v1.ownBlock = some b ∧ w.heap.size ≤ b) (h2 : v2.ownBlock = v1.ownBlock ∨ ∃ b, v2.ownBlock = some b ∧ w1.heap.size ≤ b) :
    v2.ownBlock = v.ownBlock ∨ ∃ b, v2.ownBlock = some b ∧ w.heap.size ≤ b := by
  rcases h2 with e2 | ⟨b, e2, hb⟩
  · rw [e2]; exact h1
  · exact .inr ⟨b, e2, by omega⟩
theorem tch_then {f d : Nat} {v v1 : Value} {w w1 w2 : World} (h1 : Moves (Tch f d v) w w1) (ho : v1.ownBlock = v.ownBlock ∨ ∃ b, v1.ownBlock = some b ∧ w.heap.size ≤ b) (h2 : Moves (Tch f d v1) w1 w2) : Moves (Tch f d v) w w2 :=
  h1.then_ h2 (fun i hi => by
    rcases hi with hi | hi | hi
    · exact .inl (.inl hi)
    · exact .inl (.inr (.inl hi))
    · rcases ho with e | ⟨b, e, hb⟩
      · exact .inl (.inr (.inr (by rw [← e]; exact hi)))
      · rw [e] at hi
        injection hi with hi
        exact .inr (by omega))
end Go.Proofs.YtljcdjggjphedaaDoor.Hd
