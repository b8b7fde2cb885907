/- A part of the proof that FnHandleScript answers true for every file and all steps. -/
import Derived.Test.YtljcdjggjphedaaDoorZF
import Derived.Deep.RegionHeld3
import Derived.StillTailTactics
import Derived.IntWalk
import Derived.Test.YtljcdjggjphedaaDoorZG
import Derived.Test.YtljcdjggjphedaaDoorZH
import Derived.Test.YtljcdjggjphedaaDoorZC
import Derived.Test.YtljcdjggjphedaaDoorZD
import Derived.Lib.QuoteBits
namespace Go.Proofs.YtljcdjggjphedaaDoor.Mp
open Go.RowKit Go.Maps Go.Proofs.YtljcdjggjphedaaDoorW.PrintWords Go.Proofs.YtljcdjggjphedaaDoorW.PrintLast Go.Proofs.YtljcdjggjphedaaDoorW.PrintMore Go.Proofs.YtljcdjggjphedaaDoor.PFnHandleScript Go.Proofs.YtljcdjggjphedaaDoor.Hd Go.Proofs.YtljcdjggjphedaaDoor.Ms Go.Proofs.YtljcdjggjphedaaDoor.Mn Go.Proofs.YtljcdjggjphedaaDoor.Pm Go.Proofs.YtljcdjggjphedaaDoor.Mf Go.Proofs.YtljcdjggjphedaaDoor.Mq Go.Proofs.YtljcdjggjphedaaDoor.Bq Go.Proofs.YtljcdjggjphedaaDoor.Mr Go.Proofs.YtljcdjggjphedaaDoor.Mt Go.Proofs.YtljcdjggjphedaaDoor.Mu Go.Proofs.YtljcdjggjphedaaDoor.Mv Go.Proofs.YtljcdjggjphedaaDoor.Ml Go.Proofs.YtljcdjggjphedaaDoor.Mw Go.Proofs.YtljcdjggjphedaaDoor.Mx Go.Proofs.YtljcdjggjphedaaDoor.Lw
set_option linter.unusedVariables false
set_option linter.unusedSimpArgs false
section
variable {w : World} {base : Nat} {ft : Nat → Prop} {m : Nat} {vN vA vD : Value} {mb n : Nat} {f : Lit → Option Nat} {X : SMem}
def slash : ByteArray := ⟨#[47]⟩
def rootNode : S42 := ⟨true, 2147484141, [], 0, ⟨#[47]⟩⟩
def X0 : SMem := ⟨[⟨#[47]⟩], [0], [rootNode], fun _ => none⟩
def NewPost (w : World) (e : Ending) (w' : World) : Prop := ∃ m vN vA vD mb, e = .returned (.pointer (some ⟨m, 0, none⟩)) ∧ IsMem w' w.heap.size (fun k => w.heap.size ≤ k ∧ k < w'.heap.size) m vN vA vD mb 0 (fun _ => none) X0 ∧ Below w.heap.size w w'
set_option maxHeartbeats 4000000 in
set_option maxRecDepth 100000 in
theorem new_any (w : World) : Calls Tryd.prog 31 #[] w (NewPost w) := by
  have hm := fun W => run_makeMap (P := Tryd.prog) 45 W
  go_enter Tryd.func31, Tryd.ntmps31
  go_wp2_with fail
  go_ret
  obtain ⟨W1, hW1⟩ : ∃ W1, W1 = w.alloc (.cells #[.string ⟨#[47]⟩] 9) := ⟨_, rfl⟩
  obtain ⟨W2, hW2⟩ : ∃ W2, W2 = W1.alloc (.cells #[.int .i64 0] 3) := ⟨_, rfl⟩
  obtain ⟨W3, hW3⟩ : ∃ W3, W3 = W2.alloc (.cells #[.bool true, .int .i64 2147484141, .slice none 0 0, .int .i64 0, .string ⟨#[47]⟩] 42) := ⟨_, rfl⟩
  obtain ⟨W4, hW4⟩ : ∃ W4, W4 = W3.alloc (.map #[] 0) := ⟨_, rfl⟩
  obtain ⟨W5, hW5⟩ : ∃ W5, W5 = W4.alloc (.cells #[.slice (some ⟨w.heap.size, 0, none⟩) 1 1, .slice (some ⟨w.heap.size + 1, 0, none⟩) 1 1, .slice (some ⟨w.heap.size + 1 + 1, 0, none⟩) 1 1, .map (some (w.heap.size + 1 + 1 + 1))] 47) := ⟨_, rfl⟩
  rw [← hW1, ← hW2, ← hW3, ← hW4, ← hW5]
  have s1 : W1.heap.size = w.heap.size + 1 := by rw [hW1]; simp
  have s2 : W2.heap.size = w.heap.size + 2 := by rw [hW2]; simp; omega
  have s3 : W3.heap.size = w.heap.size + 3 := by rw [hW3]; simp; omega
  have s4 : W4.heap.size = w.heap.size + 4 := by rw [hW4]; simp; omega
  have s5 : W5.heap.size = w.heap.size + 5 := by rw [hW5]; simp; omega
  have b01 : Below w.heap.size w W1 := by rw [hW1]; exact below_alloc (Below.refl _ _) _
  have b12 : Below W1.heap.size W1 W2 := by rw [hW2]; exact below_alloc (Below.refl _ _) _
  have b23 : Below W2.heap.size W2 W3 := by rw [hW3]; exact below_alloc (Below.refl _ _) _
  have b34 : Below W3.heap.size W3 W4 := by rw [hW4]; exact below_alloc (Below.refl _ _) _
  have b45 : Below W4.heap.size W4 W5 := by rw [hW5]; exact below_alloc (Below.refl _ _) _
  have b35 := below_then b34 b34.size b45
  have b25 := below_then b23 b23.size b35
  have b15 := below_then b12 b12.size b25
  have b05 := below_then b01 b01.size b15
  have rN := lit_row Kd.string (W := w) (base := w.heap.size) (e := 9) (x := ⟨#[47]⟩) (cs := [.string ⟨#[47]⟩]) (ok := fun k => w.heap.size ≤ k ∧ k < W5.heap.size) (okp := fun _ => False) rfl (fun _ h => h.elim) ⟨Nat.le_refl _, by omega⟩ (Nat.le_refl _)
  have rA := lit_row (Kd.int .i64) (W := W1) (base := w.heap.size) (e := 3) (x := (0 : Int)) (cs := [.int .i64 0]) (ok := fun k => w.heap.size ≤ k ∧ k < W5.heap.size) (okp := fun _ => False) rfl (fun _ h => h.elim) ⟨by omega, by omega⟩ (by omega)
  have rD := lit_row k42 (W := W2) (base := w.heap.size) (e := 42) (x := rootNode) (cs := [.bool true, .int .i64 2147484141, .slice none 0 0, .int .i64 0, .string ⟨#[47]⟩]) (ok := fun k => w.heap.size ≤ k ∧ k < W5.heap.size) (okp := fun _ => False) (k42_mkM W2 _ _ rootNode (Kd.R_nil _ _ _ _ _)) (fun _ h => h.elim) ⟨by omega, by omega⟩ (by omega)
  have pm := PMap.made (P := Tryd.prog) (k := 3) W3
  have rN2 := Kd.R_below (show Kd.string.R 9 W1 _ _ _ _ by rw [hW1]; exact rN) b15
  have rA2 := Kd.R_below (show (Kd.int .i64).R 3 W2 _ _ _ _ by rw [hW2]; exact rA) b25
  have rD2 := Kd.R_below (show k42.R 42 W3 _ _ _ _ by rw [hW3]; exact rD) b35
  have pm2 := PMap.below (show PMap Tryd.prog 3 W4 _ _ _ by rw [hW4]; exact pm) b45
  rw [s1] at rA2
  rw [s2] at rD2
  rw [s3] at pm2
  refine ⟨w.heap.size + 4, _, _, _, w.heap.size + 3, rfl, ⟨by rw [hW5, ← s4]; exact blk_new _ _, ⟨⟨by omega, by omega⟩, by omega⟩, rN2, rA2, rD2, pm2, ⟨⟨by omega, by omega⟩, by omega⟩, fun _ _ => rfl, fun k1 k2 g _ _ h _ => by cases h⟩, b05⟩
theorem row_other {α β : Type} {d : Kd α} {d' : Kd β} {w w1 : World} {base base' e e' : Nat} {ok ok' : Nat → Prop} {v v' : Value} {xs : List α} {ys : List β} (h : d.R e w base ok v xs) (hE : ∀ q, q ∈ e :: d.E → q ≠ e') (h' : d'.R e' w base' ok' v' ys) (hm : Moves (fun k => some k = v'.ownBlock) w w1) : d.R e w1 base ok v xs :=
  Kd.R_mono (Kd.R_step (Kd.R_bound h) (fun k hk hlt => hm.block k hlt (fun e9 => by
    obtain ⟨_, _, _, q, hq, cells, hc⟩ := hk
    exact Kd.R_ne h' hc (Ne.symm (hE q hq)) e9))) (fun k hk => hk.1)
theorem row_obj {α : Type} {d : Kd α} {w : World} {base e b : Nat} {ok : Nat → Prop} {v : Value} {xs : List α} (h : d.R e w base ok v xs) {es : Array MapEntry} {cl : Nat} (hb : w.heap[b]? = some (.map es cl)) : some b ≠ v.ownBlock := fun e9 => by
  obtain ⟨_, _, _, q, hq, cells, hc⟩ := (Kd.R_bound h).1 b e9.symm
  rw [hb] at hc
  cases hc
def grew (ft : Nat → Prop) (w w1 : World) (k : Nat) : Prop := ft k ∨ (w.heap.size ≤ k ∧ k < w1.heap.size)
/-- Another row in the cell 0. -/
theorem IsMem.new0 {w1 : World} (M : IsMem w base ft m vN vA vD mb n f X) (hg : Moves (fun k => some k = vN.ownBlock) w w1) {v' : Value} {xs' : List ByteArray} (hR : Kd.string.R 9 w1 base (fun k => ft k ∨ w.heap.size ≤ k) v' xs') :
    IsMem (w1.setCell ⟨m, 0, none⟩ v') base (grew ft w w1) m v' vA vD mb n f ⟨xs', X.ats, X.nodes, X.hs⟩ := by
  have hmlt := blk_lt M.blk
  have hm1 : w1.heap[m]? = some (.cells #[vN, vA, vD, .map (some mb)] 47 (0, 0)) := (hg.block m hmlt (fun e => Kd.R_ne M.rN M.blk (by decide) e)).trans M.blk
  obtain ⟨es, cl, hob⟩ := M.pm.isObj
  have hb1 := hg.block mb (blk_lt hob) (fun e => row_obj M.rN hob e)
  have hmb : mb ≠ m := fun e => by rw [e, M.blk] at hob; cases hob
  refine ⟨blk_put hm1 0 v' rfl, ⟨.inl M.ftm.1, M.ftm.2⟩, Kd.R_set (Kd.R_mono (Kd.R_bound hR) (fun k hk => hk.1.elim .inl (fun h => .inr ⟨h, hk.2.2.1⟩))) hm1 (types_str (.inr (.inl rfl))) 0 v', Kd.R_set (Kd.R_mono (row_other M.rA (types_int (.inr (.inr (.inr (.inl rfl))))) M.rN hg) (fun k hk => .inl hk)) hm1 (types_int (.inr (.inl rfl))) 0 v', Kd.R_set (Kd.R_mono (row_other M.rD (types_node (.inr (.inr (.inr rfl)))) M.rN hg) (fun k hk => .inl hk)) hm1 (types_node (.inr (.inl rfl))) 0 v', M.pm.same ((Below.heap_setCell w1 ⟨m, 0, none⟩ v' mb hmb).trans hb1), ⟨.inl M.ftb.1, M.ftb.2⟩, fun kl hk => ?_, M.inj⟩
  have := M.hnd kl hk
  cases hf : f kl with
  | none => rw [hf] at this; exact this
  | some g =>
    rw [hf] at this
    obtain ⟨h, eh, hgb, h1, h2⟩ := this
    have hgm : g ≠ m := fun e => by rw [e, M.blk] at hgb; injection hgb with hgb; injection hgb with _ hgb; exact absurd hgb (by decide)
    exact ⟨h, eh, (Below.heap_setCell w1 ⟨m, 0, none⟩ v' g hgm).trans ((hg.block g (blk_lt hgb) (fun e => Kd.R_ne M.rN hgb (by decide) e)).trans hgb), .inl h1, h2⟩
/-- Another row in the cell 1. -/
theorem IsMem.new1 {w1 : World} (M : IsMem w base ft m vN vA vD mb n f X) (hg : Moves (fun k => some k = vA.ownBlock) w w1) {v' : Value} {xs' : List Int} (hR : (Kd.int .i64).R 3 w1 base (fun k => ft k ∨ w.heap.size ≤ k) v' xs') :
    IsMem (w1.setCell ⟨m, 1, none⟩ v') base (grew ft w w1) m vN v' vD mb n f ⟨X.names, xs', X.nodes, X.hs⟩ := by
  have hmlt := blk_lt M.blk
  have hm1 : w1.heap[m]? = some (.cells #[vN, vA, vD, .map (some mb)] 47 (0, 0)) := (hg.block m hmlt (fun e => Kd.R_ne M.rA M.blk (by decide) e)).trans M.blk
  obtain ⟨es, cl, hob⟩ := M.pm.isObj
  have hb1 := hg.block mb (blk_lt hob) (fun e => row_obj M.rA hob e)
  have hmb : mb ≠ m := fun e => by rw [e, M.blk] at hob; cases hob
  refine ⟨blk_put hm1 1 v' rfl, ⟨.inl M.ftm.1, M.ftm.2⟩, Kd.R_set (Kd.R_mono (row_other M.rN (types_str (.inr (.inr (.inr (.inl rfl))))) M.rA hg) (fun k hk => .inl hk)) hm1 (types_str (.inr (.inl rfl))) 1 v', Kd.R_set (Kd.R_mono (Kd.R_bound hR) (fun k hk => hk.1.elim .inl (fun h => .inr ⟨h, hk.2.2.1⟩))) hm1 (types_int (.inr (.inl rfl))) 1 v', Kd.R_set (Kd.R_mono (row_other M.rD (types_node (.inr (.inr (.inl rfl)))) M.rA hg) (fun k hk => .inl hk)) hm1 (types_node (.inr (.inl rfl))) 1 v', M.pm.same ((Below.heap_setCell w1 ⟨m, 1, none⟩ v' mb hmb).trans hb1), ⟨.inl M.ftb.1, M.ftb.2⟩, fun kl hk => ?_, M.inj⟩
  have := M.hnd kl hk
  cases hf : f kl with
  | none => rw [hf] at this; exact this
  | some g =>
    rw [hf] at this
    obtain ⟨h, eh, hgb, h1, h2⟩ := this
    have hgm : g ≠ m := fun e => by rw [e, M.blk] at hgb; injection hgb with hgb; injection hgb with _ hgb; exact absurd hgb (by decide)
    exact ⟨h, eh, (Below.heap_setCell w1 ⟨m, 1, none⟩ v' g hgm).trans ((hg.block g (blk_lt hgb) (fun e => Kd.R_ne M.rA hgb (by decide) e)).trans hgb), .inl h1, h2⟩
/-- Another row in the cell 2. -/
theorem IsMem.new2 {w1 : World} (M : IsMem w base ft m vN vA vD mb n f X) (hg : Moves (fun k => some k = vD.ownBlock) w w1) {v' : Value} {xs' : List S42} (hR : k42.R 42 w1 base (fun k => ft k ∨ w.heap.size ≤ k) v' xs') :
    IsMem (w1.setCell ⟨m, 2, none⟩ v') base (grew ft w w1) m vN vA v' mb n f ⟨X.names, X.ats, xs', X.hs⟩ := by
  have hmlt := blk_lt M.blk
  have hm1 : w1.heap[m]? = some (.cells #[vN, vA, vD, .map (some mb)] 47 (0, 0)) := (hg.block m hmlt (fun e => Kd.R_ne M.rD M.blk (by decide) e)).trans M.blk
  obtain ⟨es, cl, hob⟩ := M.pm.isObj
  have hb1 := hg.block mb (blk_lt hob) (fun e => row_obj M.rD hob e)
  have hmb : mb ≠ m := fun e => by rw [e, M.blk] at hob; cases hob
  refine ⟨blk_put hm1 2 v' rfl, ⟨.inl M.ftm.1, M.ftm.2⟩, Kd.R_set (Kd.R_mono (row_other M.rN (types_str (.inr (.inr (.inl rfl)))) M.rD hg) (fun k hk => .inl hk)) hm1 (types_str (.inr (.inl rfl))) 2 v', Kd.R_set (Kd.R_mono (row_other M.rA (types_int (.inr (.inr (.inl rfl)))) M.rD hg) (fun k hk => .inl hk)) hm1 (types_int (.inr (.inl rfl))) 2 v', Kd.R_set (Kd.R_mono (Kd.R_bound hR) (fun k hk => hk.1.elim .inl (fun h => .inr ⟨h, hk.2.2.1⟩))) hm1 (types_node (.inr (.inl rfl))) 2 v', M.pm.same ((Below.heap_setCell w1 ⟨m, 2, none⟩ v' mb hmb).trans hb1), ⟨.inl M.ftb.1, M.ftb.2⟩, fun kl hk => ?_, M.inj⟩
  have := M.hnd kl hk
  cases hf : f kl with
  | none => rw [hf] at this; exact this
  | some g =>
    rw [hf] at this
    obtain ⟨h, eh, hgb, h1, h2⟩ := this
    have hgm : g ≠ m := fun e => by rw [e, M.blk] at hgb; injection hgb with hgb; injection hgb with _ hgb; exact absurd hgb (by decide)
    exact ⟨h, eh, (Below.heap_setCell w1 ⟨m, 2, none⟩ v' g hgm).trans ((hg.block g (blk_lt hgb) (fun e => Kd.R_ne M.rD hgb (by decide) e)).trans hgb), .inl h1, h2⟩
theorem app_str_step {ops : Array Oper} {o : Oper} {a : Act} {Kc : Act → World → Prop} {Q : Exit → Act → World → Prop} {W : World} (base : Nat) (hw : Region.wanted o (yielded ops a.tmps) = true) (s x : Operand) (ho : o.op = .call { callee := .builtin .append, args := #[s, x], argTypes := #[30, 30] })
    (v : Value) (xs ys : List ByteArray) (A : Option Addr) (m c : Nat) {ok : Nat → Prop} (hs : a.eval s = v) (hx : a.eval x = .slice A m c) (HO : Kd.string.R 9 W base ok v xs) (HR : Kd.string.C W A m ys) (hfresh : ∀ k, W.heap.size ≤ k → ok k) (hbase : base ≤ W.heap.size) (hl : xs.length + m ≤ 1000000)
    (h : ∀ A1 c1 w1, Kd.string.R 9 w1 base ok (.slice A1 (xs ++ ys).length c1) (xs ++ ys) → W.grownBy w1 v.ownBlock → ((Value.slice A1 (xs ++ ys).length c1).ownBlock = v.ownBlock ∨ ∃ b, (Value.slice A1 (xs ++ ys).length c1).ownBlock = some b ∧ W.heap.size ≤ b) → Kc (a.put o.dst (.slice A1 (xs ++ ys).length c1)) w1) :
    if Region.wanted o (yielded ops a.tmps) = true then Oper.wp Tryd.prog o a W Kc Q else Kc (a.put o.dst undef) W := by
  refine Kd.R_append_rows_step Kd.string (w0 := W) base hw s x 30 9 (.string ⟨#[]⟩) 16 ho Tryd.underlying30 PFnHandleScript.info9 rfl (by decide) (by decide) v xs ys A m c ok (fun _ => False) hs hx HO HR (fun x cs hc => hc) (fun _ hk => hk.elim) hfresh (Below.refl _ _) hbase (by omega) ?_
  intro v1 w1 h1 _ h2 h3
  obtain ⟨A1, c1, e1, _, _⟩ := Kd.R_reads h1
  subst e1
  exact h A1 c1 w1 h1 h2 h3
theorem app_int_step {ops : Array Oper} {o : Oper} {a : Act} {Kc : Act → World → Prop} {Q : Exit → Act → World → Prop} {W : World} (base : Nat) (hw : Region.wanted o (yielded ops a.tmps) = true) (s x : Operand) (ho : o.op = .call { callee := .builtin .append, args := #[s, x], argTypes := #[43, 43] })
    (v : Value) (xs ys : List Int) (A : Option Addr) (m c : Nat) {ok : Nat → Prop} (hs : a.eval s = v) (hx : a.eval x = .slice A m c) (HO : (Kd.int .i64).R 3 W base ok v xs) (HR : (Kd.int .i64).C W A m ys) (hfresh : ∀ k, W.heap.size ≤ k → ok k) (hbase : base ≤ W.heap.size) (hl : xs.length + m ≤ 1000000)
    (h : ∀ A1 c1 w1, (Kd.int .i64).R 3 w1 base ok (.slice A1 (xs ++ ys).length c1) (xs ++ ys) → W.grownBy w1 v.ownBlock → ((Value.slice A1 (xs ++ ys).length c1).ownBlock = v.ownBlock ∨ ∃ b, (Value.slice A1 (xs ++ ys).length c1).ownBlock = some b ∧ W.heap.size ≤ b) → Kc (a.put o.dst (.slice A1 (xs ++ ys).length c1)) w1) :
    if Region.wanted o (yielded ops a.tmps) = true then Oper.wp Tryd.prog o a W Kc Q else Kc (a.put o.dst undef) W := by
  refine Kd.R_append_rows_step (Kd.int .i64) (w0 := W) base hw s x 43 3 (.int .i64 0) 8 ho Tryd.underlying43 info3 rfl (by decide) (by decide) v xs ys A m c ok (fun _ => False) hs hx HO HR (fun x cs hc => hc) (fun _ hk => hk.elim) hfresh (Below.refl _ _) hbase (by omega) ?_
  intro v1 w1 h1 _ h2 h3
  obtain ⟨A1, c1, e1, _, _⟩ := Kd.R_reads h1
  subst e1
  exact h A1 c1 w1 h1 h2 h3
theorem below_grow {w Wa w1 : World} {row : Option Nat} (hb : Below w.heap.size w Wa) (hg : Wa.grownBy w1 row) (hr : ∀ k, row = some k → w.heap.size ≤ k) : Below w.heap.size w w1 :=
  ⟨hg.os.trans hb.os, hg.tape.trans hb.tape, hg.output.trans hb.output, Nat.le_trans hb.size hg.size, fun k hk => (hg.block k (Nat.lt_of_lt_of_le hk hb.size) (fun e => absurd (hr k e.symm) (by omega))).trans (hb.block k hk)⟩
theorem C_empty {α : Type} (d : Kd α) (W : World) (A : Option Addr) : d.C W A 0 [] := ⟨rfl, by simp [maxLen], fun h => absurd h (by simp)⟩
def PutPost (w : World) (base : Nat) (ft : Nat → Prop) (m : Nat) (vD : Value) (mb n : Nat) (f : Lit → Option Nat) (X' : SMem) (e : Ending) (w' : World) : Prop :=
  ∃ vN vA, e = .returned (.tuple #[]) ∧ IsMem w' base (grew ft w w') m vN vA vD mb n f X' ∧ Moves ft w w'
set_option maxHeartbeats 4000000 in
set_option maxRecDepth 100000 in
theorem put_last (M : IsMem w base ft m vN vA vD mb n f X) (hft : ∀ k, ft k → k < w.heap.size) (hbase : base ≤ w.heap.size) (name : ByteArray) (node : Int) (hpl : placeAt name X.names = (X.names.length, false)) (hla : X.ats.length = X.names.length) (hL : X.names.length ≤ 100000) :
    Calls Tryd.prog 95 #[.pointer (some ⟨m, 0, none⟩), .string name, .int .i64 node] w (PutPost w base ft m vD mb n f ⟨X.names ++ [name], X.ats ++ [node], X.nodes, X.hs⟩) := by
  have HP := Lib.hid (place_any M name)
  rw [hpl] at HP
  have c0w := M.c0
  have c1v := M.c1
  obtain ⟨A, c, hv, hlc, hC⟩ := Kd.R_reads M.rN
  obtain ⟨A1, d, hv1, hlc1, hC1⟩ := Kd.R_reads M.rA
  rw [hv] at c0w
  rw [hv1] at c1v
  obtain ⟨L, hLn⟩ : ∃ L, L = X.names.length := ⟨_, rfl⟩
  rw [← hLn] at HP c0w hlc hv hL hla
  rw [hla] at hv1 hlc1 c1v
  have HLN := Lib.hid hLn
  have HLA := Lib.hid hla
  clear hLn hla hC hC1
  obtain ⟨iw, hiw, hzw⟩ := Option.map_eq_some_iff.1 PFnHandleScript.info9
  simp only [Prod.mk.injEq] at hzw
  have cutAw := cut_to (P := Tryd.prog) 30 9 .i64 Tryd.underlying30 hiw A L c (L : Int) (by omega) (by omega) hlc
  have cutBw := cut_from (P := Tryd.prog) 30 9 .i64 Tryd.underlying30 hiw 1 hzw.2.1 A L c (L : Int) (by omega) (by omega)
  rw [Int.toNat_natCast] at cutAw cutBw
  rw [Nat.sub_self] at cutBw
  obtain ⟨Asw, hAs⟩ : ∃ As, As = (if c = L then A else Option.map (fun x => x.add (L * 1)) A) := ⟨_, rfl⟩
  rw [← hAs] at cutBw
  clear hAs hzw hiw
  obtain ⟨i6, hi6, hz6⟩ := Option.map_eq_some_iff.1 info3
  simp only [Prod.mk.injEq] at hz6
  have cutA6 := cut_to (P := Tryd.prog) 43 3 .i64 Tryd.underlying43 hi6 A1 L d (L : Int) (by omega) (by omega) hlc1
  have cutB6 := cut_from (P := Tryd.prog) 43 3 .i64 Tryd.underlying43 hi6 1 hz6.2.1 A1 L d (L : Int) (by omega) (by omega)
  rw [Int.toNat_natCast] at cutA6 cutB6
  rw [Nat.sub_self] at cutB6
  obtain ⟨As6, hAs⟩ : ∃ As, As = (if d = L then A1 else Option.map (fun x => x.add (L * 1)) A1) := ⟨_, rfl⟩
  rw [← hAs] at cutB6
  clear hAs hz6 hi6
  have BLw := hbase
  go_enter Tryd.func95, Tryd.ntmps95
  go_wp2_with (first | (go_at_call 93; (refine (HP.out).mono ?_); rintro e w1 ⟨rfl, rfl⟩))
  refine Lw.wp_region_gate (S0 := fun w' => w'.cell? ⟨m, 0, none⟩ = some (.slice A L c)) (S1 := fun _ => True) (k := 19) (by kernel_rfl) ?_
  rw [show ({ w with drawn := w.drawn + 1 } : World) = w.drew from rfl]
  refine Lw.wpAnyL_take0 (i := 0) (v := ?_) rfl (by decide) (by kernel_rfl) (by kernel_rfl) (by kernel_rfl) (fun _ _ _ h => h) (Or.inl ⟨by rfl, ?_⟩) ⟨trivial, fun _ => c0w⟩ ?_
  rotate_left
  · (intro w _; go_simp; try with_reducible rfl)
  (try simp only [Act.put, List.setIfInBounds_toArray, List.set_cons_zero, List.set_cons_succ])
  refine Lw.wpAnyL_take0 (i := 1) (v := ?_) rfl (by decide) (by kernel_rfl) (by kernel_rfl) (by kernel_rfl) (fun _ _ _ h => h) (Or.inl ⟨by rfl, ?_⟩) ⟨trivial, fun _ => c0w⟩ ?_
  rotate_left
  · (intro w _; go_simp; try with_reducible rfl)
  (try simp only [Act.put, List.setIfInBounds_toArray, List.set_cons_zero, List.set_cons_succ])
  refine Lw.wpAnyL_take0 (i := 2) (v := ?_) rfl (by decide) (by kernel_rfl) (by kernel_rfl) (by kernel_rfl) (fun _ _ _ h => h) (Or.inl ⟨by rfl, ?_⟩) ⟨trivial, fun _ => c0w⟩ ?_
  rotate_left
  · (intro w _; go_simp; try with_reducible rfl)
  (try simp only [Act.put, List.setIfInBounds_toArray, List.set_cons_zero, List.set_cons_succ])
  refine Lw.wpAnyL_take0 (i := 3) (v := ?_) rfl (by decide) (by kernel_rfl) (by kernel_rfl) (by kernel_rfl) (fun _ _ _ h => h) (Or.inl ⟨by rfl, ?_⟩) ⟨trivial, fun _ => c0w⟩ ?_
  rotate_left
  · (intro w _; go_simp; try with_reducible rfl)
  (try simp only [Act.put, List.setIfInBounds_toArray, List.set_cons_zero, List.set_cons_succ])
  refine Lw.wpAnyL_take (i := 4) (v := ?_) rfl rfl (by kernel_rfl) (by kernel_rfl) (by kernel_rfl) (by kernel_rfl) (fun _ _ _ h => h) (Or.inl ⟨by rfl, ?_⟩) c0w trivial ?_
  rotate_left
  · (intro w hw; go_simp; try with_reducible rfl)
  (try simp only [Act.put, List.setIfInBounds_toArray, List.set_cons_zero, List.set_cons_succ])
  refine Lw.wpAnyL_take0 (i := 5) (v := ?_) rfl (by decide) (by kernel_rfl) (by kernel_rfl) (by kernel_rfl) (fun _ _ _ h => h) (Or.inl ⟨by rfl, ?_⟩) ⟨trivial, fun _ => c0w⟩ ?_
  rotate_left
  · (intro w _; go_simp; try with_reducible rfl)
  (try simp only [Act.put, List.setIfInBounds_toArray, List.set_cons_zero, List.set_cons_succ])
  refine Lw.wpAnyL_take0 (i := 6) (v := ?_) rfl (by decide) (by kernel_rfl) (by kernel_rfl) (by kernel_rfl) (fun _ _ _ h => h) (Or.inl ⟨by rfl, ?_⟩) ⟨trivial, fun _ => c0w⟩ ?_
  rotate_left
  · (intro w _; go_simp; try with_reducible rfl)
  (try simp only [Act.put, List.setIfInBounds_toArray, List.set_cons_zero, List.set_cons_succ])
  refine Lw.wpAnyL_take0 (i := 7) (v := ?_) rfl (by decide) (by kernel_rfl) (by kernel_rfl) (by kernel_rfl) (fun _ _ _ h => h) (Or.inl ⟨by rfl, ?_⟩) ⟨trivial, fun _ => c0w⟩ ?_
  rotate_left
  · (intro w _; go_simp; try with_reducible rfl)
  (try simp only [Act.put, List.setIfInBounds_toArray, List.set_cons_zero, List.set_cons_succ])
  refine Lw.wpAnyL_take0 (i := 9) (v := ?_) rfl (by decide) (by kernel_rfl) (by kernel_rfl) (by kernel_rfl) (fun _ _ _ h => h) (Or.inl ⟨by rfl, ?_⟩) ⟨trivial, fun _ => c0w⟩ ?_
  rotate_left
  · (intro w _; go_simp; try with_reducible rfl)
  (try simp only [Act.put, List.setIfInBounds_toArray, List.set_cons_zero, List.set_cons_succ])
  refine Lw.wpAnyL_take0 (i := 10) (v := ?_) rfl (by decide) (by kernel_rfl) (by kernel_rfl) (by kernel_rfl) (fun _ _ _ h => h) (Or.inl ⟨by rfl, ?_⟩) ⟨trivial, fun _ => c0w⟩ ?_
  rotate_left
  · (intro w _; go_simp; try with_reducible rfl)
  (try simp only [Act.put, List.setIfInBounds_toArray, List.set_cons_zero, List.set_cons_succ])
  refine Lw.wpAnyL_take0 (i := 11) (v := ?_) rfl (by decide) (by kernel_rfl) (by kernel_rfl) (by kernel_rfl) (fun _ _ _ h => h) (Or.inl ⟨by rfl, ?_⟩) ⟨trivial, fun _ => c0w⟩ ?_
  rotate_left
  · (intro w _; go_simp; try with_reducible rfl)
  (try simp only [Act.put, List.setIfInBounds_toArray, List.set_cons_zero, List.set_cons_succ])
  refine Lw.wpAnyL_take (i := 12) (v := ?_) rfl rfl (by kernel_rfl) (by kernel_rfl) (by kernel_rfl) (by kernel_rfl) (fun _ _ _ h => h) (Or.inl ⟨by rfl, ?_⟩) c0w trivial ?_
  rotate_left
  · (intro w hw; go_simp; try with_reducible rfl)
  (try simp only [Act.put, List.setIfInBounds_toArray, List.set_cons_zero, List.set_cons_succ])
  refine Lw.wpAnyL_take0 (i := 13) (v := ?_) rfl (by decide) (by kernel_rfl) (by kernel_rfl) (by kernel_rfl) (fun _ _ _ h => h) (Or.inl ⟨by rfl, ?_⟩) ⟨trivial, fun _ => c0w⟩ ?_
  rotate_left
  · (intro w _; go_simp; try with_reducible rfl)
  (try simp only [Act.put, List.setIfInBounds_toArray, List.set_cons_zero, List.set_cons_succ])
  refine Lw.wpAnyL_take0 (i := 14) (v := ?_) rfl (by decide) (by kernel_rfl) (by kernel_rfl) (by kernel_rfl) (fun _ _ _ h => h) (Or.inl ⟨by rfl, ?_⟩) ⟨trivial, fun _ => c0w⟩ ?_
  rotate_left
  · (intro w _; go_simp; try with_reducible rfl)
  (try simp only [Act.put, List.setIfInBounds_toArray, List.set_cons_zero, List.set_cons_succ])
  refine Lw.wpAnyL_one (i := 8) (by kernel_rfl) rfl (fun K hK => ?_)
  go_simp
  have BAw : Below w.heap.size w (w.drew.alloc (.cells #[.string name] 9)) := below_alloc (below_drew (Below.refl _ _)) _
  refine hK.out _ _ ⟨trivial, fun _ => cellb c0w BAw⟩ ?_
  (try simp only [Act.put, List.setIfInBounds_toArray, List.set_cons_zero, List.set_cons_succ])
  refine Lw.wpAnyL_one (i := 15) (by kernel_rfl) rfl (fun K hK => ?_)
  refine app_str_step w.heap.size rfl _ _ rfl (.slice (some ⟨w.heap.size, 0, none⟩) 1 1) [name] [] Asw 0 (c - L) (ok := fun k => w.heap.size ≤ k) rfl rfl (lit_row Kd.string (W := w.drew) (base := w.heap.size) (okp := fun _ => False) rfl (fun _ h => h.elim) (Nat.le_refl _) (Nat.le_refl _)) (C_empty _ _ _) (fun k hk => Nat.le_trans BAw.size hk) BAw.size (by simp) ?_
  intro A2 c2 w2 r2 g2 o2
  have B2w : Below w.heap.size w w2 := below_grow BAw g2 (fun k hk => by simp [Value.ownBlock] at hk; omega)
  have R2w := Lib.hid r2
  clear r2 g2 o2
  refine hK.out _ _ ⟨trivial, fun _ => cellb c0w B2w⟩ ?_
  (try simp only [Act.put, List.setIfInBounds_toArray, List.set_cons_zero, List.set_cons_succ])
  refine Lw.wpAnyL_one (i := 16) (by kernel_rfl) rfl (fun K hK => ?_)
  have HOl := Kd.R_mono (ok' := fun k => ft k ∨ w.heap.size ≤ k) (Kd.R_below M.rN B2w) (fun k hk => .inl hk)
  rw [hv] at HOl
  refine app_str_step base rfl _ _ rfl (.slice A L c) _ _ A2 1 c2 rfl rfl HOl (Kd.R_reads' R2w.out).2.2 (fun k hk => .inr (Nat.le_trans B2w.size hk)) (Nat.le_trans BLw B2w.size) (by have h9 := HLN.out; have h8 := HLA.out; show X.names.length + 1 ≤ 1000000; omega) ?_
  intro A3w c3w w3w r3 g3 o3
  have MVw : Moves (fun k => some k = vN.ownBlock) w w3w := (Moves.of_below B2w _).grown g3 (fun k hk => .inl (by rw [hv]; exact hk.symm))
  have R3w := Lib.hid r3
  have hm3 := MVw.blk M.blk (fun e => Kd.R_ne M.rN M.blk (by decide) e)
  have k3 := blk_cell hm3 0
  have zm := blk_frozen hm3
  simp [hv] at k3
  clear r3 g3 o3 HOl
  refine hK.out _ _ ⟨trivial, fun _ => k3⟩ ?_
  (try simp only [Act.put, List.setIfInBounds_toArray, List.set_cons_zero, List.set_cons_succ])
  refine Lw.wpAnyL_take0 (i := 17) (v := ?_) rfl (by decide) (by kernel_rfl) (by kernel_rfl) (by kernel_rfl) (fun _ _ _ h => h) (Or.inl ⟨by rfl, ?_⟩) ⟨trivial, fun _ => k3⟩ ?_
  rotate_left
  · (intro w _; go_simp; try with_reducible rfl)
  (try simp only [Act.put, List.setIfInBounds_toArray, List.set_cons_zero, List.set_cons_succ])
  refine Lw.wpAnyL_take0 (i := 18) (v := ?_) rfl (by decide) (by kernel_rfl) (by kernel_rfl) (by kernel_rfl) (fun _ _ _ h => h) (Or.inl ⟨by rfl, ?_⟩) ⟨trivial, fun _ => k3⟩ ?_
  rotate_left
  · (intro w _; go_simp; try with_reducible rfl)
  (try simp only [Act.put, List.setIfInBounds_toArray, List.set_cons_zero, List.set_cons_succ])
  refine Lw.wpAnyL_one (i := 19) (by kernel_rfl) rfl (fun K hK => ?_)
  go_simp
  refine hK.out _ _ ⟨trivial, fun h => absurd h (by simp)⟩ ?_
  (try simp only [Act.put, List.setIfInBounds_toArray, List.set_cons_zero, List.set_cons_succ])
  refine Lw.wpAnyL_done (by kernel_rfl) ?_ _
  obtain ⟨W6, hW6⟩ : ∃ W6, W6 = w3w.setCell ⟨m, 0, none⟩ (.slice A3w (X.names.length + 1) c3w) := ⟨_, rfl⟩
  rw [← hW6]
  have r3 : Kd.string.R 9 w3w base (fun k => ft k ∨ w.heap.size ≤ k) (.slice A3w (X.names.length + 1) c3w) (X.names ++ [name]) := by
    have h9 := R3w.out
    simp only [List.append_nil, List.length_append, List.length_singleton] at h9
    exact h9
  have M1 := IsMem.new0 M MVw r3
  rw [← hW6] at M1
  have hs6 : W6.heap.size = w3w.heap.size := by rw [hW6]; simp [World.setCell]
  have BL6 : base ≤ W6.heap.size := by have := MVw.size; omega
  have c16 := M1.c1
  rw [hv1] at c16
  have MV06 : Moves ft w W6 := by rw [hW6]; exact Moves.setCell (p := ⟨m, 0, none⟩) (MVw.then_ (Moves.refl (fun _ => False) _) (fun _ h => h.elim) |>.mono (fun k hk => M.rN.1 k hk.symm)) (.inl M.ftm.1) _
  have HW6 := Lib.hid hW6
  have HM1 := Lib.hid M1
  have H06 := Lib.hid MV06
  have HM := Lib.hid M
  have HMVw := Lib.hid MVw
  clear hs6 hW6 r3 c0w c1v cutAw cutBw k3 zm hm3 MVw MV06 M1 M BAw B2w R2w R3w HP
  go_wp2_with fail
  refine Lw.wp_region_gate (S0 := fun w' => w'.cell? ⟨m, 1, none⟩ = some (.slice A1 L d)) (S1 := fun _ => True) (k := 19) (by kernel_rfl) ?_
  rw [show ({ W6 with drawn := W6.drawn + 1 } : World) = W6.drew from rfl]
  refine Lw.wpAnyL_take0 (i := 0) (v := ?_) rfl (by decide) (by kernel_rfl) (by kernel_rfl) (by kernel_rfl) (fun _ _ _ h => h) (Or.inl ⟨by rfl, ?_⟩) ⟨trivial, fun _ => c16⟩ ?_
  rotate_left
  · (intro w _; go_simp; try with_reducible rfl)
  (try simp only [Act.put, List.setIfInBounds_toArray, List.set_cons_zero, List.set_cons_succ])
  refine Lw.wpAnyL_take0 (i := 1) (v := ?_) rfl (by decide) (by kernel_rfl) (by kernel_rfl) (by kernel_rfl) (fun _ _ _ h => h) (Or.inl ⟨by rfl, ?_⟩) ⟨trivial, fun _ => c16⟩ ?_
  rotate_left
  · (intro w _; go_simp; try with_reducible rfl)
  (try simp only [Act.put, List.setIfInBounds_toArray, List.set_cons_zero, List.set_cons_succ])
  refine Lw.wpAnyL_take0 (i := 2) (v := ?_) rfl (by decide) (by kernel_rfl) (by kernel_rfl) (by kernel_rfl) (fun _ _ _ h => h) (Or.inl ⟨by rfl, ?_⟩) ⟨trivial, fun _ => c16⟩ ?_
  rotate_left
  · (intro w _; go_simp; try with_reducible rfl)
  (try simp only [Act.put, List.setIfInBounds_toArray, List.set_cons_zero, List.set_cons_succ])
  refine Lw.wpAnyL_take0 (i := 3) (v := ?_) rfl (by decide) (by kernel_rfl) (by kernel_rfl) (by kernel_rfl) (fun _ _ _ h => h) (Or.inl ⟨by rfl, ?_⟩) ⟨trivial, fun _ => c16⟩ ?_
  rotate_left
  · (intro w _; go_simp; try with_reducible rfl)
  (try simp only [Act.put, List.setIfInBounds_toArray, List.set_cons_zero, List.set_cons_succ])
  refine Lw.wpAnyL_take (i := 4) (v := ?_) rfl rfl (by kernel_rfl) (by kernel_rfl) (by kernel_rfl) (by kernel_rfl) (fun _ _ _ h => h) (Or.inl ⟨by rfl, ?_⟩) c16 trivial ?_
  rotate_left
  · (intro w hw; go_simp; try with_reducible rfl)
  (try simp only [Act.put, List.setIfInBounds_toArray, List.set_cons_zero, List.set_cons_succ])
  refine Lw.wpAnyL_take0 (i := 5) (v := ?_) rfl (by decide) (by kernel_rfl) (by kernel_rfl) (by kernel_rfl) (fun _ _ _ h => h) (Or.inl ⟨by rfl, ?_⟩) ⟨trivial, fun _ => c16⟩ ?_
  rotate_left
  · (intro w _; go_simp; try with_reducible rfl)
  (try simp only [Act.put, List.setIfInBounds_toArray, List.set_cons_zero, List.set_cons_succ])
  refine Lw.wpAnyL_take0 (i := 6) (v := ?_) rfl (by decide) (by kernel_rfl) (by kernel_rfl) (by kernel_rfl) (fun _ _ _ h => h) (Or.inl ⟨by rfl, ?_⟩) ⟨trivial, fun _ => c16⟩ ?_
  rotate_left
  · (intro w _; go_simp; try with_reducible rfl)
  (try simp only [Act.put, List.setIfInBounds_toArray, List.set_cons_zero, List.set_cons_succ])
  refine Lw.wpAnyL_take0 (i := 7) (v := ?_) rfl (by decide) (by kernel_rfl) (by kernel_rfl) (by kernel_rfl) (fun _ _ _ h => h) (Or.inl ⟨by rfl, ?_⟩) ⟨trivial, fun _ => c16⟩ ?_
  rotate_left
  · (intro w _; go_simp; try with_reducible rfl)
  (try simp only [Act.put, List.setIfInBounds_toArray, List.set_cons_zero, List.set_cons_succ])
  refine Lw.wpAnyL_take0 (i := 9) (v := ?_) rfl (by decide) (by kernel_rfl) (by kernel_rfl) (by kernel_rfl) (fun _ _ _ h => h) (Or.inl ⟨by rfl, ?_⟩) ⟨trivial, fun _ => c16⟩ ?_
  rotate_left
  · (intro w _; go_simp; try with_reducible rfl)
  (try simp only [Act.put, List.setIfInBounds_toArray, List.set_cons_zero, List.set_cons_succ])
  refine Lw.wpAnyL_take0 (i := 10) (v := ?_) rfl (by decide) (by kernel_rfl) (by kernel_rfl) (by kernel_rfl) (fun _ _ _ h => h) (Or.inl ⟨by rfl, ?_⟩) ⟨trivial, fun _ => c16⟩ ?_
  rotate_left
  · (intro w _; go_simp; try with_reducible rfl)
  (try simp only [Act.put, List.setIfInBounds_toArray, List.set_cons_zero, List.set_cons_succ])
  refine Lw.wpAnyL_take0 (i := 11) (v := ?_) rfl (by decide) (by kernel_rfl) (by kernel_rfl) (by kernel_rfl) (fun _ _ _ h => h) (Or.inl ⟨by rfl, ?_⟩) ⟨trivial, fun _ => c16⟩ ?_
  rotate_left
  · (intro w _; go_simp; try with_reducible rfl)
  (try simp only [Act.put, List.setIfInBounds_toArray, List.set_cons_zero, List.set_cons_succ])
  refine Lw.wpAnyL_take (i := 12) (v := ?_) rfl rfl (by kernel_rfl) (by kernel_rfl) (by kernel_rfl) (by kernel_rfl) (fun _ _ _ h => h) (Or.inl ⟨by rfl, ?_⟩) c16 trivial ?_
  rotate_left
  · (intro w hw; go_simp; try with_reducible rfl)
  (try simp only [Act.put, List.setIfInBounds_toArray, List.set_cons_zero, List.set_cons_succ])
  refine Lw.wpAnyL_take0 (i := 13) (v := ?_) rfl (by decide) (by kernel_rfl) (by kernel_rfl) (by kernel_rfl) (fun _ _ _ h => h) (Or.inl ⟨by rfl, ?_⟩) ⟨trivial, fun _ => c16⟩ ?_
  rotate_left
  · (intro w _; go_simp; try with_reducible rfl)
  (try simp only [Act.put, List.setIfInBounds_toArray, List.set_cons_zero, List.set_cons_succ])
  refine Lw.wpAnyL_take0 (i := 14) (v := ?_) rfl (by decide) (by kernel_rfl) (by kernel_rfl) (by kernel_rfl) (fun _ _ _ h => h) (Or.inl ⟨by rfl, ?_⟩) ⟨trivial, fun _ => c16⟩ ?_
  rotate_left
  · (intro w _; go_simp; try with_reducible rfl)
  (try simp only [Act.put, List.setIfInBounds_toArray, List.set_cons_zero, List.set_cons_succ])
  refine Lw.wpAnyL_one (i := 8) (by kernel_rfl) rfl (fun K hK => ?_)
  go_simp
  have BA6 : Below W6.heap.size W6 (W6.drew.alloc (.cells #[.int .i64 node] 3)) := below_alloc (below_drew (Below.refl _ _)) _
  refine hK.out _ _ ⟨trivial, fun _ => cellb c16 BA6⟩ ?_
  (try simp only [Act.put, List.setIfInBounds_toArray, List.set_cons_zero, List.set_cons_succ])
  refine Lw.wpAnyL_one (i := 15) (by kernel_rfl) rfl (fun K hK => ?_)
  refine app_int_step W6.heap.size rfl _ _ rfl (.slice (some ⟨W6.heap.size, 0, none⟩) 1 1) [node] [] As6 0 (d - L) (ok := fun k => W6.heap.size ≤ k) rfl rfl (lit_row (Kd.int .i64) (W := W6.drew) (base := W6.heap.size) (okp := fun _ => False) rfl (fun _ h => h.elim) (Nat.le_refl _) (Nat.le_refl _)) (C_empty _ _ _) (fun k hk => Nat.le_trans BA6.size hk) BA6.size (by simp) ?_
  intro A2 c2 w2 r2 g2 o2
  have B26 : Below W6.heap.size W6 w2 := below_grow BA6 g2 (fun k hk => by simp [Value.ownBlock] at hk; omega)
  have R26 := Lib.hid r2
  clear r2 g2 o2
  refine hK.out _ _ ⟨trivial, fun _ => cellb c16 B26⟩ ?_
  (try simp only [Act.put, List.setIfInBounds_toArray, List.set_cons_zero, List.set_cons_succ])
  refine Lw.wpAnyL_one (i := 16) (by kernel_rfl) rfl (fun K hK => ?_)
  have HOl := Kd.R_mono (ok' := fun k => (grew ft w w3w) k ∨ W6.heap.size ≤ k) (Kd.R_below HM1.out.rA B26) (fun k hk => .inl hk)
  rw [hv1] at HOl
  refine app_int_step base rfl _ _ rfl (.slice A1 L d) _ _ A2 1 c2 rfl rfl HOl (Kd.R_reads' R26.out).2.2 (fun k hk => .inr (Nat.le_trans B26.size hk)) (Nat.le_trans BL6 B26.size) (by have h9 := HLN.out; have h8 := HLA.out; show X.ats.length + 1 ≤ 1000000; omega) ?_
  intro A36 c36 w36 r3 g3 o3
  have MV6 : Moves (fun k => some k = vA.ownBlock) W6 w36 := (Moves.of_below B26 _).grown g3 (fun k hk => .inl (by rw [hv1]; exact hk.symm))
  have R36 := Lib.hid r3
  have hm3 := MV6.blk HM1.out.blk (fun e => Kd.R_ne HM1.out.rA HM1.out.blk (by decide) e)
  have k3 := blk_cell hm3 1
  have zm := blk_frozen hm3
  simp [hv1] at k3
  clear r3 g3 o3 HOl
  refine hK.out _ _ ⟨trivial, fun _ => k3⟩ ?_
  (try simp only [Act.put, List.setIfInBounds_toArray, List.set_cons_zero, List.set_cons_succ])
  refine Lw.wpAnyL_take0 (i := 17) (v := ?_) rfl (by decide) (by kernel_rfl) (by kernel_rfl) (by kernel_rfl) (fun _ _ _ h => h) (Or.inl ⟨by rfl, ?_⟩) ⟨trivial, fun _ => k3⟩ ?_
  rotate_left
  · (intro w _; go_simp; try with_reducible rfl)
  (try simp only [Act.put, List.setIfInBounds_toArray, List.set_cons_zero, List.set_cons_succ])
  refine Lw.wpAnyL_take0 (i := 18) (v := ?_) rfl (by decide) (by kernel_rfl) (by kernel_rfl) (by kernel_rfl) (fun _ _ _ h => h) (Or.inl ⟨by rfl, ?_⟩) ⟨trivial, fun _ => k3⟩ ?_
  rotate_left
  · (intro w _; go_simp; try with_reducible rfl)
  (try simp only [Act.put, List.setIfInBounds_toArray, List.set_cons_zero, List.set_cons_succ])
  refine Lw.wpAnyL_one (i := 19) (by kernel_rfl) rfl (fun K hK => ?_)
  go_simp
  refine hK.out _ _ ⟨trivial, fun h => absurd h (by simp)⟩ ?_
  (try simp only [Act.put, List.setIfInBounds_toArray, List.set_cons_zero, List.set_cons_succ])
  refine Lw.wpAnyL_done (by kernel_rfl) ?_ _
  go_wp2_with fail
  refine bodyPost_ret (v := .tuple #[]) (by simp [results, Tryd.results95, go_sem]) rfl ?_
  have r3 : (Kd.int .i64).R 3 w36 base (fun k => (grew ft w w3w k) ∨ W6.heap.size ≤ k) (.slice A36 (X.ats.length + 1) c36) (X.ats ++ [node]) := by
    have h9 := R36.out
    simp only [List.append_nil, List.length_append, List.length_singleton] at h9
    exact h9
  have M2 := IsMem.new1 HM1.out MV6 r3
  have hsz : (w36.setCell ⟨m, 1, none⟩ (.slice A36 (X.ats.length + 1) c36)).heap.size = w36.heap.size := by simp [World.setCell]
  have s1 := MV6.size
  have s2 := HMVw.out.size
  have s3 : W6.heap.size = w3w.heap.size := by rw [HW6.out]; simp [World.setCell]
  refine ⟨_, _, rfl, IsMem.mono M2 (fun k hk => ?_), ?_⟩
  · rcases hk with (hk | ⟨h1, h2⟩) | ⟨h1, h2⟩
    · exact .inl hk
    · exact .inr ⟨h1, by omega⟩
    · exact .inr ⟨by omega, by omega⟩
  · exact Moves.setCell (p := ⟨m, 1, none⟩) (H06.out.then_ MV6 (fun k hk => (HM1.out.rA.1 k hk.symm).imp id (fun h => h.1))) (.inl HM.out.ftm.1) _
end
end Go.Proofs.YtljcdjggjphedaaDoor.Mp
namespace Go.Proofs.YtljcdjggjphedaaDoor.Mi
open Go.RowKit Go.Maps Go.Proofs.YtljcdjggjphedaaDoorW.PrintWords Go.Proofs.YtljcdjggjphedaaDoorW.PrintLast Go.Proofs.YtljcdjggjphedaaDoorW.PrintMore Go.Proofs.YtljcdjggjphedaaDoor.PFnHandleScript Go.Proofs.YtljcdjggjphedaaDoor.Hd Go.Proofs.YtljcdjggjphedaaDoor.Ms Go.Proofs.YtljcdjggjphedaaDoor.Mn Go.Proofs.YtljcdjggjphedaaDoor.Pm Go.Proofs.YtljcdjggjphedaaDoor.Mf Go.Proofs.YtljcdjggjphedaaDoor.Mq Go.Proofs.YtljcdjggjphedaaDoor.Bq Go.Proofs.YtljcdjggjphedaaDoor.Mr Go.Proofs.YtljcdjggjphedaaDoor.Mt Go.Proofs.YtljcdjggjphedaaDoor.Mu Go.Proofs.YtljcdjggjphedaaDoor.Mv Go.Proofs.YtljcdjggjphedaaDoor.Ml Go.Proofs.YtljcdjggjphedaaDoor.Mw Go.Proofs.YtljcdjggjphedaaDoor.Mx Go.Proofs.YtljcdjggjphedaaDoor.Lw Go.Proofs.YtljcdjggjphedaaDoor.Mp
set_option linter.unusedVariables false
set_option linter.unusedSimpArgs false
section
variable {w : World} {base : Nat} {ft : Nat → Prop} {m : Nat} {vN vA vD : Value} {mb n : Nat} {f : Lit → Option Nat} {X : SMem}
def AddPost (w : World) (base : Nat) (ft : Nat → Prop) (m : Nat) (mb n : Nat) (f : Lit → Option Nat) (L : Nat) (X' : SMem) (e : Ending) (w' : World) : Prop :=
  ∃ vN vA vD, e = .returned (.int .i64 L) ∧ IsMem w' base (grew ft w w') m vN vA vD mb n f X' ∧ Moves ft w w'
set_option maxHeartbeats 4000000 in
set_option maxRecDepth 100000 in
theorem add_last (M : IsMem w base ft m vN vA vD mb n f X) (hft : ∀ k, ft k → k < w.heap.size) (hbase : base ≤ w.heap.size) (name : ByteArray) (dir : Bool) (mode time : Int) (nm : ByteArray) (hpl : placeAt name X.names = (X.names.length, false)) (hla : X.ats.length = X.names.length) (hL : X.names.length ≤ 100000) (hN : X.nodes.length ≤ 100000) :
    Calls Tryd.prog 60 #[.pointer (some ⟨m, 0, none⟩), .string name, .agg #[.bool dir, .int .i64 mode, .slice none 0 0, .int .i64 time, .string nm]] w (AddPost w base ft m mb n f X.nodes.length ⟨X.names ++ [name], X.ats ++ [(X.nodes.length : Int)], X.nodes ++ [⟨dir, mode, [], time, name⟩], X.hs⟩) := by
  obtain ⟨A, c, hv, hlc, hC⟩ := Kd.R_reads M.rD
  obtain ⟨L, hLn⟩ : ∃ L, L = X.nodes.length := ⟨_, rfl⟩
  rw [← hLn] at hv hlc hN ⊢
  have HLN := Lib.hid hLn
  have HV := Lib.hid hv
  have HM := Lib.hid M
  have HFT := Lib.hid hft
  have HPL := Lib.hid hpl
  have HLA := Lib.hid hla
  clear hC hv hLn M hft hpl hla
  go_enter Tryd.func60, Tryd.ntmps60
  go_wp2_with fail
  obtain ⟨W1, hW1⟩ : ∃ W1, W1 = w.alloc (.cells #[.bool dir, .int .i64 mode, .slice none 0 0, .int .i64 time, .string name] 42) := ⟨_, rfl⟩
  rw [← hW1]
  have BW : Below w.heap.size w W1 := by rw [hW1]; exact below_alloc (Below.refl _ _) _
  have bn : W1.heap[w.heap.size]? = some (.cells #[.bool dir, .int .i64 mode, .slice none 0 0, .int .i64 time, .string name] 42 (0, 0)) := by rw [hW1]; exact blk_new _ _
  have hs1 : W1.heap.size = w.heap.size + 1 := by rw [hW1]; simp
  have HM1 := Lib.hid (HM.out.below BW)
  have c2 := HM1.out.c2
  rw [HV.out] at c2
  have n0 := blk_cell bn 0
  have n1 := blk_cell bn 1
  have n2 := blk_cell bn 2
  have n3 := blk_cell bn 3
  have n4 := blk_cell bn 4
  simp at n0 n1 n2 n3 n4
  have HNB := Lib.hid bn
  have HBW := Lib.hid BW
  have HBB := Lib.hid (show base ≤ W1.heap.size by omega)
  have HS1 := Lib.hid hs1
  have hS0 : (fun w' : World => w'.cell? ⟨m, 2, none⟩ = some (.slice A L c) ∧ w'.cell? ⟨w.heap.size, 0, none⟩ = some (.bool dir) ∧ w'.cell? ⟨w.heap.size, 1, none⟩ = some (.int .i64 mode) ∧ w'.cell? ⟨w.heap.size, 2, none⟩ = some (.slice none 0 0) ∧ w'.cell? ⟨w.heap.size, 3, none⟩ = some (.int .i64 time) ∧ w'.cell? ⟨w.heap.size, 4, none⟩ = some (.string name)) W1 := ⟨c2, n0, n1, n2, n3, n4⟩
  clear hW1 BW bn hs1
  refine Lw.wp_region_gate (S0 := fun w' => w'.cell? ⟨m, 2, none⟩ = some (.slice A L c) ∧ w'.cell? ⟨w.heap.size, 0, none⟩ = some (.bool dir) ∧ w'.cell? ⟨w.heap.size, 1, none⟩ = some (.int .i64 mode) ∧ w'.cell? ⟨w.heap.size, 2, none⟩ = some (.slice none 0 0) ∧ w'.cell? ⟨w.heap.size, 3, none⟩ = some (.int .i64 time) ∧ w'.cell? ⟨w.heap.size, 4, none⟩ = some (.string name)) (S1 := fun _ => True) (k := 10) (by kernel_rfl) ?_
  rw [show ({ W1 with drawn := W1.drawn + 1 } : World) = W1.drew from rfl]
  refine Lw.wpAnyL_take0 (i := 0) (v := ?_) rfl (by decide) (by kernel_rfl) (by kernel_rfl) (by kernel_rfl) (fun _ _ _ h => h) (Or.inl ⟨by rfl, ?_⟩) ⟨trivial, fun _ => hS0⟩ ?_
  rotate_left
  · (intro w _; go_simp; try with_reducible rfl)
  (try simp only [Act.put, List.setIfInBounds_toArray, List.set_cons_zero, List.set_cons_succ])
  refine Lw.wpAnyL_take0 (i := 1) (v := ?_) rfl (by decide) (by kernel_rfl) (by kernel_rfl) (by kernel_rfl) (fun _ _ _ h => h) (Or.inl ⟨by rfl, ?_⟩) ⟨trivial, fun _ => hS0⟩ ?_
  rotate_left
  · (intro w _; go_simp; try with_reducible rfl)
  (try simp only [Act.put, List.setIfInBounds_toArray, List.set_cons_zero, List.set_cons_succ])
  refine Lw.wpAnyL_take0 (i := 2) (v := ?_) rfl (by decide) (by kernel_rfl) (by kernel_rfl) (by kernel_rfl) (fun _ _ _ h => h) (Or.inl ⟨by rfl, ?_⟩) ⟨trivial, fun _ => hS0⟩ ?_
  rotate_left
  · (intro w _; go_simp; try with_reducible rfl)
  (try simp only [Act.put, List.setIfInBounds_toArray, List.set_cons_zero, List.set_cons_succ])
  refine Lw.wpAnyL_take0 (i := 3) (v := ?_) rfl (by decide) (by kernel_rfl) (by kernel_rfl) (by kernel_rfl) (fun _ _ _ h => h) (Or.inl ⟨by rfl, ?_⟩) ⟨trivial, fun _ => hS0⟩ ?_
  rotate_left
  · (intro w _; go_simp; try with_reducible rfl)
  (try simp only [Act.put, List.setIfInBounds_toArray, List.set_cons_zero, List.set_cons_succ])
  refine Lw.wpAnyL_take (i := 4) (v := ?_) rfl rfl (by kernel_rfl) (by kernel_rfl) (by kernel_rfl) (by kernel_rfl) (fun _ _ _ h => h) (Or.inl ⟨by rfl, ?_⟩) hS0 trivial ?_
  rotate_left
  · (intro w hw; obtain ⟨hw0, hw1, hw2, hw3, hw4, hw5⟩ := hw; go_simp; try with_reducible rfl)
  (try simp only [Act.put, List.setIfInBounds_toArray, List.set_cons_zero, List.set_cons_succ])
  refine Lw.wpAnyL_take (i := 5) (v := ?_) rfl rfl (by kernel_rfl) (by kernel_rfl) (by kernel_rfl) (by kernel_rfl) (fun _ _ _ h => h) (Or.inl ⟨by rfl, ?_⟩) hS0 trivial ?_
  rotate_left
  · (intro w hw; obtain ⟨hw0, hw1, hw2, hw3, hw4, hw5⟩ := hw; go_simp; try with_reducible rfl)
  (try simp only [Act.put, List.setIfInBounds_toArray, List.set_cons_zero, List.set_cons_succ])
  refine Lw.wpAnyL_one (i := 6) (by kernel_rfl) rfl (fun K hK => ?_)
  go_simp
  have BA : Below W1.heap.size W1 (W1.drew.alloc (.cells #[.bool dir, .int .i64 mode, .slice none 0 0, .int .i64 time, .string name] 42)) := below_alloc (below_drew (Below.refl _ _)) _
  refine hK.out _ _ ⟨trivial, fun _ => ⟨cellb c2 BA, cellb n0 BA, cellb n1 BA, cellb n2 BA, cellb n3 BA, cellb n4 BA⟩⟩ ?_
  (try simp only [Act.put, List.setIfInBounds_toArray, List.set_cons_zero, List.set_cons_succ])
  refine Lw.wpAnyL_one (i := 7) (by kernel_rfl) rfl (fun K hK => ?_)
  have HOl := Kd.R_mono (ok' := fun k => ft k ∨ W1.heap.size ≤ k) (Kd.R_below HM1.out.rD (below_drew (Below.refl W1.heap.size W1))) (fun k hk => .inl hk)
  rw [HV.out] at HOl
  refine Kd.R_append_step k42 (w0 := W1.drew) (W := W1.drew) base rfl _ _ 44 42 _ 64 rfl Tryd.underlying44 info42 rfl (by decide) (by decide) (.slice A L c) X.nodes ⟨dir, mode, [], time, name⟩ _ (fun k => ft k ∨ W1.heap.size ≤ k) (fun _ => False) rfl rfl (k42_mkM _ _ _ ⟨dir, mode, [], time, name⟩ (Kd.R_nil _ _ _ _ _)) (fun _ h => h.elim) (fun k hk => .inr hk) HOl (Below.refl _ _) HBB.out (by have := HLN.out; omega) ?_
  intro v3 w3 r3 _ g3 _
  obtain ⟨A3, c3, e3, _, _⟩ := Kd.R_reads r3
  subst e3
  have MV : Moves (fun k => some k = vD.ownBlock) W1 w3 := (Moves.of_below (below_drew (Below.refl W1.heap.size W1)) _).grown g3 (fun k hk => .inl (by rw [HV.out]; exact hk.symm))
  have R3 := Lib.hid r3
  have hm3 := MV.blk HM1.out.blk (fun e => Kd.R_ne HM1.out.rD HM1.out.blk (by decide) e)
  have hn3 := MV.blk HNB.out (fun e => absurd (HFT.out _ (HM1.out.rD.1 _ e.symm)) (by omega))
  have k3 := blk_cell hm3 2
  have zm := blk_frozen hm3
  have y0 := blk_cell hn3 0
  have y1 := blk_cell hn3 1
  have y2 := blk_cell hn3 2
  have y3 := blk_cell hn3 3
  have y4 := blk_cell hn3 4
  simp [HV.out] at k3 y0 y1 y2 y3 y4
  clear r3 HOl
  refine hK.out _ _ ⟨trivial, fun _ => ⟨k3, y0, y1, y2, y3, y4⟩⟩ ?_
  (try simp only [Act.put, List.setIfInBounds_toArray, List.set_cons_zero, List.set_cons_succ])
  refine Lw.wpAnyL_take0 (i := 8) (v := ?_) rfl (by decide) (by kernel_rfl) (by kernel_rfl) (by kernel_rfl) (fun _ _ _ h => h) (Or.inl ⟨by rfl, ?_⟩) ⟨trivial, fun _ => ⟨k3, y0, y1, y2, y3, y4⟩⟩ ?_
  rotate_left
  · (intro w _; go_simp; try with_reducible rfl)
  (try simp only [Act.put, List.setIfInBounds_toArray, List.set_cons_zero, List.set_cons_succ])
  refine Lw.wpAnyL_take0 (i := 9) (v := ?_) rfl (by decide) (by kernel_rfl) (by kernel_rfl) (by kernel_rfl) (fun _ _ _ h => h) (Or.inl ⟨by rfl, ?_⟩) ⟨trivial, fun _ => ⟨k3, y0, y1, y2, y3, y4⟩⟩ ?_
  rotate_left
  · (intro w _; go_simp; try with_reducible rfl)
  (try simp only [Act.put, List.setIfInBounds_toArray, List.set_cons_zero, List.set_cons_succ])
  refine Lw.wpAnyL_one (i := 10) (by kernel_rfl) rfl (fun K hK => ?_)
  go_simp
  refine hK.out _ _ ⟨trivial, fun h => absurd h (by simp)⟩ ?_
  (try simp only [Act.put, List.setIfInBounds_toArray, List.set_cons_zero, List.set_cons_succ])
  refine Lw.wpAnyL_done (by kernel_rfl) ?_ _
  obtain ⟨W3, hW3⟩ : ∃ W3, W3 = w3.setCell ⟨m, 2, none⟩ (.slice A3 (X.nodes.length + 1) c3) := ⟨_, rfl⟩
  try rw [← hW3]
  have r3 : k42.R 42 w3 base (fun k => ft k ∨ W1.heap.size ≤ k) (.slice A3 (X.nodes.length + 1) c3) (X.nodes ++ [⟨dir, mode, [], time, name⟩]) := by
    have h9 := R3.out
    simp only [List.length_append, List.length_singleton] at h9
    exact h9
  have M1 := IsMem.new2 HM1.out MV r3
  rw [← hW3] at M1
  have s1 := MV.size
  have hs3 : W3.heap.size = w3.heap.size := by rw [hW3]; simp [World.setCell]
  have c2 := M1.c2
  have hft1 : ∀ k, grew ft W1 w3 k → k < W3.heap.size := fun k hk => hk.elim (fun h => by have := HFT.out k h; have := HS1.out; omega) (fun h => by omega)
  have HPU := Lib.hid (put_last M1 hft1 (by have := HBB.out; omega) name (X.nodes.length : Int) HPL.out HLA.out hL)
  have MV3 : Moves ft w W3 := by rw [hW3]; exact Moves.setCell (p := ⟨m, 2, none⟩) ((Moves.of_below HBW.out ft).then_ MV (fun k hk => .inl (HM.out.rD.1 k hk.symm))) (.inl HM.out.ftm.1) _
  have HMV3 := Lib.hid MV3
  have HS3 := Lib.hid hs3
  have HS13 := Lib.hid s1
  have hlen : (((X.nodes.length + 1 : Nat) : Int)) = (L : Int) + 1 := by have := HLN.out; omega
  rw [← HLN.out] at c2 HPU
  try rw [← HLN.out]
  clear hW3 r3 M1 MV3 hs3 hft1 s1 R3 k3 zm hm3 hn3 y0 y1 y2 y3 y4 n0 n1 n2 n3 n4 MV g3 BA hlen hS0
  go_wp2_with (first | (go_at_call 95; (refine (HPU.out).mono ?_); rintro e w6 ⟨vN6, vA6, rfl, M6, MV6⟩; have c2 := M6.c2; have M6' := Lib.hid M6; have MV6' := Lib.hid MV6; clear M6 MV6))
  go_ret
  have s0 := HS1.out
  have s1 := HS13.out
  have s3 := HS3.out
  have s6 := MV6'.out.size
  refine ⟨vN6, vA6, _, rfl, IsMem.mono M6'.out (fun k hk => ?_), HMV3.out.then_ MV6'.out (fun k hk => ?_)⟩
  · rcases hk with (hk | ⟨h1, h2⟩) | ⟨h1, h2⟩
    · exact .inl hk
    · exact .inr ⟨by omega, by omega⟩
    · exact .inr ⟨by omega, by omega⟩
  · rcases hk with hk | ⟨h1, h2⟩
    · exact .inl hk
    · exact .inr (by omega)
theorem par_ok (s : ByteArray) (hs : s.size ≤ 1000000) (w : World) : Calls Tryd.prog 94 #[.string s] w fun e w' => e = .returned (.string (memParent s)) ∧ w = w' := par_any s w (by omega)
set_option maxHeartbeats 1000000 in
theorem parents_there (M : IsMem w base ft m vN vA vD mb n f X) (G : MGood X) (name : ByteArray) (hs : name.size ≤ 1000000) (perm : Int) (hp : (memFind X (memParent name)).2 = true) :
    Calls Tryd.prog 59 #[.pointer (some ⟨m, 0, none⟩), .string name, .int .i64 perm] w fun e w' => e = .returned (.tuple #[]) ∧ w = w' := by
  have HM := Lib.hid (par_ok name hs w)
  have HF := Lib.hid (find_any M G (memParent name))
  rw [hp] at HF
  generalize (memFind X (memParent name)).1 = i at *
  clear M G hp
  go_enter Tryd.func59, Tryd.ntmps59
  go_wp2_with (first | (go_at_call 94; (refine (HM.out).mono ?_); rintro e w1 ⟨rfl, rfl⟩) | (go_at_call 58; (refine (HF.out).mono ?_); rintro e w1 ⟨rfl, rfl⟩))
  refine bodyPost_end (v := .tuple #[]) (by simp [results, Tryd.results59, go_sem]) rfl ?_
  exact ⟨rfl, rfl⟩
theorem IsMem.join {w1 : World} (M : IsMem w base ft m vN vA vD mb n f X) {kl : Lit} (hkl : WideAt.IsKeyLit kl) {g : Nat} (h : SHnd) (hg : w1.heap[g]? = some (.cells (shcs h) 49 (0, 0))) (hng : ¬ ft g) (hb : base ≤ g) (pm : PMap Tryd.prog 3 w1 mb (n + 1) (upK f kl (some g))) (hgr : w.grownBy w1 (some mb)) :
    IsMem w1 base (fun k => ft k ∨ k = g) m vN vA vD mb (n + 1) (upK f kl (some g)) ⟨X.names, X.ats, X.nodes, upS X.hs kl h⟩ := by
  obtain ⟨es, cl, hob⟩ := M.pm.isObj
  have ne : ∀ {k : Nat} {cs : Array Value} {t : TypeId}, w.heap[k]? = some (.cells cs t (0, 0)) → some k ≠ some mb := fun hk e => by
    injection e with e
    rw [e, hob] at hk
    cases hk
  refine ⟨(hgr.block m (blk_lt M.blk) (ne M.blk)).trans M.blk, ⟨.inl M.ftm.1, M.ftm.2⟩, ?_, ?_, ?_, pm, ⟨.inl M.ftb.1, M.ftb.2⟩, fun x hx => ?_, fun k1 k2 g' hk1 hk2 h1 h2 => ?_⟩
  · exact Kd.R_mono (Kd.R_step (Kd.R_bound M.rN) (fun k hk hlt => hgr.block k hlt (by obtain ⟨_, _, _, q, _, cells, hc⟩ := hk; exact ne hc))) (fun k hk => .inl hk.1)
  · exact Kd.R_mono (Kd.R_step (Kd.R_bound M.rA) (fun k hk hlt => hgr.block k hlt (by obtain ⟨_, _, _, q, _, cells, hc⟩ := hk; exact ne hc))) (fun k hk => .inl hk.1)
  · exact Kd.R_mono (Kd.R_step (Kd.R_bound M.rD) (fun k hk hlt => hgr.block k hlt (by obtain ⟨_, _, _, q, _, cells, hc⟩ := hk; exact ne hc))) (fun k hk => .inl hk.1)
  · by_cases e : x = kl
    · subst e
      rw [upK_same]
      show HndAt _ _ _ _ (upS X.hs x h x)
      rw [upS_same]
      exact ⟨h, rfl, hg, .inr rfl, hb⟩
    · rw [upK_other _ e]
      show HndAt _ _ _ _ (upS X.hs kl h x)
      rw [upS_other _ e]
      have := M.hnd x hx
      cases hfx : f x with
      | none => rw [hfx] at this; exact this
      | some g2 =>
        rw [hfx] at this
        obtain ⟨h2, e2, hb2, h3, h4⟩ := this
        exact ⟨h2, e2, (hgr.block g2 (blk_lt hb2) (ne hb2)).trans hb2, .inl h3, h4⟩
  · have old : ∀ x, WideAt.IsKeyLit x → x ≠ kl → f x = some g' → ft g' := fun x hx _ hfx => by
      have := M.hnd x hx
      rw [hfx] at this
      obtain ⟨_, _, _, h3, _⟩ := this
      exact h3
    by_cases e1 : k1 = kl
    · by_cases e2 : k2 = kl
      · rw [e1, e2]
      · rw [e1, upK_same] at h1
        rw [upK_other _ e2] at h2
        injection h1 with h1
        exact absurd (old k2 hk2 e2 h2) (by rw [← h1]; exact hng)
    · rw [upK_other _ e1] at h1
      by_cases e2 : k2 = kl
      · rw [e2, upK_same] at h2
        injection h2 with h2
        exact absurd (old k1 hk1 e1 h1) (by rw [← h2]; exact hng)
      · rw [upK_other _ e2] at h2
        exact M.inj k1 k2 g' hk1 hk2 h1 h2
def OpenPost (w : World) (base : Nat) (ft : Nat → Prop) (m : Nat) (mb n : Nat) (f : Lit → Option Nat) (kl : Lit) (X' : SMem) (e : Ending) (w' : World) : Prop :=
  ∃ vN vA vD g, e = .returned (.agg #[.int .i64 0, .int .i64 0, .int .i64 0, .slice none 0 0, .slice none 0 0, .slice none 0 0]) ∧ IsMem w' base (grew ft w w') m vN vA vD mb (n + 1) (upK f kl (some g)) X' ∧ Moves ft w w' ∧ w.heap.size ≤ g
set_option maxHeartbeats 4000000 in
set_option maxRecDepth 100000 in
theorem open_create (M : IsMem w base ft m vN vA vD mb n f X) (G : MGood X) (hft : ∀ k, ft k → k < w.heap.size) (hbase : base ≤ w.heap.size) (i : Int) (hki : (Lit.int .i64 i).wf = true) (hn : n < 1000) (nm ot : ByteArray) (fl pe hh off wh N : Int) (hnm : nm.size ≤ 10000) (name : ByteArray) (hname : memName nm = name) (hsz : name.size ≤ 10000) (hpl : placeAt name X.names = (X.names.length, false)) (hp : (memFind X (memParent name)).2 = true) :
    Calls Tryd.prog 32 #[.pointer (some ⟨m, 0, none⟩), .int .i64 i, .agg #[.int .i64 0, .string nm, .string ot, .int .i64 fl, .int .i64 pe, .int .i64 hh, .slice none 0 0, .int .i64 off, .int .i64 wh, .int .i64 N]] w (OpenPost w base ft m mb n f (keyI i) ⟨X.names ++ [name], X.ats ++ [(X.nodes.length : Int)], X.nodes ++ [⟨false, 268435456, [], 0, name⟩], upS X.hs (keyI i) ⟨X.nodes.length, 0, 0, false, false⟩⟩) := by
  have hfd : memFind X name = (0, false) := by unfold memFind; rw [hpl]; rfl
  have HN := Lib.hid (fun W => memName_any nm (by omega) W)
  rw [hname] at HN
  have HF := Lib.hid (fun W (hb : Below w.heap.size w W) => find_any (M.below hb) G name)
  rw [hfd] at HF
  have HP := Lib.hid (fun W (hb : Below w.heap.size w W) => parents_there (M.below hb) G name (by omega) 0 hp)
  have HA := Lib.hid (fun W (hb : Below w.heap.size w W) => add_last (M.below hb) (fun k hk => Nat.lt_of_lt_of_le (hft k hk) hb.size) (Nat.le_trans hbase hb.size) name false 268435456 0 ⟨#[]⟩ hpl G.len.symm G.small G.nsmall)
  have HM := Lib.hid M
  have HFT := Lib.hid hft
  clear M G hft hpl hp hname hfd
  go_enter Tryd.func32, Tryd.ntmps32
  go_upto_region 2 with (first | (go_at_call 57; (refine (HN.out _).mono ?_); rintro e w1 ⟨rfl, hb1⟩; have B1 := Lib.hid hb1; clear hb1))
  have b1 : w1.heap[w.heap.size]? = some (.cells #[.int .i64 0, .string nm, .string ot, .int .i64 fl, .int .i64 pe, .int .i64 hh, .slice none 0 0, .int .i64 off, .int .i64 wh, .int .i64 N] 26 (0, 0)) := blk_below (blk_alloc (blk_new _ _) _) B1.out
  have b2 : w1.heap[w.heap.size + 1]? = some (.cells #[.int .i64 0, .int .i64 0, .int .i64 0, .slice none 0 0, .slice none 0 0, .slice none 0 0] 33 (0, 0)) := blk_below (blk_at_ (by simp)) B1.out
  have BW := below_then (below_alloc (below_alloc (Below.refl w.heap.size w) _) _) (Nat.le_of_lt (by simp; omega)) B1.out
  have hs1 := B1.out.size
  simp at hs1
  have k0 := blk_cell b1 0
  simp at k0
  have HB := Lib.hid BW
  have HO := Lib.hid b2
  have HSB := Lib.hid b1
  have HS1 := Lib.hid (show w.heap.size + 2 ≤ w1.heap.size by omega)
  clear b1 b2 BW B1 hs1
  go_upto_region 4 with (first | (go_at_call 58; (refine (HF.out _ HB.out).mono ?_); rintro e w2 ⟨rfl, rfl⟩))
  obtain ⟨W2, hW2⟩ : ∃ W2, W2 = w1.alloc (.cells #[.int .i64 0, .int .i64 0, .int .i64 0, .bool false, .bool false] 49) := ⟨_, rfl⟩
  try rw [← hW2]
  have b12 : Below w1.heap.size w1 W2 := by rw [hW2]; exact below_alloc (Below.refl _ _) _
  have bh : W2.heap[w1.heap.size]? = some (.cells #[.int .i64 0, .int .i64 0, .int .i64 0, .bool false, .bool false] 49 (0, 0)) := by rw [hW2]; exact blk_new _ _
  have hs2 : W2.heap.size = w1.heap.size + 1 := by rw [hW2]; simp
  have k0 := cellb k0 b12
  have HB2 := Lib.hid (below_then HB.out HB.out.size b12)
  have HO2 := Lib.hid (blk_below HO.out b12)
  have HS2 := Lib.hid hs2
  obtain ⟨g, hg⟩ : ∃ g, g = w1.heap.size := ⟨_, rfl⟩
  try rw [← hg]
  rw [← hg] at bh
  have HH := Lib.hid bh
  have HG := Lib.hid hg
  clear hW2 b12 bh hs2 hg
  have n9 : ¬ (g = m) := fun e => by have h8 := HG.out; have h9 := HS1.out; have h7 := blk_lt HM.out.blk; omega
  have n10 : ¬ (m = g) := fun e => n9 e.symm
  have n5 : ¬ (w.heap.size = g) := by have := HG.out; have := HS1.out; omega
  have n6 : ¬ (g = w.heap.size) := by omega
  have n7 : ¬ (w.heap.size + 1 = g) := by have := HG.out; have := HS1.out; omega
  have n8 : ¬ (g = w.heap.size + 1) := by omega
  go_wp2_with (first | (go_at_call 59; (refine (HP.out _ HB2.out).mono ?_); rintro e w2 ⟨rfl, rfl⟩) | (go_at_call 60; (refine (HA.out _ HB2.out).mono ?_); rintro e w3 ⟨vN3, vA3, vD3, rfl, M3, MV3⟩; have hbh := MV3.blk HH.out (fun hk => by have := HFT.out _ hk; have := HG.out; have := HS1.out; omega); have hbo := MV3.blk HO2.out (fun hk => by have := HFT.out _ hk; omega); have q0 := blk_cell hbh 0; have c3 := M3.c3; have zh := blk_frozen hbh; simp at q0; have HM3 := Lib.hid M3; have HMV3 := Lib.hid MV3; have HBH := Lib.hid hbh; have HBO := Lib.hid hbo; clear M3 MV3 hbh hbo k0; have hng : ¬ grew ft W2 w3 g := fun hk => hk.elim (fun hk => by have h8 := HFT.out _ hk; have h9 := HG.out; have h7 := HS1.out; omega) (fun hk => by have h8 := HG.out; have h9 := HS2.out; omega); have M4 := IsMem.far HM3.out (p := ⟨g, 0, none⟩) hng (.int .i64 (X.nodes.length : Int)); obtain ⟨W5, hput, pm5, hg5⟩ := PMap.put M4.pm (int_keyed Tryd.underlying3) Tryd.underlying45 (Nat.lt_trans hn (by decide)) (key := .int .i64 i) (keyOf_int_mk Tryd.underlying3 hki) trivial g; have hmb : mb < w.heap.size := HM.out.pm.lt; have hbo5 := blk_grown (blk_far (p := ⟨g, 0, none⟩) HBO.out n7 (.int .i64 (X.nodes.length : Int))) hg5 (fun e => by injection e with e; omega); have r0 := blk_cell hbo5 0; have r1 := blk_cell hbo5 1; have r2 := blk_cell hbo5 2; have r3 := blk_cell hbo5 3; have r4 := blk_cell hbo5 4; have r5 := blk_cell hbo5 5; have zr := blk_frozen hbo5; simp at r0 r1 r2 r3 r4 r5; have PM5 := Lib.hid pm5; have HG5 := Lib.hid hg5; have HM4 := Lib.hid M4; clear pm5 hg5 M4 hbo5 hng hmb))
  refine bodyPost_ret (v := .agg #[.int .i64 0, .int .i64 0, .int .i64 0, .slice none 0 0, .slice none 0 0, .slice none 0 0]) (by simp [results, Tryd.results32, go_sem, r0, r1, r2, r3, r4, r5]) rfl ?_
  have h1 := HS1.out
  have h2 := HS2.out
  have h3 := HG.out
  have s3 := HMV3.out.size
  have s5 := HG5.out.size
  have s4 : (w3.setCell ⟨g, 0, none⟩ (.int .i64 (X.nodes.length : Int))).heap.size = w3.heap.size := by simp [World.setCell]
  have hmb : mb < w.heap.size := HM.out.pm.lt
  have hnf : ∀ k, w.heap.size ≤ k → k < W2.heap.size → ¬ grew ft W2 w3 k := fun k hk hk2 h => h.elim (fun h => by have := HFT.out _ h; omega) (fun h => by omega)
  have hgb : W5.heap[g]? = some (.cells (shcs ⟨X.nodes.length, 0, 0, false, false⟩) 49 (0, 0)) := blk_grown (blk_put HBH.out 0 (.int .i64 (X.nodes.length : Int)) rfl) HG5.out (fun e => by injection e with e; omega)
  have M5 := IsMem.join HM4.out (kl := keyI i) trivial ⟨X.nodes.length, 0, 0, false, false⟩ hgb (hnf g (by omega) (by omega)) (by omega) PM5.out HG5.out
  have hnr : ¬ (grew ft W2 w3 (w.heap.size + 1) ∨ w.heap.size + 1 = g) := fun h => h.elim (hnf _ (by omega) (by omega)) n7
  have MV5 : Moves ft w W5 := ((((Moves.of_below HB2.out ft).then_ HMV3.out (fun k hk => .inl hk)).setCell (p := ⟨g, 0, none⟩) (.inr (show w.heap.size ≤ g by omega)) (.int .i64 (X.nodes.length : Int))).grown HG5.out (fun k hk => .inl (by injection hk with hk; rw [← hk]; exact HM.out.ftb.1)))
  refine ⟨vN3, vA3, vD3, g, rfl, IsMem.mono (ft := fun k => grew ft W2 w3 k ∨ k = g) ?_ (fun k hk => ?_), ?_, by omega⟩
  · repeat (first | with_reducible exact M5 | with_reducible refine IsMem.far (p := ⟨w.heap.size + 1, _, none⟩) ?_ hnr _)
  · have hz : k < W5.heap.size → k < ((((((W5.setCell ⟨w.heap.size + 1, 0, none⟩ (.int .i64 0)).setCell ⟨w.heap.size + 1, 1, none⟩ (.int .i64 0)).setCell ⟨w.heap.size + 1, 2, none⟩ (.int .i64 0)).setCell ⟨w.heap.size + 1, 3, none⟩ (.slice none 0 0)).setCell ⟨w.heap.size + 1, 4, none⟩ (.slice none 0 0)).setCell ⟨w.heap.size + 1, 5, none⟩ (.slice none 0 0)).heap.size := fun h => Nat.lt_of_lt_of_eq h (by simp [World.setCell])
    rcases hk with (hk | ⟨h8, h9⟩) | hk
    · exact .inl hk
    · exact .inr ⟨by omega, hz (by omega)⟩
    · exact .inr ⟨by omega, hz (by omega)⟩
  · repeat (first | with_reducible exact MV5 | with_reducible refine Moves.setCell (p := ⟨w.heap.size + 1, _, none⟩) ?_ (.inr (Nat.le_succ _)) _)
end
end Go.Proofs.YtljcdjggjphedaaDoor.Mi
namespace Go.Proofs.YtljcdjggjphedaaDoor.Me
open Go.RowKit Go.Maps Go.Proofs.YtljcdjggjphedaaDoorW.PrintWords Go.Proofs.YtljcdjggjphedaaDoorW.PrintLast Go.Proofs.YtljcdjggjphedaaDoorW.PrintMore Go.Proofs.YtljcdjggjphedaaDoor.PFnHandleScript Go.Proofs.YtljcdjggjphedaaDoor.Hd Go.Proofs.YtljcdjggjphedaaDoor.Ms Go.Proofs.YtljcdjggjphedaaDoor.Mn Go.Proofs.YtljcdjggjphedaaDoor.Pm Go.Proofs.YtljcdjggjphedaaDoor.Mf Go.Proofs.YtljcdjggjphedaaDoor.Mq Go.Proofs.YtljcdjggjphedaaDoor.Bq Go.Proofs.YtljcdjggjphedaaDoor.Mr Go.Proofs.YtljcdjggjphedaaDoor.Mt Go.Proofs.YtljcdjggjphedaaDoor.Mu Go.Proofs.YtljcdjggjphedaaDoor.Mv Go.Proofs.YtljcdjggjphedaaDoor.Ml Go.Proofs.YtljcdjggjphedaaDoor.Mw Go.Proofs.YtljcdjggjphedaaDoor.Mx Go.Proofs.YtljcdjggjphedaaDoor.Lw Go.Proofs.YtljcdjggjphedaaDoor.Mp Go.Proofs.YtljcdjggjphedaaDoor.Mi
set_option linter.unusedVariables false
set_option linter.unusedSimpArgs false
section
variable {w : World} {base : Nat} {ft : Nat → Prop} {m : Nat} {vN vA vD : Value} {mb n : Nat} {f : Lit → Option Nat} {X : SMem}
set_option maxHeartbeats 4000000 in
set_option maxRecDepth 100000 in
theorem do_create (M : IsMem w base ft m vN vA vD mb n f X) (G : MGood X) (hft : ∀ k, ft k → k < w.heap.size) (hbase : base ≤ w.heap.size) (i : Int) (hki : (Lit.int .i64 i).wf = true) (hn : n < 1000) (nm ot : ByteArray) (fl pe hh off wh N : Int) (hnm : nm.size ≤ 10000) (name : ByteArray) (hname : memName nm = name) (hsz : name.size ≤ 10000) (hpl : placeAt name X.names = (X.names.length, false)) (hp : (memFind X (memParent name)).2 = true) :
    Calls Tryd.prog 16 #[.pointer (some ⟨m, 0, none⟩), .int .i64 i, .agg #[.int .i64 0, .string nm, .string ot, .int .i64 fl, .int .i64 pe, .int .i64 hh, .slice none 0 0, .int .i64 off, .int .i64 wh, .int .i64 N]] w (OpenPost w base ft m mb n f (keyI i) ⟨X.names ++ [name], X.ats ++ [(X.nodes.length : Int)], X.nodes ++ [⟨false, 268435456, [], 0, name⟩], upS X.hs (keyI i) ⟨X.nodes.length, 0, 0, false, false⟩⟩) := by
  have HO := Lib.hid (fun W (hb : Below w.heap.size w W) => open_create (M.below hb) G (fun k hk => Nat.lt_of_lt_of_le (hft k hk) hb.size) (Nat.le_trans hbase hb.size) i hki hn nm ot fl pe hh off wh N hnm name hname hsz hpl hp)
  have HFT := Lib.hid hft
  generalize (⟨X.names ++ [name], X.ats ++ [(X.nodes.length : Int)], X.nodes ++ [⟨false, 268435456, [], 0, name⟩], upS X.hs (keyI i) ⟨X.nodes.length, 0, 0, false, false⟩⟩ : SMem) = X' at *
  clear M G hft hname hpl hp
  go_enter Tryd.func16, Tryd.ntmps16
  go_upto_region 1 with (fail)
  obtain ⟨W1, hW1⟩ : ∃ W1, W1 = (w.alloc (.cells #[.int .i64 0, .string nm, .string ot, .int .i64 fl, .int .i64 pe, .int .i64 hh, .slice none 0 0, .int .i64 off, .int .i64 wh, .int .i64 N] 26)).alloc (.cells #[.int .i64 0, .int .i64 0, .int .i64 0, .slice none 0 0, .slice none 0 0, .slice none 0 0] 33) := ⟨_, rfl⟩
  rw [← hW1]
  have BW : Below w.heap.size w W1 := by rw [hW1]; exact below_alloc (below_alloc (Below.refl _ _) _) _
  have b1 : W1.heap[w.heap.size]? = some (.cells #[.int .i64 0, .string nm, .string ot, .int .i64 fl, .int .i64 pe, .int .i64 hh, .slice none 0 0, .int .i64 off, .int .i64 wh, .int .i64 N] 26 (0, 0)) := by rw [hW1]; exact blk_alloc (blk_new _ _) _
  have b2 : W1.heap[w.heap.size + 1]? = some (.cells #[.int .i64 0, .int .i64 0, .int .i64 0, .slice none 0 0, .slice none 0 0, .slice none 0 0] 33 (0, 0)) := by rw [hW1]; exact blk_at_ (by simp)
  have hsz2 : W1.heap.size = w.heap.size + 2 := by rw [hW1]; simp
  have k0 := blk_cell b1 0
  have k1 := blk_cell b1 1
  have k2 := blk_cell b1 2
  have k3 := blk_cell b1 3
  have k4 := blk_cell b1 4
  have k5 := blk_cell b1 5
  have k6 := blk_cell b1 6
  have k7 := blk_cell b1 7
  have k8 := blk_cell b1 8
  have k9 := blk_cell b1 9
  simp at k0 k1 k2 k3 k4 k5 k6 k7 k8 k9
  have HB := Lib.hid BW
  have HO2 := Lib.hid b2
  have HS := Lib.hid hsz2
  clear BW b1 b2 hW1 hsz2
  go_wp2_with (first | (go_at_call 32; (refine (HO.out _ HB.out).mono ?_); rintro e w1 ⟨vN1, vA1, vD1, g, rfl, E1, mv, hgl⟩; have b3 := mv.blk HO2.out (show ¬ ft (w.heap.size + 1) from fun hk => by have := HFT.out _ hk; omega); have q0 := blk_cell b3 0; have q1 := blk_cell b3 1; have q2 := blk_cell b3 2; have q3 := blk_cell b3 3; have q4 := blk_cell b3 4; have q5 := blk_cell b3 5; have zq := blk_frozen b3; simp at q0 q1 q2 q3 q4 q5; have E1 := Lib.hid E1; have MV := Lib.hid mv; have HGL := Lib.hid hgl; clear mv hgl b3))
  refine bodyPost_ret (v := .agg #[.int .i64 0, .int .i64 0, .int .i64 0, .slice none 0 0, .slice none 0 0, .slice none 0 0]) (by simp [results, Tryd.results16, go_sem, q0, q1, q2, q3, q4, q5]) rfl ?_
  have h2 := HS.out
  have s1 := MV.out.size
  have hnf : ¬ ft (w.heap.size + 1) := fun h => by have := HFT.out _ h; omega
  have hnr : ¬ grew ft W1 w1 (w.heap.size + 1) := fun h => h.elim hnf (fun h => by omega)
  have MV2 := (Moves.of_below HB.out ft).then_ MV.out (fun k hk => .inl hk)
  have E2 := E1.out
  refine ⟨vN1, vA1, vD1, g, rfl, IsMem.mono (ft := grew ft W1 w1) ?_ (fun k hk => ?_), ?_, by have := HGL.out; omega⟩
  · repeat (first | with_reducible exact E2 | with_reducible refine IsMem.far (p := ⟨w.heap.size + 1, _, none⟩) ?_ hnr _)
  · have hz : k < w1.heap.size → k < ((((((w1.setCell ⟨w.heap.size + 1, 0, none⟩ (.int .i64 0)).setCell ⟨w.heap.size + 1, 1, none⟩ (.int .i64 0)).setCell ⟨w.heap.size + 1, 2, none⟩ (.int .i64 0)).setCell ⟨w.heap.size + 1, 3, none⟩ (.slice none 0 0)).setCell ⟨w.heap.size + 1, 4, none⟩ (.slice none 0 0)).setCell ⟨w.heap.size + 1, 5, none⟩ (.slice none 0 0)).heap.size := fun h => Nat.lt_of_lt_of_eq h (by simp [World.setCell])
    rcases hk with hk | ⟨h8, h9⟩
    · exact .inl hk
    · exact .inr ⟨by omega, hz h9⟩
  · repeat (first | with_reducible exact MV2 | with_reducible refine Moves.setCell (p := ⟨w.heap.size + 1, _, none⟩) ?_ (.inr (Nat.le_succ _)) _)
theorem upS_twice (hs : Lit → Option SHnd) (kl : Lit) (h h' : SHnd) : upS (upS hs kl h) kl h' = upS hs kl h' := by
  funext x
  unfold upS
  split <;> rfl
def slashf : ByteArray := ⟨#[47, 102]⟩
noncomputable def XF (data : List Int) (ro : Bool) : SMem := ⟨[⟨#[47]⟩, slashf], [0, 1], [rootNode, ⟨false, 268435456, data, 0, slashf⟩], upS (fun _ => none) (keyI 0) ⟨1, 0, 0, false, ro⟩⟩
theorem X0_good : MGood X0 := ⟨rfl, by decide, by decide, fun x hx => by simp [X0] at hx; subst hx; decide, fun i x hx => by
  match i with
  | 0 => injection hx with hx; subst hx; decide
  | i + 1 => simp [X0] at hx⟩
theorem name_f : memName slashf = slashf := by decide +kernel
theorem place_f : placeAt slashf X0.names = (X0.names.length, false) := by decide +kernel
theorem par_f : (memFind X0 (memParent slashf)).2 = true := by decide +kernel
def OnePost (w : World) (data : List Int) (ro : Bool) (e : Ending) (w' : World) : Prop :=
  ∃ m g vN vA vD mb, e = .returned (.tuple #[.pointer (some ⟨m, 0, none⟩), .pointer (some ⟨g, 0, none⟩)]) ∧ IsMem w' w.heap.size (fun k => w.heap.size ≤ k ∧ k < w'.heap.size) m vN vA vD mb 1 (upK (fun _ => none) (keyI 0) (some g)) (XF data ro) ∧ Below w.heap.size w w'
set_option maxHeartbeats 4000000 in
set_option maxRecDepth 100000 in
theorem one_any (w : World) (data : List Int) (ro : Bool) (A : Option Addr) (c : Nat) (hC : (Kd.int .u8).C w A data.length data) (hl : data.length ≤ 1000000) :
    Calls Tryd.prog 15 #[.slice A data.length c, .bool ro] w (OnePost w data ro) := by
  have HC := Lib.hid hC
  have HN := Lib.hid (fun W => new_any W)
  clear hC
  go_enter Tryd.func15, Tryd.ntmps15
  go_upto_region 2 with (first | (go_at_call 31; (refine (HN.out _).mono ?_); rintro e w1 ⟨m, vN, vA, vD, mb, rfl, M1, B1⟩; have HM1 := Lib.hid M1; have HB1 := Lib.hid B1; clear M1 B1))
  have HD := Lib.hid (do_create HM1.out X0_good (fun k hk => hk.2) HB1.out.size 0 (by decide) (by decide) slashf ⟨#[]⟩ 0 0 0 0 0 0 (by decide) slashf name_f (by decide) place_f par_f)
  go_upto_region 3 with (first | (go_at_call 16; (refine (HD.out).mono ?_); rintro e w2 ⟨vN2, vA2, vD2, g, rfl, M2, MV2, hgl⟩; have HM2 := Lib.hid M2; have HMV2 := Lib.hid MV2; have HGL := Lib.hid hgl; clear M2 MV2 hgl))
  have c3 := HM2.out.c3
  have L1 := look_any HM2.out 0 (by decide)
  rw [upK_same] at L1
  simp only [ptrV] at L1
  go_upto_region 4 with (fail)
  obtain ⟨gd, cap, A2, c2', hv, hlc, hgd, p0, p1, p2, p3, p4, l2, g2, pz, ncs, hnb⟩ := node_at HM2.out 1 (by decide)
  have hv : vD2 = .slice (some ⟨gd, 0, none⟩) 2 cap := hv
  have c2 := HM2.out.c2
  rw [hv] at c2
  have HV := Lib.hid hv
  have HPZ := Lib.hid (show ∀ j, w2.frozen? ⟨gd, 5 + j, none⟩ = false from fun j => pz j)
  have p2 : w2.cell? ⟨gd, 7, none⟩ = some (.slice A2 _ c2') := p2
  have HNB := Lib.hid hnb
  have HLG := Lib.hid (show gd < w2.heap.size from blk_lt hnb)
  have hh := HM2.out.hnd (keyI 0) trivial
  rw [upK_same] at hh
  obtain ⟨h', eh, hgb, hgf, hgl2⟩ := hh
  replace eh := (upS_same _ _ _).symm.trans eh
  injection eh with eh
  subst eh
  have n0 : w2.cell? ⟨g, 0, none⟩ = some (.int .i64 1) := blk_cell hgb 0
  have HGB := Lib.hid hgb
  have HBW2 := Lib.hid (HMV2.out.toBelow (B := w.heap.size) HB1.out HB1.out.size (fun k hk => hk.1))
  clear hv hlc hgd p0 p1 p3 p4 l2 g2 pz hnb hgb hgf hgl2 L1 c3
  have hS0 : (fun w' : World => w'.cell? ⟨m, 2, none⟩ = some (.slice (some ⟨gd, 0, none⟩) 2 cap) ∧ w'.cell? ⟨g, 0, none⟩ = some (.int .i64 1)) w2 := ⟨c2, n0⟩
  refine Lw.wp_region_gate (S0 := fun w' => w'.cell? ⟨m, 2, none⟩ = some (.slice (some ⟨gd, 0, none⟩) 2 cap) ∧ w'.cell? ⟨g, 0, none⟩ = some (.int .i64 1)) (S1 := fun _ => True) (k := 13) (by kernel_rfl) ?_
  rw [show ({ w2 with drawn := w2.drawn + 1 } : World) = w2.drew from rfl]
  refine Lw.wpAnyL_take0 (i := 0) (v := ?_) rfl (by decide) (by kernel_rfl) (by kernel_rfl) (by kernel_rfl) (fun _ _ _ h => h) (Or.inl ⟨by rfl, ?_⟩) ⟨trivial, fun _ => hS0⟩ ?_
  rotate_left
  · (intro w _; go_simp; try with_reducible rfl)
  (try simp only [Act.put, List.setIfInBounds_toArray, List.set_cons_zero, List.set_cons_succ])
  refine Lw.wpAnyL_take0 (i := 1) (v := ?_) rfl (by decide) (by kernel_rfl) (by kernel_rfl) (by kernel_rfl) (fun _ _ _ h => h) (Or.inl ⟨by rfl, ?_⟩) ⟨trivial, fun _ => hS0⟩ ?_
  rotate_left
  · (intro w _; go_simp; try with_reducible rfl)
  (try simp only [Act.put, List.setIfInBounds_toArray, List.set_cons_zero, List.set_cons_succ])
  refine Lw.wpAnyL_take0 (i := 2) (v := ?_) rfl (by decide) (by kernel_rfl) (by kernel_rfl) (by kernel_rfl) (fun _ _ _ h => h) (Or.inl ⟨by rfl, ?_⟩) ⟨trivial, fun _ => hS0⟩ ?_
  rotate_left
  · (intro w _; go_simp; try with_reducible rfl)
  (try simp only [Act.put, List.setIfInBounds_toArray, List.set_cons_zero, List.set_cons_succ])
  refine Lw.wpAnyL_take (i := 3) (v := ?_) rfl rfl (by kernel_rfl) (by kernel_rfl) (by kernel_rfl) (by kernel_rfl) (fun _ _ _ h => h) (Or.inl ⟨by rfl, ?_⟩) hS0 trivial ?_
  rotate_left
  · (intro w hw; obtain ⟨hw0, hw1⟩ := hw; go_simp; try with_reducible rfl)
  (try simp only [Act.put, List.setIfInBounds_toArray, List.set_cons_zero, List.set_cons_succ])
  refine Lw.wpAnyL_take0 (i := 4) (v := ?_) rfl (by decide) (by kernel_rfl) (by kernel_rfl) (by kernel_rfl) (fun _ _ _ h => h) (Or.inl ⟨by rfl, ?_⟩) ⟨trivial, fun _ => hS0⟩ ?_
  rotate_left
  · (intro w _; go_simp; try with_reducible rfl)
  (try simp only [Act.put, List.setIfInBounds_toArray, List.set_cons_zero, List.set_cons_succ])
  refine Lw.wpAnyL_take0 (i := 5) (v := ?_) rfl (by decide) (by kernel_rfl) (by kernel_rfl) (by kernel_rfl) (fun _ _ _ h => h) (Or.inl ⟨by rfl, ?_⟩) ⟨trivial, fun _ => hS0⟩ ?_
  rotate_left
  · (intro w _; go_simp; try with_reducible rfl)
  (try simp only [Act.put, List.setIfInBounds_toArray, List.set_cons_zero, List.set_cons_succ])
  refine Lw.wpAnyL_take0 (i := 6) (v := ?_) rfl (by decide) (by kernel_rfl) (by kernel_rfl) (by kernel_rfl) (fun _ _ _ h => h) (Or.inl ⟨by rfl, ?_⟩) ⟨trivial, fun _ => hS0⟩ ?_
  rotate_left
  · (intro w _; go_simp; try with_reducible rfl)
  (try simp only [Act.put, List.setIfInBounds_toArray, List.set_cons_zero, List.set_cons_succ])
  refine Lw.wpAnyL_take (i := 7) (v := ?_) rfl rfl (by kernel_rfl) (by kernel_rfl) (by kernel_rfl) (by kernel_rfl) (fun _ _ _ h => h) (Or.inl ⟨by rfl, ?_⟩) hS0 trivial ?_
  rotate_left
  · (intro w hw; obtain ⟨hw0, hw1⟩ := hw; go_simp; try with_reducible rfl)
  (try simp only [Act.put, List.setIfInBounds_toArray, List.set_cons_zero, List.set_cons_succ])
  refine Lw.wpAnyL_take0 (i := 9) (v := ?_) rfl (by decide) (by kernel_rfl) (by kernel_rfl) (by kernel_rfl) (fun _ _ _ h => h) (Or.inl ⟨by rfl, ?_⟩) ⟨trivial, fun _ => hS0⟩ ?_
  rotate_left
  · (intro w _; go_simp; try with_reducible rfl)
  (try simp only [Act.put, List.setIfInBounds_toArray, List.set_cons_zero, List.set_cons_succ])
  refine Lw.wpAnyL_one (i := 8) (by kernel_rfl) rfl (fun K hK => ?_)
  go_simp
  have BA : Below w2.heap.size w2 (w2.drew.alloc (.cells #[] 5)) := below_alloc (below_drew (Below.refl _ _)) _
  refine hK.out _ _ ⟨trivial, fun _ => ⟨cellb c2 BA, cellb n0 BA⟩⟩ ?_
  (try simp only [Act.put, List.setIfInBounds_toArray, List.set_cons_zero, List.set_cons_succ])
  refine Lw.wpAnyL_one (i := 10) (by kernel_rfl) rfl (fun K hK => ?_)
  refine app_bytes_step w2.heap.size rfl _ _ rfl (.slice (some ⟨w2.heap.size, 0, none⟩) 0 0) [] data A data.length c rfl rfl (zero_row (Kd.int .u8) (W := w2.drew) trivial (Nat.le_refl _)) (Kd.C_below HC.out (below_then HBW2.out HBW2.out.size BA)) BA.size (by simp; omega) ?_
  intro A1 nl c1 wm r1 g1 _
  have BB : Below w2.heap.size w2 wm := below_grow BA g1 (fun k hk => by simp [Value.ownBlock] at hk; omega)
  have hnl := (Kd.R_reads' r1).1
  rw [List.nil_append] at hnl
  subst hnl
  have R1 := Lib.hid r1
  have HBB := Lib.hid BB
  have p2 := cellb p2 BB
  have p3 : wm.frozen? ⟨gd, 7, none⟩ = false := (BB.frozen (p := ⟨gd, 7, none⟩) HLG.out).trans (HPZ.out 2)
  clear r1 g1
  refine hK.out _ _ ⟨trivial, fun _ => ⟨cellb c2 BB, cellb n0 BB⟩⟩ ?_
  (try simp only [Act.put, List.setIfInBounds_toArray, List.set_cons_zero, List.set_cons_succ])
  refine Lw.wpAnyL_take0 (i := 11) (v := ?_) rfl (by decide) (by kernel_rfl) (by kernel_rfl) (by kernel_rfl) (fun _ _ _ h => h) (Or.inl ⟨by rfl, ?_⟩) ⟨trivial, fun _ => ⟨cellb c2 BB, cellb n0 BB⟩⟩ ?_
  rotate_left
  · (intro w _; go_simp; try with_reducible rfl)
  (try simp only [Act.put, List.setIfInBounds_toArray, List.set_cons_zero, List.set_cons_succ])
  refine Lw.wpAnyL_take0 (i := 12) (v := ?_) rfl (by decide) (by kernel_rfl) (by kernel_rfl) (by kernel_rfl) (fun _ _ _ h => h) (Or.inl ⟨by rfl, ?_⟩) ⟨trivial, fun _ => ⟨cellb c2 BB, cellb n0 BB⟩⟩ ?_
  rotate_left
  · (intro w _; go_simp; try with_reducible rfl)
  (try simp only [Act.put, List.setIfInBounds_toArray, List.set_cons_zero, List.set_cons_succ])
  refine Lw.wpAnyL_one (i := 13) (by kernel_rfl) rfl (fun K hK => ?_)
  go_simp
  refine hK.out _ _ ⟨trivial, fun h => absurd h (by simp)⟩ ?_
  (try simp only [Act.put, List.setIfInBounds_toArray, List.set_cons_zero, List.set_cons_succ])
  refine Lw.wpAnyL_done (by kernel_rfl) ?_ _
  have hgb5 : (wm.setCell ⟨gd, 7, none⟩ (.slice A1 data.length c1)).heap[g]? = some (.cells (shcs ⟨1, 0, 0, false, false⟩) 49 (0, 0)) := blk_far (p := ⟨gd, 7, none⟩) (blk_below HGB.out BB) (fun e => by have e : g = gd := e; have h1 := HGB.out; rw [e] at h1; have h2 := HNB.out; rw [h1] at h2; injection h2 with h2; injection h2 with _ h2; exact absurd h2 (by decide)) _
  have y4 := blk_cell hgb5 4
  have zy := blk_frozen hgb5
  simp [shcs] at y4
  have HGB5 := Lib.hid hgb5
  clear hgb5
  go_wp2_with fail
  refine bodyPost_ret (v := .tuple #[.pointer (some ⟨m, 0, none⟩), .pointer (some ⟨g, 0, none⟩)]) (by simp [results, Tryd.results15, go_sem]) rfl ?_
  have bw := HBW2.out.size
  have hr1 := R1.out
  rw [List.nil_append] at hr1
  have r1 : (Kd.int .u8).R 5 wm w.heap.size (fun _ => True) (.slice A1 data.length c1) data := Kd.R_lower hr1 bw
  have EA := IsMem.nset2 (gd := gd) (cap := cap) (IsMem.below HM2.out HBB.out) HV.out 1 (by decide) _ _ r1
  have EB := IsMem.hsetX EA (kl := keyI 0) trivial (upK_same _ _ _) HGB5.out 4 (.bool ro) (h' := ⟨1, 0, 0, false, ro⟩) rfl
  have eX : hX (nX ⟨X0.names ++ [slashf], X0.ats ++ [(X0.nodes.length : Int)], X0.nodes ++ [⟨false, 268435456, [], 0, slashf⟩], upS X0.hs (keyI 0) ⟨X0.nodes.length, 0, 0, false, false⟩⟩ 1 { nodeOf ⟨X0.names ++ [slashf], X0.ats ++ [(X0.nodes.length : Int)], X0.nodes ++ [⟨false, 268435456, [], 0, slashf⟩], upS X0.hs (keyI 0) ⟨X0.nodes.length, 0, 0, false, false⟩⟩ (1 : Nat) with f2 := data }) (keyI 0) ⟨1, 0, 0, false, ro⟩ = XF data ro := by
    unfold hX nX XF
    rw [upS_twice]
    rfl
  rw [eX] at EB
  have hgd := Kd.R_base HM2.out.rD gd (by rw [HV.out]; rfl)
  have hgl := HGL.out
  have hb1 := HB1.out.size
  have hbb := HBB.out.size
  have hs : ((wm.setCell ⟨gd, 7, none⟩ (.slice A1 data.length c1)).setCell ⟨g, 4, none⟩ (.bool ro)).heap.size = wm.heap.size := by simp [World.setCell]
  refine ⟨m, g, _, _, _, mb, rfl, IsMem.mono EB (fun k hk => ?_), below_set (below_set (below_then HBW2.out bw HBB.out) hgd) (by omega)⟩
  rw [hs]
  rcases hk with (⟨h1, h2⟩ | ⟨h1, h2⟩) | hk
  · exact ⟨h1, by have := HMV2.out.size; omega⟩
  · exact ⟨by omega, by omega⟩
  · exact ⟨Kd.R_base r1 k hk.symm, Kd.R_lt r1 k hk.symm⟩
end
end Go.Proofs.YtljcdjggjphedaaDoor.Me
namespace Go.Proofs.YtljcdjggjphedaaDoor.Mk
open Go.RowKit Go.Maps Go.Proofs.YtljcdjggjphedaaDoorW.PrintWords Go.Proofs.YtljcdjggjphedaaDoorW.PrintLast Go.Proofs.YtljcdjggjphedaaDoorW.PrintMore Go.Proofs.YtljcdjggjphedaaDoor.PFnHandleScript Go.Proofs.YtljcdjggjphedaaDoor.Hd Go.Proofs.YtljcdjggjphedaaDoor.Ms Go.Proofs.YtljcdjggjphedaaDoor.Mn Go.Proofs.YtljcdjggjphedaaDoor.Pm Go.Proofs.YtljcdjggjphedaaDoor.Mf Go.Proofs.YtljcdjggjphedaaDoor.Mq Go.Proofs.YtljcdjggjphedaaDoor.Bq Go.Proofs.YtljcdjggjphedaaDoor.Mr Go.Proofs.YtljcdjggjphedaaDoor.Mt Go.Proofs.YtljcdjggjphedaaDoor.Mu Go.Proofs.YtljcdjggjphedaaDoor.Mv Go.Proofs.YtljcdjggjphedaaDoor.Ml Go.Proofs.YtljcdjggjphedaaDoor.Mw Go.Proofs.YtljcdjggjphedaaDoor.Mx Go.Proofs.YtljcdjggjphedaaDoor.My Go.Proofs.YtljcdjggjphedaaDoor.My2 Go.Proofs.YtljcdjggjphedaaDoor.Mz Go.Proofs.YtljcdjggjphedaaDoor.Mb Go.Proofs.YtljcdjggjphedaaDoor.Mo Go.Proofs.YtljcdjggjphedaaDoor.Lw Go.Proofs.YtljcdjggjphedaaDoor.Mp Go.Proofs.YtljcdjggjphedaaDoor.Mi Go.Proofs.YtljcdjggjphedaaDoor.Me
set_option linter.unusedVariables false
set_option linter.unusedSimpArgs false
section
variable {w : World} {base : Nat} {ft : Nat → Prop} {m : Nat} {vN vA vD : Value} {mb n : Nat} {f : Lit → Option Nat} {X : SMem}
noncomputable def XS (h : SHnd) (x : S42) : SMem := ⟨[⟨#[47]⟩, slashf], [0, 1], [rootNode, x], upS (fun _ => none) (keyI 0) h⟩
def GoodAt (h : SHnd) (x : S42) (s : S26) : Prop := 12 ≤ s.f0 ∧ s.f0 ≤ 23 ∧ ¬ spkLong s ∧ spkFile (XS h x) h s = true
theorem overB_len (data : List Int) (p : Nat) (b : List Int) : (overB data p b).length = max data.length (p + b.length) := by
  unfold overB
  simp
  omega
theorem XS_node (h : SHnd) (x : S42) (hn : h.node = 1) : nodeOf (XS h x) h.node = x := by rw [hn]; rfl
theorem rdD_pos (data : List Int) (p : Int) (m : Nat) (h : (rdD false data p m).length ≠ 0) : p ≤ data.length := by
  unfold rdD at h
  split at h
  · rename_i h2
    unfold rdE at h2
    simp at h2
    split at h2
    · omega
    · split at h2
      · omega
      · omega
  · exact absurd rfl h
theorem fine_step {h : SHnd} {x : S42} {s : S26} (hn : h.node = 1) (F : HFine h x) (G : GoodAt h x s) : HFine (fstep h x s).1.1 (fstep h x s).1.2 ∧ (fstep h x s).1.1.node = 1 := by
  obtain ⟨g0, g1, _, hs⟩ := G
  obtain ⟨d, l, nm, p0, p1⟩ := F
  have e9 := XS_node h x hn
  rcases op_cases s.f0 g0 g1 with e | e | e | e | e | e | e | e | e | e | e | e
  case inr.inr.inr.inr.inr.inr.inl => unfold fstep; simp only [e]; exact ⟨⟨d, l, nm, p0, p1⟩, hn⟩
  case inr.inr.inr.inr.inr.inr.inr.inl => unfold fstep; simp [e]; exact ⟨⟨d, l, nm, p0, p1⟩, hn⟩
  case inr.inr.inr.inr.inr.inr.inr.inr.inl => unfold fstep; simp [e]; exact ⟨⟨d, l, nm, p0, p1⟩, hn⟩
  case inr.inr.inr.inr.inr.inr.inr.inr.inr.inl => unfold fstep; simp [e]; exact ⟨⟨d, l, nm, p0, p1⟩, hn⟩
  case inr.inr.inr.inr.inr.inr.inr.inr.inr.inr.inl => unfold fstep; simp [e]; exact ⟨⟨d, l, nm, p0, p1⟩, hn⟩
  case inr.inr.inr.inr.inr.inr.inr.inr.inr.inr.inr => unfold fstep; simp [e]; exact ⟨⟨d, l, nm, p0, p1⟩, hn⟩
  all_goals
    obtain ⟨b0, b1, b2, b3, b4, b5⟩ := spk_open hs (by omega) (by omega)
    unfold spkKind at b5
    simp [e] at b5
    unfold fstep
    simp only [e]
    cases hc : h.closed with
    | true => exact ⟨⟨d, l, nm, p0, p1⟩, hn⟩
    | false => ?_
  · rw [hc] at b5
    simp at b5
    have h1 := rdD_len false x.f2 h.pos.toNat s.f9.toNat
    have h2 := rdD_pos x.f2 h.pos.toNat s.f9.toNat
    refine ⟨⟨d, l, nm, ?_, ?_⟩, hn⟩
    · show _ ≤ h.pos + _
      omega
    · show h.pos + _ ≤ _
      by_cases hz : (rdD false x.f2 (h.pos.toNat : Int) s.f9.toNat).length = 0
      · rw [hz]; omega
      · have := h2 hz; omega
  · exact ⟨⟨d, l, nm, p0, p1⟩, hn⟩
  · cases hr : h.ro with
    | true => exact ⟨⟨d, l, nm, p0, p1⟩, hn⟩
    | false => exact ⟨⟨d, by show (overB _ _ _).length ≤ _; rw [overB_len]; omega, nm, by show _ ≤ h.pos + _; omega, by show h.pos + _ ≤ _; omega⟩, hn⟩
  · cases hr : h.ro with
    | true => exact ⟨⟨d, l, nm, by show _ ≤ s.f7; omega, by show s.f7 ≤ _; omega⟩, hn⟩
    | false => exact ⟨⟨d, by show (overB _ _ _).length ≤ _; rw [overB_len]; omega, nm, by show _ ≤ s.f7 + _; omega, by show s.f7 + _ ≤ _; omega⟩, hn⟩
  · refine ⟨⟨d, l, nm, ?_, ?_⟩, hn⟩
    · show _ ≤ seekP h x s
      unfold seekP
      split
      · omega
      · split
        · omega
        · split
          · omega
          · omega
    · show seekP h x s ≤ _
      unfold seekP
      split
      · omega
      · split
        · omega
        · split
          · omega
          · omega
  · cases hr : h.ro with
    | true => exact ⟨⟨d, l, nm, p0, p1⟩, hn⟩
    | false =>
      by_cases hz : s.f7 < 0
      · simp [hz]; exact ⟨⟨d, l, nm, p0, p1⟩, hn⟩
      · simp [hz]; exact ⟨⟨d, by show (fillTo _ _).length ≤ _; rw [fillTo_len]; simp; omega, nm, p0, p1⟩, hn⟩
/-- The states behind steps. -/
def runS (h : SHnd) (x : S42) (steps : List S26) : Nat → SHnd × S42
  | 0 => (h, x)
  | i + 1 => (fstep (runS h x steps i).1 (runS h x steps i).2 (rd_T26 steps i)).1
theorem fine_run {h : SHnd} {x : S42} {steps : List S26} (hn : h.node = 1) (F : HFine h x) : ∀ i, (∀ j, j < i → GoodAt (runS h x steps j).1 (runS h x steps j).2 (rd_T26 steps j)) → HFine (runS h x steps i).1 (runS h x steps i).2 ∧ (runS h x steps i).1.node = 1
  | 0, _ => ⟨F, hn⟩
  | i + 1, hg => by
    obtain ⟨F1, n1⟩ := fine_run hn F i (fun j hj => hg j (by omega))
    exact fine_step n1 F1 (hg i (by omega))
theorem XS_good (h : SHnd) (x : S42) : MGood (XS h x) := ⟨rfl, by show 2 ≤ 100000; decide, by show 2 ≤ 100000; decide, fun y hy => by
  have hy : y ∈ ([⟨#[47]⟩, slashf] : List ByteArray) := hy
  simp at hy
  rcases hy with rfl | rfl <;> decide, fun i y hy => by
  have hy : ([0, 1] : List Int)[i]? = some y := hy
  match i with
  | 0 => injection hy with hy; subst hy; exact ⟨by decide, by show (0 : Int) < 2; decide⟩
  | 1 => injection hy with hy; subst hy; exact ⟨by decide, by show (1 : Int) < 2; decide⟩
  | i + 2 => simp at hy⟩
theorem XS_hgood (h : SHnd) (x : S42) (hn : h.node = 1) : HGood (XS h x) := fun kl h' _ e => by
  have e : upS (fun _ => none) (keyI 0) h kl = some h' := e
  unfold upS at e
  split at e
  · injection e with e
    subst e
    rw [hn]
    exact ⟨by decide, by show (1 : Int) < 2; decide⟩
  · cases e
theorem XS_step (h h' : SHnd) (x x' : S42) : nX (hX (XS h x) (keyI 0) h') 1 x' = XS h' x' := by
  unfold hX nX XS
  rw [upS_twice]
  rfl
theorem XS_hs (h : SHnd) (x : S42) : (XS h x).hs (keyI 0) = some h := by show upS (fun _ => none) (keyI 0) h (keyI 0) = some h; exact upS_same _ _ _
theorem XS_speaks (h : SHnd) (x : S42) (s : S26) (hs : s.f5 = 0) (h0 : 12 ≤ s.f0) : memSpeaks (XS h x) s = if spkLong s then false else spkFile (XS h x) h s := by
  unfold memSpeaks
  rw [if_neg (show ¬ (0 ≤ s.f0 ∧ s.f0 ≤ 2) by omega), if_neg (show ¬ (3 ≤ s.f0 ∧ s.f0 ≤ 11) by omega), hs]
  rw [show (XS h x).hs (keyI 0) = some h from by show upS (fun _ => none) (keyI 0) h (keyI 0) = some h; exact upS_same _ _ _]
theorem onFile_any (s : S26) (A6 : Option Addr) (c6 : Nat) (w : World) : Calls Tryd.prog 30 #[stepA s A6 c6] w fun e w' => e = .returned (.bool (decide (12 ≤ s.f0) && decide (s.f0 ≤ 23))) ∧ Below w.heap.size w w' := by
  obtain ⟨op, nm, ot, fl, pe, hh, dat, off, wh, N⟩ := s
  unfold stepA
  by_cases h1 : 12 ≤ op
  · simp only [h1, decide_true, Bool.true_and]
    go_enter Tryd.func30, Tryd.ntmps30
    go_wp2_with fail
    go_ret
    exact ⟨rfl, below_alloc (Below.refl _ _) _⟩
  · simp only [h1, decide_false, Bool.false_and]
    go_enter Tryd.func30, Tryd.ntmps30
    go_wp2_with fail
    go_ret
    exact ⟨rfl, below_alloc (Below.refl _ _) _⟩
def SpokenPost (w : World) (data : List Int) (ro : Bool) (steps : List S26) (e : Ending) (w' : World) : Prop :=
  ∃ b, e = .returned (.bool b) ∧ Below w.heap.size w w' ∧ (b = true → data.length ≤ 4096 ∧ steps.length ≤ 60 ∧ ∀ i, i < steps.length → GoodAt (runS ⟨1, 0, 0, false, ro⟩ ⟨false, 268435456, data, 0, slashf⟩ steps i).1 (runS ⟨1, 0, 0, false, ro⟩ ⟨false, 268435456, data, 0, slashf⟩ steps i).2 (rd_T26 steps i))
set_option maxHeartbeats 8000000 in
set_option maxRecDepth 100000 in
theorem spoken_any (w : World) (data : List Int) (ro : Bool) (A : Option Addr) (c : Nat) (hC : (Kd.int .u8).C w A data.length data) (steps : List S26) (A2 : Option Addr) (c2 : Nat) (hS : k26.C w A2 steps.length steps) (hc2 : steps.length ≤ c2) (hl : data.length ≤ 1000000) :
    Calls Tryd.prog 14 #[.slice A data.length c, .bool ro, .slice A2 steps.length c2] w (SpokenPost w data ro steps) := by
  have HO := Lib.hid (fun W (hb : Below w.heap.size w W) => one_any W data ro A c (Kd.C_below hC hb) hl)
  have hdl : data.length ≤ 9223372036854775807 := by omega
  have hsl := hS.2.1
  have HST := Lib.hid hS
  clear hC hS
  by_cases hd : (4096 : Int) < data.length
  · go_enter Tryd.func14, Tryd.ntmps14
    go_wp2_with fail
    go_ret
    exact ⟨false, rfl, Below.refl _ _, fun h => by cases h⟩
  · by_cases hn : (60 : Int) < steps.length
    · go_enter Tryd.func14, Tryd.ntmps14
      go_wp2_with fail
      go_ret
      exact ⟨false, rfl, Below.refl _ _, fun h => by cases h⟩
    · obtain ⟨st, hst⟩ : ∃ st, st = runS ⟨1, 0, 0, false, ro⟩ ⟨false, 268435456, data, 0, slashf⟩ steps := ⟨_, rfl⟩
      have s0 : st 0 = (⟨1, 0, 0, false, ro⟩, ⟨false, 268435456, data, 0, slashf⟩) := by rw [hst]; rfl
      have s1 : ∀ i, st (i + 1) = (fstep (st i).1 (st i).2 (rd_T26 steps i)).1 := fun i => by rw [hst]; rfl
      have hfine : ∀ i, (∀ j, j < i → GoodAt (st j).1 (st j).2 (rd_T26 steps j)) → HFine (st i).1 (st i).2 ∧ (st i).1.node = 1 := fun i hg => by
        rw [hst] at hg ⊢
        exact fine_run rfl ⟨rfl, by show data.length ≤ 10000; omega, by show slashf.size ≤ 10000; decide, by show _ ≤ (0 : Int); decide, by show (0 : Int) ≤ _; decide⟩ i hg
      have HST0 := Lib.hid s0
      have HST1 := Lib.hid s1
      have HFN := Lib.hid hfine
      have HRUN := Lib.hid hst
      have HD := Lib.hid (show data.length ≤ 4096 by omega)
      have HN := Lib.hid (show steps.length ≤ 60 by omega)
      clear s0 s1 hfine hst
      go_enter Tryd.func14, Tryd.ntmps14
      go_wp2_with (first | (go_at_call 15; (refine (HO.out _ (Below.refl _ _)).mono ?_); rintro e w1 ⟨m, g, vN, vA, vD, mb, rfl, M1, B1⟩; have HM1 := Lib.hid M1; have HB1 := Lib.hid B1; clear M1 B1))
      go_loopw [27, 8] (fun v27 v8 wr => ∃ (i : Nat) (vN vA vD : Value), v27 = .int .i64 i ∧ i ≤ steps.length ∧ v8 = .pointer (some ⟨g, 0, none⟩) ∧ Hid (IsMem wr w.heap.size (fun k => w.heap.size ≤ k ∧ k < wr.heap.size) m vN vA vD mb 1 (upK (fun _ => none) (keyI 0) (some g)) (XS (st i).1 (st i).2)) ∧ Hid (Below w.heap.size w wr) ∧ Hid (∀ j, j < i → GoodAt (st j).1 (st j).2 (rd_T26 steps j))) (fun v27 _ _ => steps.length - (intOf v27).toNat)
      case atStart => exact ⟨0, vN, vA, vD, rfl, Nat.zero_le _, rfl, Lib.hid (by rw [HST0.out]; exact HM1.out), HB1, Lib.hid (fun j hj => absurd hj (by omega))⟩
      case round =>
        obtain ⟨i, vN', vA', vD', rfl, hi, rfl, MI, BI, GI⟩ := hrel
        clear HM1
        by_cases hlt : i < steps.length
        · obtain ⟨ad, A6, c6, eA, x0, x1, x2, x3, x4, x5, x6, x7, x8, x9, l6, g6⟩ := at_T26 (Kd.C_below HST.out BI.out) (i : Int) (by omega) (by omega)
          subst eA
          rw [Int.toNat_natCast] at x0 x1 x2 x3 x4 x5 x6 x7 x8 x9
          obtain ⟨s, hs⟩ : ∃ s, s = rd_T26 steps (i : Int) := ⟨_, rfl⟩
          rw [← hs] at x0 x1 x2 x3 x4 x5 x6 x7 x8 x9 l6 g6
          have HSS := Lib.hid hs
          have G6 := Lib.hid g6
          have L6 := Lib.hid l6
          clear hs g6 l6
          have hlt' : (i : Int) < (steps.length : Int) := by omega
          go_upto_region 8 with (fail)
          obtain ⟨Wb, hWb⟩ : ∃ Wb, Wb = wr.alloc (.cells #[.int .i64 s.f0, .string s.f1, .string s.f2, .int .i64 s.f3, .int .i64 s.f4, .int .i64 0, .slice A6 s.f6.length c6, .int .i64 s.f7, .int .i64 s.f8, .int .i64 s.f9] 26) := ⟨_, rfl⟩
          rw [← hWb]
          have bb : Below wr.heap.size wr Wb := by rw [hWb]; exact below_alloc (Below.refl _ _) _
          have bx : Wb.heap[wr.heap.size]? = some (.cells #[.int .i64 s.f0, .string s.f1, .string s.f2, .int .i64 s.f3, .int .i64 s.f4, .int .i64 0, .slice A6 s.f6.length c6, .int .i64 s.f7, .int .i64 s.f8, .int .i64 s.f9] 26 (0, 0)) := by rw [hWb]; exact blk_new _ _
          have hsz : Wb.heap.size = wr.heap.size + 1 := by rw [hWb]; simp
          obtain ⟨s', hs'⟩ : ∃ s' : S26, s' = { s with f5 := 0 } := ⟨_, rfl⟩
          obtain ⟨h, hh⟩ : ∃ h, h = (st i).1 := ⟨_, rfl⟩
          obtain ⟨x, hx⟩ : ∃ x, x = (st i).2 := ⟨_, rfl⟩
          have MB := MI.out.below bb
          rw [← hh, ← hx] at MB
          obtain ⟨F, hnode⟩ := HFN.out i GI.out
          rw [← hh, ← hx] at F
          rw [← hh] at hnode
          have HSP := Lib.hid (fun W (hb : Below Wb.heap.size Wb W) => speaks_any (MB.below hb) (XS_good h x) (XS_hgood h x hnode) s' (by rw [hs']; show (Lit.int .i64 0).wf = true; decide) A6 c6)
          have HOF := Lib.hid (fun W => onFile_any s' A6 c6 W)
          have k0 := blk_cell bx 0
          have k1 := blk_cell bx 1
          have k2 := blk_cell bx 2
          have k3 := blk_cell bx 3
          have k4 := blk_cell bx 4
          have k5 := blk_cell bx 5
          have k6 := blk_cell bx 6
          have k7 := blk_cell bx 7
          have k8 := blk_cell bx 8
          have k9 := blk_cell bx 9
          simp at k0 k1 k2 k3 k4 k5 k6 k7 k8 k9
          have HBB := Lib.hid bb
          have HSZ := Lib.hid hsz
          have HMB := Lib.hid MB
          have HH := Lib.hid hh
          have HX := Lib.hid hx
          have HS' := Lib.hid hs'
          have HF := Lib.hid F
          have HND := Lib.hid hnode
          clear hWb bb bx hsz MB hh hx F hnode x0 x1 x2 x3 x4 x5 x6 x7 x8 x9
          have e0 : s'.f0 = s.f0 := by rw [hs']
          have e1 : s'.f1 = s.f1 := by rw [hs']
          have e2 : s'.f2 = s.f2 := by rw [hs']
          have e3 : s'.f3 = s.f3 := by rw [hs']
          have e4 : s'.f4 = s.f4 := by rw [hs']
          have e5 : s'.f5 = 0 := by rw [hs']
          have e6 : s'.f6 = s.f6 := by rw [hs']
          have e7 : s'.f7 = s.f7 := by rw [hs']
          have e8 : s'.f8 = s.f8 := by rw [hs']
          have e9 : s'.f9 = s.f9 := by rw [hs']
          unfold stepA at HSP HOF
          rw [e0, e1, e2, e3, e4, e5, e6, e7, e8, e9] at HSP HOF
          have E0 := Lib.hid e0
          have E5 := Lib.hid e5
          have E6 := Lib.hid e6
          clear e0 e1 e2 e3 e4 e5 e6 e7 e8 e9 hs'
          by_cases hsp : memSpeaks (XS h x) s' = true
          case neg =>
            rw [Bool.not_eq_true] at hsp
            rw [hsp] at HSP
            clear hsp
            go_wp2_with (first | (go_at_call 29; (refine (HSP.out _ (Below.refl _ _)).mono ?_); rintro e w2 ⟨rfl, hb1⟩; have k0 := cellb k0 hb1; have k1 := cellb k1 hb1; have k2 := cellb k2 hb1; have k3 := cellb k3 hb1; have k4 := cellb k4 hb1; have k5 := cellb k5 hb1; have k6 := cellb k6 hb1; have k7 := cellb k7 hb1; have k8 := cellb k8 hb1; have k9 := cellb k9 hb1; have B1 := Lib.hid hb1; clear hb1))
            go_ret
            exact ⟨false, rfl, below_then (below_then BI.out BI.out.size HBB.out) (by have := BI.out.size; have := HBB.out.size; omega) B1.out, fun h => by cases h⟩
          case pos =>
            have HSPK := Lib.hid hsp
            rw [hsp] at HSP
            clear hsp
            by_cases hon : 12 ≤ s.f0 ∧ s.f0 ≤ 23
            case neg =>
              rw [show (decide (12 ≤ s.f0) && decide (s.f0 ≤ 23)) = false by simp; omega] at HOF
              go_wp2_with (first | (go_at_call 29; (refine (HSP.out _ (Below.refl _ _)).mono ?_); rintro e w2 ⟨rfl, hb1⟩; have k0 := cellb k0 hb1; have k1 := cellb k1 hb1; have k2 := cellb k2 hb1; have k3 := cellb k3 hb1; have k4 := cellb k4 hb1; have k5 := cellb k5 hb1; have k6 := cellb k6 hb1; have k7 := cellb k7 hb1; have k8 := cellb k8 hb1; have k9 := cellb k9 hb1; have B1 := Lib.hid hb1; clear hb1) | (go_at_call 30; (refine (HOF.out _).mono ?_); rintro e w3 ⟨rfl, hb1⟩; have k0 := cellb k0 hb1; have k1 := cellb k1 hb1; have k2 := cellb k2 hb1; have k3 := cellb k3 hb1; have k4 := cellb k4 hb1; have k5 := cellb k5 hb1; have k6 := cellb k6 hb1; have k7 := cellb k7 hb1; have k8 := cellb k8 hb1; have k9 := cellb k9 hb1; have B2 := Lib.hid hb1; clear hb1))
              go_ret
              exact ⟨false, rfl, below_then (below_then (below_then BI.out BI.out.size HBB.out) (by have := BI.out.size; have := HBB.out.size; omega) B1.out) (by have := BI.out.size; have := HBB.out.size; have := B1.out.size; omega) B2.out, fun h => by cases h⟩
            case pos =>
              rw [show (decide (12 ≤ s.f0) && decide (s.f0 ≤ 23)) = true by simp; omega] at HOF
              have hsf : ¬ spkLong s' ∧ spkFile (XS h x) h s' = true := by
                have h9 := HSPK.out
                rw [XS_speaks h x s' E5.out (by rw [E0.out]; omega)] at h9
                by_cases hl9 : spkLong s'
                · rw [if_pos hl9] at h9; cases h9
                · rw [if_neg hl9] at h9; exact ⟨hl9, h9⟩
              have hgb := HMB.out.hnd (keyI 0) trivial
              rw [upK_same] at hgb
              obtain ⟨h2, eh2, hgb, hgf, _⟩ := hgb
              have eh2 : h = h2 := Option.some.inj ((XS_hs h x).symm.trans eh2)
              subst eh2
              have HDO := Lib.hid (fun W (hb : Below Wb.heap.size Wb W) => do_file s' 1 (by rw [E5.out]; decide) (HMB.out.below hb) (fun k hk => by have h1 := hk.2; have h2 := HSZ.out; have h3 := hb.size; omega) g h (by rw [E5.out]; exact upK_same _ _ _) (blk_below hgb hb) hgf 1 HND.out (by show 1 < 2; decide) (by show 2 ≤ 100000; decide) A6 c6 (by rw [E6.out]; exact L6.out) (by rw [E6.out]; exact Kd.C_below (Kd.C_below G6.out HBB.out) hb) (by rw [E0.out]; exact hon.1) (by rw [E0.out]; exact hon.2) (by rw [E5.out]; exact XS_hs h x) HF.out hsf.2)
              unfold stepA at HDO
              rw [E0.out, HS'.out] at HDO
              go_wp2_with (first | (go_at_call 29; (refine (HSP.out _ (Below.refl _ _)).mono ?_); rintro e w2 ⟨rfl, hb1⟩; have k0 := cellb k0 hb1; have k1 := cellb k1 hb1; have k2 := cellb k2 hb1; have k3 := cellb k3 hb1; have k4 := cellb k4 hb1; have k5 := cellb k5 hb1; have k6 := cellb k6 hb1; have k7 := cellb k7 hb1; have k8 := cellb k8 hb1; have k9 := cellb k9 hb1; have B1 := Lib.hid hb1; clear hb1) | (go_at_call 30; (refine (HOF.out _).mono ?_); rintro e w3 ⟨rfl, hb1⟩; have k0 := cellb k0 hb1; have k1 := cellb k1 hb1; have k2 := cellb k2 hb1; have k3 := cellb k3 hb1; have k4 := cellb k4 hb1; have k5 := cellb k5 hb1; have k6 := cellb k6 hb1; have k7 := cellb k7 hb1; have k8 := cellb k8 hb1; have k9 := cellb k9 hb1; have B2 := Lib.hid hb1; clear hb1) | (go_at_call 16; (refine (HDO.out _ (below_then B1.out B1.out.size B2.out)).mono ?_); rintro e w4 ⟨v3, v4, v5, vD4, ft4, rfl, _, _, _, E1, mv, sub, lst⟩; have c3 := E1.c3; have L1 := look_any E1 0 (by decide); rw [upK_same] at L1; simp only [ptrV] at L1; have HE1 := Lib.hid E1; have HMV := Lib.hid mv; have HSUB := Lib.hid sub; have HLST := Lib.hid lst; clear E1 mv sub lst))
              go_roundw
              case rel =>
                have z0 := BI.out.size
                have z1 := HBB.out.size
                have z2 := B1.out.size
                have z3 := B2.out.size
                have sb := below_then (below_then (below_then BI.out z0 HBB.out) (by omega) B1.out) (by omega) B2.out
                have hst : st (i + 1) = (fstep h x s).1 := by rw [HST1.out, ← HH.out, ← HX.out, ← HSS.out]
                refine ⟨i + 1, vN', vA', vD4, by push_cast; rfl, hlt, rfl, Lib.hid ?_, Lib.hid (HMV.out.toBelow (B := w.heap.size) sb (by omega) (fun k hk => hk.1)), Lib.hid (fun j hj => ?_)⟩
                · rw [hst, ← XS_step h _ x _]
                  exact IsMem.mono HE1.out (fun k hk => ⟨(HSUB.out k hk).elim (fun h => h.1) (fun h => by omega), HLST.out k hk⟩)
                · rcases Nat.lt_or_ge j i with hj2 | hj2
                  · exact GI.out j hj2
                  · obtain rfl : j = i := by omega
                    rw [← HH.out, ← HX.out, ← HSS.out]
                    have hsf2 := hsf
                    rw [HS'.out] at hsf2
                    exact ⟨hon.1, hon.2, hsf2.1, hsf2.2⟩
              case measure => simp only [intOf]; omega
        · obtain rfl : i = steps.length := by omega
          go_wp2_with fail
          go_ret
          exact ⟨true, rfl, BI.out, fun _ => ⟨HD.out, HN.out, by rw [← HRUN.out]; exact GI.out⟩⟩
end
end Go.Proofs.YtljcdjggjphedaaDoor.Mk
namespace Go.Proofs.YtljcdjggjphedaaDoor.Hd
open Go.RowKit Go.Proofs.YtljcdjggjphedaaDoorW.PrintWords Go.Proofs.YtljcdjggjphedaaDoorW.PrintLast Go.Proofs.YtljcdjggjphedaaDoorW.PrintMore Go.Proofs.YtljcdjggjphedaaDoor.PFnHandleScript
set_option linter.unusedVariables false
set_option linter.unusedSimpArgs false
section
variable {f d base : Nat} {h : Hnd} {n : Nod} {v : Value} {data : List Int} {W V : World}
def Refused3 (op : ByteArray) (w : World) (e : Ending) (w' : World) : Prop := ∃ x, e = .returned (.tuple #[.slice none 0 0, x]) ∧ Refused op w (.returned x) w'
set_option maxHeartbeats 1000000 in
set_option maxRecDepth 100000 in
theorem dir47r (F : Fil f d h n v data base W) (N : Int) (hdir : n.dir = false) :
    Calls Tryd.prog 47 #[.pointer (some ⟨f, 0, none⟩), .int .i64 N] W (Refused3 { data := #[114, 101, 97, 100, 100, 105, 114] } W) := by
  have c4 := F.c4
  have n0 := F.n0
  have n3 := F.n3
  rw [hdir] at n3
  obtain ⟨nm, vm, dir, md, tm⟩ := n
  simp only at n0
  have y4 := World.new_ne W _ c4
  have y0 := World.new_ne W _ n0
  have HE := Lib.hid (fun s W => err83 (W := W) s)
  clear F hdir
  go_enter Tryd.func47, Tryd.ntmps47
  go_wp2_with fail
  go_region_held3 (fun w' => w'.cell? ⟨f, 4, none⟩ = some (.pointer (some ⟨d, 0, none⟩)) ∧ w'.cell? ⟨d, 0, none⟩ = some (.string nm))
    (go_keep)
    ((go_at_call 83; (with_reducible refine (HE.out _ _).mono ?_); rintro e w1 ⟨rfl, rfl⟩))
  go_wp2
  go_ret2
  exact ⟨_, rfl, refused_mk _ _ _ _⟩
set_option maxHeartbeats 1000000 in
theorem infos48 (W : World) : Calls Tryd.prog 48 #[.slice none 0 0] W fun e w' => e = .returned (.slice none 0 0) ∧ W = w' := by
  go_enter Tryd.func48, Tryd.ntmps48
  go_wp2_with fail
  go_loopw [8, 3] (fun v8 v3 wr => v8 = .int .i64 0 ∧ v3 = .slice none 0 0 ∧ W = wr) (fun _ _ _ => 0)
  case atStart => exact ⟨rfl, rfl, rfl⟩
  case round =>
    obtain ⟨rfl, rfl, rfl⟩ := hrel
    go_wp2_with fail
    go_ret
    exact ⟨rfl, rfl⟩
theorem mk0 (W : World) : (Instr.makeSlice 30 (.int .i64 0) (.int .i64 0)).run Tryd.prog W = .ok (.slice (some ⟨W.heap.size, 0, none⟩) 0 0) (W.alloc (.cells #[] 9)) := by kernel_rfl
theorem zrow9 {W : World} {base : Nat} {ok : Nat → Prop} (hfresh : ok W.heap.size) (hbase : base ≤ W.heap.size) : Kd.string.R 9 (W.alloc (.cells #[] 9)) base ok (.slice (some ⟨W.heap.size, 0, none⟩) 0 0) [] := by
  refine ⟨fun k hk => ?_, [], ?_, ⟨by simp, fun j p hj => by simp at hj⟩⟩
  · have : W.heap.size = k := by simpa [Value.ownBlock] using hk
    subst this
    exact hfresh
  · have h2 := World.ownsRow_lit (base := base) (e := 9) (size := Kd.string.sz) W #[] 0 hbase (by simp [maxLen]) (by simp)
    simpa using h2
theorem Refused.below {op : ByteArray} {w w' w2 : World} {e : Ending} (h : Refused op w e w') (hb : Below w'.heap.size w' w2) : Refused op w e w2 := by
  obtain ⟨p, b, path, e, hw, h0, h2, hl, c, t, hc⟩ := h
  exact ⟨p, b, path, e, below_then hw hw.size hb, pw_cell_below hb h0, pw_cell_below hb h2, hl, c, t, blk_below hc hb⟩
set_option maxHeartbeats 1000000 in
set_option maxRecDepth 100000 in
theorem names49 (F : Fil f d h n v data base W) (N : Int) (hdir : n.dir = false) :
    Calls Tryd.prog 49 #[.pointer (some ⟨f, 0, none⟩), .int .i64 N] W (fun e w' => ∃ x v4, e = .returned (.tuple #[v4, x]) ∧ Kd.string.R 9 w' W.heap.size (fun _ => True) v4 [] ∧ Refused { data := #[114, 101, 97, 100, 100, 105, 114] } W (.returned x) w') := by
  have HD := Lib.hid (dir47r F N hdir)
  have hmk := mk0
  clear F hdir
  go_enter Tryd.func49, Tryd.ntmps49
  go_wp2_with (first | (go_at_call 47; (refine (HD.out).mono ?_); rintro e w1 ⟨x, rfl, hr⟩; have HR := Lib.hid hr; clear hr))
  go_loopw [20] (fun v20 wr => v20 = .int .i64 0 ∧ wr = w1.alloc (.cells #[] 9)) (fun _ _ => 0)
  case atStart => exact ⟨rfl, rfl⟩
  case round =>
    obtain ⟨rfl, rfl⟩ := hrel
    go_wp2_with fail
    go_ret2
    have hb := HR.out
    obtain ⟨p, b, path, e, hw, h0, h2, hl, c, t, hc⟩ := hb
    exact ⟨x, _, rfl, zrow9 trivial hw.size, Refused.below ⟨p, b, path, e, hw, h0, h2, hl, c, t, hc⟩ (below_alloc (Below.refl _ _) _)⟩
theorem sync52 (W : World) (f : Nat) : Calls Tryd.prog 52 #[.pointer (some ⟨f, 0, none⟩)] W fun e w' => e = .returned .nilIface ∧ W = w' := by
  go_enter Tryd.func52, Tryd.ntmps52
  go_wp2_with fail
  go_ret
  exact ⟨rfl, rfl⟩
set_option maxHeartbeats 1000000 in
set_option maxRecDepth 100000 in
theorem on_sync (F : Fil f d h n v data base W) (off wh N : Int) (nm ot : ByteArray) (fl pe hh : Int) (Ad : Option Addr) (md cd : Nat) (A : Nat → Addr) (hf : base ≤ f) (hd : base ≤ d) :
    Calls Tryd.prog 27 #[.pointer (some ⟨f, 0, none⟩), stepV 23 nm ot fl pe hh (.slice Ad md cd) off wh N] W (Stp f d h n data base v (ans 0 0 0 []) W) := by
  have HF := Lib.hid F
  have HC := Lib.hid (fun W1 => sync52 W1 f)
  have HK := Lib.hid (fun W1 => kind_nil W1)
  unfold stepV
  clear F
  go_enter Tryd.func27, Tryd.ntmps27
  go_wp2_with (first | (go_at_call 52; (refine (HC.out _).mono ?_); rintro e w1 ⟨rfl, rfl⟩) | (go_at_call 53; (with_reducible refine (HK.out _).mono ?_); rintro e w' ⟨rfl, rfl⟩))
  refine bodyPost_ret (v := .agg #[.int .i64 0, .int .i64 0, .int .i64 0, .slice none 0 0, .slice none 0 0, .slice none 0 0]) (by simp [results, Tryd.results27, go_sem]) rfl ?_
  refine ⟨v, ⟨_, _, _, rfl, Kd.R_nil _ _ _ _ _, Kd.R_nil _ _ _ _ _, Kd.R_nil _ _ _ _ _⟩, HF.out.below ?_, Moves.of_below ?_ _, .inl rfl⟩
  all_goals (repeat (first | exact Below.refl _ _ | with_reducible refine below_set ?_ (by omega) | apply below_alloc | apply below_drew))
theorem row_v {α : Type} (d : Kd α) {e : Nat} (hE : d.E = []) {w1 w' : World} {b0 b1 : Nat} {ok : Nat → Prop} {v : Value} {l : List α} (h : d.R e w1 b1 (fun _ => True) v l) (hb : b0 ≤ b1) (hh : ∀ k, b1 ≤ k → w'.heap[k]? = w1.heap[k]?) (hok : ∀ k, b1 ≤ k → ok k) : d.R e w' b0 ok v l := by
  have h2 := Kd.R_base h
  exact Kd.R_lower (Kd.R_mono (Kd.R_step (w1 := w') (Kd.R_tight hE h) (fun k hk _ => hh k (h2 k hk.symm))) (fun k hk => hok k (h2 k hk.symm))) hb
set_option maxHeartbeats 1000000 in
set_option maxRecDepth 100000 in
theorem on_dir (F : Fil f d h n v data base W) (off wh N : Int) (nm ot : ByteArray) (fl pe hh : Int) (Ad : Option Addr) (md cd : Nat) (A : Nat → Addr) (hS : SentB A base W) (hf : base ≤ f) (hd : base ≤ d) (hdir : n.dir = false) :
    Calls Tryd.prog 27 #[.pointer (some ⟨f, 0, none⟩), stepV 19 nm ot fl pe hh (.slice Ad md cd) off wh N] W (Stp f d h n data base v (ans 8 0 0 []) W) := by
  have HF := Lib.hid F
  have HC := Lib.hid (fun W1 (hb : Below W.heap.size W W1) => dir47r (F.below hb) N hdir)
  have HI := Lib.hid (fun W1 => infos48 W1)
  have hbs : base ≤ W.heap.size := Nat.le_trans hf (Nat.le_of_lt (blk_lt F.hf))
  have HSN := Lib.hid (fun W1 (hb : Below W.heap.size W W1) => hS.moves (Moves.of_below hb (fun _ => False)) (fun _ q => q.elim) hbs)
  have HSL := Lib.hid hS.lt
  have HVL := Lib.hid (fun k (hk : v.ownBlock = some k) => Kd.R_lt F.row k hk)
  unfold stepV
  clear F hS
  go_enter Tryd.func27, Tryd.ntmps27
  go_wp2_with (first | (go_at_call 47; (refine (HC.out _ ?_).mono ?_); (repeat (first | exact Below.refl _ _ | apply below_alloc | apply below_drew)); rintro e w1 ⟨x, rfl, hr⟩; obtain ⟨p, bb, path, ex, hbw, h0, h2, hle, hk⟩ := hr; injection ex with ex; subst ex; have b5 : w1.heap[W.heap.size + 1 + 1]? = some (.cells #[.int .i64 0, .int .i64 0, .int .i64 0, .slice none 0 0, .slice none 0 0, .slice none 0 0] 33 (0, 0)) := blk_below (blk_at_ (by simp)) hbw; have b4 : w1.heap[W.heap.size + 1]? = some (.cells #[.int .i64 0, .int .i64 0, .int .i64 0, .slice none 0 0, .slice none 0 0, .slice none 0 0] 33 (0, 0)) := blk_below (blk_alloc (blk_at_ (by simp)) _) hbw; have np5 : W.heap.size + 1 + 1 ≠ p := fun e => (by rw [← e, blk_cell b5 0] at h0; simp at h0); have np4 : W.heap.size + 1 ≠ p := fun e => (by rw [← e, blk_cell b4 0] at h0; simp at h0); have q0 := blk_cell b4 0; have q1 := blk_cell b4 1; have q2 := blk_cell b4 2; have q3 := blk_cell b4 3; have q4 := blk_cell b4 4; have q5 := blk_cell b4 5; have r0 := blk_cell b5 0; have r1 := blk_cell b5 1; have r2 := blk_cell b5 2; have r3 := blk_cell b5 3; have r4 := blk_cell b5 4; have r5 := blk_cell b5 5; have zq := blk_frozen b4; have zr := blk_frozen b5; simp at q0 q1 q2 q3 q4 q5 r0 r1 r2 r3 r4 r5; have P0 := Lib.hid h0; have P2 := Lib.hid h2; have PL := Lib.hid hle; have PK := Lib.hid hk; have BW := Lib.hid (below_then (by repeat (first | exact Below.refl _ _ | apply below_alloc | apply below_drew) : Below W.heap.size W _) (by simp; omega) hbw); clear h0 h2 hle hk hbw b4 b5; have HKD := Lib.hid (fun (j : Nat) (u : Value) => kind_readdir A (w1.setCell ⟨W.heap.size + 1 + 1, j, none⟩ u) ((HSN.out _ (below_set BW.out (by omega))).sent) p path ⟨bb, 0, none⟩ ((World.cell?_setCell_far _ _ _ _ np5).trans P0.out) ((World.cell?_setCell_far _ _ _ _ np5).trans P2.out) (by obtain ⟨c, t, hc⟩ := PK.out; have hle := PL.out; simp at hle; exact ⟨c, t, (Below.heap_setCell w1 ⟨W.heap.size + 1 + 1, j, none⟩ u bb (by show bb ≠ W.heap.size + 1 + 1; omega)).trans hc⟩) (fun k hk e => by have h9 := HSL.out k hk; rw [← e] at h9; have hle := PL.out; simp at hle; simp only at h9; omega))) | (go_at_call 48; (refine (HI.out _).mono ?_); rintro e w2 ⟨rfl, rfl⟩) | (go_at_call 53; (refine (HKD.out _ _).mono ?_); rintro e w' ⟨rfl, rfl⟩))
  refine bodyPost_ret (v := .agg #[.int .i64 8, .int .i64 0, .int .i64 0, .slice none 0 0, .slice none 0 0, .slice none 0 0]) (by simp [results, Tryd.results27, go_sem, q0, q1, q2, q3, q4, q5]) rfl ?_
  have bw := BW.out
  refine ⟨v, ⟨_, _, _, rfl, Kd.R_nil _ _ _ _ _, Kd.R_nil _ _ _ _ _, Kd.R_nil _ _ _ _ _⟩, HF.out.below ?_, Moves.of_below ?_ _, .inl rfl⟩
  all_goals (repeat (first | with_reducible exact bw | with_reducible refine below_set ?_ (by omega)))
set_option maxHeartbeats 1000000 in
set_option maxRecDepth 100000 in
theorem on_names (F : Fil f d h n v data base W) (off wh N : Int) (nm ot : ByteArray) (fl pe hh : Int) (Ad : Option Addr) (md cd : Nat) (A : Nat → Addr) (hS : SentB A base W) (hf : base ≤ f) (hd : base ≤ d) (hdir : n.dir = false) :
    Calls Tryd.prog 27 #[.pointer (some ⟨f, 0, none⟩), stepV 20 nm ot fl pe hh (.slice Ad md cd) off wh N] W (Stp f d h n data base v (ans 8 0 0 []) W) := by
  have HF := Lib.hid F
  have HC := Lib.hid (fun W1 (hb : Below W.heap.size W W1) => names49 (F.below hb) N hdir)
  have HI := Lib.hid (fun W1 => infos48 W1)
  have hbs : base ≤ W.heap.size := Nat.le_trans hf (Nat.le_of_lt (blk_lt F.hf))
  have HSN := Lib.hid (fun W1 (hb : Below W.heap.size W W1) => hS.moves (Moves.of_below hb (fun _ => False)) (fun _ q => q.elim) hbs)
  have HSL := Lib.hid hS.lt
  have HVL := Lib.hid (fun k (hk : v.ownBlock = some k) => Kd.R_lt F.row k hk)
  unfold stepV
  clear F hS
  go_enter Tryd.func27, Tryd.ntmps27
  go_wp2_with (first | (go_at_call 49; (refine (HC.out _ ?_).mono ?_); (repeat (first | exact Below.refl _ _ | apply below_alloc | apply below_drew)); rintro e w1 ⟨x, v4, rfl, hr4, hr⟩; have HR4 := Lib.hid hr4; obtain ⟨A4, c4, rfl, _, _⟩ := Kd.R_reads hr4; clear hr4; obtain ⟨p, bb, path, ex, hbw, h0, h2, hle, hk⟩ := hr; injection ex with ex; subst ex; have b5 : w1.heap[W.heap.size + 1 + 1]? = some (.cells #[.int .i64 0, .int .i64 0, .int .i64 0, .slice none 0 0, .slice none 0 0, .slice none 0 0] 33 (0, 0)) := blk_below (blk_at_ (by simp)) hbw; have b4 : w1.heap[W.heap.size + 1]? = some (.cells #[.int .i64 0, .int .i64 0, .int .i64 0, .slice none 0 0, .slice none 0 0, .slice none 0 0] 33 (0, 0)) := blk_below (blk_alloc (blk_at_ (by simp)) _) hbw; have np5 : W.heap.size + 1 + 1 ≠ p := fun e => (by rw [← e, blk_cell b5 0] at h0; simp at h0); have np4 : W.heap.size + 1 ≠ p := fun e => (by rw [← e, blk_cell b4 0] at h0; simp at h0); have q0 := blk_cell b4 0; have q1 := blk_cell b4 1; have q2 := blk_cell b4 2; have q3 := blk_cell b4 3; have q4 := blk_cell b4 4; have q5 := blk_cell b4 5; have r0 := blk_cell b5 0; have r1 := blk_cell b5 1; have r2 := blk_cell b5 2; have r3 := blk_cell b5 3; have r4 := blk_cell b5 4; have r5 := blk_cell b5 5; have zq := blk_frozen b4; have zr := blk_frozen b5; simp at q0 q1 q2 q3 q4 q5 r0 r1 r2 r3 r4 r5; have P0 := Lib.hid h0; have P2 := Lib.hid h2; have PL := Lib.hid hle; have PK := Lib.hid hk; have BW := Lib.hid (below_then (by repeat (first | exact Below.refl _ _ | apply below_alloc | apply below_drew) : Below W.heap.size W _) (by simp; omega) hbw); clear h0 h2 hle hk hbw b4 b5; have HKD := Lib.hid (fun (j : Nat) (u : Value) => kind_readdir A (w1.setCell ⟨W.heap.size + 1 + 1, j, none⟩ u) ((HSN.out _ (below_set BW.out (by omega))).sent) p path ⟨bb, 0, none⟩ ((World.cell?_setCell_far _ _ _ _ np5).trans P0.out) ((World.cell?_setCell_far _ _ _ _ np5).trans P2.out) (by obtain ⟨c, t, hc⟩ := PK.out; have hle := PL.out; simp at hle; exact ⟨c, t, (Below.heap_setCell w1 ⟨W.heap.size + 1 + 1, j, none⟩ u bb (by show bb ≠ W.heap.size + 1 + 1; omega)).trans hc⟩) (fun k hk e => by have h9 := HSL.out k hk; rw [← e] at h9; have hle := PL.out; simp at hle; simp only at h9; omega))) | (go_at_call 53; (refine (HKD.out _ _).mono ?_); rintro e w' ⟨rfl, rfl⟩))
  refine bodyPost_ret (v := .agg #[.int .i64 8, .int .i64 0, .int .i64 0, .slice none 0 0, .slice A4 0 c4, .slice none 0 0]) (by simp [results, Tryd.results27, go_sem, q0, q1, q2, q3, q4, q5]) rfl ?_
  have bw := BW.out
  refine ⟨v, ⟨_, _, _, rfl, Kd.R_nil _ _ _ _ _, row_v Kd.string rfl HR4.out (by simp; omega) ?_ (fun k hk e => by have h9 := HVL.out k e.symm; simp at hk; omega), Kd.R_nil _ _ _ _ _⟩, HF.out.below ?_, Moves.of_below ?_ _, .inl rfl⟩
  · intro k hk
    simp at hk
    repeat (first | with_reducible rfl | with_reducible refine (Below.heap_setCell _ ⟨W.heap.size + 1, _, none⟩ _ k (by show k ≠ W.heap.size + 1; omega)).trans ?_ | with_reducible refine (Below.heap_setCell _ ⟨W.heap.size + 1 + 1, _, none⟩ _ k (by show k ≠ W.heap.size + 1 + 1; omega)).trans ?_)
  all_goals (repeat (first | with_reducible exact bw | with_reducible refine below_set ?_ (by omega)))
theorem does_dir {A : Nat → Addr} {s : S26} (hop : s.f0 = 19) (hdir : n.dir = false) : Does A h n data s (ans 8 0 0 []) h n data := by
  intro f d base v W F hS hf hd Ad cd hC hc
  rw [hop]
  exact on_dir F s.f7 s.f8 s.f9 s.f1 s.f2 s.f3 s.f4 s.f5 Ad s.f6.length cd A hS hf hd hdir
theorem does_names {A : Nat → Addr} {s : S26} (hop : s.f0 = 20) (hdir : n.dir = false) : Does A h n data s (ans 8 0 0 []) h n data := by
  intro f d base v W F hS hf hd Ad cd hC hc
  rw [hop]
  exact on_names F s.f7 s.f8 s.f9 s.f1 s.f2 s.f3 s.f4 s.f5 Ad s.f6.length cd A hS hf hd hdir
theorem does_sync {A : Nat → Addr} {s : S26} (hop : s.f0 = 23) : Does A h n data s (ans 0 0 0 []) h n data := by
  intro f d base v W F hS hf hd Ad cd hC hc
  rw [hop]
  exact on_sync F s.f7 s.f8 s.f9 s.f1 s.f2 s.f3 s.f4 s.f5 Ad s.f6.length cd A hf hd
end
end Go.Proofs.YtljcdjggjphedaaDoor.Hd
namespace Go.Proofs.YtljcdjggjphedaaDoor.Sx
open Go.RowKit Go.Maps Go.Proofs.YtljcdjggjphedaaDoorW.PrintWords Go.Proofs.YtljcdjggjphedaaDoorW.PrintLast Go.Proofs.YtljcdjggjphedaaDoorW.PrintMore Go.Proofs.YtljcdjggjphedaaDoor.PFnHandleScript Go.Proofs.YtljcdjggjphedaaDoor.Hd Go.Proofs.YtljcdjggjphedaaDoor.Ms Go.Proofs.YtljcdjggjphedaaDoor.Mn Go.Proofs.YtljcdjggjphedaaDoor.Pm Go.Proofs.YtljcdjggjphedaaDoor.Mf Go.Proofs.YtljcdjggjphedaaDoor.Mq Go.Proofs.YtljcdjggjphedaaDoor.Bq Go.Proofs.YtljcdjggjphedaaDoor.Mr Go.Proofs.YtljcdjggjphedaaDoor.Mt Go.Proofs.YtljcdjggjphedaaDoor.Mu Go.Proofs.YtljcdjggjphedaaDoor.Mv Go.Proofs.YtljcdjggjphedaaDoor.Mw Go.Proofs.YtljcdjggjphedaaDoor.Mb Go.Proofs.YtljcdjggjphedaaDoor.Mk
set_option linter.unusedVariables false
set_option linter.unusedSimpArgs false
def nd : Nod := ⟨⟨#[47, 102]⟩, .map none, false, 268435456, 0⟩
/-- The package's handle behind a step. -/
def ih (h : Hnd) (sh : SHnd) (x : S42) (s : S26) : Hnd := if s.f0 = 18 then { h with cl := true } else if sh.closed = true then (if s.f0 = 15 then { h with pos := s.f7 } else h) else { h with pos := (fstep sh x s).1.1.pos }
structure Goes (h : Hnd) (sh : SHnd) : Prop where
  cl : h.cl = sh.closed
  ro : h.ro = sh.ro
  pos : sh.closed = false → h.pos = sh.pos
theorem cut_fill (l : List Int) (k : Nat) : fillTo (l.take (min l.length k)) (k : Int) = cutTo l k := by
  unfold fillTo cutTo
  rw [Int.toNat_natCast, List.length_take]
  have e : l.take (min l.length k) = l.take k := by
    rw [List.take_eq_take_iff]
    omega
  rw [e]
  congr 2
  omega
theorem goes_step {h : Hnd} {sh : SHnd} {x : S42} {s : S26} (g0 : 12 ≤ s.f0) (g1 : s.f0 ≤ 23) (R : Goes h sh) : Goes (ih h sh x s) (fstep sh x s).1.1 := by
  obtain ⟨a, b, c⟩ := R
  rcases op_cases s.f0 g0 g1 with e | e | e | e | e | e | e | e | e | e | e | e
  all_goals
    unfold ih
    cases hc : sh.closed with
    | true =>
      unfold fstep
      simp [e, hc]
      constructor <;> simp_all
    | false =>
      have hp := c hc
      unfold fstep
      simp only [e, hc]
      cases hr : sh.ro with
      | true => (constructor <;> simp_all)
      | false => (constructor <;> (simp_all; try (split <;> simp_all)))
theorem fs18 (h : SHnd) (x : S42) (s : S26) (e : s.f0 = 18) : fstep h x s = (({ h with closed := true }, { x with f3 := if h.ro then x.f3 else 0 }), ans 0 0 0 []) := by unfold fstep; rw [if_pos e]
theorem sim {A : Nat → Addr} {h : Hnd} {sh : SHnd} {x : S42} {s : S26} (hn : sh.node = 1) (F : HFine sh x) (G : GoodAt sh x s) (h21 : s.f0 ≠ 21) (h22 : s.f0 ≠ 22) (R : Goes h sh) :
    Does A h nd x.f2 s (fstep sh x s).2 (ih h sh x s) nd (fstep sh x s).1.2.f2 := by
  obtain ⟨g0, g1, _, hs⟩ := G
  obtain ⟨d, l, nm, p0, p1⟩ := F
  obtain ⟨a, b, c⟩ := R
  have ndt : ({ nd with tm := 0 } : Nod) = nd := rfl
  rcases op_cases s.f0 g0 g1 with e | e | e | e | e | e | e | e | e | e | e | e
  case inr.inr.inr.inr.inr.inr.inl =>
    have := does_close (A := A) (h := h) (n := nd) (data := x.f2) (s := s) e
    rw [show ({ nd with tm := if h.ro = true then nd.tm else 0 } : Nod) = nd by cases h.ro <;> rfl] at this
    rw [fs18 sh x s e]
    unfold ih
    rw [if_pos e]
    exact this
  case inr.inr.inr.inr.inr.inr.inr.inl =>
    have := does_dir (A := A) (h := h) (n := nd) (data := x.f2) (s := s) e rfl
    have e9 : fstep sh x s = ((sh, x), ans 8 0 0 []) := by unfold fstep; simp [e]
    have e8 : ih h sh x s = h := by
      unfold ih; rw [e9]; simp only [e]
      cases hc : sh.closed with
      | true => simp
      | false => simp; rw [← c hc]
    rw [e9, e8]; exact this
  case inr.inr.inr.inr.inr.inr.inr.inr.inl =>
    have := does_names (A := A) (h := h) (n := nd) (data := x.f2) (s := s) e rfl
    have e9 : fstep sh x s = ((sh, x), ans 8 0 0 []) := by unfold fstep; simp [e]
    have e8 : ih h sh x s = h := by
      unfold ih; rw [e9]; simp only [e]
      cases hc : sh.closed with
      | true => simp
      | false => simp; rw [← c hc]
    rw [e9, e8]; exact this
  case inr.inr.inr.inr.inr.inr.inr.inr.inr.inl => exact absurd e h21
  case inr.inr.inr.inr.inr.inr.inr.inr.inr.inr.inl => exact absurd e h22
  case inr.inr.inr.inr.inr.inr.inr.inr.inr.inr.inr =>
    have := does_sync (A := A) (h := h) (n := nd) (data := x.f2) (s := s) e
    have e9 : fstep sh x s = ((sh, x), ans 0 0 0 []) := by unfold fstep; simp [e]
    have e8 : ih h sh x s = h := by
      unfold ih; rw [e9]; simp only [e]
      cases hc : sh.closed with
      | true => simp
      | false => simp; rw [← c hc]
    rw [e9, e8]; exact this
  all_goals
    obtain ⟨b0, b1, b2, b3, b4, b5⟩ := spk_open hs (by omega) (by omega)
    unfold spkKind at b5
    simp [e] at b5
    obtain ⟨m, hm⟩ := Int.eq_ofNat_of_zero_le b1
    cases hc : sh.closed with
    | true =>
      have hcl : h.cl = true := by rw [a, hc]
      have e9 : fstep sh x s = ((sh, x), ans 3 0 0 []) := by unfold fstep; simp [e, hc]
      rw [e9]
      unfold ih
      rw [if_neg (by omega), if_pos hc]
      first
        | (rw [if_pos e]; exact does_writeatc e hcl (by omega))
        | (rw [if_neg (by omega)]; exact does_writec e hcl (by omega))
        | (rw [if_neg (by omega)]; exact does_seekc e hcl)
        | (rw [if_neg (by omega)]; exact does_truncc e hcl)
        | (rw [if_neg (by omega)]
           have := does_read (A := A) (h := h) (n := nd) (data := x.f2) (s := s) m e hm (by omega) (by omega) (by intro q; rw [hcl] at q; cases q)
           rw [show rdD h.cl x.f2 h.pos m = [] by rw [hcl]; rfl, show rdE h.cl x.f2.length h.pos m = 3 by rw [hcl]; rfl, show ({ h with pos := h.pos + (([] : List Int).length : Int) } : Hnd) = h by simp] at this
           exact this)
        | (rw [if_neg (by omega)]
           have := does_readat (A := A) (h := h) (n := nd) (data := x.f2) (s := s) m e hm (by omega) (by omega) (by intro q; rw [hcl] at q; cases q)
           rw [hcl] at this
           exact this)
    | false => ?_
  · have hcl : h.cl = false := by rw [a, hc]
    rw [hc] at b5
    simp at b5
    have hp := c hc
    have := does_read (A := A) (h := h) (n := nd) (data := x.f2) (s := s) m e hm (by omega) (by omega) (fun _ => by omega)
    rw [show rdD h.cl x.f2 h.pos m = rdD false x.f2 sh.pos m by rw [hcl, hp], show rdE h.cl x.f2.length h.pos m = rdE false x.f2.length sh.pos m by rw [hcl, hp], hp] at this
    have e9 : fstep sh x s = (({ sh with pos := sh.pos + ((rdD false x.f2 sh.pos m).length : Int) }, x), ans (rdE false x.f2.length sh.pos m) 0 0 (rdD false x.f2 sh.pos m)) := by
      unfold fstep
      rw [hm]
      simp only [e, hc, Int.toNat_natCast, Int.toNat_of_nonneg b5]
      rfl
    have e8 : ih h sh x s = { h with pos := sh.pos + ((rdD false x.f2 sh.pos m).length : Int) } := by
      unfold ih; rw [e9, if_neg (by omega), if_neg (by rw [hc]; decide)]
    rw [e9, e8]; exact this
  · have hcl : h.cl = false := by rw [a, hc]
    have hp := c hc
    have := does_readat (A := A) (h := h) (n := nd) (data := x.f2) (s := s) m e hm (by omega) (by omega) (fun _ => by omega)
    rw [hcl] at this
    have e9 : fstep sh x s = ((sh, x), ans (rdE false x.f2.length s.f7 m) 0 0 (rdD false x.f2 s.f7 m)) := by
      unfold fstep
      rw [hm]
      simp only [e, hc, Int.toNat_natCast, Int.toNat_of_nonneg b5]
      rfl
    have e8 : ih h sh x s = h := by
      unfold ih; rw [e9, if_neg (by omega), if_neg (by rw [hc]; decide)]; simp only; rw [← hp]
    rw [e9, e8]; exact this
  · have hcl : h.cl = false := by rw [a, hc]
    have hp := c hc
    cases hr : sh.ro with
    | true =>
      have hro : h.ro = true := by rw [b, hr]
      have e9 : fstep sh x s = ((sh, x), ans 6 0 0 []) := by unfold fstep; simp [e, hc, hr]
      have e8 : ih h sh x s = h := by
        unfold ih; rw [e9, if_neg (by omega), if_neg (by rw [hc]; decide)]; simp only; rw [← hp]
      rw [e9, e8]; exact does_writer e hcl hro (by omega)
    | false =>
      have hro : h.ro = false := by rw [b, hr]
      obtain ⟨p, hpp⟩ := Int.eq_ofNat_of_zero_le b5.1
      have := does_write (A := A) (h := h) (n := nd) (data := x.f2) (s := s) p e hcl hro (by omega) (by omega) (by omega) (by omega)
      rw [ndt] at this
      have e9 : fstep sh x s = (({ sh with pos := (p : Int) + (s.f6.length : Int) }, { x with f2 := overB x.f2 p s.f6, f3 := 0 }), ans 0 (s.f6.length : Int) 0 []) := by
        unfold fstep
        rw [hpp]
        simp only [e, hc, hr, Int.toNat_natCast]
        rfl
      have e8 : ih h sh x s = { h with pos := (p : Int) + (s.f6.length : Int) } := by
        unfold ih; rw [e9, if_neg (by omega), if_neg (by rw [hc]; decide)]
      rw [e9, e8]; exact this
  · have hcl : h.cl = false := by rw [a, hc]
    have hp := c hc
    cases hr : sh.ro with
    | true =>
      have hro : h.ro = true := by rw [b, hr]
      have e9 : fstep sh x s = (({ sh with pos := s.f7 }, x), ans 6 0 0 []) := by unfold fstep; simp [e, hc, hr]
      have e8 : ih h sh x s = { h with pos := s.f7 } := by
        unfold ih; rw [e9, if_neg (by omega), if_neg (by rw [hc]; decide)]
      rw [e9, e8]; exact does_writeatr e hcl hro (by omega)
    | false =>
      have hro : h.ro = false := by rw [b, hr]
      obtain ⟨p, hpp⟩ := Int.eq_ofNat_of_zero_le b5.1
      have := does_writeat (A := A) (h := h) (n := nd) (data := x.f2) (s := s) p e hcl hro (by omega) (by omega) (by omega) (by omega)
      rw [ndt] at this
      have e9 : fstep sh x s = (({ sh with pos := (p : Int) + (s.f6.length : Int) }, { x with f2 := overB x.f2 p s.f6, f3 := 0 }), ans 0 (s.f6.length : Int) 0 []) := by
        unfold fstep
        rw [hpp]
        simp only [e, hc, hr, Int.toNat_natCast]
        rfl
      have e8 : ih h sh x s = { h with pos := (p : Int) + (s.f6.length : Int) } := by
        unfold ih; rw [e9, if_neg (by omega), if_neg (by rw [hc]; decide)]
      rw [e9, e8]; exact this
  · have hcl : h.cl = false := by rw [a, hc]
    have hp := c hc
    have := does_seek (A := A) (h := h) (n := nd) (data := x.f2) (s := s) e hcl (by omega) (by omega) (by omega) (by omega) (by omega)
    have es : seekTo h.pos x.f2.length s.f7 s.f8 = seekP sh x s := by unfold seekTo seekP; rw [hp]
    rw [es] at this
    have e9 : fstep sh x s = (({ sh with pos := seekP sh x s }, x), ans 0 0 (seekP sh x s) []) := by
      unfold fstep
      simp only [e, hc]
      rfl
    have e8 : ih h sh x s = { h with pos := seekP sh x s } := by
      unfold ih; rw [e9, if_neg (by omega), if_neg (by rw [hc]; decide)]
    rw [e9, e8]; exact this
  · have hcl : h.cl = false := by rw [a, hc]
    have hp := c hc
    cases hr : sh.ro with
    | true =>
      have hro : h.ro = true := by rw [b, hr]
      have e9 : fstep sh x s = ((sh, x), ans 6 0 0 []) := by unfold fstep; simp [e, hc, hr]
      have e8 : ih h sh x s = h := by
        unfold ih; rw [e9, if_neg (by omega), if_neg (by rw [hc]; decide)]; simp only; rw [← hp]
      rw [e9, e8]; exact does_truncr e hcl hro
    | false =>
      have hro : h.ro = false := by rw [b, hr]
      by_cases hz : s.f7 < 0
      · have e9 : fstep sh x s = ((sh, x), ans 7 0 0 []) := by unfold fstep; simp [e, hc, hr, hz]
        have e8 : ih h sh x s = h := by
          unfold ih; rw [e9, if_neg (by omega), if_neg (by rw [hc]; decide)]; simp only; rw [← hp]
        rw [e9, e8]; exact does_truncn e hcl hro hz
      · obtain ⟨p, hpp⟩ := Int.eq_ofNat_of_zero_le (show 0 ≤ s.f7 by omega)
        have := does_trunc (A := A) (h := h) (n := nd) (data := x.f2) (s := s) p e hpp hcl hro (by omega) (by omega)
        rw [ndt, ← cut_fill] at this
        have e9 : fstep sh x s = ((sh, { x with f2 := fillTo (x.f2.take (min x.f2.length p)) (p : Int), f3 := 0 }), ans 0 0 0 []) := by
          unfold fstep
          rw [hpp]
          have hz2 : ¬ ((p : Int) < 0) := by omega
          simp only [e, hc, hr, Int.toNat_natCast]
          simp [hz2]
        have e8 : ih h sh x s = h := by
          unfold ih; rw [e9, if_neg (by omega), if_neg (by rw [hc]; decide)]; simp only; rw [← hp]
        rw [e9, e8]; exact this
end Go.Proofs.YtljcdjggjphedaaDoor.Sx
namespace Go.Proofs.YtljcdjggjphedaaDoor.Sy
open Go.RowKit Go.Maps Go.Proofs.YtljcdjggjphedaaDoorW.PrintWords Go.Proofs.YtljcdjggjphedaaDoorW.PrintLast Go.Proofs.YtljcdjggjphedaaDoorW.PrintMore Go.Proofs.YtljcdjggjphedaaDoor.PFnHandleScript Go.Proofs.YtljcdjggjphedaaDoor.Hd Go.Proofs.YtljcdjggjphedaaDoor.Ms Go.Proofs.YtljcdjggjphedaaDoor.Mn Go.Proofs.YtljcdjggjphedaaDoor.Pm Go.Proofs.YtljcdjggjphedaaDoor.Mf Go.Proofs.YtljcdjggjphedaaDoor.Mq Go.Proofs.YtljcdjggjphedaaDoor.Bq Go.Proofs.YtljcdjggjphedaaDoor.Mr Go.Proofs.YtljcdjggjphedaaDoor.Mt Go.Proofs.YtljcdjggjphedaaDoor.Mu Go.Proofs.YtljcdjggjphedaaDoor.Mv Go.Proofs.YtljcdjggjphedaaDoor.Mw Go.Proofs.YtljcdjggjphedaaDoor.Mb Go.Proofs.YtljcdjggjphedaaDoor.Mp Go.Proofs.YtljcdjggjphedaaDoor.Mi Go.Proofs.YtljcdjggjphedaaDoor.Me Go.Proofs.YtljcdjggjphedaaDoor.Mo Go.Proofs.YtljcdjggjphedaaDoor.Mk Go.Proofs.YtljcdjggjphedaaDoor.Sx
set_option linter.unusedVariables false
set_option linter.unusedSimpArgs false
theorem l1_nil (k : Nat) (a b c : Int) (d : List Int) (e : List ByteArray) (a' b' c' : Int) (d' : List Int) (e' : List ByteArray) (f' : List S75) : spec_SameAnswer.l1 (k + 1) ((([] : List S75).length : Nat) : Int) 0 a b c d e [] a' b' c' d' e' f' = some true := by
  unfold spec_SameAnswer.l1
  exact if_neg (Int.lt_irrefl 0)
theorem l0_nil (k : Nat) (a b c : Int) (d : List Int) (a' b' c' : Int) (d' : List Int) (e' : List ByteArray) (f' : List S75) : spec_SameAnswer.l0 (k + 2) ((([] : List ByteArray).length : Nat) : Int) 0 a b c d [] [] a' b' c' d' e' f' = some true := by
  unfold spec_SameAnswer.l0
  exact (if_neg (Int.lt_irrefl 0)).trans (l1_nil k a b c d [] a' b' c' d' e' f')
theorem j0_nil (k : Nat) (a b c : Int) (d : List Int) (a' b' c' : Int) (d' : List Int) (e' : List ByteArray) (f' : List S75) : spec_SameAnswer.j0 (k + 3) false a b c d [] [] a' b' c' d' e' f' = some true := by
  unfold spec_SameAnswer.j0
  exact (if_neg (by decide)).trans (l0_nil k a b c d a' b' c' d' e' f')
theorem same_one0 (k : Nat) (a b c : Int) (d : List Int) : spec_SameAnswer.f (k + 3) a b c d [] [] a b c d [] [] = some true := by
  unfold spec_SameAnswer.f
  generalize hj : spec_SameAnswer.j0 (k + 3) = j
  rw [if_pos rfl, if_pos rfl, if_pos rfl, if_pos rfl, if_pos rfl]
  have hb : (((([] : List S75).length : Nat) : Int) != ((([] : List S75).length : Nat) : Int)) = false := by simp
  rw [hb, ← hj]
  exact j0_nil k a b c d a b c d [] []
theorem step_loop (k : Nat) (l : List S33) (n i : Int) (h1 : i < n) (h0 : 0 ≤ i) (h2 : i < (l.length : Int)) (hs : spec_SameAnswer.f k (rd_T33 l i).f0 (rd_T33 l i).f1 (rd_T33 l i).f2 (rd_T33 l i).f3 (rd_T33 l i).f4 (rd_T33 l i).f5 (rd_T33 l i).f0 (rd_T33 l i).f1 (rd_T33 l i).f2 (rd_T33 l i).f3 (rd_T33 l i).f4 (rd_T33 l i).f5 = some true) (r : Option Bool) (hr : spec_SameAnswers.l0 k l l n (Go.RowKit.wrap64 (i + 1)) = r) : spec_SameAnswers.l0 (k + 1) l l n i = r := by
  unfold spec_SameAnswers.l0
  rw [if_pos h1, if_pos h0, if_pos h2, if_pos h2, hs]
  exact hr
theorem end_loop (k : Nat) (l : List S33) (n i : Int) (h1 : ¬ i < n) : spec_SameAnswers.l0 (k + 1) l l n i = some true := by
  unfold spec_SameAnswers.l0
  exact if_neg h1
theorem same_one (k : Nat) (x : S33) (h4 : x.f4 = []) (h5 : x.f5 = []) : spec_SameAnswer.f (k + 3) x.f0 x.f1 x.f2 x.f3 x.f4 x.f5 x.f0 x.f1 x.f2 x.f3 x.f4 x.f5 = some true := by
  rw [h4, h5]
  exact same_one0 k _ _ _ _
theorem same_loop (l : List S33) (h : ∀ i : Nat, i < l.length → (rd_T33 l i).f4 = [] ∧ (rd_T33 l i).f5 = []) (hl : l.length ≤ 100000) (c : Nat) : ∀ m i : Nat, m + i = l.length → spec_SameAnswers.l0 (c + 3 + m + 1) l l (l.length : Int) (i : Int) = some true
  | 0, i, hi => end_loop _ l _ _ (by omega)
  | m + 1, i, hi => by
    obtain ⟨h4, h5⟩ := h i (by omega)
    have ih := same_loop l h hl c m (i + 1) (by omega)
    have e1 := same_one (c + m + 1) (rd_T33 l (i : Int)) h4 h5
    have ew : Go.RowKit.wrap64 ((i : Int) + 1) = ((i + 1 : Nat) : Int) := by unfold Go.RowKit.wrap64; omega
    refine step_loop (c + 3 + (m + 1)) l _ _ (by omega) (by omega) (by omega) ?_ _ ?_
    · rw [show c + 3 + (m + 1) = c + m + 1 + 3 by omega]; exact e1
    · rw [ew]; exact ih
theorem same_f (l : List S33) (h : ∀ i : Nat, i < l.length → (rd_T33 l i).f4 = [] ∧ (rd_T33 l i).f5 = []) (hl : l.length ≤ 100000) : spec_SameAnswers.f (0 + 3 + l.length + 1) l l = some true := by
  unfold spec_SameAnswers.f
  rw [if_pos rfl]
  exact same_loop l h hl 0 l.length 0 (by omega)
theorem plain (h : SHnd) (x : S42) (s : S26) (h21 : s.f0 ≠ 21) (h22 : s.f0 ≠ 22) : (fstep h x s).2.f4 = [] ∧ (fstep h x s).2.f5 = [] := by
  unfold fstep
  by_cases a1 : s.f0 = 18
  · rw [if_pos a1]; exact ⟨rfl, rfl⟩
  rw [if_neg a1, if_neg h21, if_neg h22]
  by_cases a2 : s.f0 = 23
  · rw [if_pos a2]; exact ⟨rfl, rfl⟩
  rw [if_neg a2]
  by_cases a3 : s.f0 = 19 ∨ s.f0 = 20
  · rw [if_pos a3]; exact ⟨rfl, rfl⟩
  rw [if_neg a3]
  by_cases a4 : h.closed = true
  · rw [if_pos a4]; exact ⟨rfl, rfl⟩
  rw [if_neg a4]
  by_cases a5 : s.f0 = 12
  · rw [if_pos a5]; exact ⟨rfl, rfl⟩
  rw [if_neg a5]
  by_cases a6 : s.f0 = 13
  · rw [if_pos a6]; exact ⟨rfl, rfl⟩
  rw [if_neg a6]
  by_cases a7 : s.f0 = 16
  · rw [if_pos a7]; exact ⟨rfl, rfl⟩
  rw [if_neg a7]
  by_cases a8 : h.ro = true
  · rw [if_pos a8]; exact ⟨rfl, rfl⟩
  rw [if_neg a8]
  by_cases a9 : s.f0 = 17
  · rw [if_pos a9]
    by_cases b1 : s.f7 < 0
    · rw [if_pos b1]; exact ⟨rfl, rfl⟩
    · rw [if_neg b1]; exact ⟨rfl, rfl⟩
  rw [if_neg a9]
  by_cases b2 : s.f0 = 14
  · rw [if_pos b2]; exact ⟨rfl, rfl⟩
  · rw [if_neg b2]; exact ⟨rfl, rfl⟩
/-- The package's handle behind the first steps. -/
def ist (h : SHnd) (x : S42) (steps : List S26) : Nat → Hnd
  | 0 => ⟨h.pos, 0, h.closed, h.ro⟩
  | i + 1 => ih (ist h x steps i) (runS h x steps i).1 (runS h x steps i).2 (rd_T26 steps i)
theorem ist_goes (h : SHnd) (x : S42) (steps : List S26) : ∀ i : Nat, (∀ j, j < i → GoodAt (runS h x steps j).1 (runS h x steps j).2 (rd_T26 steps j)) → Goes (ist h x steps i) (runS h x steps i).1
  | 0, _ => ⟨rfl, rfl, fun _ => rfl⟩
  | i + 1, hg => goes_step (hg i (by omega)).1 (hg i (by omega)).2.1 (ist_goes h x steps i (fun j hj => hg j (by omega)))
noncomputable def ysn (h : SHnd) (x : S42) (steps : List S26) (i : Nat) : S33 := (fstep (runS h x steps i).1 (runS h x steps i).2 (rd_T26 steps i)).2
def x0 (data : List Int) : S42 := ⟨false, 268435456, data, 0, slashf⟩
theorem script (w : World) (A : Nat → Addr) (hS : Sent A w) (data : List Int) (Ad : Option Addr) (cd : Nat) (ro : Bool) (hD : Kd.C (Kd.int .u8) w Ad data.length data) (hm : data.length ≤ 4096) (ss : List S26) (hss : ss.length ≤ 60)
    (hg : ∀ i : Nat, i < ss.length → GoodAt (runS ⟨1, 0, 0, false, ro⟩ (x0 data) ss i).1 (runS ⟨1, 0, 0, false, ro⟩ (x0 data) ss i).2 (rd_T26 ss i)) (hn : ∀ i : Nat, i < ss.length → (rd_T26 ss i).f0 ≠ 21 ∧ (rd_T26 ss i).f0 ≠ 22)
    (W : World) (As : Option Addr) (cs : Nat) (hbw : Below w.heap.size w W) (hC : k26.C w As ss.length ss) :
    Calls Tryd.prog 13 #[.slice Ad data.length cd, .bool ro, .slice As ss.length cs] W fun e w' => ∃ A1 c1 A2 c2, e = .returned (.tuple #[.slice A1 ss.length c1, .slice A2 (runS ⟨1, 0, 0, false, ro⟩ (x0 data) ss ss.length).2.f2.length c2]) ∧ k33.C w' A1 ss.length ((List.range ss.length).map (ysn ⟨1, 0, 0, false, ro⟩ (x0 data) ss)) ∧ ss.length ≤ c1 ∧ (Kd.int .u8).C w' A2 (runS ⟨1, 0, 0, false, ro⟩ (x0 data) ss ss.length).2.f2.length (runS ⟨1, 0, 0, false, ro⟩ (x0 data) ss ss.length).2.f2 ∧ (runS ⟨1, 0, 0, false, ro⟩ (x0 data) ss ss.length).2.f2.length ≤ c2 ∧ Below W.heap.size W w' := by
  have hf : ∀ i, i ≤ ss.length → HFine (runS ⟨1, 0, 0, false, ro⟩ (x0 data) ss i).1 (runS ⟨1, 0, 0, false, ro⟩ (x0 data) ss i).2 ∧ (runS ⟨1, 0, 0, false, ro⟩ (x0 data) ss i).1.node = 1 := fun i hi =>
    fine_run rfl ⟨rfl, by show data.length ≤ 10000; omega, by show slashf.size ≤ 10000; decide, by show _ ≤ (0 : Int); decide, by show (0 : Int) ≤ _; decide⟩ i (fun j hj => hg j (by omega))
  exact handle13 W A (SentB.of (hS.later hbw)) data Ad data.length cd (Kd.C_below hD hbw) (by omega) ro ss As ss.length cs (Kd.C_below hC hbw) (by omega)
    (fun i => (ist ⟨1, 0, 0, false, ro⟩ (x0 data) ss i, nd, (runS ⟨1, 0, 0, false, ro⟩ (x0 data) ss i).2.f2)) (ysn ⟨1, 0, 0, false, ro⟩ (x0 data) ss) rfl
    (fun i hi => sim (hf i (by omega)).2 (hf i (by omega)).1 (hg i hi) (hn i hi).1 (hn i hi).2 (ist_goes _ _ ss i (fun j hj => hg j (by omega))))
    (Nat.le_trans (hf ss.length (Nat.le_refl _)).1.len (by decide))
end Go.Proofs.YtljcdjggjphedaaDoor.Sy
namespace Go.Proofs.YtljcdjggjphedaaDoor.Sz
open Go.RowKit Go.Maps Go.Proofs.YtljcdjggjphedaaDoorW.PrintWords Go.Proofs.YtljcdjggjphedaaDoorW.PrintLast Go.Proofs.YtljcdjggjphedaaDoorW.PrintMore Go.Proofs.YtljcdjggjphedaaDoor.PFnHandleScript Go.Proofs.YtljcdjggjphedaaDoor.Hd Go.Proofs.YtljcdjggjphedaaDoor.Ms Go.Proofs.YtljcdjggjphedaaDoor.Mn Go.Proofs.YtljcdjggjphedaaDoor.Pm Go.Proofs.YtljcdjggjphedaaDoor.Mf Go.Proofs.YtljcdjggjphedaaDoor.Mq Go.Proofs.YtljcdjggjphedaaDoor.Bq Go.Proofs.YtljcdjggjphedaaDoor.Mr Go.Proofs.YtljcdjggjphedaaDoor.Mt Go.Proofs.YtljcdjggjphedaaDoor.Mu Go.Proofs.YtljcdjggjphedaaDoor.Mv Go.Proofs.YtljcdjggjphedaaDoor.Mw Go.Proofs.YtljcdjggjphedaaDoor.Mb Go.Proofs.YtljcdjggjphedaaDoor.Mp Go.Proofs.YtljcdjggjphedaaDoor.Mi Go.Proofs.YtljcdjggjphedaaDoor.Me Go.Proofs.YtljcdjggjphedaaDoor.Mo Go.Proofs.YtljcdjggjphedaaDoor.Mk Go.Proofs.YtljcdjggjphedaaDoor.Sx Go.Proofs.YtljcdjggjphedaaDoor.Sy
set_option linter.unusedVariables false
set_option linter.unusedSimpArgs false
theorem spoken_big (w : World) (data : List Int) (ro : Bool) (A : Option Addr) (c : Nat) (v : Value) (hd : (4096 : Int) < data.length) (hl : data.length ≤ 9223372036854775807) :
    Calls Tryd.prog 14 #[.slice A data.length c, .bool ro, v] w fun e w' => e = .returned (.bool false) ∧ Below w.heap.size w w' := by
  go_enter Tryd.func14, Tryd.ntmps14
  go_wp2_with fail
  go_ret
  exact ⟨rfl, Below.refl _ _⟩
theorem un_drew7 {W w1 : World} (h : Below W.drew.heap.size W.drew w1) : Below W.heap.size W w1 := below_then (below_drew (Below.refl _ _)) (Nat.le_refl _) h
/-- What handleSpoken tells, of any file. -/
theorem spoken_all (w : World) (data : List Int) (ro : Bool) (A : Option Addr) (c : Nat) (hC : (Kd.int .u8).C w A data.length data) (steps : List S26) (A2 : Option Addr) (c2 : Nat) (hS : k26.C w A2 steps.length steps) (hc2 : steps.length ≤ c2) :
    Calls Tryd.prog 14 #[.slice A data.length c, .bool ro, .slice A2 steps.length c2] w (SpokenPost w data ro steps) := by
  by_cases hd : (4096 : Int) < data.length
  · exact (spoken_big w data ro A c _ hd hC.2.1).mono (fun e w' ⟨h1, h2⟩ => ⟨false, h1, h2, fun h => by cases h⟩)
  · exact spoken_any w data ro A c hC steps A2 c2 hS hc2 (by omega)
set_option maxHeartbeats 8000000 in
set_option maxRecDepth 100000 in
theorem law4in (w : World) (A : Nat → Addr) (hS : Sent A w) (data : List Int) (Ad : Option Addr) (cd : Nat) (ro : Bool) (ss : List S26) (As : Option Addr) (cs : Nat) (hD : Kd.C (Kd.int .u8) w Ad data.length data) (hcd : data.length ≤ cd) (hC : k26.C w As ss.length ss) (hcs : ss.length ≤ cs)
    (hZ : ∀ W, Below w.heap.size w W → Calls Tryd.prog 12 #[.slice As ss.length cs] W fun e w' => e = .returned (.bool true) ∧ Below W.heap.size W w') (hm : (data.length : Int) ≤ 2147483647) :
    Calls Tryd.prog 4 #[.slice Ad data.length cd, .bool ro, .slice As ss.length cs] w fun e w' => e = .returned (.bool true) ∧ Below w.heap.size w w' := by
  have HZ := Lib.hid hZ
  have HSP := Lib.hid (fun W (hb : Below w.heap.size w W) => spoken_all W data ro Ad cd (Kd.C_below hD hb) ss As cs (Kd.C_below hC hb) hcs)
  have HD := Lib.hid hD
  have HC := Lib.hid hC
  have HS := Lib.hid hS
  have hsl := hC.2.1
  clear hZ hD hC hS
  go_enter Tryd.func4, Tryd.ntmps4
  go_wp2_with (first | (go_at_call 12; (refine (HZ.out _ (Below.refl _ _)).mono ?_); rintro e w1 ⟨rfl, hb1⟩; have B1 := Lib.hid hb1; clear hb1) | (go_at_call 14; (refine (HSP.out _ B1.out).mono ?_); rintro e w2 ⟨b, rfl, hb2, hg⟩; have B2 := Lib.hid (below_then B1.out B1.out.size hb2); have HG := Lib.hid hg; clear hb2 hg))
  · go_ret
    exact ⟨rfl, B2.out⟩
  have hbt : b = true := by simp_all
  obtain ⟨hl1, hn1, hgood⟩ := HG.out hbt
  have HGD := Lib.hid hgood
  clear hgood HZ HSP HG B1
  go_loopw [31] (fun v31 wr => ∃ i : Nat, v31 = .int .i64 i ∧ i ≤ ss.length ∧ Hid (Below w.heap.size w wr) ∧ Hid (∀ j : Nat, j < i → (rd_T26 ss j).f0 ≠ 21 ∧ (rd_T26 ss j).f0 ≠ 22)) (fun v31 _ => ss.length - (intOf v31).toNat)
  case atStart => exact ⟨0, rfl, Nat.zero_le _, B2, Lib.hid (fun j hj => absurd hj (by omega))⟩
  case round =>
    obtain ⟨i, rfl, hi, BI, NI⟩ := hrel
    clear B2
    by_cases hlt : i < ss.length
    · obtain ⟨ad, A6, c6, eA, x0, x1, x2, x3, x4, x5, x6, x7, x8, x9, l6, g6⟩ := at_T26 (Kd.C_below HC.out BI.out) (i : Int) (by omega) (by omega)
      subst eA
      rw [Int.toNat_natCast] at x0 x1 x2 x3 x4 x5 x6 x7 x8 x9
      obtain ⟨s, hs⟩ : ∃ s, s = rd_T26 ss (i : Int) := ⟨_, rfl⟩
      rw [← hs] at x0 x1 x2 x3 x4 x5 x6 x7 x8 x9
      have HSS := Lib.hid hs
      clear hs g6 l6
      have hlt' : (i : Int) < (ss.length : Int) := by omega
      by_cases q1 : s.f0 = 21
      · go_wp2_with fail
        go_ret
        exact ⟨rfl, below_then BI.out BI.out.size (below_alloc (Below.refl _ _) _)⟩
      · by_cases q2 : s.f0 = 22
        · go_wp2_with fail
          go_ret
          exact ⟨rfl, below_then BI.out BI.out.size (below_alloc (Below.refl _ _) _)⟩
        · have e1 : (s.f0 == 21) = false := by simpa using q1
          have e2 : (s.f0 == 22) = false := by simpa using q2
          go_wp2_with fail
          go_roundw
          case rel => exact ⟨i + 1, by push_cast; rfl, hlt, Lib.hid (below_then BI.out BI.out.size (below_alloc (Below.refl _ _) _)), Lib.hid (fun j hj => by
            rcases Nat.lt_or_ge j i with h | h
            · exact NI.out j h
            · obtain rfl : j = i := by omega
              rw [← HSS.out]
              exact ⟨q1, q2⟩)⟩
          case measure => simp only [intOf]; omega
    · obtain rfl : i = ss.length := by omega
      have HONE := Lib.hid (one_any wr data ro Ad cd (Kd.C_below HD.out BI.out) (by omega))
      go_wp2_with (first | (go_at_call 15; (refine (HONE.out).mono ?_); rintro e w4 ⟨m, g, vN, vA, vD, mb, rfl, M1, B1⟩; have HM1 := Lib.hid M1; have HB1 := Lib.hid B1; clear M1 B1))
      obtain ⟨B, hB⟩ : ∃ B, B = wr.heap.size := ⟨_, rfl⟩
      obtain ⟨st, hst⟩ : ∃ st, st = runS ⟨1, 0, 0, false, ro⟩ (x0 data) ss := ⟨_, rfl⟩
      obtain ⟨ys, hys⟩ : ∃ ys, ys = ysn ⟨1, 0, 0, false, ro⟩ (x0 data) ss := ⟨_, rfl⟩
      have HB4 := Lib.hid (below_then BI.out BI.out.size HB1.out)
      have hB4 : B ≤ w4.heap.size := by rw [hB]; exact HB1.out.size
      have hBw : w.heap.size ≤ B := by rw [hB]; exact BI.out.size
      have HST0 := Lib.hid (show st 0 = (⟨1, 0, 0, false, ro⟩, x0 data) by rw [hst]; rfl)
      have HST1 := Lib.hid (show ∀ i, st (i + 1) = (fstep (st i).1 (st i).2 (rd_T26 ss i)).1 from fun i => by rw [hst]; rfl)
      have HYS := Lib.hid (show ∀ i, ys i = (fstep (st i).1 (st i).2 (rd_T26 ss i)).2 from fun i => by rw [hst, hys]; rfl)
      have HGS := Lib.hid (show ∀ j, j < ss.length → GoodAt (st j).1 (st j).2 (rd_T26 ss j) by rw [hst]; exact HGD.out)
      have HFN := Lib.hid (show ∀ i, i ≤ ss.length → HFine (st i).1 (st i).2 ∧ (st i).1.node = 1 from fun i hi => by
        rw [hst]
        exact fine_run rfl ⟨rfl, by show data.length ≤ 10000; omega, by show slashf.size ≤ 10000; decide, by show _ ≤ (0 : Int); decide, by show (0 : Int) ≤ _; decide⟩ i (fun j hj => HGD.out j (by omega)))
      have hm1 := HM1.out
      rw [← hB] at hm1
      have hm2 : IsMem w4 B (fun k => B ≤ k ∧ k < w4.heap.size) m vN vA vD mb 1 (upK (fun _ => none) (keyI 0) (some g)) (XS (st 0).1 (st 0).2) := by rw [HST0.out]; exact hm1
      have HM2 := Lib.hid (hm2.below (below_alloc (Below.refl w4.heap.size w4) (.cells #[] 33)))
      have HZR := Lib.hid (zero_row k33 (W := w4) (base := B) (e := 33) (ok := fun k => ¬ (B ≤ k ∧ k < w4.heap.size)) (by omega) hB4)
      have HBZ := Lib.hid (below_then HB4.out HB4.out.size (below_alloc (Below.refl w4.heap.size w4) (.cells #[] 33)))
      have HRST := Lib.hid hst
      have HRYS := Lib.hid hys
      clear hm1 hm2 hB hst hys HM1 HB1 HONE HB4
      go_loopw [53, 11] (fun v53 v11 wr => ∃ (i : Nat) (vN vA vD : Value) (ft : Nat → Prop), v53 = .int .i64 i ∧ i ≤ ss.length ∧ Hid (IsMem wr B ft m vN vA vD mb 1 (upK (fun _ => none) (keyI 0) (some g)) (XS (st i).1 (st i).2)) ∧ Hid (∀ k, ft k → B ≤ k ∧ k < wr.heap.size) ∧ Hid (k33.R 33 wr B (fun k => ¬ ft k) v11 ((List.range i).map ys)) ∧ Hid (Below w.heap.size w wr)) (fun v53 _ _ => ss.length - (intOf v53).toNat)
      case atStart => exact ⟨0, vN, vA, vD, _, rfl, Nat.zero_le _, HM2, Lib.hid (fun k hk => ⟨hk.1, by simp; omega⟩), HZR, HBZ⟩
      case round =>
        obtain ⟨i, vN', vA', vD', ft, rfl, hi2, MI, FI, RI, BJ⟩ := hrel
        by_cases hlt2 : i < ss.length
        · obtain ⟨ad, A6, c6, eA, x0', x1, x2, x3, x4, x5, x6, x7, x8, x9, l6, g6⟩ := at_T26 (Kd.C_below HC.out BJ.out) (i : Int) (by omega) (by omega)
          subst eA
          rw [Int.toNat_natCast] at x0' x1 x2 x3 x4 x5 x6 x7 x8 x9
          obtain ⟨s, hs⟩ : ∃ s, s = rd_T26 ss (i : Int) := ⟨_, rfl⟩
          rw [← hs] at x0' x1 x2 x3 x4 x5 x6 x7 x8 x9 l6 g6
          have HSS := Lib.hid hs
          have G6 := Lib.hid g6
          have L6 := Lib.hid l6
          clear hs g6 l6
          have hlt' : (i : Int) < (ss.length : Int) := by omega
          go_upto_region 17 with (fail)
          obtain ⟨Wb, hWb⟩ : ∃ Wb, Wb = wr.alloc (.cells #[.int .i64 s.f0, .string s.f1, .string s.f2, .int .i64 s.f3, .int .i64 s.f4, .int .i64 0, .slice A6 s.f6.length c6, .int .i64 s.f7, .int .i64 s.f8, .int .i64 s.f9] 26) := ⟨_, rfl⟩
          rw [← hWb]
          have bb : Below wr.heap.size wr Wb := by rw [hWb]; exact below_alloc (Below.refl _ _) _
          have bx : Wb.heap[wr.heap.size]? = some (.cells #[.int .i64 s.f0, .string s.f1, .string s.f2, .int .i64 s.f3, .int .i64 s.f4, .int .i64 0, .slice A6 s.f6.length c6, .int .i64 s.f7, .int .i64 s.f8, .int .i64 s.f9] 26 (0, 0)) := by rw [hWb]; exact blk_new _ _
          have hsz : Wb.heap.size = wr.heap.size + 1 := by rw [hWb]; simp
          obtain ⟨s', hs'⟩ : ∃ s' : S26, s' = { s with f5 := 0 } := ⟨_, rfl⟩
          obtain ⟨h, hh⟩ : ∃ h, h = (st i).1 := ⟨_, rfl⟩
          obtain ⟨x, hx⟩ : ∃ x, x = (st i).2 := ⟨_, rfl⟩
          have MB := MI.out.below bb
          rw [← hh, ← hx] at MB
          obtain ⟨F, hnode⟩ := HFN.out i hi2
          obtain ⟨go0, go1, go2, go3⟩ := HGS.out i hlt2
          rw [← hh, ← hx] at F
          rw [← hh] at hnode
          rw [← hh, ← hx, ← HSS.out] at go3
          rw [← HSS.out] at go0 go1
          have k0 := blk_cell bx 0
          have k1 := blk_cell bx 1
          have k2 := blk_cell bx 2
          have k3 := blk_cell bx 3
          have k4 := blk_cell bx 4
          have k5 := blk_cell bx 5
          have k6 := blk_cell bx 6
          have k7 := blk_cell bx 7
          have k8 := blk_cell bx 8
          have k9 := blk_cell bx 9
          simp at k0 k1 k2 k3 k4 k5 k6 k7 k8 k9
          have hgb := MB.hnd (keyI 0) trivial
          rw [upK_same] at hgb
          obtain ⟨h2, eh2, hgb, hgf, _⟩ := hgb
          have eh2 : h = h2 := Option.some.inj ((XS_hs h x).symm.trans eh2)
          subst eh2
          have HDO := Lib.hid (do_file s' 1 (by rw [hs']; show (Lit.int .i64 0).wf = true; decide) MB (fun k hk => by have h1 := (FI.out k hk).2; omega) g h (by rw [hs']; exact upK_same _ _ _) hgb hgf 1 hnode (by show 1 < 2; decide) (by show 2 ≤ 100000; decide) A6 c6 (by rw [hs']; exact L6.out) (by rw [hs']; exact Kd.C_below G6.out bb) (by rw [hs']; exact go0) (by rw [hs']; exact go1) (by rw [hs']; exact XS_hs h x) F (by rw [hs']; exact go3))
          have HBB := Lib.hid bb
          have HSZ := Lib.hid hsz
          have HH := Lib.hid hh
          have HX := Lib.hid hx
          have HBR := Lib.hid (Kd.R_below RI.out bb)
          have HBW := Lib.hid (show B ≤ Wb.heap.size by have h1 := MI.out.ftm.2; have h2 := blk_lt MI.out.blk; omega)
          have HVO := Lib.hid (fun k hk => Kd.R_lt HBR.out k hk)
          unfold stepA at HDO
          rw [hs'] at HDO
          obtain ⟨a', ha'⟩ : ∃ a', a' = ys i := ⟨_, rfl⟩
          have hya : (fstep h (nodeOf (XS h x) (1 : Nat)) { s with f5 := 0 }).2 = a' := by rw [ha', HYS.out, ← hh, ← hx, ← HSS.out]; rfl
          have HYA := Lib.hid ha'
          have HDO2 := Lib.hid (HDO.out.mono (fun e w' hp => by rw [show (fstep h (nodeOf (XS h x) ((1 : Nat) : Int)) { s with f5 := 0 }).2 = a' from hya] at hp; exact hp))
          clear hWb bb bx hsz MB hh hx F hnode x0' x1 x2 x3 x4 x5 x6 x7 x8 x9 go0 go1 go2 go3 hs' hgb hgf HDO hya ha'
          have hiL : i ≤ 60 := by omega
          go_wp2_with (first | (go_at_call 16; (refine (HDO2.out).mono ?_); rintro e w5 ⟨v3, v4, v5, vD4, ft4, rfl, r3, r4, r5, E1, mv, sub, lst⟩; have R3 := Lib.hid r3; have R4 := Lib.hid r4; have R5 := Lib.hid r5; have HE1 := Lib.hid E1; have HMV := Lib.hid mv; have HSUB := Lib.hid sub; have HLST := Lib.hid lst; clear r3 r4 r5 E1 mv sub lst; have HW5 := Lib.hid (Kd.R_mono (ok' := fun k => ¬ ft4 k) (HMV.out.row (Kd.R_mono (ok' := fun k => ¬ ft k ∧ ¬ ft4 k) (Kd.R_bound HBR.out) (fun k hk => ⟨hk.1, fun h4 => (HSUB.out k h4).elim hk.1 (fun h => absurd hk.2.2.1 (by omega))⟩)) (fun k hk => hk.1)) (fun k hk => hk.2)); have G3 := Lib.hid (Kd.R_lower (Kd.R_mono (ok' := fun k => ¬ ft4 k ∧ Wb.heap.size ≤ k) (Kd.R_bound R3.out) (fun k hk => ⟨hk.1, hk.2.1⟩)) HBW.out); have G4 := Lib.hid (Kd.R_lower (Kd.R_mono (ok' := fun k => ¬ ft4 k ∧ Wb.heap.size ≤ k) (Kd.R_bound R4.out) (fun k hk => ⟨hk.1, hk.2.1⟩)) HBW.out); have G5 := Lib.hid (Kd.R_lower (Kd.R_mono (ok' := fun k => ¬ ft4 k ∧ Wb.heap.size ≤ k) (Kd.R_bound R5.out) (fun k hk => ⟨hk.1, hk.2.1⟩)) HBW.out)) | ((with_reducible refine gate_builtin (b := .append) (xs := #[.tmp 58, .tmp 62]) rfl ?_); at_builtin; refine app_ans B rfl (.tmp 58) (.tmp 62) rfl u11 _ a' v3 v4 v5 (fun k => ¬ ft4 k) (fun k => ¬ ft4 k ∧ Wb.heap.size ≤ k) rfl rfl G3.out G4.out G5.out (fun k hk => ⟨hk.1, fun e => absurd (HVO.out k e.symm) (by have h9 := hk.2; omega)⟩) (fun k hk h4 => by have h9 := HLST.out k h4; omega) HW5.out (Nat.le_trans HBW.out HMV.out.size) (by simp; omega) ?_; intro v1 wn hr hg; have RN := Lib.hid hr; have GN := Lib.hid hg; clear hr hg))
          go_roundw
          case rel =>
            have z1 := HSZ.out
            have z2 := HBW.out
            have bWb := below_then BJ.out BJ.out.size HBB.out
            have b5 := HMV.out.toBelow (B := w.heap.size) bWb (by omega) (fun k hk => Nat.le_trans hBw (FI.out k hk).1)
            have bn := below_grow b5 GN.out (fun k hk => Nat.le_trans hBw (Kd.R_base HBR.out k hk))
            have hst : st (i + 1) = (fstep h x s).1 := by rw [HST1.out, ← HH.out, ← HX.out, ← HSS.out]
            refine ⟨i + 1, vN', vA', vD4, ft4, by push_cast; rfl, hlt2, Lib.hid ?_, Lib.hid (fun k hk => ⟨(HSUB.out k hk).elim (fun h => (FI.out k h).1) (fun h => by omega), Nat.lt_of_lt_of_le (HLST.out k hk) GN.out.size⟩), Lib.hid ?_, Lib.hid bn⟩
            · rw [hst, ← XS_step h _ x _]
              exact IsMem.step HE1.out (fun k hk => GN.out.block k (HLST.out k hk) (fun e => HW5.out.1 k e.symm hk))
            · rw [List.range_succ, List.map_append]
              have h9 := RN.out
              rw [HYA.out] at h9
              exact h9
          case measure => simp only [intOf]; omega
        · obtain rfl : i = ss.length := by omega
          obtain ⟨A7, c7, rfl, hc7, hC7⟩ := Kd.R_reads RI.out
          obtain ⟨L, hL⟩ : ∃ L, L = (List.range ss.length).map ys := ⟨_, rfl⟩
          have hLl : L.length = ss.length := by rw [hL]; simp
          rw [← hL, hLl] at hC7
          rw [← hL, hLl] at hc7
          have HO := script w A HS.out data Ad cd ro HD.out (by omega) ss (by omega) (by rw [← HRST.out]; exact HGS.out) NI.out wr As cs BJ.out HC.out
          rw [← HRST.out, ← HRYS.out, ← hL] at HO
          have HO := Lib.hid HO
          have hplain : ∀ i : Nat, i < L.length → (rd_T33 L i).f4 = [] ∧ (rd_T33 L i).f5 = [] := fun i hi => by
            have e : rd_T33 L (i : Int) = ys i := by
              rw [hL]
              unfold rd_T33
              rw [Int.toNat_natCast, List.getD_eq_getElem?_getD]
              simp [show i < ss.length by omega]
            rw [e, HYS.out]
            exact plain _ _ _ (NI.out i (by omega)).1 (NI.out i (by omega)).2
          have HSF := Lib.hid (same_f L hplain (by omega))
          obtain ⟨gd, cap, A9, c9, hv, hlc, hgd, p0, p1, p2, p3, p4, l9, g9, pz, ncs, hnb⟩ := node_at MI.out 1 (by show 1 < 2; decide)
          have hv : vD' = .slice (some ⟨gd, 0, none⟩) 2 cap := hv
          have cD := MI.out.c2
          rw [hv] at cD
          have hgb := MI.out.hnd (keyI 0) trivial
          rw [upK_same] at hgb
          obtain ⟨h2, eh2, hgb, hgf, _⟩ := hgb
          have eh2 : (st ss.length).1 = h2 := Option.some.inj ((XS_hs (st ss.length).1 (st ss.length).2).symm.trans eh2)
          subst eh2
          have cH := blk_cell hgb 0
          have hn1 := (HFN.out ss.length (Nat.le_refl _)).2
          have cH : wr.cell? ⟨g, 0, none⟩ = some (.int .i64 1) := by rw [← hn1]; exact cH
          obtain ⟨dl, hdl⟩ : ∃ dl, dl = (st ss.length).2.f2 := ⟨_, rfl⟩
          rw [← hdl] at HO
          have p2 : wr.cell? ⟨gd, 7, none⟩ = some (.slice A9 dl.length c9) := by rw [hdl]; exact p2
          have g9 : (Kd.int .u8).C wr A9 dl.length dl := by rw [hdl]; exact g9
          have HG9 := Lib.hid g9
          have HC7 := Lib.hid hC7
          have HLL := Lib.hid hLl
          clear hv hlc hgd p0 p1 p3 p4 l9 g9 pz hnb hgb hgf hC7 hL hplain hdl hn1 HGS HST0 HST1 HYS HGD NI RI FI hlt2 hlt hLl
          go_upto_region 20 with (first | (go_at_call 13; (refine (HO.out).mono ?_); rintro e w6 ⟨A1, c1, A2, c2, rfl, hk, hc1, hg2, hc2, hb2⟩; have HK := Lib.hid hk; have HG := Lib.hid hg2; have B6 := Lib.hid hb2; clear hk hg2 hb2))
          have HSA := Lib.hid (show Calls Tryd.prog 17 #[.slice A1 ss.length c1, .slice A7 ss.length c7] w6 fun e w' => e = .returned (.bool true) ∧ Below w6.heap.size w6 w' by
            have q := spec_SameAnswers.calls (0 + 3 + L.length + 1) A1 c1 L A7 c7 L true w6 (by rw [HLL.out]; exact HK.out) (by rw [HLL.out]; exact hc1) (by rw [HLL.out]; exact Kd.C_below HC7.out B6.out) (by rw [HLL.out]; exact hc7) HSF.out
            rw [HLL.out] at q
            exact q)
          have SS := Lib.hid (show ∀ W, Below w6.heap.size w6 W → (fun w' => w'.cell? ⟨m, 2, none⟩ = some (.slice (some ⟨gd, 0, none⟩) 2 cap) ∧ w'.cell? ⟨g, 0, none⟩ = some (.int .i64 1) ∧ w'.cell? ⟨gd, 7, none⟩ = some (.slice A9 dl.length c9) ∧ (convert 22 9 (.slice A2 dl.length c2)).run Tryd.prog w' = .ok (.string (strOfNums dl)) w' ∧ (convert 22 9 (.slice A9 dl.length c9)).run Tryd.prog w' = .ok (.string (strOfNums dl)) w') W from fun W hb => by
            have B67 := below_then B6.out B6.out.size hb
            exact ⟨cellb cD B67, cellb cH B67, cellb p2 B67, Kd.C_string (dst := 9) Tryd.underlying22 Tryd.underlying5 Tryd.underlying9 (Kd.C_below HG.out hb) (c := c2), Kd.C_string (dst := 9) (P := Tryd.prog) Tryd.underlying22 Tryd.underlying5 Tryd.underlying9 (Kd.C_below HG9.out B67) (c := c9)⟩)
          have S3 := Lib.hid (SS.out w6.drew (below_drew (Below.refl _ _)))
          have HSD := Lib.hid (show Calls Tryd.prog 17 #[.slice A1 ss.length c1, .slice A7 ss.length c7] w6.drew fun e w' => e = .returned (.bool true) ∧ Below w6.drew.heap.size w6.drew w' by
            have q := spec_SameAnswers.calls (0 + 3 + L.length + 1) A1 c1 L A7 c7 L true w6.drew (by rw [HLL.out]; exact Kd.C_below HK.out (below_drew (Below.refl _ _))) (by rw [HLL.out]; exact hc1) (by rw [HLL.out]; exact Kd.C_below HC7.out (below_then B6.out B6.out.size (below_drew (Below.refl _ _)))) (by rw [HLL.out]; exact hc7) HSF.out
            rw [HLL.out] at q
            exact q)
          clear cD cH p2 HSA
          go_region_held3 (fun w' => w'.cell? ⟨m, 2, none⟩ = some (.slice (some ⟨gd, 0, none⟩) 2 cap) ∧ w'.cell? ⟨g, 0, none⟩ = some (.int .i64 1) ∧ w'.cell? ⟨gd, 7, none⟩ = some (.slice A9 dl.length c9) ∧ (convert 22 9 (.slice A2 dl.length c2)).run Tryd.prog w' = .ok (.string (strOfNums dl)) w' ∧ (convert 22 9 (.slice A9 dl.length c9)).run Tryd.prog w' = .ok (.string (strOfNums dl)) w')
            (first | exact S3.out | go_keep)
            ((go_at_call 17; (refine (HSD.out).mono ?_); rintro e w7 ⟨rfl, hb7⟩; have HB7 := Lib.hid (un_drew7 hb7); have S3 := Lib.hid (SS.out w7 HB7.out); clear hb7))
          go_wp2_with fail
          go_ret
          exact ⟨rfl, below_then (below_then BJ.out BJ.out.size B6.out) (Nat.le_trans BJ.out.size B6.out.size) HB7.out⟩
set_option maxHeartbeats 2000000 in
set_option maxRecDepth 100000 in
theorem law4 (w : World) (A : Nat → Addr) (hS : Sent A w) (data : List Int) (Ad : Option Addr) (md cd : Nat) (ro : Bool) (ss : List S26) (As : Option Addr) (ms cs : Nat) (hD : Kd.C (Kd.int .u8) w Ad md data) (hcd : md ≤ cd) (hC : k26.C w As ms ss) (hcs : ms ≤ cs) :
    Calls Tryd.prog 4 #[.slice Ad md cd, .bool ro, .slice As ms cs] w fun e w' => e = .returned (.bool true) ∧ Below w.heap.size w w' := by
  obtain ⟨r, hZ⟩ := zz12 w ss As ms cs hC hcs
  obtain rfl := hD.1
  obtain rfl := hC.1
  by_cases hg : r = true ∧ data.length ≤ 2147483647
  · obtain ⟨rfl, h1⟩ := hg
    exact law4in w A hS data Ad cd ro ss As cs hD hcd hC hcs hZ (by omega)
  · have HZ := Lib.hid (hZ w (Below.refl _ _))
    have hx : 2147483647 < (data.length : Int) ∨ ((data.length : Int) ≤ 2147483647 ∧ r = false) := by
      by_cases q : (data.length : Int) ≤ 2147483647
      · cases r
        · exact .inr ⟨q, rfl⟩
        · exact absurd ⟨rfl, by omega⟩ hg
      · exact .inl (by omega)
    have hb1 := hD.2.1
    have hb2 := hC.2.1
    clear hg hD hS hC hZ
    rcases hx with h1 | ⟨h1, rfl⟩
    all_goals
      have B0 := Lib.hid (Below.refl w.heap.size w)
      go_enter Tryd.func4, Tryd.ntmps4
      go_wp2_with (first | (go_at_call 12; (refine (HZ.out).mono ?_); rintro e w1 ⟨rfl, hb1⟩; have B1 := Lib.hid hb1; clear hb1))
      go_ret
      first
        | exact ⟨rfl, B1.out⟩
        | exact ⟨rfl, B0.out⟩
end Go.Proofs.YtljcdjggjphedaaDoor.Sz
