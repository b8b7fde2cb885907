/- An attribute is put into the inode, into the block, or nowhere. -/
import Derived.Test.YtckjbgneblfceaaDoorFm
import Derived.Test.YtckjbgneblfceaaDoorLw
namespace Go.Proofs.YtckjbgneblfceaaDoor.Fb
open Go.RowKit Go.Maps Go.Proofs.YtckjbgneblfceaaDoorW.PrintWords Go.Proofs.YtckjbgneblfceaaDoorW.PrintLast Go.Proofs.YtckjbgneblfceaaDoorW.PrintMore Go.Proofs.YtckjbgneblfceaaDoor.PFnFitFirst Go.Proofs.YtckjbgneblfceaaDoor.Fa Go.Proofs.YtckjbgneblfceaaDoor.Fm
set_option linter.unusedVariables false
set_option linter.unusedSimpArgs false
/-- The state: two rows of attributes, and what is left of each place. -/
structure St (base : Nat) (W : World) (g : Nat) (vi vb : Value) (nI nB : Nat) (a b : Int) : Prop where
  blk : W.heap[g]? = some (.cells #[vi, vb, .int .i64 a, .int .i64 b] 107 (0, 0))
  ge : base ≤ g
  ri : ∃ xs, (Kd.raw 3).R 133 W base (fun _ => True) vi xs ∧ xs.length = nI
  rb : ∃ xs, (Kd.raw 3).R 133 W base (fun _ => True) vb xs ∧ xs.length = nB
  ne : ∀ k, vi.ownBlock = some k → vb.ownBlock ≠ some k
/-- The state's blocks. -/
def Ts (g : Nat) (vi vb : Value) (k : Nat) : Prop := k = g ∨ some k = vi.ownBlock ∨ some k = vb.ownBlock
def NewOr (W : World) (v v' : Value) : Prop := v'.ownBlock = v.ownBlock ∨ ∃ k, v'.ownBlock = some k ∧ W.heap.size ≤ k
def AddPost (base : Nat) (W : World) (g : Nat) (vi vb : Value) (nI nB : Nat) (a b L : Int) (e : Ending) (w' : World) : Prop :=
  (L ≤ a ∧ e = .returned (.bool true) ∧ ∃ vi', St base w' g vi' vb (nI + 1) nB (wrap64 (a - L)) b ∧ Moves (Ts g vi vb) W w' ∧ NewOr W vi vi') ∨
  (a < L ∧ L ≤ b ∧ e = .returned (.bool true) ∧ ∃ vb', St base w' g vi vb' nI (nB + 1) a (wrap64 (b - L)) ∧ Moves (Ts g vi vb) W w' ∧ NewOr W vb vb') ∨
  (a < L ∧ b < L ∧ e = .returned (.bool false) ∧ St base w' g vi vb nI nB a b ∧ Moves (Ts g vi vb) W w')
theorem info133 : (Tryd.prog.info? 133).map (fun i => (i.zero, i.size, i.bytes)) = some (some (.agg #[.string ⟨#[]⟩, .int .u8 0, .slice none 0 0]), 3, 48) := by kernel_rfl
theorem St.fin_i {base : Nat} {W W7 : World} {g : Nat} {vi vb v1 : Value} {nI nB : Nat} {a b a' : Int} {ys : List (List Value)} (S : St base W g vi vb nI nB a b) (bg : W7.heap[g]? = some (.cells #[v1, vb, .int .i64 a', .int .i64 b] 107 (0, 0))) (M : Moves (fun k => k = g ∨ some k = vi.ownBlock) W W7) (R : (Kd.raw 3).R 133 W7 base (fun _ => True) v1 ys) (hy : ys.length = nI + 1) (N : NewOr W vi v1) : St base W7 g v1 vb (nI + 1) nB a' b := by
  obtain ⟨zs, hZ, hzl⟩ := S.rb
  refine ⟨bg, S.ge, ⟨ys, R, hy⟩, ⟨zs, Kd.R_mono (M.row (Kd.R_tight2 rfl hZ) (fun k hk hT => ?_)) (fun _ _ => trivial), hzl⟩, fun k hk => ?_⟩
  · rcases hT with rfl | hT
    · exact Kd.R_ne hZ S.blk (by decide) hk.1
    · exact S.ne k hT.symm hk.1.symm
  · rcases N with e | ⟨k', e1, e2⟩
    · rw [e] at hk; exact S.ne k hk
    · rw [hk] at e1
      injection e1 with e1
      subst e1
      intro h
      have := Kd.R_lt hZ k h
      omega
theorem St.fin_b {base : Nat} {W W7 : World} {g : Nat} {vi vb v1 : Value} {nI nB : Nat} {a b b' : Int} {ys : List (List Value)} (S : St base W g vi vb nI nB a b) (bg : W7.heap[g]? = some (.cells #[vi, v1, .int .i64 a, .int .i64 b'] 107 (0, 0))) (M : Moves (fun k => k = g ∨ some k = vb.ownBlock) W W7) (R : (Kd.raw 3).R 133 W7 base (fun _ => True) v1 ys) (hy : ys.length = nB + 1) (N : NewOr W vb v1) : St base W7 g vi v1 nI (nB + 1) a b' := by
  obtain ⟨zs, hZ, hzl⟩ := S.ri
  refine ⟨bg, S.ge, ⟨zs, Kd.R_mono (M.row (Kd.R_tight2 rfl hZ) (fun k hk hT => ?_)) (fun _ _ => trivial), hzl⟩, ⟨ys, R, hy⟩, fun k hk => ?_⟩
  · rcases hT with rfl | hT
    · exact Kd.R_ne hZ S.blk (by decide) hk.1
    · exact S.ne k hk.1.symm hT.symm
  · rcases N with e | ⟨k', e1, e2⟩
    · rw [e]; exact S.ne k hk
    · rw [e1]
      intro h
      injection h with h
      subst h
      have := Kd.R_lt hZ _ hk
      omega
theorem St.same {base : Nat} {W W7 : World} {g : Nat} {vi vb : Value} {nI nB : Nat} {a b : Int} (S : St base W g vi vb nI nB a b) (M : Moves (fun _ => False) W W7) : St base W7 g vi vb nI nB a b := by
  obtain ⟨xs, hX, hxl⟩ := S.ri
  obtain ⟨zs, hZ, hzl⟩ := S.rb
  exact ⟨M.blk S.blk (fun h => h), S.ge, ⟨xs, M.row hX (fun _ _ h => h), hxl⟩, ⟨zs, M.row hZ (fun _ _ h => h), hzl⟩, S.ne⟩
theorem app_raw_step {ops : Array Oper} {o : Oper} {a : Act} {Kc : Act → World → Prop} {Q : Exit → Act → World → Prop} {W : World} (base : Nat) (hw : Region.wanted o (yielded ops a.tmps) = true) (s x : Operand) (ho : o.op = .call { callee := .builtin .append, args := #[s, x], argTypes := #[105, 105] })
    (v : Value) (xs : List (List Value)) (nm : ByteArray) (ci : Int) (A : Option Addr) (m c : Nat) (hs : a.eval s = v) {g : Nat} (hx : a.eval x = .slice (some ⟨g, 0, none⟩) 1 1) (hgs : W.heap.size = g) (HO : (Kd.raw 3).R 133 W base (fun _ => True) v xs) (hbase : base ≤ W.heap.size) (hl : xs.length ≤ 1000)
    (h : ∀ v1 w1 ys, (Kd.raw 3).R 133 w1 base (fun _ => True) v1 ys → ys.length = xs.length + 1 → W.grownBy w1 v.ownBlock → NewOr W v v1 → Kc (a.put o.dst v1) w1) :
    if Region.wanted o (yielded ops a.tmps) = true then Oper.wp Tryd.prog o a (W.alloc (.cells #[.string nm, .int .u8 ci, .slice A m c] 133)) Kc Q else Kc (a.put o.dst undef) (W.alloc (.cells #[.string nm, .int .u8 ci, .slice A m c] 133)) := by
  subst hgs
  refine Kd.R_append_step (Kd.raw 3) (w0 := W) base hw s x 105 133 _ 48 ho Tryd.underlying105 info133 rfl (by decide) (by decide) v xs [.string nm, .int .u8 ci, .slice A m c] [.string nm, .int .u8 ci, .slice A m c] (fun _ => True) (fun _ => False) hs hx ⟨rfl, rfl, by simp [Value.oneCell']⟩ (fun _ hk => hk.elim) (fun _ _ => trivial) HO (Below.refl _ _) hbase (by omega) ?_
  intro v1 w1 h1 _ h2 h3
  exact h v1 w1 _ h1 (by simp) h2 h3
set_option maxHeartbeats 4000000 in
set_option maxRecDepth 100000 in
theorem add_calls (base : Nat) (W : World) (g : Nat) (vi vb : Value) (nI nB : Nat) (a b : Int) (S : St base W g vi vb nI nB a b) (t : TypeId) (fr : Nat × Nat) (hg : W.heap[4]? = some (.cells cells14 t fr)) (s : ByteArray) (hs : s.size ≤ 2147483647) (A : Option Addr) (m c : Nat) (hm : m ≤ 2147483647) (hn : nI ≤ 1000) (hn2 : nB ≤ 1000) (ha0 : -9223372036854775808 ≤ a) (ha1 : a ≤ 9223372036854775807) :
    Calls Tryd.prog 51 #[.pointer (some ⟨g, 0, none⟩), .string s, .slice A m c] W (AddPost base W g vi vb nI nB a b (need s m)) := by
  have HS := Lib.hid S
  have HC := Lib.hid (comp_calls W s hs t fr hg)
  have hcl := compF_len s pfx
  have hcl : (comp s).2.size ≤ s.size := hcl
  obtain ⟨ci, hci⟩ : ∃ ci, ci = (comp s).1 := ⟨_, rfl⟩
  obtain ⟨cn, hcn⟩ : ∃ cn, cn = (comp s).2 := ⟨_, rfl⟩
  obtain ⟨L, hL⟩ : ∃ L, L = need s m := ⟨_, rfl⟩
  have HL := Lib.hid hL
  rw [← hL]
  unfold need at hL
  rw [← hcn] at hL hcl
  rw [← hcn, ← hci] at HC
  have HNL := Lib.hid hL
  have hcn2 : cn.size ≤ 2147483647 := by omega
  have c0 := blk_cell S.blk 0
  have c1 := blk_cell S.blk 1
  have c2 := blk_cell S.blk 2
  have c3 := blk_cell S.blk 3
  simp at c0 c1 c2 c3
  have HG := Lib.hid hg
  have hgl := blk_lt S.blk
  clear hg hci hcn hL S hcl
  go_enter Tryd.func51, Tryd.ntmps51
  go_upto_region 4 with (first
    | (go_at_call 60; (refine (HC.out).mono ?_); rintro e w1 ⟨rfl, hb1⟩; have B1 := Lib.hid hb1; clear hb1)
    | (go_at_call 65; (refine (entry_len _ w1.heap.size cn ci (.slice A m c) (blk_new _ _) hcn2).mono ?_); rintro e w2 ⟨rfl, rfl⟩)
    | (go_at_call 66; (refine (value_len _ w1.heap.size cn ci A m c (blk_new _ _) hm).mono ?_); rintro e w2 ⟨rfl, rfl⟩))
  obtain ⟨g8, hg8⟩ : ∃ g8, g8 = w1.heap.size := ⟨_, rfl⟩
  obtain ⟨w2, hw2⟩ : ∃ w2, w2 = w1.alloc (.cells #[.string cn, .int .u8 ci, .slice A m c] 133) := ⟨_, rfl⟩
  have B2 := Lib.hid (show Below W.heap.size W w2 from by rw [hw2]; exact below_alloc B1.out _)
  have blk8 : w2.heap[g8]? = some (.cells #[.string cn, .int .u8 ci, .slice A m c] 133 (0, 0)) := by rw [hw2, hg8]; exact blk_new _ _
  have G8 := Lib.hid (show W.heap.size ≤ g8 from by rw [hg8]; exact B1.out.size)
  rw [← hw2, ← hg8, ← HNL.out]
  clear hw2 hg8 B1 HC HNL
  have c0 := cellb0 c0 B2.out
  have c1 := cellb0 c1 B2.out
  have c2 := cellb0 c2 B2.out
  have c3 := cellb0 c3 B2.out
  have HB8 := Lib.hid blk8
  have d0 := blk_cell blk8 0
  have d1 := blk_cell blk8 1
  have d2 := blk_cell blk8 2
  simp at d0 d1 d2
  clear blk8
  have hbw : base ≤ W.heap.size := by have := HS.out.ge; omega
  have bg2 := Lib.hid (blk_below HS.out.blk B2.out)
  rcases (show L ≤ a ∨ (a < L ∧ L ≤ b) ∨ (a < L ∧ b < L) by omega) with h1 | ⟨h1, h2⟩ | ⟨h1, h2⟩
  · go_upto_region 5 with (fail)
    obtain ⟨xs, hR, hxl⟩ := HS.out.ri
    have HR := Lib.hid hR
    have HXL := Lib.hid hxl
    clear hR hxl
    have K0 : (fun w' => w'.cell? ⟨g, 0, none⟩ = some vi ∧ w'.cell? ⟨g8, 0, none⟩ = some (.string cn) ∧ w'.cell? ⟨g8, 1, none⟩ = some (.int .u8 ci) ∧ w'.cell? ⟨g8, 2, none⟩ = some (.slice A m c)) w2 := ⟨c0, d0, d1, d2⟩
    refine Lw.wp_region_gate (S0 := (fun w' => w'.cell? ⟨g, 0, none⟩ = some vi ∧ w'.cell? ⟨g8, 0, none⟩ = some (.string cn) ∧ w'.cell? ⟨g8, 1, none⟩ = some (.int .u8 ci) ∧ w'.cell? ⟨g8, 2, none⟩ = some (.slice A m c))) (S1 := fun _ => True) (k := 10) (by kernel_rfl) ?_
    rw [show ({ w2 with drawn := w2.drawn + 1 } : World) = w2.drew from rfl]
    refine Lw.wpAnyL_take0 (i := 0) (v := ?_) rfl (by decide) (by kernel_rfl) (by kernel_rfl) (by kernel_rfl) (fun _ _ _ h => h) (Or.inl ⟨by rfl, ?_⟩) ⟨trivial, fun _ => K0⟩ ?_
    rotate_left
    · (intro w _; go_simp; try with_reducible rfl)
    (try simp only [Act.put, List.setIfInBounds_toArray, List.set_cons_zero, List.set_cons_succ])
    refine Lw.wpAnyL_take0 (i := 1) (v := ?_) rfl (by decide) (by kernel_rfl) (by kernel_rfl) (by kernel_rfl) (fun _ _ _ h => h) (Or.inl ⟨by rfl, ?_⟩) ⟨trivial, fun _ => K0⟩ ?_
    rotate_left
    · (intro w _; go_simp; try with_reducible rfl)
    (try simp only [Act.put, List.setIfInBounds_toArray, List.set_cons_zero, List.set_cons_succ])
    refine Lw.wpAnyL_take0 (i := 2) (v := ?_) rfl (by decide) (by kernel_rfl) (by kernel_rfl) (by kernel_rfl) (fun _ _ _ h => h) (Or.inl ⟨by rfl, ?_⟩) ⟨trivial, fun _ => K0⟩ ?_
    rotate_left
    · (intro w _; go_simp; try with_reducible rfl)
    (try simp only [Act.put, List.setIfInBounds_toArray, List.set_cons_zero, List.set_cons_succ])
    refine Lw.wpAnyL_take0 (i := 3) (v := ?_) rfl (by decide) (by kernel_rfl) (by kernel_rfl) (by kernel_rfl) (fun _ _ _ h => h) (Or.inl ⟨by rfl, ?_⟩) ⟨trivial, fun _ => K0⟩ ?_
    rotate_left
    · (intro w _; go_simp; try with_reducible rfl)
    (try simp only [Act.put, List.setIfInBounds_toArray, List.set_cons_zero, List.set_cons_succ])
    refine Lw.wpAnyL_take (i := 4) (v := ?_) rfl rfl (by kernel_rfl) (by kernel_rfl) (by kernel_rfl) (by kernel_rfl) (fun _ _ _ h => h) (Or.inl ⟨by rfl, ?_⟩) K0 trivial ?_
    rotate_left
    · (intro w hw; obtain ⟨q0, q1, q2, q3⟩ := hw; go_simp; try with_reducible rfl)
    (try simp only [Act.put, List.setIfInBounds_toArray, List.set_cons_zero, List.set_cons_succ])
    refine Lw.wpAnyL_take (i := 5) (v := ?_) rfl rfl (by kernel_rfl) (by kernel_rfl) (by kernel_rfl) (by kernel_rfl) (fun _ _ _ h => h) (Or.inl ⟨by rfl, ?_⟩) K0 trivial ?_
    rotate_left
    · (intro w hw; obtain ⟨q0, q1, q2, q3⟩ := hw; go_simp; try with_reducible rfl)
    (try simp only [Act.put, List.setIfInBounds_toArray, List.set_cons_zero, List.set_cons_succ])
    refine Lw.wpAnyL_one (i := 6) (by kernel_rfl) rfl (fun K hK => ?_)
    go_simp
    have B3 : Below w2.heap.size w2 (w2.drew.alloc (.cells #[.string cn, .int .u8 ci, .slice A m c] 133)) := below_alloc (below_drew1 (Below.refl _ _)) _
    refine hK.out _ _ ⟨trivial, fun _ => ⟨cellb0 K0.1 B3, cellb0 K0.2.1 B3, cellb0 K0.2.2.1 B3, cellb0 K0.2.2.2 B3⟩⟩ ?_
    (try simp only [Act.put, List.setIfInBounds_toArray, List.set_cons_zero, List.set_cons_succ])
    refine Lw.wpAnyL_one (i := 7) (by kernel_rfl) rfl (fun K hK => ?_)
    refine app_raw_step (W := w2.drew) base rfl _ _ rfl vi xs cn ci A m c rfl rfl rfl (Kd.R_below HR.out (below_drew1 B2.out)) (Nat.le_trans hbw B2.out.size) (by rw [HXL.out]; exact hn) ?_
    intro v1 w4 ys hr4 hy4 hg4 hn4
    obtain ⟨A4, c4, hv1, _, _⟩ := Kd.R_reads hr4
    subst hv1
    have HY := Lib.hid hy4
    clear hy4
    have R4 := Lib.hid hr4
    have M4 := Lib.hid (((Moves.of_below (below_drew1 B2.out) (fun k => k = g ∨ some k = vi.ownBlock)).grown hg4 (fun k hk => .inl (.inr hk.symm))) : Moves (fun k => k = g ∨ some k = vi.ownBlock) W w4)
    have bg4 := Lib.hid (blk_grown (w := w2.drew) bg2.out hg4 (Kd.R_ne (Kd.R_below HR.out (below_drew1 B2.out)) (w := w2.drew) bg2.out (by decide)))
    have N4 := Lib.hid (show NewOr W vi (.slice A4 ys.length c4) from hn4.elim .inl (fun ⟨k, e1, e2⟩ => .inr ⟨k, e1, Nat.le_trans B2.out.size e2⟩))
    have c0' := blk_cell bg4.out 0
    have c1' := blk_cell bg4.out 1
    have e8 : some g8 ≠ vi.ownBlock := fun e => by
      have h9 := Kd.R_lt HR.out g8 e.symm
      have h8 := G8.out
      omega
    have b84 := blk_grown (w := w2.drew) HB8.out hg4 e8
    have e0 := blk_cell b84 0
    have e1 := blk_cell b84 1
    have e2 := blk_cell b84 2
    simp at c0' c1' e0 e1 e2
    have K4 : (fun w' => w'.cell? ⟨g, 0, none⟩ = some vi ∧ w'.cell? ⟨g8, 0, none⟩ = some (.string cn) ∧ w'.cell? ⟨g8, 1, none⟩ = some (.int .u8 ci) ∧ w'.cell? ⟨g8, 2, none⟩ = some (.slice A m c)) w4 := ⟨c0', e0, e1, e2⟩
    refine hK.out _ _ ⟨trivial, fun _ => K4⟩ ?_
    (try simp only [Act.put, List.setIfInBounds_toArray, List.set_cons_zero, List.set_cons_succ])
    refine Lw.wpAnyL_take0 (i := 8) (v := ?_) rfl (by decide) (by kernel_rfl) (by kernel_rfl) (by kernel_rfl) (fun _ _ _ h => h) (Or.inl ⟨by rfl, ?_⟩) ⟨trivial, fun _ => K4⟩ ?_
    rotate_left
    · (intro w _; go_simp; try with_reducible rfl)
    (try simp only [Act.put, List.setIfInBounds_toArray, List.set_cons_zero, List.set_cons_succ])
    refine Lw.wpAnyL_take0 (i := 9) (v := ?_) rfl (by decide) (by kernel_rfl) (by kernel_rfl) (by kernel_rfl) (fun _ _ _ h => h) (Or.inl ⟨by rfl, ?_⟩) ⟨trivial, fun _ => K4⟩ ?_
    rotate_left
    · (intro w _; go_simp; try with_reducible rfl)
    (try simp only [Act.put, List.setIfInBounds_toArray, List.set_cons_zero, List.set_cons_succ])
    have z4 := blk_frozen bg4.out 0
    refine Lw.wpAnyL_one (i := 10) (by kernel_rfl) rfl (fun K hK => ?_)
    go_simp
    refine hK.out _ _ ⟨trivial, fun h => absurd h (by simp)⟩ ?_
    (try simp only [Act.put, List.setIfInBounds_toArray, List.set_cons_zero, List.set_cons_succ])
    refine Lw.wpAnyL_done (by kernel_rfl) ?_ _
    obtain ⟨W6, hW6⟩ : ∃ W6, W6 = w4.setCell ⟨g, 0, none⟩ (.slice A4 ys.length c4) := ⟨_, rfl⟩
    rw [← hW6]
    have bg6 : W6.heap[g]? = some (.cells #[.slice A4 ys.length c4, vb, .int .i64 a, .int .i64 b] 107 (0, 0)) := by rw [hW6]; simpa using blk_set bg4.out 0 (.slice A4 ys.length c4)
    have M6 := Lib.hid (show Moves (fun k => k = g ∨ some k = vi.ownBlock) W W6 from by rw [hW6]; exact M4.out.setCell (p := ⟨g, 0, none⟩) (.inl (.inl rfl)) _)
    have gne : some g ≠ (Value.slice A4 ys.length c4).ownBlock := Kd.R_ne R4.out bg4.out (by decide)
    have R6 := Lib.hid (show (Kd.raw 3).R 133 W6 base (fun _ => True) (.slice A4 ys.length c4) ys from by rw [hW6]; exact Kd.R_set R4.out bg4.out (by decide) 0 _)
    have f2 := blk_cell bg6 2
    have z2 := blk_frozen bg6 2
    simp at f2
    have BG6 := Lib.hid bg6
    clear c0 c1 c2 c3 c0' c1' e0 e1 e2 e8 b84 K0 K4 B3 z4 hW6 bg6 gne hr4 hg4 hn4 d0 d1 d2
    go_wp2_with fail
    go_ret
    have bg7 : (W6.setCell ⟨g, 2, none⟩ (.int .i64 (wrap64 (a - L)))).heap[g]? = some (.cells #[.slice A4 ys.length c4, vb, .int .i64 (wrap64 (a - L)), .int .i64 b] 107 (0, 0)) := by simpa using blk_set BG6.out 2 (.int .i64 (wrap64 (a - L)))
    have M7 := M6.out.setCell (p := ⟨g, 2, none⟩) (.inl (.inl rfl)) (.int .i64 (wrap64 (a - L)))
    have R7 := Kd.R_set R6.out BG6.out (by decide) 2 (.int .i64 (wrap64 (a - L)))
    exact .inl ⟨h1, rfl, _, HS.out.fin_i bg7 M7 R7 (by rw [HY.out, HXL.out]) N4.out, M7.mono (fun k hk => hk.elim .inl (fun h => .inr (.inl h))), N4.out⟩
  · go_upto_region 8 with (fail)
    obtain ⟨xs, hR, hxl⟩ := HS.out.rb
    have HR := Lib.hid hR
    have HXL := Lib.hid hxl
    clear hR hxl
    have K0 : (fun w' => w'.cell? ⟨g, 1, none⟩ = some vb ∧ w'.cell? ⟨g8, 0, none⟩ = some (.string cn) ∧ w'.cell? ⟨g8, 1, none⟩ = some (.int .u8 ci) ∧ w'.cell? ⟨g8, 2, none⟩ = some (.slice A m c)) w2 := ⟨c1, d0, d1, d2⟩
    refine Lw.wp_region_gate (S0 := (fun w' => w'.cell? ⟨g, 1, none⟩ = some vb ∧ w'.cell? ⟨g8, 0, none⟩ = some (.string cn) ∧ w'.cell? ⟨g8, 1, none⟩ = some (.int .u8 ci) ∧ w'.cell? ⟨g8, 2, none⟩ = some (.slice A m c))) (S1 := fun _ => True) (k := 10) (by kernel_rfl) ?_
    rw [show ({ w2 with drawn := w2.drawn + 1 } : World) = w2.drew from rfl]
    refine Lw.wpAnyL_take0 (i := 0) (v := ?_) rfl (by decide) (by kernel_rfl) (by kernel_rfl) (by kernel_rfl) (fun _ _ _ h => h) (Or.inl ⟨by rfl, ?_⟩) ⟨trivial, fun _ => K0⟩ ?_
    rotate_left
    · (intro w _; go_simp; try with_reducible rfl)
    (try simp only [Act.put, List.setIfInBounds_toArray, List.set_cons_zero, List.set_cons_succ])
    refine Lw.wpAnyL_take0 (i := 1) (v := ?_) rfl (by decide) (by kernel_rfl) (by kernel_rfl) (by kernel_rfl) (fun _ _ _ h => h) (Or.inl ⟨by rfl, ?_⟩) ⟨trivial, fun _ => K0⟩ ?_
    rotate_left
    · (intro w _; go_simp; try with_reducible rfl)
    (try simp only [Act.put, List.setIfInBounds_toArray, List.set_cons_zero, List.set_cons_succ])
    refine Lw.wpAnyL_take0 (i := 2) (v := ?_) rfl (by decide) (by kernel_rfl) (by kernel_rfl) (by kernel_rfl) (fun _ _ _ h => h) (Or.inl ⟨by rfl, ?_⟩) ⟨trivial, fun _ => K0⟩ ?_
    rotate_left
    · (intro w _; go_simp; try with_reducible rfl)
    (try simp only [Act.put, List.setIfInBounds_toArray, List.set_cons_zero, List.set_cons_succ])
    refine Lw.wpAnyL_take0 (i := 3) (v := ?_) rfl (by decide) (by kernel_rfl) (by kernel_rfl) (by kernel_rfl) (fun _ _ _ h => h) (Or.inl ⟨by rfl, ?_⟩) ⟨trivial, fun _ => K0⟩ ?_
    rotate_left
    · (intro w _; go_simp; try with_reducible rfl)
    (try simp only [Act.put, List.setIfInBounds_toArray, List.set_cons_zero, List.set_cons_succ])
    refine Lw.wpAnyL_take (i := 4) (v := ?_) rfl rfl (by kernel_rfl) (by kernel_rfl) (by kernel_rfl) (by kernel_rfl) (fun _ _ _ h => h) (Or.inl ⟨by rfl, ?_⟩) K0 trivial ?_
    rotate_left
    · (intro w hw; obtain ⟨q0, q1, q2, q3⟩ := hw; go_simp; try with_reducible rfl)
    (try simp only [Act.put, List.setIfInBounds_toArray, List.set_cons_zero, List.set_cons_succ])
    refine Lw.wpAnyL_take (i := 5) (v := ?_) rfl rfl (by kernel_rfl) (by kernel_rfl) (by kernel_rfl) (by kernel_rfl) (fun _ _ _ h => h) (Or.inl ⟨by rfl, ?_⟩) K0 trivial ?_
    rotate_left
    · (intro w hw; obtain ⟨q0, q1, q2, q3⟩ := hw; go_simp; try with_reducible rfl)
    (try simp only [Act.put, List.setIfInBounds_toArray, List.set_cons_zero, List.set_cons_succ])
    refine Lw.wpAnyL_one (i := 6) (by kernel_rfl) rfl (fun K hK => ?_)
    go_simp
    have B3 : Below w2.heap.size w2 (w2.drew.alloc (.cells #[.string cn, .int .u8 ci, .slice A m c] 133)) := below_alloc (below_drew1 (Below.refl _ _)) _
    refine hK.out _ _ ⟨trivial, fun _ => ⟨cellb0 K0.1 B3, cellb0 K0.2.1 B3, cellb0 K0.2.2.1 B3, cellb0 K0.2.2.2 B3⟩⟩ ?_
    (try simp only [Act.put, List.setIfInBounds_toArray, List.set_cons_zero, List.set_cons_succ])
    refine Lw.wpAnyL_one (i := 7) (by kernel_rfl) rfl (fun K hK => ?_)
    refine app_raw_step (W := w2.drew) base rfl _ _ rfl vb xs cn ci A m c rfl rfl rfl (Kd.R_below HR.out (below_drew1 B2.out)) (Nat.le_trans hbw B2.out.size) (by rw [HXL.out]; exact hn2) ?_
    intro v1 w4 ys hr4 hy4 hg4 hn4
    obtain ⟨A4, c4, hv1, _, _⟩ := Kd.R_reads hr4
    subst hv1
    have HY := Lib.hid hy4
    clear hy4
    have R4 := Lib.hid hr4
    have M4 := Lib.hid (((Moves.of_below (below_drew1 B2.out) (fun k => k = g ∨ some k = vb.ownBlock)).grown hg4 (fun k hk => .inl (.inr hk.symm))) : Moves (fun k => k = g ∨ some k = vb.ownBlock) W w4)
    have bg4 := Lib.hid (blk_grown (w := w2.drew) bg2.out hg4 (Kd.R_ne (Kd.R_below HR.out (below_drew1 B2.out)) (w := w2.drew) bg2.out (by decide)))
    have N4 := Lib.hid (show NewOr W vb (.slice A4 ys.length c4) from hn4.elim .inl (fun ⟨k, e1, e2⟩ => .inr ⟨k, e1, Nat.le_trans B2.out.size e2⟩))
    have c0' := blk_cell bg4.out 0
    have c1' := blk_cell bg4.out 1
    have e8 : some g8 ≠ vb.ownBlock := fun e => by
      have h9 := Kd.R_lt HR.out g8 e.symm
      have h8 := G8.out
      omega
    have b84 := blk_grown (w := w2.drew) HB8.out hg4 e8
    have e0 := blk_cell b84 0
    have e1 := blk_cell b84 1
    have e2 := blk_cell b84 2
    simp at c0' c1' e0 e1 e2
    have K4 : (fun w' => w'.cell? ⟨g, 1, none⟩ = some vb ∧ w'.cell? ⟨g8, 0, none⟩ = some (.string cn) ∧ w'.cell? ⟨g8, 1, none⟩ = some (.int .u8 ci) ∧ w'.cell? ⟨g8, 2, none⟩ = some (.slice A m c)) w4 := ⟨c1', e0, e1, e2⟩
    refine hK.out _ _ ⟨trivial, fun _ => K4⟩ ?_
    (try simp only [Act.put, List.setIfInBounds_toArray, List.set_cons_zero, List.set_cons_succ])
    refine Lw.wpAnyL_take0 (i := 8) (v := ?_) rfl (by decide) (by kernel_rfl) (by kernel_rfl) (by kernel_rfl) (fun _ _ _ h => h) (Or.inl ⟨by rfl, ?_⟩) ⟨trivial, fun _ => K4⟩ ?_
    rotate_left
    · (intro w _; go_simp; try with_reducible rfl)
    (try simp only [Act.put, List.setIfInBounds_toArray, List.set_cons_zero, List.set_cons_succ])
    refine Lw.wpAnyL_take0 (i := 9) (v := ?_) rfl (by decide) (by kernel_rfl) (by kernel_rfl) (by kernel_rfl) (fun _ _ _ h => h) (Or.inl ⟨by rfl, ?_⟩) ⟨trivial, fun _ => K4⟩ ?_
    rotate_left
    · (intro w _; go_simp; try with_reducible rfl)
    (try simp only [Act.put, List.setIfInBounds_toArray, List.set_cons_zero, List.set_cons_succ])
    have z4 := blk_frozen bg4.out 1
    refine Lw.wpAnyL_one (i := 10) (by kernel_rfl) rfl (fun K hK => ?_)
    go_simp
    refine hK.out _ _ ⟨trivial, fun h => absurd h (by simp)⟩ ?_
    (try simp only [Act.put, List.setIfInBounds_toArray, List.set_cons_zero, List.set_cons_succ])
    refine Lw.wpAnyL_done (by kernel_rfl) ?_ _
    obtain ⟨W6, hW6⟩ : ∃ W6, W6 = w4.setCell ⟨g, 1, none⟩ (.slice A4 ys.length c4) := ⟨_, rfl⟩
    rw [← hW6]
    have bg6 : W6.heap[g]? = some (.cells #[vi, .slice A4 ys.length c4, .int .i64 a, .int .i64 b] 107 (0, 0)) := by rw [hW6]; simpa using blk_set bg4.out 1 (.slice A4 ys.length c4)
    have M6 := Lib.hid (show Moves (fun k => k = g ∨ some k = vb.ownBlock) W W6 from by rw [hW6]; exact M4.out.setCell (p := ⟨g, 1, none⟩) (.inl (.inl rfl)) _)
    have gne : some g ≠ (Value.slice A4 ys.length c4).ownBlock := Kd.R_ne R4.out bg4.out (by decide)
    have R6 := Lib.hid (show (Kd.raw 3).R 133 W6 base (fun _ => True) (.slice A4 ys.length c4) ys from by rw [hW6]; exact Kd.R_set R4.out bg4.out (by decide) 1 _)
    have f2 := blk_cell bg6 3
    have z2 := blk_frozen bg6 3
    simp at f2
    have BG6 := Lib.hid bg6
    clear c0 c1 c2 c3 c0' c1' e0 e1 e2 e8 b84 K0 K4 B3 z4 hW6 bg6 gne hr4 hg4 hn4 d0 d1 d2
    go_wp2_with fail
    go_ret
    have bg7 : (W6.setCell ⟨g, 3, none⟩ (.int .i64 (wrap64 (b - L)))).heap[g]? = some (.cells #[vi, .slice A4 ys.length c4, .int .i64 a, .int .i64 (wrap64 (b - L))] 107 (0, 0)) := by simpa using blk_set BG6.out 3 (.int .i64 (wrap64 (b - L)))
    have M7 := M6.out.setCell (p := ⟨g, 3, none⟩) (.inl (.inl rfl)) (.int .i64 (wrap64 (b - L)))
    have R7 := Kd.R_set R6.out BG6.out (by decide) 3 (.int .i64 (wrap64 (b - L)))
    exact .inr (.inl ⟨h1, h2, rfl, _, HS.out.fin_b bg7 M7 R7 (by rw [HY.out, HXL.out]) N4.out, M7.mono (fun k hk => hk.elim .inl (fun h => .inr (.inr h))), N4.out⟩)
  · go_wp2_with fail
    go_ret
    have M2 := Moves.of_below B2.out (fun _ => False)
    exact .inr (.inr ⟨h1, h2, rfl, HS.out.same M2, M2.mono (fun _ h => h.elim)⟩)
end Go.Proofs.YtckjbgneblfceaaDoor.Fb
