/- Reading a device of hashes, as the caller does. -/
import Derived.Test.YtckjbgneblfceaaDoorDf
namespace Go.Proofs.YtckjbgneblfceaaDoor.Da
open Go.RowKit Go.Maps Go.Proofs.YtckjbgneblfceaaDoorW.PrintWords Go.Proofs.YtckjbgneblfceaaDoorW.PrintLast Go.Proofs.YtckjbgneblfceaaDoorW.PrintMore
open Go.Proofs.YtckjbgneblfceaaDoor.PFnVerityRead Go.Proofs.YtckjbgneblfceaaDoor.Fa Go.Proofs.YtckjbgneblfceaaDoor.Fm
set_option linter.unusedVariables false
set_option linter.unusedSimpArgs false
theorem dig31 (A B C D : Int) (w : World) : Calls Tryd.prog 31 #[.agg #[.int .u64 A, .int .u64 B, .int .u64 C, .int .u64 D]] w fun e w' => ∃ gd, e = .returned (.func (.func 56) #[] #[.pointer (some ⟨gd, 0, none⟩)]) ∧ Dig gd A B C D w' ∧ Below w.heap.size w w' := by
  go_enter Tryd.func31, Tryd.ntmps31
  go_wp2
  go_ret
  refine ⟨_, rfl, ?_, below_alloc (Below.refl _ _) _⟩
  have h := blk_new w (.cells (digC A B C D) 32)
  exact ⟨(cell_blk h 0 _ rfl).1, (cell_blk h 1 _ rfl).1, (cell_blk h 2 _ rfl).1, (cell_blk h 3 _ rfl).1⟩
theorem comp156v : (Tryd.prog.info? 156).map (·.comparable) = some true := by kernel_rfl
theorem size174v : (Tryd.prog.info? 174).map (·.size) = some 1 := by kernel_rfl
/-- The four errors of the package's. -/
structure Errs (a : Nat → Addr) (w : World) : Prop where
  cell : ∀ k, k < 4 → w.cell? ⟨k, 0, none⟩ = some (.iface 156 (.pointer (some (a k))))
  blk : ∀ k, k < 4 → ∃ c t, w.heap[(a k).block]? = some (.cells c t (0, 0))
  ne : ∀ i j, i < 4 → j < 4 → i ≠ j → a i ≠ a j
theorem Errs.later {a : Nat → Addr} {w W : World} (h : Errs a w) (hb : Below w.heap.size w W) : Errs a W :=
  ⟨fun k hk => cell_later hb (h.cell k hk), fun k hk => by
    obtain ⟨c, t, hh⟩ := h.blk k hk
    exact ⟨c, t, by rw [hb.block _ (blk_lt hh)]; exact hh⟩, h.ne⟩
theorem errEq {a : Nat → Addr} {w : World} (h : Errs a w) (i j : Nat) (hi : i < 4) (hj : j < 4) : (binOp .eql 73 (.iface 156 (.pointer (some (a i)))) (.iface 156 (.pointer (some (a j))))).run Tryd.prog w = .ok (.bool (i == j)) w := by
  obtain ⟨i1, h1, hcmp⟩ := Option.map_eq_some_iff.1 comp156v
  obtain ⟨j1, h2, hs⟩ := Option.map_eq_some_iff.1 size174v
  by_cases hij : i = j
  · subst hij
    rw [beq_self_eq_true]
    exact run_eql_iface_ptr_same w (a i) Tryd.underlying73 Tryd.underlying156 h1 hcmp h2
  · rw [beq_eq_false_iff_ne.2 hij]
    obtain ⟨c1, t1, b1⟩ := h.blk i hi
    obtain ⟨c2, t2, b2⟩ := h.blk j hj
    exact run_eql_iface_ptr_other w Tryd.underlying73 Tryd.underlying156 h1 hcmp h2 (by rw [hs]; decide) (h.ne i j hi hj hij) b1 b2
section
open Go.Proofs.YtckjbgneblfceaaDoorW
variable {ops : Array Oper} {o : Oper} {a : Act} {Kc : Act → World → Prop} {Q : Exit → Act → World → Prop}
theorem app_byte_step {W : World} (hw : Region.wanted o (yielded ops a.tmps) = true) (s x : Operand) (ho : o.op = .call { callee := .builtin .append, args := #[s, x], argTypes := #[33, 33] })
    (ys : List Int) (A : Option Addr) (m c : Nat) (hs : a.eval s = .slice none 0 0) (hx : a.eval x = .slice A m c) (HR : (Kd.int .u8).C W A m ys) (hl : m ≤ 10000000)
    (h : ∀ v1 w1, Row W v1 ys w1 → Kc (a.put o.dst v1) w1) :
    if Region.wanted o (yielded ops a.tmps) = true then Oper.wp Tryd.prog o a W Kc Q else Kc (a.put o.dst undef) W := by
  refine Kd.R_append_rows_step (Kd.int .u8) (w0 := W) W.heap.size hw s x 33 5 (.int .u8 0) 1 ho Tryd.underlying33 info5 rfl (by decide) (by decide) (.slice none 0 0) [] ys A m c (fun _ => True) (fun _ => False) hs hx (Kd.R_nil _ _ _ _ _) HR (fun x cs hc => hc) (fun _ hk => hk.elim) (fun _ _ => trivial) (Below.refl _ _) (Nat.le_refl _) (by simp; omega) ?_
  intro v1 w1 h1 h2 _ _
  rw [List.nil_append] at h1
  exact h v1 w1 ⟨h1, h2⟩
end
def errV (a : Nat → Addr) (k : Nat) : Value := .iface 156 (.pointer (some (a k)))
theorem any30 {W w2 w3 : World} {v1 : Value} {b : List Int} {A B C D : Int} {gd : Nat} {a : Nat → Addr} (hr : Row W v1 b w2) (hb : b.length ≤ 1228800) (hi : InBytes b) (hd : Dig gd A B C D w3) (hE : Errs a w3) (hb3 : Below w2.heap.size w2 w3) :
    Calls Tryd.prog 30 #[v1, .func (.func 56) #[] #[.pointer (some ⟨gd, 0, none⟩)]] w3 (Rd30 A B C D b (errV a) w3) := by
  by_cases h : b.length < 4096
  · obtain ⟨A1, c1, rfl, _, _⟩ := Kd.R_reads hr.1
    refine (short30 A1 b.length c1 _ w3 (errV a) h (hE.cell 0 (by decide))).mono ?_
    rintro e w' ⟨rfl, h2⟩
    refine ⟨h2, ?_⟩
    have he : errOf b = some 0 := by
      unfold errOf
      rw [if_pos h]
    rw [he]
  · obtain ⟨g, c1, rfl, hc, hcell⟩ := row_at hr (by omega)
    refine read30 g b.length c1 gd b A B C D w3 (errV a) (fun k hk => hE.cell k hk) rfl (by omega) hb hc hi ?_ hd
    intro k x hk
    rw [Nat.zero_add]
    exact cell_later hb3 (hcell k x hk)
theorem errOf_cases (b : List Int) : errOf b = none ∨ errOf b = some 0 ∨ errOf b = some 1 ∨ errOf b = some 2 ∨ errOf b = some 3 := by
  unfold errOf
  split
  · exact .inr (.inl rfl)
  · split
    · exact .inr (.inr (.inr (.inl rfl)))
    · split
      · exact .inr (.inr (.inr (.inr rfl)))
      · split
        · exact .inr (.inr (.inl rfl))
        · exact .inl rfl
set_option maxHeartbeats 8000000 in
set_option maxRecDepth 100000 in
theorem read13 (A0 : Option Addr) (n c : Nat) (b : List Int) (A B C D : Int) (w : World) (a : Nat → Addr) (hE : Errs a w)
    (hb : b.length = n) (hn2 : n ≤ 1228800) (hnc : n ≤ c) (hib : InBytes b) (hC : (Kd.int .u8).C w A0 n b) :
    Calls Tryd.prog 13 #[.agg (digC A B C D), .slice A0 n c] w (Rv A B C D b w) := by
  have HB := Lib.hid hb
  have HI := Lib.hid hib
  have HE := Lib.hid hE
  have SB := Lib.hid (below_alloc (below_alloc (Below.refl w.heap.size w) (.cells (digC A B C D) 32)) (.cells zeroC 37))
  have O1 := Lib.hid (own2_start A B C D w)
  have CC := Lib.hid (Kd.C_below hC SB.out)
  unfold digC zeroC at CC O1
  clear hb hib hE hC SB
  unfold digC
  go_enter Tryd.func13, Tryd.ntmps13
  go_wp2
  rcases errOf_cases b with he | he | he | he | he
  · have HV := Lib.hid he
    clear he
    go_region_held3 (fun w' => w'.cell? ⟨w.heap.size, 0, none⟩ = some (.int .u64 A) ∧ w'.cell? ⟨w.heap.size, 1, none⟩ = some (.int .u64 B) ∧ w'.cell? ⟨w.heap.size, 2, none⟩ = some (.int .u64 C) ∧ w'.cell? ⟨w.heap.size, 3, none⟩ = some (.int .u64 D)) (go_keep)
      (first | (refine app_byte_step (by rfl) _ _ rfl b A0 n c rfl rfl (Kd.C_drew CC.out) (by omega) ?_; intro v2 w2 hr; have R2 := Lib.hid hr; have O2 := Lib.hid (O1.out.later (below_then (below_drew (Below.refl _ _)) (by simp) hr.2)); clear hr; obtain ⟨p20, p21, p22, p23⟩ := O2.out.four) | (go_at_call 31; (with_reducible refine (dig31 A B C D _).mono ?_); rintro e w3 ⟨gd, rfl, hd, hb3⟩; have D3 := Lib.hid hd; have R3 := Lib.hid hb3; have O3 := Lib.hid (O2.out.later hb3); clear hd hb3; obtain ⟨p30, p31, p32, p33⟩ := O3.out.four) | (go_at_call 30; (with_reducible refine (any30 R2.out (by rw [HB.out]; exact hn2) HI.out D3.out (HE.out.later O3.out.bel) R3.out).mono ?_); rintro e w4 ⟨hb4, hm⟩; rw [HV.out] at hm; obtain ⟨p, tp, rfl, hp⟩ := hm; have HP := Lib.hid hp; clear hp; have g0 : w4.cell? ⟨p, 0, none⟩ = some (.int .i64 (IntKind.i64.wrap (leF b 72 8))) := (cell_blk HP.out 0 _ rfl).1; have g1 : w4.cell? ⟨p, 1, none⟩ = some (.bool true) := (cell_blk HP.out 1 _ rfl).1; have g2 : w4.cell? ⟨p, 2, none⟩ = some (.string (hexS (rootOf A B C D b))) := (cell_blk HP.out 2 _ rfl).1; have g3 : w4.cell? ⟨p, 3, none⟩ = some (.string (hexS (saltOf b))) := (cell_blk HP.out 3 _ rfl).1; have g4 : w4.cell? ⟨p, 4, none⟩ = some (.string (algOf b)) := (cell_blk HP.out 4 _ rfl).1; have g5 : w4.cell? ⟨p, 5, none⟩ = some (.int .u32 (leF b 64 4)) := (cell_blk HP.out 5 _ rfl).1; have g6 : w4.cell? ⟨p, 6, none⟩ = some (.int .u32 4096) := (cell_blk HP.out 6 _ rfl).1; have g7 : w4.cell? ⟨p, 7, none⟩ = some (.int .u64 (leF b 72 8)) := (cell_blk HP.out 7 _ rfl).1; have g8 : w4.cell? ⟨p, 8, none⟩ = some (.int .u32 (leF b 8 4)) := (cell_blk HP.out 8 _ rfl).1; have O4 := Lib.hid (O3.out.later hb4); have E4 := Lib.hid (HE.out.later O4.out.bel); clear hb4; obtain ⟨p40, p41, p42, p43⟩ := O4.out.four; obtain ⟨⟨e0, e1, e2, e3, e4, e5, e6, e7⟩, ⟨f0, f1, f2, f3, f4, f5, f6, f7⟩⟩ := eight O4.out.vr))
    go_wp2
    have hpne : p ≠ w.heap.size + 1 := by
      intro e
      have h1 := (cell_blk O4.out.vr 1 _ rfl).1
      rw [← e, g1] at h1
      exact absurd h1 (by simp [zeroC])
    have hpn1 : (p = w.heap.size + 1) = False := eq_false hpne
    have hpn2 : (w.heap.size + 1 = p) = False := eq_false (Ne.symm hpne)
    go_region_held3 (fun w' => w'.cell? ⟨p, 2, none⟩ = some (.string (hexS (rootOf A B C D b))) ∧ w'.cell? ⟨p, 3, none⟩ = some (.string (hexS (saltOf b))) ∧ w'.cell? ⟨p, 4, none⟩ = some (.string (algOf b)) ∧ w'.cell? ⟨p, 5, none⟩ = some (.int .u32 (leF b 64 4)) ∧ w'.cell? ⟨p, 6, none⟩ = some (.int .u32 4096) ∧ w'.cell? ⟨p, 7, none⟩ = some (.int .u64 (leF b 72 8)) ∧ w'.cell? ⟨p, 8, none⟩ = some (.int .u32 (leF b 8 4)) ∧ w'.cell? ⟨p, 0, none⟩ = some (.int .i64 (IntKind.i64.wrap (leF b 72 8)))) (go_keep) (fail)
    go_wp2
    obtain ⟨V, hV⟩ : ∃ V, V = ((((((((w4.setCell ⟨w.heap.size + 1, 0, none⟩ (.string (hexS (rootOf A B C D b)))).setCell ⟨w.heap.size + 1, 1, none⟩ (.string (hexS (saltOf b)))).setCell ⟨w.heap.size + 1, 2, none⟩ (.string (algOf b))).setCell ⟨w.heap.size + 1, 3, none⟩ (.int .u32 (leF b 64 4))).setCell ⟨w.heap.size + 1, 4, none⟩ (.int .u32 4096)).setCell ⟨w.heap.size + 1, 5, none⟩ (.int .u64 (leF b 72 8))).setCell ⟨w.heap.size + 1, 6, none⟩ (.int .u32 (leF b 8 4))).setCell ⟨w.heap.size + 1, 7, none⟩ (.int .i64 (IntKind.i64.wrap (leF b 72 8)))) := ⟨_, rfl⟩
    obtain ⟨r0, r1, r2, r3, r4, r5, r6, r7⟩ := eightV (store8 O4.out.vr (.string (hexS (rootOf A B C D b))) (.string (hexS (saltOf b))) (.string (algOf b)) (.int .u32 (leF b 64 4)) (.int .u32 4096) (.int .u64 (leF b 72 8)) (.int .u32 (leF b 8 4)) (.int .i64 (IntKind.i64.wrap (leF b 72 8))))
    have hbl := below8 O4.out.bel (Nat.le_succ _) (.string (hexS (rootOf A B C D b))) (.string (hexS (saltOf b))) (.string (algOf b)) (.int .u32 (leF b 64 4)) (.int .u32 4096) (.int .u64 (leF b 72 8)) (.int .u32 (leF b 8 4)) (.int .i64 (IntKind.i64.wrap (leF b 72 8)))
    rw [← hV] at r0 r1 r2 r3 r4 r5 r6 r7 hbl ⊢
    refine bodyPost_ret (by simp [results, Tryd.results13, go_sem, r0, r1, r2, r3, r4, r5, r6, r7]; try rfl) rfl ?_
    unfold Rv toldV
    rw [HV.out]
    exact ⟨rfl, by first | exact hbl | exact below_drew hbl⟩
  · have HV := Lib.hid he
    clear he
    go_region_held3 (fun w' => w'.cell? ⟨w.heap.size, 0, none⟩ = some (.int .u64 A) ∧ w'.cell? ⟨w.heap.size, 1, none⟩ = some (.int .u64 B) ∧ w'.cell? ⟨w.heap.size, 2, none⟩ = some (.int .u64 C) ∧ w'.cell? ⟨w.heap.size, 3, none⟩ = some (.int .u64 D)) (go_keep)
      (first | (refine app_byte_step (by rfl) _ _ rfl b A0 n c rfl rfl (Kd.C_drew CC.out) (by omega) ?_; intro v2 w2 hr; have R2 := Lib.hid hr; have O2 := Lib.hid (O1.out.later (below_then (below_drew (Below.refl _ _)) (by simp) hr.2)); clear hr; obtain ⟨p20, p21, p22, p23⟩ := O2.out.four) | (go_at_call 31; (with_reducible refine (dig31 A B C D _).mono ?_); rintro e w3 ⟨gd, rfl, hd, hb3⟩; have D3 := Lib.hid hd; have R3 := Lib.hid hb3; have O3 := Lib.hid (O2.out.later hb3); clear hd hb3; obtain ⟨p30, p31, p32, p33⟩ := O3.out.four) | (go_at_call 30; (with_reducible refine (any30 R2.out (by rw [HB.out]; exact hn2) HI.out D3.out (HE.out.later O3.out.bel) R3.out).mono ?_); rintro e w4 ⟨hb4, hm⟩; rw [HV.out] at hm; unfold errV at hm; obtain rfl := hm; have O4 := Lib.hid (O3.out.later hb4); have E4 := Lib.hid (HE.out.later O4.out.bel); clear hb4; obtain ⟨p40, p41, p42, p43⟩ := O4.out.four; obtain ⟨⟨e0, e1, e2, e3, e4, e5, e6, e7⟩, ⟨f0, f1, f2, f3, f4, f5, f6, f7⟩⟩ := eight O4.out.vr))
    have c0 := E4.out.cell 0 (by decide)
    have q0 : (binOp .eql 73 (.iface 156 (.pointer (some (a 0)))) (.iface 156 (.pointer (some (a 0))))).run Tryd.prog w4 = .ok (.bool true) w4 := errEq E4.out 0 0 (by decide) (by decide)
    go_wp2
    obtain ⟨V, hV⟩ : ∃ V, V = ((((((((w4.setCell ⟨w.heap.size + 1, 0, none⟩ (.string ⟨#[]⟩)).setCell ⟨w.heap.size + 1, 1, none⟩ (.string ⟨#[]⟩)).setCell ⟨w.heap.size + 1, 2, none⟩ (.string ⟨#[]⟩)).setCell ⟨w.heap.size + 1, 3, none⟩ (.int .u32 0)).setCell ⟨w.heap.size + 1, 4, none⟩ (.int .u32 0)).setCell ⟨w.heap.size + 1, 5, none⟩ (.int .u64 0)).setCell ⟨w.heap.size + 1, 6, none⟩ (.int .u32 0)).setCell ⟨w.heap.size + 1, 7, none⟩ (.int .i64 0)) := ⟨_, rfl⟩
    obtain ⟨r0, r1, r2, r3, r4, r5, r6, r7⟩ := eightV (store8 O4.out.vr (.string ⟨#[]⟩) (.string ⟨#[]⟩) (.string ⟨#[]⟩) (.int .u32 0) (.int .u32 0) (.int .u64 0) (.int .u32 0) (.int .i64 0))
    have hbl := below8 O4.out.bel (Nat.le_succ _) (.string ⟨#[]⟩) (.string ⟨#[]⟩) (.string ⟨#[]⟩) (.int .u32 0) (.int .u32 0) (.int .u64 0) (.int .u32 0) (.int .i64 0)
    rw [← hV] at r0 r1 r2 r3 r4 r5 r6 r7 hbl ⊢
    refine bodyPost_ret (by simp [results, Tryd.results13, go_sem, r0, r1, r2, r3, r4, r5, r6, r7]; try rfl) rfl ?_
    unfold Rv toldV
    rw [HV.out]
    exact ⟨rfl, by first | exact hbl | exact below_drew hbl⟩
  · have HV := Lib.hid he
    clear he
    go_region_held3 (fun w' => w'.cell? ⟨w.heap.size, 0, none⟩ = some (.int .u64 A) ∧ w'.cell? ⟨w.heap.size, 1, none⟩ = some (.int .u64 B) ∧ w'.cell? ⟨w.heap.size, 2, none⟩ = some (.int .u64 C) ∧ w'.cell? ⟨w.heap.size, 3, none⟩ = some (.int .u64 D)) (go_keep)
      (first | (refine app_byte_step (by rfl) _ _ rfl b A0 n c rfl rfl (Kd.C_drew CC.out) (by omega) ?_; intro v2 w2 hr; have R2 := Lib.hid hr; have O2 := Lib.hid (O1.out.later (below_then (below_drew (Below.refl _ _)) (by simp) hr.2)); clear hr; obtain ⟨p20, p21, p22, p23⟩ := O2.out.four) | (go_at_call 31; (with_reducible refine (dig31 A B C D _).mono ?_); rintro e w3 ⟨gd, rfl, hd, hb3⟩; have D3 := Lib.hid hd; have R3 := Lib.hid hb3; have O3 := Lib.hid (O2.out.later hb3); clear hd hb3; obtain ⟨p30, p31, p32, p33⟩ := O3.out.four) | (go_at_call 30; (with_reducible refine (any30 R2.out (by rw [HB.out]; exact hn2) HI.out D3.out (HE.out.later O3.out.bel) R3.out).mono ?_); rintro e w4 ⟨hb4, hm⟩; rw [HV.out] at hm; unfold errV at hm; obtain rfl := hm; have O4 := Lib.hid (O3.out.later hb4); have E4 := Lib.hid (HE.out.later O4.out.bel); clear hb4; obtain ⟨p40, p41, p42, p43⟩ := O4.out.four; obtain ⟨⟨e0, e1, e2, e3, e4, e5, e6, e7⟩, ⟨f0, f1, f2, f3, f4, f5, f6, f7⟩⟩ := eight O4.out.vr))
    have c0 := E4.out.cell 0 (by decide)
    have c1 := E4.out.cell 1 (by decide)
    have q0 : (binOp .eql 73 (.iface 156 (.pointer (some (a 1)))) (.iface 156 (.pointer (some (a 0))))).run Tryd.prog w4 = .ok (.bool false) w4 := errEq E4.out 1 0 (by decide) (by decide)
    have q1 : (binOp .eql 73 (.iface 156 (.pointer (some (a 1)))) (.iface 156 (.pointer (some (a 1))))).run Tryd.prog w4 = .ok (.bool true) w4 := errEq E4.out 1 1 (by decide) (by decide)
    go_wp2
    obtain ⟨V, hV⟩ : ∃ V, V = ((((((((w4.setCell ⟨w.heap.size + 1, 0, none⟩ (.string ⟨#[]⟩)).setCell ⟨w.heap.size + 1, 1, none⟩ (.string ⟨#[]⟩)).setCell ⟨w.heap.size + 1, 2, none⟩ (.string ⟨#[]⟩)).setCell ⟨w.heap.size + 1, 3, none⟩ (.int .u32 0)).setCell ⟨w.heap.size + 1, 4, none⟩ (.int .u32 0)).setCell ⟨w.heap.size + 1, 5, none⟩ (.int .u64 0)).setCell ⟨w.heap.size + 1, 6, none⟩ (.int .u32 0)).setCell ⟨w.heap.size + 1, 7, none⟩ (.int .i64 0)) := ⟨_, rfl⟩
    obtain ⟨r0, r1, r2, r3, r4, r5, r6, r7⟩ := eightV (store8 O4.out.vr (.string ⟨#[]⟩) (.string ⟨#[]⟩) (.string ⟨#[]⟩) (.int .u32 0) (.int .u32 0) (.int .u64 0) (.int .u32 0) (.int .i64 0))
    have hbl := below8 O4.out.bel (Nat.le_succ _) (.string ⟨#[]⟩) (.string ⟨#[]⟩) (.string ⟨#[]⟩) (.int .u32 0) (.int .u32 0) (.int .u64 0) (.int .u32 0) (.int .i64 0)
    rw [← hV] at r0 r1 r2 r3 r4 r5 r6 r7 hbl ⊢
    refine bodyPost_ret (by simp [results, Tryd.results13, go_sem, r0, r1, r2, r3, r4, r5, r6, r7]; try rfl) rfl ?_
    unfold Rv toldV
    rw [HV.out]
    exact ⟨rfl, by first | exact hbl | exact below_drew hbl⟩
  · have HV := Lib.hid he
    clear he
    go_region_held3 (fun w' => w'.cell? ⟨w.heap.size, 0, none⟩ = some (.int .u64 A) ∧ w'.cell? ⟨w.heap.size, 1, none⟩ = some (.int .u64 B) ∧ w'.cell? ⟨w.heap.size, 2, none⟩ = some (.int .u64 C) ∧ w'.cell? ⟨w.heap.size, 3, none⟩ = some (.int .u64 D)) (go_keep)
      (first | (refine app_byte_step (by rfl) _ _ rfl b A0 n c rfl rfl (Kd.C_drew CC.out) (by omega) ?_; intro v2 w2 hr; have R2 := Lib.hid hr; have O2 := Lib.hid (O1.out.later (below_then (below_drew (Below.refl _ _)) (by simp) hr.2)); clear hr; obtain ⟨p20, p21, p22, p23⟩ := O2.out.four) | (go_at_call 31; (with_reducible refine (dig31 A B C D _).mono ?_); rintro e w3 ⟨gd, rfl, hd, hb3⟩; have D3 := Lib.hid hd; have R3 := Lib.hid hb3; have O3 := Lib.hid (O2.out.later hb3); clear hd hb3; obtain ⟨p30, p31, p32, p33⟩ := O3.out.four) | (go_at_call 30; (with_reducible refine (any30 R2.out (by rw [HB.out]; exact hn2) HI.out D3.out (HE.out.later O3.out.bel) R3.out).mono ?_); rintro e w4 ⟨hb4, hm⟩; rw [HV.out] at hm; unfold errV at hm; obtain rfl := hm; have O4 := Lib.hid (O3.out.later hb4); have E4 := Lib.hid (HE.out.later O4.out.bel); clear hb4; obtain ⟨p40, p41, p42, p43⟩ := O4.out.four; obtain ⟨⟨e0, e1, e2, e3, e4, e5, e6, e7⟩, ⟨f0, f1, f2, f3, f4, f5, f6, f7⟩⟩ := eight O4.out.vr))
    have c0 := E4.out.cell 0 (by decide)
    have c1 := E4.out.cell 1 (by decide)
    have c2 := E4.out.cell 2 (by decide)
    have q0 : (binOp .eql 73 (.iface 156 (.pointer (some (a 2)))) (.iface 156 (.pointer (some (a 0))))).run Tryd.prog w4 = .ok (.bool false) w4 := errEq E4.out 2 0 (by decide) (by decide)
    have q1 : (binOp .eql 73 (.iface 156 (.pointer (some (a 2)))) (.iface 156 (.pointer (some (a 1))))).run Tryd.prog w4 = .ok (.bool false) w4 := errEq E4.out 2 1 (by decide) (by decide)
    have q2 : (binOp .eql 73 (.iface 156 (.pointer (some (a 2)))) (.iface 156 (.pointer (some (a 2))))).run Tryd.prog w4 = .ok (.bool true) w4 := errEq E4.out 2 2 (by decide) (by decide)
    go_wp2
    obtain ⟨V, hV⟩ : ∃ V, V = ((((((((w4.setCell ⟨w.heap.size + 1, 0, none⟩ (.string ⟨#[]⟩)).setCell ⟨w.heap.size + 1, 1, none⟩ (.string ⟨#[]⟩)).setCell ⟨w.heap.size + 1, 2, none⟩ (.string ⟨#[]⟩)).setCell ⟨w.heap.size + 1, 3, none⟩ (.int .u32 0)).setCell ⟨w.heap.size + 1, 4, none⟩ (.int .u32 0)).setCell ⟨w.heap.size + 1, 5, none⟩ (.int .u64 0)).setCell ⟨w.heap.size + 1, 6, none⟩ (.int .u32 0)).setCell ⟨w.heap.size + 1, 7, none⟩ (.int .i64 0)) := ⟨_, rfl⟩
    obtain ⟨r0, r1, r2, r3, r4, r5, r6, r7⟩ := eightV (store8 O4.out.vr (.string ⟨#[]⟩) (.string ⟨#[]⟩) (.string ⟨#[]⟩) (.int .u32 0) (.int .u32 0) (.int .u64 0) (.int .u32 0) (.int .i64 0))
    have hbl := below8 O4.out.bel (Nat.le_succ _) (.string ⟨#[]⟩) (.string ⟨#[]⟩) (.string ⟨#[]⟩) (.int .u32 0) (.int .u32 0) (.int .u64 0) (.int .u32 0) (.int .i64 0)
    rw [← hV] at r0 r1 r2 r3 r4 r5 r6 r7 hbl ⊢
    refine bodyPost_ret (by simp [results, Tryd.results13, go_sem, r0, r1, r2, r3, r4, r5, r6, r7]; try rfl) rfl ?_
    unfold Rv toldV
    rw [HV.out]
    exact ⟨rfl, by first | exact hbl | exact below_drew hbl⟩
  · have HV := Lib.hid he
    clear he
    go_region_held3 (fun w' => w'.cell? ⟨w.heap.size, 0, none⟩ = some (.int .u64 A) ∧ w'.cell? ⟨w.heap.size, 1, none⟩ = some (.int .u64 B) ∧ w'.cell? ⟨w.heap.size, 2, none⟩ = some (.int .u64 C) ∧ w'.cell? ⟨w.heap.size, 3, none⟩ = some (.int .u64 D)) (go_keep)
      (first | (refine app_byte_step (by rfl) _ _ rfl b A0 n c rfl rfl (Kd.C_drew CC.out) (by omega) ?_; intro v2 w2 hr; have R2 := Lib.hid hr; have O2 := Lib.hid (O1.out.later (below_then (below_drew (Below.refl _ _)) (by simp) hr.2)); clear hr; obtain ⟨p20, p21, p22, p23⟩ := O2.out.four) | (go_at_call 31; (with_reducible refine (dig31 A B C D _).mono ?_); rintro e w3 ⟨gd, rfl, hd, hb3⟩; have D3 := Lib.hid hd; have R3 := Lib.hid hb3; have O3 := Lib.hid (O2.out.later hb3); clear hd hb3; obtain ⟨p30, p31, p32, p33⟩ := O3.out.four) | (go_at_call 30; (with_reducible refine (any30 R2.out (by rw [HB.out]; exact hn2) HI.out D3.out (HE.out.later O3.out.bel) R3.out).mono ?_); rintro e w4 ⟨hb4, hm⟩; rw [HV.out] at hm; unfold errV at hm; obtain rfl := hm; have O4 := Lib.hid (O3.out.later hb4); have E4 := Lib.hid (HE.out.later O4.out.bel); clear hb4; obtain ⟨p40, p41, p42, p43⟩ := O4.out.four; obtain ⟨⟨e0, e1, e2, e3, e4, e5, e6, e7⟩, ⟨f0, f1, f2, f3, f4, f5, f6, f7⟩⟩ := eight O4.out.vr))
    have c0 := E4.out.cell 0 (by decide)
    have c1 := E4.out.cell 1 (by decide)
    have c2 := E4.out.cell 2 (by decide)
    have q0 : (binOp .eql 73 (.iface 156 (.pointer (some (a 3)))) (.iface 156 (.pointer (some (a 0))))).run Tryd.prog w4 = .ok (.bool false) w4 := errEq E4.out 3 0 (by decide) (by decide)
    have q1 : (binOp .eql 73 (.iface 156 (.pointer (some (a 3)))) (.iface 156 (.pointer (some (a 1))))).run Tryd.prog w4 = .ok (.bool false) w4 := errEq E4.out 3 1 (by decide) (by decide)
    have q2 : (binOp .eql 73 (.iface 156 (.pointer (some (a 3)))) (.iface 156 (.pointer (some (a 2))))).run Tryd.prog w4 = .ok (.bool false) w4 := errEq E4.out 3 2 (by decide) (by decide)
    go_wp2
    obtain ⟨V, hV⟩ : ∃ V, V = ((((((((w4.setCell ⟨w.heap.size + 1, 0, none⟩ (.string ⟨#[]⟩)).setCell ⟨w.heap.size + 1, 1, none⟩ (.string ⟨#[]⟩)).setCell ⟨w.heap.size + 1, 2, none⟩ (.string ⟨#[]⟩)).setCell ⟨w.heap.size + 1, 3, none⟩ (.int .u32 0)).setCell ⟨w.heap.size + 1, 4, none⟩ (.int .u32 0)).setCell ⟨w.heap.size + 1, 5, none⟩ (.int .u64 0)).setCell ⟨w.heap.size + 1, 6, none⟩ (.int .u32 0)).setCell ⟨w.heap.size + 1, 7, none⟩ (.int .i64 0)) := ⟨_, rfl⟩
    obtain ⟨r0, r1, r2, r3, r4, r5, r6, r7⟩ := eightV (store8 O4.out.vr (.string ⟨#[]⟩) (.string ⟨#[]⟩) (.string ⟨#[]⟩) (.int .u32 0) (.int .u32 0) (.int .u64 0) (.int .u32 0) (.int .i64 0))
    have hbl := below8 O4.out.bel (Nat.le_succ _) (.string ⟨#[]⟩) (.string ⟨#[]⟩) (.string ⟨#[]⟩) (.int .u32 0) (.int .u32 0) (.int .u64 0) (.int .u32 0) (.int .i64 0)
    rw [← hV] at r0 r1 r2 r3 r4 r5 r6 r7 hbl ⊢
    refine bodyPost_ret (by simp [results, Tryd.results13, go_sem, r0, r1, r2, r3, r4, r5, r6, r7]; try rfl) rfl ?_
    unfold Rv toldV
    rw [HV.out]
    exact ⟨rfl, by first | exact hbl | exact below_drew hbl⟩
end Go.Proofs.YtckjbgneblfceaaDoor.Da
