/- Which attributes fit, and where. -/
import Derived.Test.YtckjbgneblfceaaDoorFc
namespace Go.Proofs.YtckjbgneblfceaaDoor.Fd
open Go.RowKit Go.Maps Go.Proofs.YtckjbgneblfceaaDoorW.PrintWords Go.Proofs.YtckjbgneblfceaaDoorW.PrintLast Go.Proofs.YtckjbgneblfceaaDoorW.PrintMore Go.Proofs.YtckjbgneblfceaaDoor.PFnFitFirst Go.Proofs.YtckjbgneblfceaaDoor.Fa Go.Proofs.YtckjbgneblfceaaDoor.Fm Go.Proofs.YtckjbgneblfceaaDoor.Fb Go.Proofs.YtckjbgneblfceaaDoor.Fc
set_option linter.unusedVariables false
set_option linter.unusedSimpArgs false
/-- What is left of both places, and which attributes went there. -/
structure FS where
  a : Int
  b : Int
  ins : List Nat
  outs : List Nat
def fit1 (L : Int) (i : Nat) (s : FS) : FS × Bool := if L ≤ s.a then (⟨wrap64 (s.a - L), s.b, s.ins ++ [i], s.outs⟩, true) else if L ≤ s.b then (⟨s.a, wrap64 (s.b - L), s.ins, s.outs ++ [i]⟩, true) else (s, false)
/-- The first attributes, one after the other as long as they fit. -/
def fitF (Ls : Nat → Int) : Nat → FS × Bool
  | 0 => (⟨96, 4060, [], []⟩, true)
  | i + 1 => if (fitF Ls i).2 = true then fit1 (Ls i) i (fitF Ls i).1 else fitF Ls i
def inR (x : Int) : Prop := -9223372036854775808 ≤ x ∧ x ≤ 9223372036854775807
theorem wrap_in (x : Int) : inR (wrap64 x) := by unfold inR wrap64; omega
theorem fit1_rng (L : Int) (i : Nat) (s : FS) (ha : inR s.a) (hb : inR s.b) : inR (fit1 L i s).1.a ∧ inR (fit1 L i s).1.b := by
  unfold fit1
  split
  · exact ⟨wrap_in _, hb⟩
  · split
    · exact ⟨ha, wrap_in _⟩
    · exact ⟨ha, hb⟩
theorem fitF_rng (Ls : Nat → Int) : ∀ i, inR (fitF Ls i).1.a ∧ inR (fitF Ls i).1.b
  | 0 => ⟨⟨by show -9223372036854775808 ≤ (96 : Int); decide, by show (96 : Int) ≤ _; decide⟩, ⟨by show -9223372036854775808 ≤ (4060 : Int); decide, by show (4060 : Int) ≤ _; decide⟩⟩
  | i + 1 => by
    show inR (if _ then _ else _ : FS × Bool).1.a ∧ inR (if _ then _ else _ : FS × Bool).1.b
    have h := fitF_rng Ls i
    split
    · exact fit1_rng _ _ _ h.1 h.2
    · exact h
theorem fit1_len (L : Int) (i : Nat) (s : FS) : (fit1 L i s).1.ins.length + (fit1 L i s).1.outs.length = s.ins.length + s.outs.length + (if (fit1 L i s).2 = true then 1 else 0) := by
  unfold fit1
  split
  · simp; omega
  · split
    · simp; omega
    · simp
theorem fitF_le (Ls : Nat → Int) : ∀ i, (fitF Ls i).1.ins.length + (fitF Ls i).1.outs.length ≤ i ∧ ((fitF Ls i).2 = true → (fitF Ls i).1.ins.length + (fitF Ls i).1.outs.length = i) ∧ ((fitF Ls i).2 = false → (fitF Ls i).1.ins.length + (fitF Ls i).1.outs.length < i)
  | 0 => ⟨Nat.le_refl _, fun _ => rfl, fun h => by cases h⟩
  | i + 1 => by
    obtain ⟨h1, h2, h3⟩ := fitF_le Ls i
    have e : fitF Ls (i + 1) = if (fitF Ls i).2 = true then fit1 (Ls i) i (fitF Ls i).1 else fitF Ls i := rfl
    rw [e]
    by_cases h : (fitF Ls i).2 = true
    · rw [if_pos h]
      have h4 := fit1_len (Ls i) i (fitF Ls i).1
      have h5 := h2 h
      cases hb : (fit1 (Ls i) i (fitF Ls i).1).2
      · rw [hb] at h4; simp at h4; exact ⟨by omega, by simp, fun _ => by omega⟩
      · rw [hb] at h4; simp at h4; exact ⟨by omega, fun _ => by omega, by simp⟩
    · rw [if_neg h]
      have h' : (fitF Ls i).2 = false := by simpa using h
      have := h3 h'
      exact ⟨by omega, fun h2 => absurd h2 h, fun _ => by omega⟩
theorem at_str {w : World} {A : Option Addr} {n : Nat} {xs : List ByteArray} (h : Kd.string.C w A n xs) (i : Nat) (h1 : i < n) : ∃ ad, A = some ad ∧ w.cell? (ad.add i) = some (.string (xs.getD i ⟨#[]⟩)) := by
  obtain ⟨ad, c, e, _, hK, hc0⟩ := Kd.C_get h (⟨#[]⟩ : ByteArray) (i : Int) (by omega) (by omega)
  have hc : ∀ j u, c[j]? = some u → w.cell? (ad.add (i * 1 + j)) = some u := hc0
  have hK : c = [.string (xs.getD i ⟨#[]⟩)] := hK
  exact ⟨ad, e, by have hq := hc 0 (.string (xs.getD i ⟨#[]⟩)) (by rw [hK]; rfl); rwa [Nat.mul_one, Nat.add_zero] at hq⟩
theorem at_len {w : World} {A : Option Addr} {n : Nat} {xs : List Nat} (h : kLen.C w A n xs) (i : Nat) (h1 : i < n) : ∃ ad A1 c1, A = some ad ∧ w.cell? (ad.add i) = some (.slice A1 (xs.getD i 0) c1) := by
  obtain ⟨ad, c, e, _, hK, hc0⟩ := Kd.C_get h (0 : Nat) (i : Int) (by omega) (by omega)
  have hc : ∀ j u, c[j]? = some u → w.cell? (ad.add (i * 1 + j)) = some u := hc0
  obtain ⟨A1, c1, hK⟩ : ∃ A1 c1, c = [.slice A1 (xs.getD i 0) c1] := hK
  exact ⟨ad, A1, c1, e, by have hq := hc 0 (.slice A1 (xs.getD i 0) c1) (by rw [hK]; rfl); rwa [Nat.mul_one, Nat.add_zero] at hq⟩
theorem St.keep {base : Nat} {W W' : World} {g : Nat} {vi vb : Value} {nI nB : Nat} {a b : Int} {T : Nat → Prop} (S : St base W g vi vb nI nB a b) (M : Moves T W W') (hT : ∀ k, T k → ¬ Ts g vi vb k) : St base W' g vi vb nI nB a b := by
  obtain ⟨xs, hX, hxl⟩ := S.ri
  obtain ⟨zs, hZ, hzl⟩ := S.rb
  refine ⟨M.blk S.blk (fun h => hT g h (.inl rfl)), S.ge, ⟨xs, Kd.R_mono (M.row (Kd.R_tight2 rfl hX) (fun k hk h => hT k h (.inr (.inl hk.1)))) (fun _ _ => trivial), hxl⟩, ⟨zs, Kd.R_mono (M.row (Kd.R_tight2 rfl hZ) (fun k hk h => hT k h (.inr (.inr hk.1)))) (fun _ _ => trivial), hzl⟩, S.ne⟩
/-- A row of another type is none of the state's blocks. -/
theorem St.far {α : Type} {d : Kd α} {base e b0 : Nat} {W : World} {ok : Nat → Prop} {g : Nat} {vi vb v : Value} {nI nB : Nat} {a b : Int} {xs : List α} (S : St base W g vi vb nI nB a b) (h : d.R e W b0 ok v xs) (h1 : e ≠ 133) (h2 : e ≠ 107) : ∀ k, some k = v.ownBlock → ¬ Ts g vi vb k := by
  obtain ⟨xs1, hX, _⟩ := S.ri
  obtain ⟨zs1, hZ, _⟩ := S.rb
  intro k hk hT
  rcases hT with rfl | hT | hT
  · exact Kd.R_ne h S.blk h2 hk
  · exact own_ne h hX h1 k hk.symm hT.symm
  · exact own_ne h hZ h1 k hk.symm hT.symm
theorem row_far {α : Type} {d : Kd α} {base e : Nat} {W W' : World} {v : Value} {xs : List α} {T : Nat → Prop} (hE : d.E = []) (h : d.R e W base (fun _ => True) v xs) (M : Moves T W W') (hT : ∀ k, some k = v.ownBlock → ¬ T k) : d.R e W' base (fun _ => True) v xs :=
  Kd.R_mono (M.row (Kd.R_tight2 hE h) (fun k hk => hT k hk.1)) (fun _ _ => trivial)
theorem init_calls (W : World) (g : Nat) (v0 v1 : Value) (x y : Int) (h : W.heap[g]? = some (.cells #[v0, v1, .int .i64 x, .int .i64 y] 107 (0, 0))) :
    Calls Tryd.prog 50 #[.pointer (some ⟨g, 0, none⟩)] W fun e w' => e = .returned (.tuple #[]) ∧ w'.heap[g]? = some (.cells #[v0, v1, .int .i64 96, .int .i64 4060] 107 (0, 0)) ∧ Moves (fun k => k = g) W w' := by
  have c2 := blk_cell h 2
  have c3 := blk_cell h 3
  have z2 := blk_frozen h 2
  have z3 := blk_frozen h 3
  simp at c2 c3
  have H := Lib.hid h
  clear h
  go_enter Tryd.func50, Tryd.ntmps50
  go_wp2_with fail
  first | go_end0 | ((try simp only [Exit.inBlock, Exit.then]); refine bodyPost_ret (results_none rfl _ _ _) rfl ?_)
  refine ⟨rfl, ?_, ?_⟩
  · have h1 := blk_set H.out 2 (.int .i64 96)
    have h2 := blk_set h1 3 (.int .i64 4060)
    simpa using h2
  · exact ((Moves.refl (fun k => k = g) W).setCell (p := ⟨g, 2, none⟩) (.inl rfl) _).setCell (p := ⟨g, 3, none⟩) (.inl rfl) _
theorem add_in {base : Nat} {W : World} {g : Nat} {vi vb : Value} {nI nB : Nat} {a b L : Int} {args : Array Value} (h : Calls Tryd.prog 51 args W (AddPost base W g vi vb nI nB a b L)) (hL : L ≤ a) :
    Calls Tryd.prog 51 args W fun e w' => e = .returned (.bool true) ∧ ∃ vi', St base w' g vi' vb (nI + 1) nB (wrap64 (a - L)) b ∧ Moves (Ts g vi vb) W w' ∧ NewOr W vi vi' :=
  h.mono (fun e w' hp => by
    rcases hp with ⟨_, h2, h3⟩ | ⟨h0, _⟩ | ⟨h0, _⟩
    · exact ⟨h2, h3⟩
    · omega
    · omega)
theorem add_out {base : Nat} {W : World} {g : Nat} {vi vb : Value} {nI nB : Nat} {a b L : Int} {args : Array Value} (h : Calls Tryd.prog 51 args W (AddPost base W g vi vb nI nB a b L)) (hL : a < L) (hL2 : L ≤ b) :
    Calls Tryd.prog 51 args W fun e w' => e = .returned (.bool true) ∧ ∃ vb', St base w' g vi vb' nI (nB + 1) a (wrap64 (b - L)) ∧ Moves (Ts g vi vb) W w' ∧ NewOr W vb vb' :=
  h.mono (fun e w' hp => by
    rcases hp with ⟨h0, _⟩ | ⟨_, _, h2, h3⟩ | ⟨_, h0, _⟩
    · omega
    · exact ⟨h2, h3⟩
    · omega)
theorem add_no {base : Nat} {W : World} {g : Nat} {vi vb : Value} {nI nB : Nat} {a b L : Int} {args : Array Value} (h : Calls Tryd.prog 51 args W (AddPost base W g vi vb nI nB a b L)) (hL : a < L) (hL2 : b < L) :
    Calls Tryd.prog 51 args W fun e w' => e = .returned (.bool false) ∧ Moves (Ts g vi vb) W w' :=
  h.mono (fun e w' hp => by
    rcases hp with ⟨h0, _⟩ | ⟨_, h0, _⟩ | ⟨_, _, h2, _, h3⟩
    · omega
    · omega
    · exact ⟨h2, h3⟩)
theorem app_int {ops : Array Oper} {rest : List Oper} {o : Oper} {a : Act} {Q : Exit → Act → World → Prop} {W wb : World} (base : Nat) (hgd : o.guard = none) (s x : Operand) (ho : o.op = .call { callee := .builtin .append, args := #[s, x], argTypes := #[67, 67] })
    (v : Value) (xs : List Int) (p : Int) (hs : a.eval s = v) {g : Nat} (hx : a.eval x = .slice (some ⟨g, 0, none⟩) 1 1) (hgs : W.heap.size = g)
    (HO : (Kd.int .i64).R 3 W base (fun _ => True) v xs) (HB : Below base wb W) (hbase : base ≤ W.heap.size) (hl : xs.length ≤ 1000)
    (h : ∀ v1 w1, (Kd.int .i64).R 3 w1 base (fun _ => True) v1 (xs ++ [p]) → Below base wb w1 → W.grownBy w1 v.ownBlock → NewOr W v v1 → wpList Tryd.prog ops Q rest (a.put o.dst v1) w1) :
    wpList Tryd.prog ops Q (o :: rest) a (W.alloc (.cells #[.int .i64 p] 3)) := by
  subst hgs
  refine Kd.R_append (Kd.int .i64) (w0 := wb) base hgd s x 67 3 _ 8 ho Tryd.underlying67 info3 rfl (by decide) (by decide) v xs p [.int .i64 p] (fun _ => True) (fun _ => False) hs hx rfl (fun _ hk => hk.elim) (fun _ _ => trivial) HO HB hbase (by omega) ?_
  intro v1 w1 h1 hb h2 h3
  exact h v1 w1 h1 hb h2 h3
theorem fit_stop (Ls : Nat → Int) (j : Nat) (h : (fitF Ls j).2 = false) : ∀ k, fitF Ls (j + k) = fitF Ls j
  | 0 => rfl
  | k + 1 => by
    have ih := fit_stop Ls j h k
    show (if (fitF Ls (j + k)).2 = true then _ else fitF Ls (j + k)) = _
    rw [ih, if_neg (by rw [h]; decide)]
/-- A row of whole numbers that are places. -/
def nums (l : List Nat) : List Int := l.map (fun k : Nat => (k : Int))
theorem nums_len (l : List Nat) : (nums l).length = l.length := by unfold nums; rw [List.length_map]
theorem nums_app (l : List Nat) (i : Nat) : nums (l ++ [i]) = nums l ++ [(i : Int)] := by unfold nums; simp
/-- What the loop keeps. -/
structure Lp (W wr : World) (g : Nat) (s : FS) (v4 v5 : Value) : Prop where
  st : ∃ vi vb, St W.heap.size wr g vi vb s.ins.length s.outs.length s.a s.b
  r4 : (Kd.int .i64).R 3 wr W.heap.size (fun _ => True) v4 (nums s.ins)
  r5 : (Kd.int .i64).R 3 wr W.heap.size (fun _ => True) v5 (nums s.outs)
  ne : ∀ k, v4.ownBlock = some k → v5.ownBlock ≠ some k
  bel : Below W.heap.size W wr
set_option maxHeartbeats 4000000 in
set_option maxRecDepth 100000 in
theorem fit_calls (W : World) (t : TypeId) (fr : Nat × Nat) (hg : W.heap[4]? = some (.cells cells14 t fr)) (n : Nat) (names : List ByteArray) (lens : List Nat) (A1 A2 : Option Addr) (c1 c2 : Nat) (h1 : Kd.string.C W A1 n names) (h2 : kLen.C W A2 n lens) (hn : n ≤ 1000) (hs : ∀ i : Nat, i < n → (names.getD i ⟨#[]⟩).size ≤ 2147483647) (hm : ∀ i : Nat, i < n → lens.getD i 0 ≤ 2147483647) (Ls : Nat → Int) (hL : ∀ i : Nat, i < n → Ls i = need (names.getD i ⟨#[]⟩) (lens.getD i 0)) :
    Calls Tryd.prog 29 #[.slice A1 n c1, .slice A2 n c2] W fun e w' => ∃ B1 d1 B2 d2, e = .returned (.tuple #[.slice B1 (fitF Ls n).1.ins.length d1, .slice B2 (fitF Ls n).1.outs.length d2, .bool (fitF Ls n).2]) ∧ (Kd.int .i64).C w' B1 (fitF Ls n).1.ins.length (nums (fitF Ls n).1.ins) ∧ (Kd.int .i64).C w' B2 (fitF Ls n).1.outs.length (nums (fitF Ls n).1.outs) ∧ Below W.heap.size W w' := by
  have H1 := Lib.hid h1
  have H2 := Lib.hid h2
  have HG := Lib.hid hg
  have HS := Lib.hid hs
  have HM := Lib.hid hm
  have HL := Lib.hid hL
  clear h1 h2 hg hs hm hL
  go_enter Tryd.func29, Tryd.ntmps29
  go_upto_region 3 with (first | (go_at_call 50; (refine (init_calls _ W.heap.size _ _ _ _ (blk_new _ _)).mono ?_); rintro e w1 ⟨rfl, hb1, hM1⟩; have BK := Lib.hid hb1; have M1 := Lib.hid hM1; clear hb1 hM1))
  have B1 := Lib.hid (M1.out.toBelow (below_alloc (Below.refl _ _) _ : Below W.heap.size W _) (by simp) (fun k hk => by rw [hk]; exact Nat.le_refl _))
  have L0 := Lib.hid (show Lp W w1 W.heap.size (fitF Ls 0).1 (.slice none 0 0) (.slice none 0 0) from ⟨⟨.slice none 0 0, .slice none 0 0, BK.out, Nat.le_refl _, ⟨[], Kd.R_nil _ _ _ _ _, rfl⟩, ⟨[], Kd.R_nil _ _ _ _ _, rfl⟩, fun k hk => by simp [Value.ownBlock] at hk⟩, Kd.R_nil _ _ _ _ _, Kd.R_nil _ _ _ _ _, fun k hk => by simp [Value.ownBlock] at hk, B1.out⟩)
  clear BK M1 B1
  go_wp2_with fail
  go_loopw [14, 4, 5] (fun v14 v4 v5 wr => ∃ i : Nat, v14 = .int .i64 i ∧ i ≤ n ∧ Hid ((fitF Ls i).2 = true) ∧ Hid (Lp W wr W.heap.size (fitF Ls i).1 v4 v5)) (fun v14 _ _ _ => n - (intOf v14).toNat)
  case atStart => exact ⟨0, rfl, Nat.zero_le _, Lib.hid rfl, L0⟩
  case round =>
    obtain ⟨i, rfl, hi, OK, LI⟩ := hrel
    clear L0
    by_cases hlt : i < n
    · have hlt' : (i : Int) < (n : Int) := by omega
      obtain ⟨a1, eA1, k1⟩ := at_str H1.out i hlt
      obtain ⟨a2, D1, e1, eA2, k2⟩ := at_len H2.out i hlt
      subst eA1 eA2
      have k1 := cellb0 k1 LI.out.bel
      have k2 := cellb0 k2 LI.out.bel
      have hs1 := HS.out i hlt
      have hm1 := HM.out i hlt
      have hLi := HL.out i hlt
      obtain ⟨nm, hnm⟩ : ∃ nm, nm = names.getD i ⟨#[]⟩ := ⟨_, rfl⟩
      obtain ⟨m, hmm⟩ : ∃ m, m = lens.getD i 0 := ⟨_, rfl⟩
      rw [← hnm] at k1 hs1 hLi
      rw [← hmm] at k2 hm1 hLi
      clear hnm hmm
      obtain ⟨vi, vb, hS⟩ := LI.out.st
      obtain ⟨q1, q2⟩ := fitF_rng Ls i
      have q3 := (fitF_le Ls i).1
      have F1 := Lib.hid (show fitF Ls (i + 1) = fit1 (Ls i) i (fitF Ls i).1 from if_pos OK.out)
      obtain ⟨s, hs⟩ : ∃ s, s = (fitF Ls i).1 := ⟨_, rfl⟩
      rw [← hs] at hS q1 q2 q3 F1 LI
      have HSI := Lib.hid hs
      clear hs
      have HS := Lib.hid hS
      have gl := HG.out
      have hg4 : wr.heap[4]? = some (.cells cells14 t fr) := (LI.out.bel.block 4 (blk_lt HG.out)).trans HG.out
      have HA := Lib.hid (add_calls W.heap.size wr W.heap.size vi vb s.ins.length s.outs.length s.a s.b hS t fr hg4 nm hs1 D1 m e1 hm1 (by omega) (by omega) q1.1 q1.2)
      rw [← hLi] at HA
      have c0 := blk_cell hS.blk 0
      simp at c0
      obtain ⟨xs, hX, hxl⟩ := hS.ri
      obtain ⟨Ai, ci, hvi, _, _⟩ := Kd.R_reads hX
      rw [hxl] at hvi
      subst hvi
      clear hS hX hxl gl hg4 hLi
      unfold inR at q1 q2
      have hz : W.heap.size ≤ wr.heap.size := LI.out.bel.size
      rcases (show Ls i ≤ s.a ∨ (s.a < Ls i ∧ Ls i ≤ s.b) ∨ (s.a < Ls i ∧ s.b < Ls i) by omega) with h1 | ⟨h1, h2⟩ | ⟨h1, h2⟩
      · have HA2 := Lib.hid (add_in HA.out h1)
        clear HA
        have FE := Lib.hid (show fitF Ls (i + 1) = (⟨wrap64 (s.a - Ls i), s.b, s.ins ++ [i], s.outs⟩, true) from by rw [F1.out]; unfold fit1; rw [if_pos h1])
        go_upto_region 9 with (first | (go_at_call 51; (refine (HA2.out).mono ?_); rintro e w4 ⟨rfl, vi', hS4, hM4, hN4⟩; have S4 := Lib.hid hS4; have M4 := Lib.hid hM4; have N4 := Lib.hid hN4; clear hS4 hM4 hN4))
        obtain ⟨xs4, hX4, hl4⟩ := S4.out.ri
        obtain ⟨A4, c4, hv4, _, _⟩ := Kd.R_reads hX4
        rw [hl4] at hv4
        subst hv4
        have d0 := blk_cell S4.out.blk 0
        simp at d0
        have R4 := Lib.hid (row_far rfl LI.out.r4 M4.out (St.far HS.out LI.out.r4 (by decide) (by decide)))
        have R5 := Lib.hid (row_far rfl LI.out.r5 M4.out (St.far HS.out LI.out.r5 (by decide) (by decide)))
        have B4 := Lib.hid (M4.out.toBelow LI.out.bel hz (fun k hk => by
          rcases hk with rfl | hk | hk
          · exact Nat.le_refl _
          · obtain ⟨_, h9, _⟩ := HS.out.ri; exact Kd.R_base h9 k hk.symm
          · obtain ⟨_, h9, _⟩ := HS.out.rb; exact Kd.R_base h9 k hk.symm))
        clear hX4 hl4 c0
        have hnl : (nums s.ins).length ≤ 1000 := by rw [nums_len]; omega
        go_wp2_with (first | ((with_reducible refine gate_builtin (b := .append) (xs := #[.tmp 36, .tmp 38]) rfl ?_); at_builtin; refine app_int (W := w4) (wb := W) W.heap.size rfl (.tmp 36) (.tmp 38) rfl u4 (nums s.ins) (i : Int) rfl rfl (by simp) R4.out B4.out B4.out.size hnl ?_; intro v6 w6 hr hb hg hn6; have R6 := Lib.hid hr; have B6 := Lib.hid hb; have G6 := Lib.hid hg; have N6 := Lib.hid hn6; clear hr hb hg hn6))
        go_roundw
        case rel =>
          refine ⟨i + 1, by push_cast; rfl, hlt, Lib.hid (by rw [FE.out]), Lib.hid ?_⟩
          rw [FE.out]
          have M6 : Moves (fun k => some k = u4.ownBlock) w4 w6 := (Moves.refl _ w4).grown G6.out (fun k hk => .inl hk.symm)
          refine ⟨⟨.slice A4 (s.ins.length + 1) c4, vb, ?_⟩, by rw [nums_app]; exact R6.out, row_far rfl R5.out M6 (fun k hk h => LI.out.ne k h.symm hk.symm), fun k hk => ?_, B6.out⟩
          · have h9 := St.keep S4.out M6 (fun k hk => St.far S4.out R4.out (by decide) (by decide) k hk)
            simpa using h9
          · rcases N6.out with e | ⟨k2, e1, e2⟩
            · rw [e] at hk; exact LI.out.ne k hk
            · rw [hk] at e1
              injection e1 with e1
              subst e1
              intro h
              have := Kd.R_lt R5.out k h
              omega
        case measure => simp only [intOf]; omega
      · have HA2 := Lib.hid (add_out HA.out h1 h2)
        clear HA
        have FE := Lib.hid (show fitF Ls (i + 1) = (⟨s.a, wrap64 (s.b - Ls i), s.ins, s.outs ++ [i]⟩, true) from by rw [F1.out]; unfold fit1; rw [if_neg (by omega), if_pos h2])
        go_upto_region 9 with (first | (go_at_call 51; (refine (HA2.out).mono ?_); rintro e w4 ⟨rfl, vb', hS4, hM4, hN4⟩; have S4 := Lib.hid hS4; have M4 := Lib.hid hM4; have N4 := Lib.hid hN4; clear hS4 hM4 hN4))
        have d0 := blk_cell S4.out.blk 0
        simp at d0
        have R4 := Lib.hid (row_far rfl LI.out.r4 M4.out (St.far HS.out LI.out.r4 (by decide) (by decide)))
        have R5 := Lib.hid (row_far rfl LI.out.r5 M4.out (St.far HS.out LI.out.r5 (by decide) (by decide)))
        have B4 := Lib.hid (M4.out.toBelow LI.out.bel hz (fun k hk => by
          rcases hk with rfl | hk | hk
          · exact Nat.le_refl _
          · obtain ⟨_, h9, _⟩ := HS.out.ri; exact Kd.R_base h9 k hk.symm
          · obtain ⟨_, h9, _⟩ := HS.out.rb; exact Kd.R_base h9 k hk.symm))
        clear c0
        have hnl : (nums s.outs).length ≤ 1000 := by rw [nums_len]; omega
        go_wp2_with (first | ((with_reducible refine gate_builtin (b := .append) (xs := #[.tmp 40, .tmp 42]) rfl ?_); at_builtin; refine app_int (W := w4) (wb := W) W.heap.size rfl (.tmp 40) (.tmp 42) rfl u5 (nums s.outs) (i : Int) rfl rfl (by simp) R5.out B4.out B4.out.size hnl ?_; intro v6 w6 hr hb hg hn6; have R6 := Lib.hid hr; have B6 := Lib.hid hb; have G6 := Lib.hid hg; have N6 := Lib.hid hn6; clear hr hb hg hn6))
        go_roundw
        case rel =>
          refine ⟨i + 1, by push_cast; rfl, hlt, Lib.hid (by rw [FE.out]), Lib.hid ?_⟩
          rw [FE.out]
          have M6 : Moves (fun k => some k = u5.ownBlock) w4 w6 := (Moves.refl _ w4).grown G6.out (fun k hk => .inl hk.symm)
          refine ⟨⟨.slice Ai s.ins.length ci, vb', ?_⟩, row_far rfl R4.out M6 (fun k hk h => LI.out.ne k hk.symm h.symm), by rw [nums_app]; exact R6.out, fun k hk => ?_, B6.out⟩
          · have h9 := St.keep S4.out M6 (fun k hk => St.far S4.out R5.out (by decide) (by decide) k hk)
            simpa using h9
          · rcases N6.out with e | ⟨k2, e1, e2⟩
            · rw [e]; exact LI.out.ne k hk
            · rw [e1]
              intro h
              injection h with h
              subst h
              have := Kd.R_lt R4.out _ hk
              omega
        case measure => simp only [intOf]; omega
      · have HA2 := Lib.hid (add_no HA.out h1 h2)
        clear HA
        have FE := Lib.hid (show fitF Ls (i + 1) = (s, false) from by rw [F1.out]; unfold fit1; rw [if_neg (by omega), if_neg (by omega)])
        have FN := Lib.hid (show fitF Ls n = (s, false) from by
          have h9 := fit_stop Ls (i + 1) (by rw [FE.out]) (n - (i + 1))
          rw [show i + 1 + (n - (i + 1)) = n by omega] at h9
          rw [h9, FE.out])
        obtain ⟨B1, d1, hu4, _, _⟩ := Kd.R_reads LI.out.r4
        obtain ⟨B2, d2, hu5, _, _⟩ := Kd.R_reads LI.out.r5
        rw [nums_len] at hu4 hu5
        subst hu4 hu5
        go_wp2_with (first | (go_at_call 51; (refine (HA2.out).mono ?_); rintro e w4 ⟨rfl, hM4⟩; have M4 := Lib.hid hM4; clear hM4))
        have R4 := row_far rfl LI.out.r4 M4.out (St.far HS.out LI.out.r4 (by decide) (by decide))
        have R5 := row_far rfl LI.out.r5 M4.out (St.far HS.out LI.out.r5 (by decide) (by decide))
        have B4 := M4.out.toBelow LI.out.bel hz (fun k hk => by
          rcases hk with rfl | hk | hk
          · exact Nat.le_refl _
          · obtain ⟨_, h9, _⟩ := HS.out.ri; exact Kd.R_base h9 k hk.symm
          · obtain ⟨_, h9, _⟩ := HS.out.rb; exact Kd.R_base h9 k hk.symm)
        refine bodyPost_ret (v := .tuple #[.slice B1 s.ins.length d1, .slice B2 s.outs.length d2, .bool false]) (by simp [results, Tryd.results29, go_sem]) rfl ?_
        rw [FN.out]
        refine ⟨B1, d1, B2, d2, rfl, ?_, ?_, B4⟩
        · have h9 := (Kd.R_reads' R4).2.2
          rw [nums_len] at h9
          exact h9
        · have h9 := (Kd.R_reads' R5).2.2
          rw [nums_len] at h9
          exact h9
    · obtain rfl : i = n := by omega
      obtain ⟨B1, d1, hu4, _, _⟩ := Kd.R_reads LI.out.r4
      obtain ⟨B2, d2, hu5, _, _⟩ := Kd.R_reads LI.out.r5
      rw [nums_len] at hu4 hu5
      subst hu4 hu5
      go_wp2_with fail
      refine bodyPost_ret (v := .tuple #[.slice B1 (fitF Ls i).1.ins.length d1, .slice B2 (fitF Ls i).1.outs.length d2, .bool true]) (by simp [results, Tryd.results29, go_sem]) rfl ?_
      refine ⟨B1, d1, B2, d2, by rw [OK.out], ?_, ?_, LI.out.bel⟩
      · have h9 := (Kd.R_reads' LI.out.r4).2.2
        rw [nums_len] at h9
        exact h9
      · have h9 := (Kd.R_reads' LI.out.r5).2.2
        rw [nums_len] at h9
        exact h9
end Go.Proofs.YtckjbgneblfceaaDoor.Fd
