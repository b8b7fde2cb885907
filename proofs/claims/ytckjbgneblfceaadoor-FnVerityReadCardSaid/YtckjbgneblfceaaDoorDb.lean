/- The trimmed bytes; the hash of some byte strings. -/
import Derived.Test.YtckjbgneblfceaaDoorDa
import Derived.IntWalk
namespace Go.Proofs.YtckjbgneblfceaaDoor.Da
open Go.RowKit Go.Maps Go.Proofs.YtckjbgneblfceaaDoorW.PrintWords Go.Proofs.YtckjbgneblfceaaDoorW.PrintLast Go.Proofs.YtckjbgneblfceaaDoorW.PrintMore
open Go.Proofs.YtckjbgneblfceaaDoor.PFnVerityRead Go.Proofs.YtckjbgneblfceaaDoor.Fa
set_option linter.unusedVariables false
set_option linter.unusedSimpArgs false
def leadF (b : List Int) : List Int := b.dropWhile (· == 0)
def trailF (b : List Int) : List Int := (b.reverse.dropWhile (· == 0)).reverse
def trimF (b : List Int) : List Int := trailF (leadF b)
def lenOf : Value → Nat
  | .slice _ m _ => m
  | _ => 0
theorem leadF_zero (b : List Int) (i : Nat) (h : b[i]? = some 0) : leadF (b.drop i) = leadF (b.drop (i + 1)) := by
  obtain ⟨hl, he⟩ := List.getElem?_eq_some_iff.1 h
  rw [List.drop_eq_getElem_cons hl, he]; rfl
theorem leadF_other (b : List Int) (i : Nat) (x : Int) (h : b[i]? = some x) (hx : x ≠ 0) : leadF (b.drop i) = b.drop i := by
  obtain ⟨hl, he⟩ := List.getElem?_eq_some_iff.1 h
  rw [List.drop_eq_getElem_cons hl, he]
  unfold leadF
  rw [List.dropWhile_cons_of_neg]
  simpa using hx
theorem trailF_zero (b : List Int) : trailF (b ++ [0]) = trailF b := by
  unfold trailF
  rw [List.reverse_append]; rfl
theorem trailF_other (b : List Int) (x : Int) (hx : x ≠ 0) : trailF (b ++ [x]) = b ++ [x] := by
  unfold trailF
  rw [List.reverse_append, List.reverse_singleton, List.singleton_append, List.dropWhile_cons_of_neg, List.reverse_cons, List.reverse_reverse]
  simpa using hx
theorem lies_at {g o : Nat} {b : List Int} {w : World} (h : Lies g o b w) (i m : Nat) (him : i + m ≤ b.length) (j : Nat) (hj : j < m) : w.cell? ⟨g, o + i + j, none⟩ = some (.int .u8 (((b.drop i).take m).getD j 0)) := by
  have h1 := h (i + j) (((b.drop i).take m).getD j 0) (by
    rw [List.getD_eq_getElem?_getD, List.getElem?_take_of_lt hj, List.getElem?_drop, List.getElem?_eq_getElem (by omega)]; rfl)
  rw [← Nat.add_assoc] at h1
  exact h1
theorem take_last (b : List Int) (m : Nat) (x : Int) (h : b[m]? = some x) : b.take (m + 1) = b.take m ++ [x] := by
  rw [List.take_add_one, h]; rfl
set_option maxHeartbeats 4000000 in
set_option maxRecDepth 100000 in
theorem trim53 (g o n c : Nat) (b : List Int) (w : World) (hb : b.length = n) (hn : n ≤ 100000) (hnc : n ≤ c) (hl : Lies g o b w) :
    Calls Tryd.prog 53 #[.slice (some ⟨g, o, none⟩) n c] w fun e w' => e = .returned (.string (strOfNums (trimF b))) ∧ Below w.heap.size w w' := by
  have HL := Lib.hid hl
  have HB := Lib.hid hb
  clear hl hb
  go_enter Tryd.func53, Tryd.ntmps53
  go_upto_block 0 with (fail)
  go_cut [0] (fun v0 wc => wc = w ∧ ∃ i p : Nat, v0 = .slice (some ⟨g, p, none⟩) (n - i) (c - i) ∧ i ≤ n ∧ (i < n → p = o + i) ∧ Hid (trailF (b.drop i) = trimF b))
  case first =>
    go_wp2
    go_loop [0] (fun v0 => ∃ i p : Nat, v0 = .slice (some ⟨g, p, none⟩) (n - i) (c - i) ∧ i ≤ n ∧ (i < n → p = o + i) ∧ Hid (leadF (b.drop i) = leadF b)) (fun v => lenOf v)
    case atStart => exact ⟨0, _, rfl, by omega, fun _ => rfl, Lib.hid rfl⟩
    case round =>
      obtain ⟨i, p, rfl, hi, hp, HI⟩ := hrel
      by_cases hlt : i < n
      · obtain rfl := hp hlt
        clear hp
        obtain ⟨x, hx⟩ : ∃ x, b[i]? = some x := ⟨_, List.getElem?_eq_getElem (by rw [HB.out]; exact hlt)⟩
        have hc := HL.out i x hx
        have h0 : decide (0 < ((n - i : Nat) : Int)) = true := decide_eq_true (by omega)
        have h1 : decide (0 < n - i) = true := decide_eq_true (by omega)
        have h2 : (0 < n - i) = True := eq_true (by omega)
        have h3 : (1 ≤ n - i) = True := eq_true (by omega)
        have h4 : (1 ≤ ((n - i : Nat) : Int)) = True := eq_true (by omega)
        have h5 : decide (1 ≤ ((n - i : Nat) : Int)) = true := decide_eq_true (by omega)
        by_cases hz : x = 0
        · subst hz
          have HX := Lib.hid hx
          clear hx
          by_cases hc1 : c - i = 1
          · go_wp2_with fail
            go_round
            case rel => exact ⟨i + 1, _, (by rw [Nat.sub_sub, show c - (i + 1) = 0 by omega]), by omega, fun h => by omega, Lib.hid (by rw [← leadF_zero b i HX.out]; exact HI.out)⟩
            case measure => show n - i - 1 < n - i; omega
          · go_wp2_with fail
            go_round
            case rel => exact ⟨i + 1, o + i + 1, (by rw [Nat.sub_sub, Nat.sub_sub]), by omega, fun h => by omega, Lib.hid (by rw [← leadF_zero b i HX.out]; exact HI.out)⟩
            case measure => show n - i - 1 < n - i; omega
        · have hz1 : (x == 0) = false := beq_eq_false_iff_ne.mpr hz
          have HX := Lib.hid hx
          have HZ := Lib.hid hz
          clear hx hz
          go_wp2_with fail
          go_meet
          case rel => exact ⟨rfl, i, _, rfl, hi, fun _ => rfl, Lib.hid (by unfold trimF; rw [← HI.out, leadF_other b i x HX.out HZ.out])⟩
      · obtain rfl : i = n := by omega
        have h6 := Nat.sub_self i
        go_wp2_with fail
        go_meet
        case rel => exact ⟨rfl, i, p, by rw [h6], hi, fun h => by omega, Lib.hid (by unfold trimF; rw [← HI.out, List.drop_of_length_le (by rw [HB.out]; omega)]; rfl)⟩
  case rest =>
    obtain ⟨rfl, i, p, rfl, hi, hp, HI⟩ := hcut
    go_wp2
    go_loop [0] (fun v0 => ∃ m : Nat, v0 = .slice (some ⟨g, p, none⟩) m (c - i) ∧ m ≤ n - i ∧ Hid (trailF ((b.drop i).take m) = trimF b)) (fun v => lenOf v)
    case atStart => exact ⟨n - i, rfl, by omega, Lib.hid (by rw [List.take_of_length_le (by rw [List.length_drop, HB.out]; exact Nat.le_refl _)]; exact HI.out)⟩
    case round =>
      obtain ⟨m, rfl, hm, HM⟩ := hrel
      cases m with
      | zero =>
        have hcv := run_convert_bytes_arg (P := Tryd.prog) wc 33 5 Tryd.underlying33 Tryd.underlying5 g p 0 (c - i) [] rfl (fun j hj => absurd hj (by simp)) 9 Tryd.underlying9
        go_wp2_with fail
        go_ret
        exact ⟨by rw [← HM.out, List.take_zero]; rfl, Below.refl _ _⟩
      | succ m =>
        obtain rfl := hp (by omega)
        obtain ⟨x, hx⟩ : ∃ x, b[i + m]? = some x := ⟨_, List.getElem?_eq_getElem (by rw [HB.out]; omega)⟩
        have hc := HL.out (i + m) x hx
        rw [← Nat.add_assoc] at hc
        have hd : (b.drop i)[m]? = some x := by rw [List.getElem?_drop]; exact hx
        have h0 : decide (0 < ((m : Int) + 1)) = true := decide_eq_true (by omega)
        have h1 : (m : Int) + 1 - 1 = m := by omega
        have h2 : IntKind.i64.wrap (m : Int) = m := IntWalk.i64_in _ (by omega)
        by_cases hz : x = 0
        · subst hz
          have HX := Lib.hid hd
          clear hx hd
          go_wp2_with fail
          go_round
          case rel => exact ⟨m, rfl, by omega, Lib.hid (by rw [← HM.out, take_last _ _ _ HX.out, trailF_zero])⟩
          case measure => exact Nat.lt_succ_self _
        · have hz1 : (x == 0) = false := beq_eq_false_iff_ne.mpr hz
          have HX := Lib.hid hd
          have HZ := Lib.hid hz
          have hcv := run_convert_bytes_arg (P := Tryd.prog) wc 33 5 Tryd.underlying33 Tryd.underlying5 g (o + i) (m + 1) (c - i) ((b.drop i).take (m + 1)) (by rw [List.length_take, List.length_drop, HB.out]; omega) (fun j hj => lies_at HL.out i (m + 1) (by rw [HB.out]; omega) j hj) 9 Tryd.underlying9
          clear hx hd hz
          go_wp2_with fail
          go_ret
          exact ⟨by rw [← HM.out, take_last _ _ _ HX.out, trailF_other _ _ HZ.out]; rfl, Below.refl _ _⟩
set_option maxHeartbeats 4000000 in
set_option maxRecDepth 100000 in
theorem trim32 (g o n c : Nat) (b : List Int) (w : World) (hb : b.length = n) (hn : n ≤ 100000) (hnc : n ≤ c) (hl : Lies g o b w) :
    Calls Tryd.prog 32 #[.slice (some ⟨g, o, none⟩) n c] w fun e w' => e = .returned (.string (strOfNums (trimF b))) ∧ Below w.heap.size w w' := by
  have HL := Lib.hid hl
  have HB := Lib.hid hb
  clear hl hb
  go_enter Tryd.func32, Tryd.ntmps32
  go_upto_block 0 with (fail)
  go_cut [0] (fun v0 wc => wc = w ∧ ∃ i p : Nat, v0 = .slice (some ⟨g, p, none⟩) (n - i) (c - i) ∧ i ≤ n ∧ (i < n → p = o + i) ∧ Hid (trailF (b.drop i) = trimF b))
  case first =>
    go_wp2
    go_loop [0] (fun v0 => ∃ i p : Nat, v0 = .slice (some ⟨g, p, none⟩) (n - i) (c - i) ∧ i ≤ n ∧ (i < n → p = o + i) ∧ Hid (leadF (b.drop i) = leadF b)) (fun v => lenOf v)
    case atStart => exact ⟨0, _, rfl, by omega, fun _ => rfl, Lib.hid rfl⟩
    case round =>
      obtain ⟨i, p, rfl, hi, hp, HI⟩ := hrel
      by_cases hlt : i < n
      · obtain rfl := hp hlt
        clear hp
        obtain ⟨x, hx⟩ : ∃ x, b[i]? = some x := ⟨_, List.getElem?_eq_getElem (by rw [HB.out]; exact hlt)⟩
        have hc := HL.out i x hx
        have h0 : decide (0 < ((n - i : Nat) : Int)) = true := decide_eq_true (by omega)
        have h1 : decide (0 < n - i) = true := decide_eq_true (by omega)
        have h2 : (0 < n - i) = True := eq_true (by omega)
        have h3 : (1 ≤ n - i) = True := eq_true (by omega)
        have h4 : (1 ≤ ((n - i : Nat) : Int)) = True := eq_true (by omega)
        have h5 : decide (1 ≤ ((n - i : Nat) : Int)) = true := decide_eq_true (by omega)
        by_cases hz : x = 0
        · subst hz
          have HX := Lib.hid hx
          clear hx
          by_cases hc1 : c - i = 1
          · go_wp2_with fail
            go_round
            case rel => exact ⟨i + 1, _, (by rw [Nat.sub_sub, show c - (i + 1) = 0 by omega]), by omega, fun h => by omega, Lib.hid (by rw [← leadF_zero b i HX.out]; exact HI.out)⟩
            case measure => show n - i - 1 < n - i; omega
          · go_wp2_with fail
            go_round
            case rel => exact ⟨i + 1, o + i + 1, (by rw [Nat.sub_sub, Nat.sub_sub]), by omega, fun h => by omega, Lib.hid (by rw [← leadF_zero b i HX.out]; exact HI.out)⟩
            case measure => show n - i - 1 < n - i; omega
        · have hz1 : (x == 0) = false := beq_eq_false_iff_ne.mpr hz
          have HX := Lib.hid hx
          have HZ := Lib.hid hz
          clear hx hz
          go_wp2_with fail
          go_meet
          case rel => exact ⟨rfl, i, _, rfl, hi, fun _ => rfl, Lib.hid (by unfold trimF; rw [← HI.out, leadF_other b i x HX.out HZ.out])⟩
      · obtain rfl : i = n := by omega
        have h6 := Nat.sub_self i
        go_wp2_with fail
        go_meet
        case rel => exact ⟨rfl, i, p, by rw [h6], hi, fun h => by omega, Lib.hid (by unfold trimF; rw [← HI.out, List.drop_of_length_le (by rw [HB.out]; omega)]; rfl)⟩
  case rest =>
    obtain ⟨rfl, i, p, rfl, hi, hp, HI⟩ := hcut
    go_wp2
    go_loop [0] (fun v0 => ∃ m : Nat, v0 = .slice (some ⟨g, p, none⟩) m (c - i) ∧ m ≤ n - i ∧ Hid (trailF ((b.drop i).take m) = trimF b)) (fun v => lenOf v)
    case atStart => exact ⟨n - i, rfl, by omega, Lib.hid (by rw [List.take_of_length_le (by rw [List.length_drop, HB.out]; exact Nat.le_refl _)]; exact HI.out)⟩
    case round =>
      obtain ⟨m, rfl, hm, HM⟩ := hrel
      cases m with
      | zero =>
        have hcv := run_convert_bytes_arg (P := Tryd.prog) wc 33 5 Tryd.underlying33 Tryd.underlying5 g p 0 (c - i) [] rfl (fun j hj => absurd hj (by simp)) 9 Tryd.underlying9
        go_wp2_with fail
        go_ret
        exact ⟨by rw [← HM.out, List.take_zero]; rfl, Below.refl _ _⟩
      | succ m =>
        obtain rfl := hp (by omega)
        obtain ⟨x, hx⟩ : ∃ x, b[i + m]? = some x := ⟨_, List.getElem?_eq_getElem (by rw [HB.out]; omega)⟩
        have hc := HL.out (i + m) x hx
        rw [← Nat.add_assoc] at hc
        have hd : (b.drop i)[m]? = some x := by rw [List.getElem?_drop]; exact hx
        have h0 : decide (0 < ((m : Int) + 1)) = true := decide_eq_true (by omega)
        have h1 : (m : Int) + 1 - 1 = m := by omega
        have h2 : IntKind.i64.wrap (m : Int) = m := IntWalk.i64_in _ (by omega)
        by_cases hz : x = 0
        · subst hz
          have HX := Lib.hid hd
          clear hx hd
          go_wp2_with fail
          go_round
          case rel => exact ⟨m, rfl, by omega, Lib.hid (by rw [← HM.out, take_last _ _ _ HX.out, trailF_zero])⟩
          case measure => exact Nat.lt_succ_self _
        · have hz1 : (x == 0) = false := beq_eq_false_iff_ne.mpr hz
          have HX := Lib.hid hd
          have HZ := Lib.hid hz
          have hcv := run_convert_bytes_arg (P := Tryd.prog) wc 33 5 Tryd.underlying33 Tryd.underlying5 g (o + i) (m + 1) (c - i) ((b.drop i).take (m + 1)) (by rw [List.length_take, List.length_drop, HB.out]; omega) (fun j hj => lies_at HL.out i (m + 1) (by rw [HB.out]; omega) j hj) 9 Tryd.underlying9
          clear hx hd hz
          go_wp2_with fail
          go_ret
          exact ⟨by rw [← HM.out, take_last _ _ _ HX.out, trailF_other _ _ HZ.out]; rfl, Below.refl _ _⟩
/-- Four words, not frozen. -/
def D4 (gd : Nat) (l : List Int) (W : World) : Prop := ∀ j x, l[j]? = some x → W.cell? ⟨gd, j, none⟩ = some (.int .u64 x) ∧ W.frozen? ⟨gd, j, none⟩ = false
theorem D4.set {gd : Nat} {l : List Int} {W : World} (h : D4 gd l W) (i : Nat) (y : Int) (hi : i < l.length) : D4 gd (l.set i y) (W.setCell ⟨gd, i, none⟩ (.int .u64 y)) := by
  intro j x hj
  have hjl : j < l.length := by have := (List.getElem?_eq_some_iff.1 hj).1; simpa using this
  by_cases he : j = i
  · subst he
    rw [List.getElem?_set_self hi] at hj
    obtain rfl := Option.some.inj hj
    have h1 := h j _ (List.getElem?_eq_getElem hi)
    exact ⟨World.cell?_setCell_same (w := W) (a := _) (v := _) h1.1, by simpa using h1.2⟩
  · rw [List.getElem?_set_ne (fun e => he e.symm)] at hj
    have h1 := h j x hj
    exact ⟨by rw [World.cell?_setCell_other (w := W) (a := ⟨gd, i, none⟩) (b := ⟨gd, j, none⟩) (v := _) (by intro e; simp at e; first | omega | done)]; exact h1.1, by simpa using h1.2⟩
/-- Parts that lie at places. -/
def Parts (gp : Nat) (L : List (List Int)) (pl : Nat → Nat × Nat × Nat) (W : World) : Prop := ∀ k b, L[k]? = some b → W.cell? ⟨gp, k, none⟩ = some (.slice (some ⟨(pl k).1, (pl k).2.1, none⟩) b.length (pl k).2.2) ∧ Lies (pl k).1 (pl k).2.1 b W ∧ InBytes b ∧ b.length ≤ 100000
theorem Parts.later {gp : Nat} {L : List (List Int)} {pl} {w W : World} (h : Parts gp L pl w) (hb : Below w.heap.size w W) : Parts gp L pl W := fun k b hk => ⟨cell_later hb (h k b hk).1, (h k b hk).2.1.later hb, (h k b hk).2.2⟩
def st (c : Int) (x : Int) : Int := IntKind.u64.wrap (bits BinOp.xor IntKind.u64 x c * 1099511628211)
theorem st_step (c : Int) (ws : List Int) (i : Nat) (hi : i < ws.length) : ((ws.take i).map (st c) ++ ws.drop i).set i (st c (((ws.take i).map (st c) ++ ws.drop i).getD i 0)) = (ws.take (i + 1)).map (st c) ++ ws.drop (i + 1) := by
  have e1 : ((ws.take i).map (st c) ++ ws.drop i).getD i 0 = ws[i] := by
    rw [List.getD_eq_getElem?_getD, List.getElem?_append_right (by rw [List.length_map, List.length_take]; omega), List.length_map, List.length_take, Nat.min_eq_left (by omega), Nat.sub_self, List.getElem?_drop]; simp [hi]
  have e2 : ((ws.take i).map (st c)).length = i := by rw [List.length_map, List.length_take]; omega
  rw [e1, List.set_append_right _ _ (by omega), e2, Nat.sub_self, List.drop_eq_getElem_cons hi, List.set_cons_zero, List.take_add_one, List.getElem?_eq_getElem hi, List.map_append, List.append_assoc]
  rfl
def fl (L : List (List Int)) (k : Nat) : List Int := (L.take k).flatten
theorem fl_succ (L : List (List Int)) (k : Nat) (b : List Int) (h : L[k]? = some b) : fl L (k + 1) = fl L k ++ b := by
  unfold fl
  rw [List.take_add_one, h]; simp
theorem digTo_of (ws : List Int) (b : List Int) : digTo ws b 4 = ((ws.take 4).map (mixB · b)).flatMap (bytes8 · 8) := by
  unfold digTo
  rw [List.flatMap_map]
theorem digTo_mix (ws b : List Int) : digTo (ws.map (mixB · b)) [] 4 = digTo ws b 4 := by
  rw [digTo_of, digTo_of, ← List.map_take, List.map_map]; rfl
set_option maxHeartbeats 4000000 in
set_option maxRecDepth 100000 in
theorem dig35 (gp np cp : Nat) (L : List (List Int)) (pl : Nat → Nat × Nat × Nat) (A B C D : Int) (w : World) (hnp : L.length = np) (hn : np ≤ 1000) (HP0 : Parts gp L pl w) :
    Calls Tryd.prog 35 #[.agg #[.int .u64 A, .int .u64 B, .int .u64 C, .int .u64 D], .slice (some ⟨gp, 0, none⟩) np cp] w (Gives w (digTo [A, B, C, D] L.flatten 4)) := by
  have HP := Lib.hid HP0
  clear HP0
  go_enter Tryd.func35, Tryd.ntmps35
  have HB0 := Lib.hid (below_alloc (below_alloc (Below.refl w.heap.size w) (.cells #[.int .u64 A, .int .u64 B, .int .u64 C, .int .u64 D] 32)) (.cells #[.int .u64 A, .int .u64 B, .int .u64 C, .int .u64 D] 119))
  have HD0 := Lib.hid (show D4 (w.heap.size + 1) ([A, B, C, D].map (mixB · (fl L 0))) ((w.alloc (.cells #[.int .u64 A, .int .u64 B, .int .u64 C, .int .u64 D] 32)).alloc (.cells #[.int .u64 A, .int .u64 B, .int .u64 C, .int .u64 D] 119)) from by
    intro j x hj
    match j, hj with
    | 0, hj => obtain rfl := Option.some.inj hj; exact ⟨by simp [mixB, fl], by simp⟩
    | 1, hj => obtain rfl := Option.some.inj hj; exact ⟨by simp [mixB, fl], by simp⟩
    | 2, hj => obtain rfl := Option.some.inj hj; exact ⟨by simp [mixB, fl], by simp⟩
    | 3, hj => obtain rfl := Option.some.inj hj; exact ⟨by simp [mixB, fl], by simp⟩)
  go_wp2_with fail
  go_loopw [26] (fun v26 wr => ∃ k : Nat, v26 = .int .i64 k ∧ k ≤ np ∧ Hid (D4 (w.heap.size + 1) ([A, B, C, D].map (mixB · (fl L k))) wr) ∧ Hid (Below w.heap.size w wr)) (fun i _ => np - (intOf i).toNat)
  case atStart => exact ⟨0, rfl, by omega, HD0, HB0⟩
  case round =>
    obtain ⟨k, rfl, hk, HD, HB⟩ := hrel
    clear HD0 HB0
    by_cases hlt : k < np
    · obtain ⟨b, hb⟩ : ∃ b, L[k]? = some b := ⟨_, List.getElem?_eq_getElem (by omega)⟩
      have hpk := (HP.out.later HB.out) k b hb
      have hc1 := hpk.1
      have hbl := hpk.2.2.2
      have HI := Lib.hid hpk.2.2.1
      have HF := Lib.hid (fl_succ L k b hb)
      have HPK := Lib.hid (HP.out k b hb).2.1
      clear hpk hb
      go_wp2_with fail
      go_loopw [32] (fun v32 w2 => ∃ j : Nat, v32 = .int .i64 j ∧ j ≤ b.length ∧ Hid (D4 (w.heap.size + 1) ([A, B, C, D].map (mixB · (fl L k ++ b.take j))) w2) ∧ Hid (Below w.heap.size w w2)) (fun j _ => b.length - (intOf j).toNat)
      case atStart => exact ⟨0, rfl, by omega, Lib.hid (by rw [List.take_zero, List.append_nil]; exact HD.out), HB⟩
      case round =>
        obtain ⟨j, rfl, hj, HD2, HB2⟩ := hrel
        clear HD HB hc1
        by_cases hjl : j < b.length
        · obtain ⟨c, hc⟩ : ∃ c, b[j]? = some c := ⟨_, List.getElem?_eq_getElem hjl⟩
          have hcc := (HPK.out.later HB2.out) j c hc
          have hcr := HI.out c (List.mem_of_getElem? hc)
          have HS := Lib.hid (show [A, B, C, D].map (mixB · (fl L k ++ b.take (j + 1))) = ([A, B, C, D].map (mixB · (fl L k ++ b.take j))).map (st c) by
            rw [List.map_map, List.take_add_one, hc]
            refine List.map_congr_left fun x _ => ?_
            rw [Option.toList_some, ← List.append_assoc, mixB_snoc]; rfl)
          have HL4 := Lib.hid (show ([A, B, C, D].map (mixB · (fl L k ++ b.take j))).length = 4 by simp)
          generalize [A, B, C, D].map (mixB · (fl L k ++ b.take j)) = ws at HD2 HS HL4
          clear hc
          go_wp2_with fail
          go_loopw [36] (fun v36 w3 => ∃ i : Nat, v36 = .int .i64 i ∧ i ≤ 4 ∧ Hid (D4 (w.heap.size + 1) ((ws.take i).map (st c) ++ ws.drop i) w3) ∧ Hid (Below w.heap.size w w3)) (fun i _ => 4 - (intOf i).toNat)
          case atStart => exact ⟨0, rfl, by omega, Lib.hid (by rw [List.take_zero, List.map_nil, List.nil_append, List.drop_zero]; exact HD2.out), HB2⟩
          case round =>
            obtain ⟨i, rfl, hi, HD3, HB3⟩ := hrel
            clear HD2 HB2 hcc
            by_cases hil : i < 4
            · have HE := Lib.hid (st_step c ws i (by rw [HL4.out]; exact hil))
              have HLL := Lib.hid (show i < ((ws.take i).map (st c) ++ ws.drop i).length by simp [HL4.out]; omega)
              have hg := HD3.out i (((ws.take i).map (st c) ++ ws.drop i).getD i 0) (by rw [List.getD_eq_getElem?_getD, List.getElem?_eq_getElem HLL.out]; rfl)
              have HN := Lib.hid (HD3.out.set i (st c (((ws.take i).map (st c) ++ ws.drop i).getD i 0)) HLL.out)
              rw [HE.out] at HN
              have HBN := Lib.hid (HB3.out.setCell (p := ⟨w.heap.size + 1, i, none⟩) (by show w.heap.size ≤ w.heap.size + 1; omega) (.int .u64 (st c (((ws.take i).map (st c) ++ ws.drop i).getD i 0))))
              obtain ⟨hg1, hg2⟩ := hg
              generalize ((ws.take i).map (st c) ++ ws.drop i).getD i 0 = y at hg1 HN HBN
              have hst : st c y = IntKind.u64.wrap (bits BinOp.xor IntKind.u64 y c * 1099511628211) := rfl
              rw [hst] at HN HBN
              clear HE HLL
              go_wp2_with fail
              go_roundw
              case rel => exact ⟨i + 1, by first | rfl | go_num, by omega, HN, HBN⟩
              case measure => simp [intOf] <;> omega
            · obtain rfl : i = 4 := by omega
              go_wp2_with fail
              go_roundw
              case rel => exact ⟨j + 1, by first | rfl | go_num, by omega, Lib.hid (by rw [HS.out]; have := HD3.out; rwa [List.take_of_length_le (by rw [HL4.out]; exact Nat.le_refl _), List.drop_of_length_le (by rw [HL4.out]; exact Nat.le_refl _), List.append_nil] at this), HB3⟩
              case measure => simp [intOf] <;> omega
        · obtain rfl : j = b.length := by omega
          go_wp2_with fail
          go_roundw
          case rel => exact ⟨k + 1, by first | rfl | go_num, by omega, Lib.hid (by rw [HF.out]; have := HD2.out; rwa [List.take_length] at this), HB2⟩
          case measure => simp [intOf] <;> omega
    · obtain rfl : k = np := by omega
      have HFL := Lib.hid (show fl L k = L.flatten by unfold fl; rw [List.take_of_length_le (by omega)])
      rw [HFL.out] at HD
      obtain ⟨A1, hA⟩ : ∃ y, y = mixB A L.flatten := ⟨_, rfl⟩
      obtain ⟨B1, hB⟩ : ∃ y, y = mixB B L.flatten := ⟨_, rfl⟩
      obtain ⟨C1, hC⟩ : ∃ y, y = mixB C L.flatten := ⟨_, rfl⟩
      obtain ⟨D1, hD⟩ : ∃ y, y = mixB D L.flatten := ⟨_, rfl⟩
      have HW := Lib.hid (show [A, B, C, D].map (mixB · L.flatten) = [A1, B1, C1, D1] by rw [hA, hB, hC, hD]; rfl)
      rw [HW.out] at HD
      have HRR := Lib.hid (show digTo [A, B, C, D] L.flatten 4 = digTo [A1, B1, C1, D1] [] 4 by rw [← digTo_mix, HW.out])
      have h0 := (HD.out 0 A1 rfl).1
      have h1 := (HD.out 1 B1 rfl).1
      have h2 := (HD.out 2 C1 rfl).1
      have h3 := (HD.out 3 D1 rfl).1
      clear hA hB hC hD HW HFL HP
      go_wp2_with fail
      go_loopw [11, 52] (fun v11 v52 wr => ∃ (i : Nat), v52 = .int .i64 i ∧ i ≤ 4 ∧ Hid (Row w v11 (digTo [A1, B1, C1, D1] [] i) wr)) (fun _ i _ => 4 - (intOf i).toNat)
      case atStart => exact ⟨0, rfl, by omega, Lib.hid ⟨Kd.R_nil _ _ _ _ _, HB.out⟩⟩
      case round =>
        obtain ⟨i, rfl, hi, HR⟩ := hrel
        by_cases hlt2 : i < 4
        · obtain ⟨x, hx⟩ : ∃ x, [A1, B1, C1, D1][i]? = some x := ⟨_, List.getElem?_eq_getElem hlt2⟩
          have hix := index4 A1 B1 C1 D1 i x hx
          have hbt : decide ((i : Int) < 4) = true := decide_eq_true (by omega)
          have HD2 := Lib.hid (digTo_succ [A1, B1, C1, D1] [] i x hx)
          clear hx
          go_wp2_with fail
          go_loopw [11, 14] (fun v4 v9 w2 => ∃ t : Nat, v9 = .int .i64 (56 - 8 * (t : Int)) ∧ t ≤ 8 ∧ Hid (Row w v4 (digTo [A1, B1, C1, D1] [] i ++ bytes8 x t) w2)) (fun _ k _ => (intOf k + 8).toNat)
          case atStart => exact ⟨0, rfl, by omega, by simpa [bytes8] using HR⟩
          case round =>
            obtain ⟨t, rfl, ht, HR2⟩ := hrel
            by_cases htl : t < 8
            · have HL2 := Lib.hid (show (digTo [A1, B1, C1, D1] [] i ++ bytes8 x t).length ≤ 100000 by
                rw [List.length_append, digTo_len _ _ _ (by simp; omega), bytes8_len]; omega)
              have HS2 := Lib.hid (bytes8_succ x t)
              have hsh : ((56 : Int) - 8 * (t : Int)).toNat = 8 * (7 - t) := by omega
              go_wp2_with (first | ((with_reducible refine gate_builtin (b := .append) (xs := #[.tmp 59, .tmp 64]) rfl ?_); at_builtin; refine app_row (w := w) rfl _ _ rfl _ _ [byteAt x (7 - t)] _ 0 1 1 rfl rfl rfl (HR2.out.alloc _) (cell_oneV _ _ _) HL2.out (by simp) ?_; intro v3 w3 hr; have HR3 := Lib.hid hr; clear hr))
              go_roundw
              case rel => exact ⟨t + 1, by first | rfl | go_num | (congr 1; omega), by omega, Lib.hid (by rw [HS2.out, ← List.append_assoc]; exact HR3.out)⟩
              case measure => simp [intOf] <;> omega
            · obtain rfl : t = 8 := by omega
              go_wp2_with fail
              go_roundw
              case rel => exact ⟨i + 1, by first | rfl | go_num, by omega, Lib.hid (by rw [HD2.out]; exact HR2.out)⟩
              case measure => simp [intOf] <;> omega
        · obtain rfl : i = 4 := by omega
          go_wp2_with fail
          go_ret
          exact ⟨_, rfl, by rw [HRR.out]; exact HR.out⟩
end Go.Proofs.YtckjbgneblfceaaDoor.Da
