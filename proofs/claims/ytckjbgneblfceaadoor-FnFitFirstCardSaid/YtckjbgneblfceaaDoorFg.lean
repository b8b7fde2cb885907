/- The law's walk: whether one attribute fits, and where, does not depend on the ones behind it. -/
import Derived.Test.YtckjbgneblfceaaDoorFf
namespace Go.Proofs.YtckjbgneblfceaaDoor.Fg
open Go.RowKit Go.Maps Go.Proofs.YtckjbgneblfceaaDoorW.PrintWords Go.Proofs.YtckjbgneblfceaaDoorW.PrintLast Go.Proofs.YtckjbgneblfceaaDoorW.PrintMore Go.Proofs.YtckjbgneblfceaaDoor.PFnFitFirst Go.Proofs.YtckjbgneblfceaaDoor.Fa Go.Proofs.YtckjbgneblfceaaDoor.Fm Go.Proofs.YtckjbgneblfceaaDoor.Fb Go.Proofs.YtckjbgneblfceaaDoor.Fc Go.Proofs.YtckjbgneblfceaaDoor.Fd Go.Proofs.YtckjbgneblfceaaDoor.Fe Go.Proofs.YtckjbgneblfceaaDoor.Ff
set_option linter.unusedVariables false
set_option linter.unusedSimpArgs false
theorem w64 (i : Nat) (h : i ≤ 2147483648) : wrap64 ((i : Int) + 1) = ((i + 1 : Nat) : Int) := by unfold wrap64; omega
theorem fits_from (l : List S58) (hl : l.length ≤ 2147483647) : ∀ d i : Nat, i + d = l.length → ∀ k, d < k → ∃ r, laws_zzFits7.l0 k l (l.length : Int) (i : Int) = some r ∧ (r = true → ∀ j : Nat, i ≤ j → j < l.length → (l.getD j z58).f0.size ≤ 2147483647 ∧ (l.getD j z58).f1.length ≤ 2147483647)
  | 0, i, h, k + 1, hk => by
    unfold laws_zzFits7.l0
    rw [if_neg (by omega)]
    exact ⟨true, rfl, fun _ j h1 h2 => by omega⟩
  | d + 1, i, h, k + 1, hk => by
    unfold laws_zzFits7.l0
    rw [if_pos (by omega), if_pos (by omega), if_pos (by omega)]
    have e : rd_T58 l (i : Int) = l.getD i z58 := by unfold rd_T58; rw [Int.toNat_natCast]
    rw [e]
    unfold laws_zzFits8.f
    by_cases h1 : ((l.getD i z58).f0.size : Int) > 2147483647
    · rw [if_pos h1]
      exact ⟨false, rfl, fun h => by cases h⟩
    · rw [if_neg h1]
      by_cases h2 : ((l.getD i z58).f1.length : Int) > 2147483647
      · rw [if_pos h2]
        exact ⟨false, rfl, fun h => by cases h⟩
      · rw [if_neg h2, w64 i (by omega)]
        obtain ⟨r, hr, ht⟩ := fits_from l hl d (i + 1) (by omega) k (by omega)
        refine ⟨r, hr, fun hh j j1 j2 => ?_⟩
        by_cases e : j = i
        · subst e; exact ⟨by omega, by omega⟩
        · exact ht hh j (by omega) j2
theorem fits_any (l : List S58) : ∃ k r, laws_zzFits7.f k l = some r ∧ (r = true → l.length ≤ 2147483647 ∧ ∀ j : Nat, j < l.length → (l.getD j z58).f0.size ≤ 2147483647 ∧ (l.getD j z58).f1.length ≤ 2147483647) := by
  unfold laws_zzFits7.f
  by_cases h : (l.length : Int) > 2147483647
  · exact ⟨0, false, by rw [if_pos h], fun h => by cases h⟩
  · obtain ⟨r, hr, ht⟩ := fits_from l (by omega) l.length 0 (by omega) (l.length + 1) (by omega)
    exact ⟨l.length + 1, r, by rw [if_neg h]; exact hr, fun hh => ⟨by omega, fun j hj => ht hh j (by omega) hj⟩⟩
theorem begins2 (s p : ByteArray) : spec_Begins.f s p = some (beg s p) := by
  unfold spec_Begins.f beg
  by_cases h : p.size ≤ s.size
  · rw [if_pos (by omega), if_pos (by omega), if_pos (by omega)]
    simp [h]
  · rw [if_neg (by omega)]
    simp [h]
theorem pre_any (i : Int) (h0 : 0 ≤ i) (h1 : i < 7) : ∃ p b, spec_prefix.f (rd ([2, 3, 8, 7, 1, 4, 6] : List Int) i) = some (p, b) := by
  rcases (show i = 0 ∨ i = 1 ∨ i = 2 ∨ i = 3 ∨ i = 4 ∨ i = 5 ∨ i = 6 by omega) with rfl | rfl | rfl | rfl | rfl | rfl | rfl
  all_goals exact ⟨_, _, rfl⟩
theorem pre_from (s : ByteArray) : ∀ d i : Nat, i + d = 7 → ∀ k, d < k → ∃ r, spec_Prefixed.l0 k s ([2, 3, 8, 7, 1, 4, 6] : List Int) 7 (i : Int) = some r
  | 0, i, h, k + 1, hk => by
    unfold spec_Prefixed.l0
    rw [if_neg (by omega)]
    exact ⟨_, rfl⟩
  | d + 1, i, h, k + 1, hk => by
    unfold spec_Prefixed.l0
    rw [if_pos (by omega), if_pos (by omega), if_pos (by simp; omega)]
    obtain ⟨p, b, hp⟩ := pre_any (i : Int) (by omega) (by omega)
    rw [hp, Option.bind_some, begins2, Option.bind_some]
    cases hb : beg s p
    · rw [if_neg (by decide), w64 i (by omega)]
      exact pre_from s d (i + 1) (by omega) k (by omega)
    · have := beg_le hb
      rw [if_pos rfl, if_pos (by omega), if_pos (by show (p.size : Int) ≤ _; omega)]
      exact ⟨_, rfl⟩
theorem prefixed_any (s : ByteArray) (k : Nat) (hk : 8 ≤ k) : ∃ r, spec_Prefixed.f k s = some r := by
  unfold spec_Prefixed.f
  rw [Option.bind_some]
  exact pre_from s 7 0 rfl k (by omega)
theorem fair_l1 (l : List S58) (n i : Int) (s : ByteArray) (b : List Int) (K : Nat) (hnext : ∀ k, K ≤ k → ∃ r, laws_attributesFair.l0 k l l n (wrap64 (i + 1)) = some r) (y : List S58) (hy : y.length ≤ 100) : ∀ e j : Nat, j + e = y.length → ∀ k, K + e + 1 ≤ k → ∃ r, laws_attributesFair.l1 k l l n i y (y.length : Int) (j : Int) s b = some r
  | 0, j, h, 0, hk => by omega
  | 0, j, h, k + 1, hk => by
    unfold laws_attributesFair.l1
    rw [if_neg (by omega)]
    exact hnext k (by omega)
  | e + 1, j, h, 0, hk => by omega
  | e + 1, j, h, k + 1, hk => by
    unfold laws_attributesFair.l1
    rw [if_pos (by omega), if_pos (by omega), if_pos (by omega)]
    split
    · exact ⟨_, rfl⟩
    · rw [w64 j (by omega)]
      exact fair_l1 l n i s b K hnext y hy e (j + 1) (by omega) k (by omega)
theorem fair_l0 (l : List S58) (hl : l.length ≤ 40) : ∀ d i : Nat, i + d = l.length → ∀ k, 50 * d + 60 ≤ k → ∃ r, laws_attributesFair.l0 k l l (l.length : Int) (i : Int) = some r
  | 0, i, h, 0, hk => by omega
  | 0, i, h, k + 1, hk => by
    unfold laws_attributesFair.l0
    rw [if_neg (by omega)]
    exact ⟨_, rfl⟩
  | d + 1, i, h, 0, hk => by omega
  | d + 1, i, h, 1, hk => by omega
  | d + 1, i, h, k + 2, hk => by
    have hj : ∀ (x : Bool) (s : ByteArray) (b : List Int), ∃ r, laws_attributesFair.j1 (k + 1) l (i : Int) l (l.length : Int) (i : Int) x s b = some r := fun x s b => by
      unfold laws_attributesFair.j1
      cases x
      · rw [if_neg (by decide), if_pos (by omega), if_pos (by omega), Option.bind_some]
        rw [Int.toNat_natCast]
        have hyl : (l.take i).length = i := by rw [List.length_take]; omega
        have h9 := fair_l1 l (l.length : Int) (i : Int) s b (50 * d + 60) (fun k hk => by rw [w64 i (by omega)]; exact fair_l0 l hl d (i + 1) (by omega) k hk) (l.take i) (by omega) i 0 (by omega) k (by omega)
        exact h9
      · rw [if_pos rfl]; exact ⟨_, rfl⟩
    unfold laws_attributesFair.l0
    rw [if_pos (by omega), if_pos (by omega), if_pos (by omega)]
    obtain ⟨r, hr⟩ := prefixed_any (rd_T58 l (i : Int)).f0 (k + 1) (by omega)
    rw [hr, Option.bind_some]
    split
    · exact hj _ _ _
    · split
      · exact hj _ _ _
      · exact hj _ _ _
theorem fair_any (l : List S58) : ∃ k r, laws_attributesFair.f k l = some r ∧ (r = true → l.length ≤ 40) := by
  unfold laws_attributesFair.f
  by_cases h : (l.length : Int) > 40
  · exact ⟨0, false, by rw [if_pos h], fun h => by cases h⟩
  · obtain ⟨r, hr⟩ := fair_l0 l (by omega) l.length 0 (by omega) (50 * l.length + 60) (Nat.le_refl _)
    exact ⟨_, r, by rw [if_neg h]; exact hr, fun _ => by omega⟩
theorem fit_congr (L L' : Nat → Int) : ∀ n, (∀ i, i < n → L i = L' i) → fitF L n = fitF L' n
  | 0, _ => rfl
  | n + 1, h => by
    show (if (fitF L n).2 = true then fit1 (L n) n (fitF L n).1 else fitF L n) = (if (fitF L' n).2 = true then fit1 (L' n) n (fitF L' n).1 else fitF L' n)
    rw [fit_congr L L' n (fun i hi => h i (by omega)), h n (by omega)]
theorem fit_pre (L : Nat → Int) (n : Nat) : ∀ k, ∃ r q, (fitF L (n + k)).1.ins = (fitF L n).1.ins ++ r ∧ (fitF L (n + k)).1.outs = (fitF L n).1.outs ++ q
  | 0 => ⟨[], [], by simp, by simp⟩
  | k + 1 => by
    obtain ⟨r, q, h1, h2⟩ := fit_pre L n k
    have e : fitF L (n + (k + 1)) = if (fitF L (n + k)).2 = true then fit1 (L (n + k)) (n + k) (fitF L (n + k)).1 else fitF L (n + k) := rfl
    rw [e]
    split
    · unfold fit1
      split
      · exact ⟨r ++ [n + k], q, by show _ ++ _ = _; rw [h1]; simp, h2⟩
      · split
        · exact ⟨r, q ++ [n + k], h1, by show _ ++ _ = _; rw [h2]; simp⟩
        · exact ⟨r, q, h1, h2⟩
    · exact ⟨r, q, h1, h2⟩
/-- The first attributes fit as they do by themselves. -/
theorem fit_first (l : List S58) (n : Nat) (hn : n ≤ l.length) (hok : (fitF (LsOf l) l.length).2 = true) :
    (fitF (LsOf (l.take n)) n).2 = true ∧ (pick l (fitF (LsOf l) l.length).1.ins).take (fitF (LsOf (l.take n)) n).1.ins.length = pick (l.take n) (fitF (LsOf (l.take n)) n).1.ins ∧ (pick l (fitF (LsOf l) l.length).1.outs).take (fitF (LsOf (l.take n)) n).1.outs.length = pick (l.take n) (fitF (LsOf (l.take n)) n).1.outs ∧
    (fitF (LsOf (l.take n)) n).1.ins.length ≤ (fitF (LsOf l) l.length).1.ins.length ∧ (fitF (LsOf (l.take n)) n).1.outs.length ≤ (fitF (LsOf l) l.length).1.outs.length := by
  have eg : ∀ i, i < n → (l.take n).getD i z58 = l.getD i z58 := fun i hi => by
    rw [List.getD_eq_getElem?_getD, List.getD_eq_getElem?_getD, List.getElem?_take, if_pos hi]
  have ec : fitF (LsOf (l.take n)) n = fitF (LsOf l) n := fit_congr _ _ n (fun i hi => by unfold LsOf; rw [eg i hi])
  rw [ec]
  obtain ⟨r, q, h1, h2⟩ := fit_pre (LsOf l) n (l.length - n)
  rw [show n + (l.length - n) = l.length by omega] at h1 h2
  have hb := fitF_bound (LsOf l) n
  have ep : ∀ ks : List Nat, (∀ k ∈ ks, k < n) → pick (l.take n) ks = pick l ks := fun ks hk => by
    unfold pick
    exact List.map_congr_left (fun k h => eg k (hk k h))
  refine ⟨?_, ?_, ?_, by rw [h1, List.length_append]; omega, by rw [h2, List.length_append]; omega⟩
  · cases h : (fitF (LsOf l) n).2
    · have := fit_stop (LsOf l) n h (l.length - n)
      rw [show n + (l.length - n) = l.length by omega] at this
      rw [this, h] at hok
      cases hok
    · rfl
  · rw [ep _ (fun k hk => hb k (List.mem_append.2 (.inl hk))), h1]
    unfold pick
    rw [List.map_append, List.take_left' (by rw [List.length_map])]
  · rw [ep _ (fun k hk => hb k (List.mem_append.2 (.inr hk))), h2]
    unfold pick
    rw [List.map_append, List.take_left' (by rw [List.length_map])]
theorem cutl {W : World} {A : Option Addr} {n : Nat} {xs : List S58} (h : k58.C W A n xs) (m : Nat) (hm : m ≤ n) : k58.C W A m (xs.take m) := by
  have hl := h.1
  have h2 : k58.C W A xs.length xs := by rw [hl]; exact h
  have h3 := Kd.C_take (m := m) h2 (by omega)
  rw [List.length_take, Nat.min_eq_left (by omega)] at h3
  exact h3
set_option maxHeartbeats 8000000 in
set_option maxRecDepth 100000 in
theorem law3in (w : World) (t : TypeId) (fr : Nat × Nat) (hg : w.heap[4]? = some (.cells cells14 t fr)) (l : List S58) (A : Option Addr) (c : Nat) (n : Nat) (hC : k58.C w A l.length l) (hc : l.length ≤ c) (hl : l.length ≤ 40) (hn : n ≤ l.length)
    (hz : ∀ j : Nat, j < l.length → (l.getD j z58).f0.size ≤ 2147483647 ∧ (l.getD j z58).f1.length ≤ 2147483647)
    (hZ : Calls Tryd.prog 7 #[.slice A l.length c] w fun e w' => e = .returned (.bool true) ∧ Below w.heap.size w w') (hZ2 : ∀ W, Below w.heap.size w W → Calls Tryd.prog 8 #[.slice A l.length c] W fun e w' => e = .returned (.bool true) ∧ Below W.heap.size W w') :
    Calls Tryd.prog 3 #[.slice A l.length c, .int .i64 n] w fun e w' => e = .returned (.bool true) ∧ Below w.heap.size w w' := by
  have HC := Lib.hid hC
  have HZ := Lib.hid hZ
  have HZ2 := Lib.hid hZ2
  have px : ∀ W, Below w.heap.size w W → _ := fun W hb => fitx_calls W t fr ((hb.block 4 (blk_lt hg)).trans hg) l A c (Kd.C_below hC hb) (by omega) (fun i hi => (hz i hi).1) (fun i hi => (hz i hi).2)
  have hln : (l.take n).length = n := by rw [List.length_take]; omega
  have py : ∀ W, Below w.heap.size w W → _ := fun W hb => fitx_calls W t fr ((hb.block 4 (blk_lt hg)).trans hg) (l.take n) A c (by rw [hln]; exact Kd.C_below (cutl hC n hn) hb) (by omega) (fun i hi => by
    have := hz i (by omega)
    rw [List.getD_eq_getElem?_getD, List.getElem?_take, if_pos (by omega), ← List.getD_eq_getElem?_getD]
    exact this.1) (fun i hi => by
    have := hz i (by omega)
    rw [List.getD_eq_getElem?_getD, List.getElem?_take, if_pos (by omega), ← List.getD_eq_getElem?_getD]
    exact this.2)
  have p1 := fitF_le (LsOf l) l.length
  have p2 := fitF_le (LsOf (l.take n)) n
  have p3 := fit_first l n hn
  have hcz := hC.2.1
  rw [hln] at py
  obtain ⟨F, hF⟩ : ∃ F, F = fitF (LsOf l) l.length := ⟨_, rfl⟩
  obtain ⟨G, hG⟩ : ∃ G, G = fitF (LsOf (l.take n)) n := ⟨_, rfl⟩
  rw [← hF] at px p1 p3
  rw [← hG] at py p2 p3
  clear hF hG
  obtain ⟨N, hN⟩ : ∃ N, N = l.length := ⟨_, rfl⟩
  rw [← hN] at px HC HZ HZ2 p1 hc hl hn hcz
  rw [← hN]
  have HN := Lib.hid hN
  clear hN
  obtain ⟨⟨a, b, ins, outs⟩, ok⟩ := F
  obtain ⟨⟨a2, b2, ins2, outs2⟩, ok2⟩ := G
  dsimp only at px py p1 p2 p3
  have HX := Lib.hid px
  have HY := Lib.hid py
  obtain ⟨i22, hi22, hz22⟩ := Option.map_eq_some_iff.1 info58
  simp only [Prod.mk.injEq] at hz22
  have cutA := cut_to (P := Tryd.prog) 22 58 .i64 Tryd.underlying22 hi22 A N c (n : Int) (by omega) (by omega) hc
  rw [Int.toNat_natCast] at cutA
  have CUTA := Lib.hid cutA
  have HI := Lib.hid hi22
  have hn' : (n : Int) ≤ (N : Int) := by omega
  have F1 := Lib.hid p1
  have F2 := Lib.hid p2
  have F3 := Lib.hid p3
  clear hZ hZ2 hC hz hg hz22 hi22 hln px py p1 p2 p3
  go_enter Tryd.func3, Tryd.ntmps3
  go_upto_region 5 with (first
    | (go_at_call 7; (refine (HZ.out).mono ?_); rintro e w1 ⟨rfl, hb1⟩; have B1 := Lib.hid hb1; clear hb1)
    | (go_at_call 8; (refine (HZ2.out _ B1.out).mono ?_); rintro e w2 ⟨rfl, hb2⟩; have B2 := Lib.hid (below_then B1.out B1.out.size hb2); clear hb2))
  go_upto_region 6 with (first
    | (go_at_call 9; (refine (HX.out _ B2.out).mono ?_); rintro e w3 ⟨A1, c1, A2, c2, rfl, g1, g2, g3, g4, hb3⟩; have G1 := Lib.hid g3; have G2 := Lib.hid g4; have B3 := Lib.hid (below_then B2.out B2.out.size hb3); clear g3 g4 hb3))
  go_upto_region 7 with (first
    | (go_at_call 9; (refine (HY.out _ B3.out).mono ?_); rintro e w4 ⟨A3, c3, A4, c4, rfl, g5, g6, g7, g8, hb4⟩; have G3 := Lib.hid g7; have G4 := Lib.hid g8; have B34 := Lib.hid hb4; have B4 := Lib.hid (below_then B3.out B3.out.size hb4); clear g7 g8 hb4))
  obtain ⟨q1, q2, q3⟩ := F1.out
  obtain ⟨s1, s2, s3⟩ := F2.out
  cases ok with
  | false =>
    have h9 := q3 rfl
    have h8 : (ins.length : Int) + (outs.length : Int) < (N : Int) := by omega
    clear q2 q3 s2 s3 cutA g1 g2 g5 g6
    go_wp2_with fail
    go_ret
    exact ⟨by first | rfl | (simp; omega), B4.out⟩
  | true =>
    obtain ⟨e1, e2, e3, e4, e5⟩ := F3.out rfl
    subst e1
    have h9 := q2 rfl
    have h8 := s2 rfl
    have h9i : (ins.length : Int) + (outs.length : Int) = (N : Int) := by omega
    have h8i : (ins2.length : Int) + (outs2.length : Int) = (n : Int) := by omega
    have e4i : (ins2.length : Int) ≤ (ins.length : Int) := by omega
    have e5i : (outs2.length : Int) ≤ (outs.length : Int) := by omega
    have pl1 : (pick (l.take n) ins2).length = ins2.length := pick_len _ _
    have pl2 : (pick (l.take n) outs2).length = outs2.length := pick_len _ _
    have t1 := cutl (Kd.C_below G1.out B34.out) ins2.length e4
    have t2 := cutl (Kd.C_below G2.out B34.out) outs2.length e5
    rw [e2] at t1
    rw [e3] at t2
    have g3 := G3.out
    have g4 := G4.out
    have cutB := cut_to (P := Tryd.prog) 22 58 .i64 Tryd.underlying22 HI.out A1 ins.length c1 (ins2.length : Int) (by omega) (by omega) g1
    have cutD := cut_to (P := Tryd.prog) 22 58 .i64 Tryd.underlying22 HI.out A2 outs.length c2 (outs2.length : Int) (by omega) (by omega) g2
    rw [Int.toNat_natCast] at cutB cutD
    obtain ⟨P1, hP1⟩ : ∃ P1, P1 = pick (l.take n) ins2 := ⟨_, rfl⟩
    obtain ⟨P2, hP2⟩ : ∃ P2, P2 = pick (l.take n) outs2 := ⟨_, rfl⟩
    rw [← hP1] at pl1 t1 g3
    rw [← hP2] at pl2 t2 g4
    have a1 : ∀ W, Below w4.heap.size w4 W → _ := fun W hb => attr_calls W P1 A1 c1 (by rw [pl1]; exact Kd.C_below t1 hb) (by omega)
    have a2 : ∀ W, Below w4.heap.size w4 W → _ := fun W hb => attr_calls W P2 A2 c2 (by rw [pl2]; exact Kd.C_below t2 hb) (by omega)
    have b1 : ∀ W B d, Below w4.heap.size w4 W → k70.C W B P1.length (P1.map to70) → _ := fun W B d hb hD => same_calls W P1 A3 B c3 d (by rw [pl1]; exact Kd.C_below g3 hb) hD
    have b2 : ∀ W B d, Below w4.heap.size w4 W → k70.C W B P2.length (P2.map to70) → _ := fun W B d hb hD => same_calls W P2 A4 B c4 d (by rw [pl2]; exact Kd.C_below g4 hb) hD
    rw [pl1] at a1 b1
    rw [pl2] at a2 b2
    have HA1 := Lib.hid a1
    have HA2 := Lib.hid a2
    have HB1 := Lib.hid b1
    have HB2 := Lib.hid b2
    clear a1 a2 b1 b2 t1 t2 g3 g4 pl1 pl2 hP1 hP2 e2 e3 q2 q3 s2 s3 cutA g1 g2 g5 g6 h9 h8
    go_upto_region 11 with (fail)
    go_wp2_with (first
      | (go_at_call 11; (with_reducible refine (HA1.out _ (Below.refl _ _)).mono ?_); rintro e w5 ⟨D1, f1, rfl, hd1, hb5⟩; have D5 := Lib.hid hd1; have B5 := Lib.hid hb5; clear hd1 hb5)
      | (go_at_call 10; (with_reducible refine (HB1.out _ D1 f1 B5.out D5.out).mono ?_); rintro e w6 ⟨rfl, hb6⟩; have B6 := Lib.hid (below_then B5.out B5.out.size hb6); clear hb6)
      | (go_at_call 11; (with_reducible refine (HA2.out _ B6.out).mono ?_); rintro e w7 ⟨D2, f2, rfl, hd2, hb7⟩; have D7 := Lib.hid hd2; have B7 := Lib.hid (below_then B6.out B6.out.size hb7); clear hd2 hb7)
      | (go_at_call 10; (with_reducible refine (HB2.out _ D2 f2 B7.out D7.out).mono ?_); rintro e w8 ⟨rfl, hb8⟩; have B8 := Lib.hid (below_then B7.out B7.out.size hb8); clear hb8))
    go_ret
    exact ⟨rfl, below_then B4.out B4.out.size B8.out⟩
set_option maxHeartbeats 2000000 in
set_option maxRecDepth 100000 in
theorem law3 (w : World) (t : TypeId) (fr : Nat × Nat) (hg : w.heap[4]? = some (.cells cells14 t fr)) (l : List S58) (A : Option Addr) (m c : Nat) (n : Int) (hC : k58.C w A m l) (hc : m ≤ c) (hn0 : -9223372036854775808 ≤ n) (hn1 : n ≤ 9223372036854775807) :
    Calls Tryd.prog 3 #[.slice A m c, .int .i64 n] w fun e w' => e = .returned (.bool true) ∧ Below w.heap.size w w' := by
  obtain rfl := hC.1
  obtain ⟨k1, r1, h1, z1⟩ := fits_any l
  obtain ⟨k2, r2, h2, z2⟩ := fair_any l
  have hZ := laws_zzFits7.calls k1 A c l r1 w hC hc h1
  have hZ2 : ∀ W, Below w.heap.size w W → Calls Tryd.prog 8 #[.slice A l.length c] W fun e w' => e = .returned (.bool r2) ∧ Below W.heap.size W w' := fun W hb => laws_attributesFair.calls k2 A c l r2 W (Kd.C_below hC hb) hc h2
  have hmx := hC.2.1
  clear h1 h2
  have hx : r1 = false ∨ (r1 = true ∧ r2 = false) ∨ (r1 = true ∧ r2 = true ∧ n < 0) ∨ (r1 = true ∧ r2 = true ∧ 0 ≤ n ∧ (l.length : Int) < n) ∨ (r1 = true ∧ r2 = true ∧ 0 ≤ n ∧ n ≤ (l.length : Int)) := by
    cases r1 <;> cases r2 <;> simp <;> omega
  rcases hx with rfl | ⟨rfl, rfl⟩ | ⟨rfl, rfl, h3⟩ | ⟨rfl, rfl, h3, h4⟩ | ⟨rfl, rfl, h3, h4⟩
  case inr.inr.inr.inr =>
    obtain ⟨k, rfl⟩ := Int.eq_ofNat_of_zero_le h3
    exact law3in w t fr hg l A c k hC hc (z2 rfl) (by omega) (z1 rfl).2 hZ hZ2
  all_goals
    have HZ := Lib.hid hZ
    have HZ2 := Lib.hid hZ2
    clear hZ hZ2 hC hg z1 z2
    go_enter Tryd.func3, Tryd.ntmps3
    go_wp2_with (first
      | (go_at_call 7; (refine (HZ.out).mono ?_); rintro e w1 ⟨rfl, hb1⟩; have B1 := Lib.hid hb1; clear hb1)
      | (go_at_call 8; (refine (HZ2.out _ B1.out).mono ?_); rintro e w2 ⟨rfl, hb2⟩; have B2 := Lib.hid (below_then B1.out B1.out.size hb2); clear hb2))
    go_ret
    first
      | exact ⟨rfl, B2.out⟩
      | exact ⟨rfl, B1.out⟩
end Go.Proofs.YtckjbgneblfceaaDoor.Fg
