-- PRINTED BY print.sh 35421559b90ae4d0a3588c463048766b98c2df88dd9212a6774a882060cdf62d: not written by this session
import Derived.Test.YtckjbgneblfceaaPFnMergeDirsx0
import Derived.Test.YtckjbgneblfceaaMx6
import Derived.Test.YtckjbgneblfceaaMx7
namespace Go.Proofs.Ytckjbgneblfceaa.PFnMergeDirs
open Go.RowKit Go.Proofs.YtckjbgneblfceaaW.PrintWords Go.Proofs.YtckjbgneblfceaaW.PrintLast Go.Proofs.YtckjbgneblfceaaW.PrintMore
attribute [local go_sem] max2_int min2_int max_two min_two max_three min_three max_four min_four   -- for this text's walks alone
set_option linter.unusedVariables false
set_option linter.unusedSimpArgs false

/-! ### spec_Merged: function 8 -/
mutual
def spec_Merged.l0 : Nat → List (S30) → List (S30) → List (S35) → Int → Option ((List (S35)))
  | 0, _, _, _, _ => none
  | k + 1, x0, x1, x5, x6 => if x6 ≥ 0 then (if 0 ≤ x6 then (if x6 < (x1.length : Int) then ((spec_entryInfo.f k ((rd_T30 x1 x6).f0) ((rd_T30 x1 x6).f1) ((rd_T30 x1 x6).f2) ((rd_T30 x1 x6).f3) ((rd_T30 x1 x6).f4)).bind fun bt155 => ((spec_told.f k x5 bt155.1 bt155.2.1 bt155.2.2.1 bt155.2.2.2.1 bt155.2.2.2.2).bind fun t160 => (spec_Merged.l0 k x0 x1 t160 (wrap64 (x6 - 1))))) else (none)) else (none)) else (spec_Merged.l1 k x5 x0 (x0.length : Int) 0)
def spec_Merged.l1 : Nat → List (S35) → List (S30) → Int → Int → Option ((List (S35)))
  | 0, _, _, _, _ => none
  | k + 1, x5, x23, x24, x25 => if x25 < x24 then (if 0 ≤ x25 then (if x25 < (x23.length : Int) then ((spec_entryInfo.f k ((rd_T30 x23 x25).f0) ((rd_T30 x23 x25).f1) ((rd_T30 x23 x25).f2) ((rd_T30 x23 x25).f3) ((rd_T30 x23 x25).f4)).bind fun bt165 => ((spec_told.f k x5 bt165.1 bt165.2.1 bt165.2.2.1 bt165.2.2.2.1 bt165.2.2.2.2).bind fun t170 => (spec_Merged.l1 k t170 x23 x24 (wrap64 (x25 + 1))))) else (none)) else (none)) else (some x5)
end
def spec_Merged.f (k : Nat) (l0 : List (S30)) (l1 : List (S30)) : Option ((List (S35))) := spec_Merged.l0 k l0 l1 ([] : List (S35)) (wrap64 ((l1.length : Int) - 1))
theorem spec_Merged.mono_l : ∀ k, (∀ y0 y1 y2 y3, LeO (spec_Merged.l0 k y0 y1 y2 y3) (spec_Merged.l0 (k + 1) y0 y1 y2 y3)) ∧ (∀ y0 y1 y2 y3, LeO (spec_Merged.l1 k y0 y1 y2 y3) (spec_Merged.l1 (k + 1) y0 y1 y2 y3))
  | 0 => ⟨fun _ _ _ _ r h => by simp [spec_Merged.l0] at h, fun _ _ _ _ r h => by simp [spec_Merged.l1] at h⟩
  | k + 1 => by
    obtain ⟨ih0, ih1⟩ := spec_Merged.mono_l k
    refine ⟨?_, ?_⟩
    · intro y0 y1 y2 y3
      unfold spec_Merged.l0
      repeat' first
      | (with_reducible exact ih0 _ _ _ _)
      | (with_reducible exact ih1 _ _ _ _)
      | (with_reducible exact spec_entryInfo.mono _ _ _ _ _ _)
      | (with_reducible exact spec_told.mono _ _ _ _ _ _ _)
      | (with_reducible exact LeO.refl _)
      | (with_reducible exact LeO.none _)
      | (with_reducible refine LeO.ite ?_ ?_)
      | (with_reducible refine LeO.bind ?_ (fun _ => ?_))
      | exact ih0 _ _ _ _
      | exact ih1 _ _ _ _
      | exact spec_entryInfo.mono _ _ _ _ _ _
      | exact spec_told.mono _ _ _ _ _ _ _
      | exact LeO.none _
      | refine LeO.ite ?_ ?_
      | refine LeO.bind ?_ (fun _ => ?_)
    · intro y0 y1 y2 y3
      unfold spec_Merged.l1
      repeat' first
      | (with_reducible exact ih0 _ _ _ _)
      | (with_reducible exact ih1 _ _ _ _)
      | (with_reducible exact spec_entryInfo.mono _ _ _ _ _ _)
      | (with_reducible exact spec_told.mono _ _ _ _ _ _ _)
      | (with_reducible exact LeO.refl _)
      | (with_reducible exact LeO.none _)
      | (with_reducible refine LeO.ite ?_ ?_)
      | (with_reducible refine LeO.bind ?_ (fun _ => ?_))
      | exact ih0 _ _ _ _
      | exact ih1 _ _ _ _
      | exact spec_entryInfo.mono _ _ _ _ _ _
      | exact spec_told.mono _ _ _ _ _ _ _
      | exact LeO.none _
      | refine LeO.ite ?_ ?_
      | refine LeO.bind ?_ (fun _ => ?_)
theorem spec_Merged.mono : ∀ a0 a1 k, LeO (spec_Merged.f k a0 a1) (spec_Merged.f (k + 1) a0 a1) := by
  intro a0 a1 k
  obtain ⟨ih0, ih1⟩ := spec_Merged.mono_l k
  unfold spec_Merged.f
  repeat' first
      | (with_reducible exact ih0 _ _ _ _)
      | (with_reducible exact ih1 _ _ _ _)
      | (with_reducible exact spec_entryInfo.mono _ _ _ _ _ _)
      | (with_reducible exact spec_told.mono _ _ _ _ _ _ _)
      | (with_reducible exact LeO.refl _)
      | (with_reducible exact LeO.none _)
      | (with_reducible refine LeO.ite ?_ ?_)
      | (with_reducible refine LeO.bind ?_ (fun _ => ?_))
      | exact ih0 _ _ _ _
      | exact ih1 _ _ _ _
      | exact spec_entryInfo.mono _ _ _ _ _ _
      | exact spec_told.mono _ _ _ _ _ _ _
      | exact LeO.none _
      | refine LeO.ite ?_ ?_
      | refine LeO.bind ?_ (fun _ => ?_)
set_option maxHeartbeats 8000000 in
set_option maxRecDepth 100000 in
theorem spec_Merged.calls (k : Nat) (A0 : Option Addr) (c0 : Nat) (l0 : List (S30)) (A1 : Option Addr) (c1 : Nat) (l1 : List (S30)) (r : List (S35)) (w : World) (hr0 : Kd.C k30 w A0 l0.length l0) (hc0 : l0.length ≤ c0) (hr1 : Kd.C k30 w A1 l1.length l1) (hc1 : l1.length ≤ c1) (h : spec_Merged.f k l0 l1 = some r) :
    Calls Try.prog 8 #[.slice A0 l0.length c0, .slice A1 l1.length c1] w fun e w' => ∃ v0_ : Value, e = .returned (v0_) ∧ Kd.R k35 35 w' w.heap.size (fun _ => True) v0_ r ∧ Below w.heap.size w w' := by
  have hu30 := Try.underlying30
  have HR0 := Aside0.mk hr0
  have HC0 := Aside0.mk hc0
  clear hr0 hc0
  have HR1 := Aside0.mk hr1
  have HC1 := Aside0.mk hc1
  clear hr1 hc1
  have HB := Aside0.mk (Below.refl w.heap.size w)
  have H : (spec_Merged.l0 k l0 l1 ([] : List (S35)) (wrap64 ((l1.length : Int) - 1))) = some r := h
  clear h
  have H' := Aside0.mk H
  clear H
  go_enter Try.func8, Try.ntmps8
  go_wp2
  go_loopg [5, 6] k (fun kq v5 v6 w' => ∃ (x5_1 : List (S35)) (x6_1 : Int), v6 = .int .i64 x6_1 ∧ Aside0 (spec_Merged.l0 kq l0 l1 x5_1 x6_1 = some r) ∧ Aside0 (kq ≤ k) ∧ Aside0 (Kd.R k35 35 w' w.heap.size (fun _ => True) v5 x5_1) ∧ Aside0 (Below w.heap.size w w'))
  case atStart => exact ⟨(([] : List (S35))), (wrap64 ((l1.length : Int) - 1)), (by first | rfl | (simp; done) | (simp [*]; done)), H', ⟨Nat.le_refl _⟩, ⟨by first | exact Kd.R_nil _ _ _ _ _ | exact Kd.N_nil _ _ _ _ _ | exact Kd.V_nil _ _ _ _ _ | exact Kd.Q_nil _ _ _ _ _ | exact Kd.S_nil _ _ _ _ _⟩, ⟨by repeat (first | (with_reducible first | exact HB.out | apply below_alloc | apply pw_below_drewN | apply below_drew1) | exact HB.out)⟩⟩
  case round =>
    clear H'
    try clear c1
    try clear p2
    obtain ⟨x5_1, x6_1, rfl, HA, HK1, HO_5, HB⟩ := hrel
    cases gk with
    | zero => exact absurd HA.out (by simp [spec_Merged.l0])
    | succ k1 =>
      have H := HA.out
      clear HA
      simp only [spec_Merged.l0] at H
      by_cases c3 : x6_1 ≥ 0
      · rw [if_pos c3] at H
        have c3b0 : decide (0 ≤ x6_1) = true := decide_eq_true c3
        clear c3
        by_cases c4 : 0 ≤ x6_1
        · rw [if_pos c4] at H
          have c4b0 : decide (0 ≤ x6_1) = true := decide_eq_true c4
          clear c4
          by_cases c5 : x6_1 < (l1.length : Int)
          · rw [if_pos c5] at H
            have c5b0 : decide (x6_1 < (l1.length : Int)) = true := decide_eq_true c5
            clear c5
            replace H := Option.bind_eq_some_iff.mp H
            obtain ⟨⟨t155, t156, t157, t158, t159⟩, A60, H⟩ := H
            replace H : ((spec_told.f k1 x5_1 t155 t156 t157 t158 t159).bind fun t160 => (spec_Merged.l0 k1 l0 l1 t160 (wrap64 (x6_1 - 1)))) = some r := H
            have A6 := Aside0.mk A60
            clear A60
            replace H := Option.bind_eq_some_iff.mp H
            obtain ⟨t160, A70, H⟩ := H
            replace H : (spec_Merged.l0 k1 l0 l1 t160 (wrap64 (x6_1 - 1))) = some r := H
            have A7 := Aside0.mk A70
            clear A70
            have H' := Aside0.mk H
            clear H
            have p154 : 0 ≤ (x6_1 : Int) := of_decide_eq_true (by first | (with_reducible assumption) | assumption)
            have q154 : x6_1 < (l1.length : Int) := of_decide_eq_true (by first | (with_reducible assumption) | assumption)
            obtain ⟨ad154, A154_3, c154_3, e154, hx154_0, hx154_1, hx154_2, hx154_3, hx154_4, hl154_3, hi154_3⟩ := at_T30 HR1.out x6_1 p154 q154
            cases e154
            replace hx154_0 := (HB.out.cell (World.block_lt_of_cell? w _ hx154_0)).trans hx154_0
            replace hx154_1 := (HB.out.cell (World.block_lt_of_cell? w _ hx154_1)).trans hx154_1
            replace hx154_2 := (HB.out.cell (World.block_lt_of_cell? w _ hx154_2)).trans hx154_2
            replace hx154_3 := (HB.out.cell (World.block_lt_of_cell? w _ hx154_3)).trans hx154_3
            replace hx154_4 := (HB.out.cell (World.block_lt_of_cell? w _ hx154_4)).trans hx154_4
            have HR154_3 := Aside0.mk hi154_3
            have HC154_3 := Aside0.mk hl154_3
            clear hi154_3 hl154_3
            replace p154 := eq_true p154
            replace q154 := eq_true q154
            go_wp2_with (first | ((with_reducible refine gate_callee (f := 16) rfl ?_); refine goesL_ (some 21) rfl rfl Try.func16 (by kernel_rfl) rfl #[.agg #[.string ((rd_T30 l1 x6_1).f0), .int .i64 ((rd_T30 l1 x6_1).f1), .bool ((rd_T30 l1 x6_1).f2), .slice A154_3 ((rd_T30 l1 x6_1).f3).length c154_3, .int .i64 ((rd_T30 l1 x6_1).f4)]] rfl (by (try simp only [List.map_toArray, List.map_cons, List.map_nil]); first | done | rfl | (simp only [List.length_drop, List.length_take]; rfl)) ?_; (with_reducible refine (spec_entryInfo.calls k1 ((rd_T30 l1 x6_1).f0) ((rd_T30 l1 x6_1).f1) ((rd_T30 l1 x6_1).f2) _ _ ((rd_T30 l1 x6_1).f3) ((rd_T30 l1 x6_1).f4) t155 t156 t157 t158 t159 _ ?side1 ?side2 A6.out).mono ?_); (case side1 => repeat (first | exact (Kd.C_below HR154_3.out HB.out) | (with_reducible refine Kd.C_alloc ?_ _) | (with_reducible refine Kd.C_drewN ?_ _) | (with_reducible refine Kd.C_drew ?_))); (case side2 => exact HC154_3.out); rintro e w8 ⟨rfl, hb⟩; refine ⟨_, rfl, ?_⟩; have n0_ := Aside0.mk (Kd.R_below (by (with_reducible repeat (first | apply Kd.R_alloc | apply Kd.R_drewN | apply Kd.R_drew)); exact HO_5.out) hb); have n1_ := Aside0.mk (below_step (by repeat (first | (with_reducible first | exact HB.out | apply below_alloc | apply pw_below_drewN | apply below_drew1) | exact HB.out)) hb); clear HO_5; clear HB; have HO_5 := n0_; have HB := n1_; clear n0_ n1_; (try clear hb); (try clear hb2); (try clear hk); (try clear hi); obtain ⟨Ao9, co9, eo9⟩ := Kd.R_slice HO_5.out; subst eo9) | ((with_reducible refine gate_callee (f := 15) rfl ?_); refine goesL_ (some 22) rfl rfl Try.func15 (by kernel_rfl) rfl #[.slice Ao9 x5_1.length co9, .agg #[.string t155, .int .i64 t156, .int .i64 t157, .bool t158, .int .i64 t159]] rfl (by (try simp only [List.map_toArray, List.map_cons, List.map_nil]); first | done | rfl | (simp only [List.length_drop, List.length_take]; rfl)) ?_; (with_reducible refine (spec_told.calls k1 _ _ x5_1 t155 t156 t157 t158 t159 t160 _ ?side1 ?side2 A7.out).mono ?_); (case side1 => repeat (first | exact (Kd.R_reads' HO_5.out).2.2 | (with_reducible refine Kd.C_alloc ?_ _) | (with_reducible refine Kd.C_drewN ?_ _) | (with_reducible refine Kd.C_drew ?_))); (case side2 => exact (Kd.R_reads' HO_5.out).2.1); rintro e w10 ⟨v161, rfl, ho0, hb⟩; refine ⟨_, rfl, ?_⟩; have n0_ := Aside0.mk (Kd.R_elder' (by (with_reducible repeat (first | apply Kd.R_alloc | apply Kd.R_drewN | apply Kd.R_drew)); exact HO_5.out) (Kd.R_base ho0) hb); have n1_ := Aside0.mk (Kd.R_lower (Kd.R_new' ho0 (Kd.R_lt (by (with_reducible repeat (first | apply Kd.R_alloc | apply Kd.R_drewN | apply Kd.R_drew)); exact HO_5.out))) (below_size (by repeat (first | (with_reducible first | exact HB.out | apply below_alloc | apply pw_below_drewN | apply below_drew1) | exact HB.out)))); have n2_ := Aside0.mk (below_step (by repeat (first | (with_reducible first | exact HB.out | apply below_alloc | apply pw_below_drewN | apply below_drew1) | exact HB.out)) hb); clear HO_5; clear HB; have HO_5 := n0_; have HO162 := n1_; have HB := n2_; clear n0_ n1_ n2_; (try clear hb); (try clear hb2); (try clear hk); (try clear hi); (try clear ho0)))
            go_roundg k1
            case measure => have := HK1.out; omega
            case rel => exact ⟨(t160), (wrap64 (x6_1 - 1)), (by first | rfl | (simp; done) | (simp [*]; done)), H', ⟨by have := HK1.out; omega⟩, ⟨by (with_reducible repeat (first | apply Kd.R_alloc | apply Kd.R_drewN | apply Kd.R_drew)); exact Kd.R_mono HO162.out (fun _ hk => trivial)⟩, ⟨by repeat (first | (with_reducible first | exact HB.out | apply below_alloc | apply pw_below_drewN | apply below_drew1) | exact HB.out)⟩⟩
          · rw [if_neg c5] at H
            exact absurd H (by simp)
        · rw [if_neg c4] at H
          exact absurd H (by simp)
      · rw [if_neg c3] at H
        have c3b0 : decide (0 ≤ x6_1) = false := decide_eq_false c3
        clear c3
        have H' := Aside0.mk H
        clear H
        go_wp2
        go_loopg [5, 25] k1 (fun kq v5 v25 w' => ∃ (x5_2 : List (S35)) (x25_2 : Int), v25 = .int .i64 x25_2 ∧ Aside0 (spec_Merged.l1 kq x5_2 l0 (l0.length : Int) x25_2 = some r) ∧ Aside0 (kq ≤ k1) ∧ Aside0 (Kd.R k35 35 w' w.heap.size (fun _ => True) v5 x5_2) ∧ Aside0 (Below w.heap.size w w'))
        case atStart => exact ⟨(x5_1), (0), (by first | rfl | (simp; done) | (simp [*]; done)), H', ⟨Nat.le_refl _⟩, ⟨by (with_reducible repeat (first | apply Kd.R_alloc | apply Kd.R_drewN | apply Kd.R_drew)); exact HO_5.out⟩, ⟨by repeat (first | (with_reducible first | exact HB.out | apply below_alloc | apply pw_below_drewN | apply below_drew1) | exact HB.out)⟩⟩
        case round =>
          clear H'
          try clear c1
          try clear p1
          try clear q1
          try clear hx1
          try clear p2
          try clear c3
          try clear c3b0
          try clear c4
          try clear c4b0
          try clear c5
          try clear c5b0
          try clear p6
          try clear c8
          try clear hx154_0
          try clear hx154_1
          try clear hx154_2
          try clear hx154_3
          try clear hx154_4
          try clear p154
          try clear p2
          try clear q154
          obtain ⟨x5_2, x25_2, rfl, HA, HK2, HO_5, HB⟩ := hrel
          cases gk with
          | zero => exact absurd HA.out (by simp [spec_Merged.l1])
          | succ k2 =>
            have H := HA.out
            clear HA
            simp only [spec_Merged.l1] at H
            by_cases c11 : x25_2 < (l0.length : Int)
            · rw [if_pos c11] at H
              have c11b0 : decide (x25_2 < (l0.length : Int)) = true := decide_eq_true c11
              clear c11
              by_cases c12 : 0 ≤ x25_2
              · rw [if_pos c12] at H
                have c12b0 : decide (0 ≤ x25_2) = true := decide_eq_true c12
                clear c12
                by_cases c13 : x25_2 < (l0.length : Int)
                · rw [if_pos c13] at H
                  have c13b0 : decide (x25_2 < (l0.length : Int)) = true := decide_eq_true c13
                  clear c13
                  replace H := Option.bind_eq_some_iff.mp H
                  obtain ⟨⟨t165, t166, t167, t168, t169⟩, A140, H⟩ := H
                  replace H : ((spec_told.f k2 x5_2 t165 t166 t167 t168 t169).bind fun t170 => (spec_Merged.l1 k2 t170 l0 (l0.length : Int) (wrap64 (x25_2 + 1)))) = some r := H
                  have A14 := Aside0.mk A140
                  clear A140
                  replace H := Option.bind_eq_some_iff.mp H
                  obtain ⟨t170, A150, H⟩ := H
                  replace H : (spec_Merged.l1 k2 t170 l0 (l0.length : Int) (wrap64 (x25_2 + 1))) = some r := H
                  have A15 := Aside0.mk A150
                  clear A150
                  have H' := Aside0.mk H
                  clear H
                  have p163 : 0 ≤ (x25_2 : Int) := of_decide_eq_true (by first | (with_reducible assumption) | assumption)
                  have q163 : x25_2 < (l0.length : Int) := of_decide_eq_true (by first | (with_reducible assumption) | assumption)
                  obtain ⟨ad163, A163_3, c163_3, e163, hx163_0, hx163_1, hx163_2, hx163_3, hx163_4, hl163_3, hi163_3⟩ := at_T30 HR0.out x25_2 p163 q163
                  cases e163
                  replace hx163_0 := (HB.out.cell (World.block_lt_of_cell? w _ hx163_0)).trans hx163_0
                  replace hx163_1 := (HB.out.cell (World.block_lt_of_cell? w _ hx163_1)).trans hx163_1
                  replace hx163_2 := (HB.out.cell (World.block_lt_of_cell? w _ hx163_2)).trans hx163_2
                  replace hx163_3 := (HB.out.cell (World.block_lt_of_cell? w _ hx163_3)).trans hx163_3
                  replace hx163_4 := (HB.out.cell (World.block_lt_of_cell? w _ hx163_4)).trans hx163_4
                  have HR163_3 := Aside0.mk hi163_3
                  have HC163_3 := Aside0.mk hl163_3
                  clear hi163_3 hl163_3
                  replace p163 := eq_true p163
                  replace q163 := eq_true q163
                  go_wp2_with (first | ((with_reducible refine gate_dst (N := 8) rfl ?_); refine box_event ?hg (N := 8) ?hd (cs := #[.string (⟨#[]⟩ : ByteArray), .int .i64 0, .bool false, .slice none 0 0, .int .i64 0]) (t := 30) ?hr ?_; (case hd => rfl); (case hg => rfl); (case hr => first | (go_simp; done) | (go_simp; rfl)); intro gb164 hg w16 hbox hb; have n0_ := Aside0.mk (Kd.R_below (by (with_reducible repeat (first | apply Kd.R_alloc | apply Kd.R_drewN | apply Kd.R_drew)); exact HO_5.out) hb); have n1_ := Aside0.mk (below_step (by repeat (first | (with_reducible first | exact HB.out | apply below_alloc | apply pw_below_drewN | apply below_drew1) | exact HB.out)) hb); have n2_ := Aside0.mk (hbox); have n3_ := Aside0.mk ((by rw [hg]; exact (below_size (by repeat (first | (with_reducible first | exact HB.out | apply below_alloc | apply pw_below_drewN | apply below_drew1) | exact HB.out))) : w.heap.size ≤ gb164)); have n4_ := Aside0.mk ((by rw [hg]; exact (below_size (by repeat (first | (with_reducible first | exact HB.out | apply below_alloc | apply pw_below_drewN | apply below_drew1) | exact HB.out))) : w.heap.size ≤ gb164)); clear HO_5; clear HB; have HO_5 := n0_; have HB := n1_; have BK164 := n2_; have GW164 := n3_; have GE164 := n4_; clear n0_ n1_ n2_ n3_ n4_; clear hb hbox hg; have hcz17_0 : w16.cell? ⟨gb164, 0, none⟩ = some (.string (⟨#[]⟩ : ByteArray)) := (blk_cell BK164.out 0).trans rfl; have hcz17_1 : w16.cell? ⟨gb164, 1, none⟩ = some (.int .i64 0) := (blk_cell BK164.out 1).trans rfl; have hcz17_2 : w16.cell? ⟨gb164, 2, none⟩ = some (.bool false) := (blk_cell BK164.out 2).trans rfl; have hcz17_3 : w16.cell? ⟨gb164, 3, none⟩ = some (.slice none 0 0) := (blk_cell BK164.out 3).trans rfl; have hcz17_4 : w16.cell? ⟨gb164, 4, none⟩ = some (.int .i64 0) := (blk_cell BK164.out 4).trans rfl; have hfz17_0 := blk_frozen BK164.out 0; have hfz17_1 := blk_frozen BK164.out 1; have hfz17_2 := blk_frozen BK164.out 2; have hfz17_3 := blk_frozen BK164.out 3; have hfz17_4 := blk_frozen BK164.out 4) | ((with_reducible refine gate_callee (f := 16) rfl ?_); refine goesL_ (some 31) rfl rfl Try.func16 (by kernel_rfl) rfl #[.agg #[.string ((rd_T30 l0 x25_2).f0), .int .i64 ((rd_T30 l0 x25_2).f1), .bool ((rd_T30 l0 x25_2).f2), .slice A163_3 ((rd_T30 l0 x25_2).f3).length c163_3, .int .i64 ((rd_T30 l0 x25_2).f4)]] rfl (by (try simp only [List.map_toArray, List.map_cons, List.map_nil]); first | done | rfl | (simp only [List.length_drop, List.length_take]; rfl)) ?_; (with_reducible refine (spec_entryInfo.calls k2 ((rd_T30 l0 x25_2).f0) ((rd_T30 l0 x25_2).f1) ((rd_T30 l0 x25_2).f2) _ _ ((rd_T30 l0 x25_2).f3) ((rd_T30 l0 x25_2).f4) t165 t166 t167 t168 t169 _ ?side1 ?side2 A14.out).mono ?_); (case side1 => exact Kd.C_below HR163_3.out (by repeat (first | (with_reducible first | exact HB.out | apply below_alloc | apply pw_below_drewN | apply below_drew1 | refine below_set ?_ GE164.out) | exact HB.out))); (case side2 => exact HC163_3.out); rintro e w18 ⟨rfl, hb⟩; refine ⟨_, rfl, ?_⟩; have n0_ := Aside0.mk (Kd.R_below (by (with_reducible repeat (first | apply Kd.R_alloc | apply Kd.R_drewN | apply Kd.R_drew)); exact (Kd.R_mono (Kd.R_far (p := ⟨gb164, 4, none⟩) (Kd.R_far (p := ⟨gb164, 3, none⟩) (Kd.R_far (p := ⟨gb164, 2, none⟩) (Kd.R_far (p := ⟨gb164, 1, none⟩) (Kd.R_far (p := ⟨gb164, 0, none⟩) (Kd.R_types HO_5.out BK164.out (by decide)) (fun _ hk => hk.2) (.string ((rd_T30 l0 x25_2).f0))) (fun _ hk => hk.2) (.int .i64 ((rd_T30 l0 x25_2).f1))) (fun _ hk => hk.2) (.bool ((rd_T30 l0 x25_2).f2))) (fun _ hk => hk.2) (.slice A163_3 ((rd_T30 l0 x25_2).f3).length c163_3)) (fun _ hk => hk.2) (.int .i64 ((rd_T30 l0 x25_2).f4))) (fun _ h_ => h_.1))) hb); have n1_ := Aside0.mk (blk_below (g := gb164) (o := .cells #[.string ((rd_T30 l0 x25_2).f0), .int .i64 ((rd_T30 l0 x25_2).f1), .bool ((rd_T30 l0 x25_2).f2), .slice A163_3 ((rd_T30 l0 x25_2).f3).length c163_3, .int .i64 ((rd_T30 l0 x25_2).f4)] 30 (0, 0)) (by (with_reducible repeat (first | refine blk_drewN ?_ _ | refine blk_drew ?_ | refine blk_alloc ?_ _)); refine blk_put (cs := #[.string ((rd_T30 l0 x25_2).f0), .int .i64 ((rd_T30 l0 x25_2).f1), .bool ((rd_T30 l0 x25_2).f2), .slice A163_3 ((rd_T30 l0 x25_2).f3).length c163_3, .int .i64 0]) ?_ 4 _ rfl; (with_reducible repeat (first | refine blk_drewN ?_ _ | refine blk_drew ?_ | refine blk_alloc ?_ _)); refine blk_put (cs := #[.string ((rd_T30 l0 x25_2).f0), .int .i64 ((rd_T30 l0 x25_2).f1), .bool ((rd_T30 l0 x25_2).f2), .slice none 0 0, .int .i64 0]) ?_ 3 _ rfl; (with_reducible repeat (first | refine blk_drewN ?_ _ | refine blk_drew ?_ | refine blk_alloc ?_ _)); refine blk_put (cs := #[.string ((rd_T30 l0 x25_2).f0), .int .i64 ((rd_T30 l0 x25_2).f1), .bool false, .slice none 0 0, .int .i64 0]) ?_ 2 _ rfl; (with_reducible repeat (first | refine blk_drewN ?_ _ | refine blk_drew ?_ | refine blk_alloc ?_ _)); refine blk_put (cs := #[.string ((rd_T30 l0 x25_2).f0), .int .i64 0, .bool false, .slice none 0 0, .int .i64 0]) ?_ 1 _ rfl; (with_reducible repeat (first | refine blk_drewN ?_ _ | refine blk_drew ?_ | refine blk_alloc ?_ _)); refine blk_put (cs := #[.string (⟨#[]⟩ : ByteArray), .int .i64 0, .bool false, .slice none 0 0, .int .i64 0]) ?_ 0 _ rfl; (with_reducible repeat (first | refine blk_drewN ?_ _ | refine blk_drew ?_ | refine blk_alloc ?_ _)); exact BK164.out) hb); have n2_ := Aside0.mk (below_step (by repeat (first | (with_reducible first | exact HB.out | apply below_alloc | apply pw_below_drewN | apply below_drew1 | refine below_set ?_ GE164.out) | exact HB.out)) hb); clear HO_5; clear BK164; clear HB; have HO_5 := n0_; have BK164 := n1_; have HB := n2_; clear n0_ n1_ n2_; (try clear hb); (try clear hb2); (try clear hk); (try clear hi); obtain ⟨Ao19, co19, eo19⟩ := Kd.R_slice HO_5.out; subst eo19) | ((with_reducible refine gate_callee (f := 15) rfl ?_); refine goesL_ (some 32) rfl rfl Try.func15 (by kernel_rfl) rfl #[.slice Ao19 x5_2.length co19, .agg #[.string t165, .int .i64 t166, .int .i64 t167, .bool t168, .int .i64 t169]] rfl (by (try simp only [List.map_toArray, List.map_cons, List.map_nil]); first | done | rfl | (simp only [List.length_drop, List.length_take]; rfl)) ?_; (with_reducible refine (spec_told.calls k2 _ _ x5_2 t165 t166 t167 t168 t169 t170 _ ?side1 ?side2 A15.out).mono ?_); (case side1 => repeat (first | exact (Kd.R_reads' HO_5.out).2.2 | (with_reducible refine Kd.C_alloc ?_ _) | (with_reducible refine Kd.C_drewN ?_ _) | (with_reducible refine Kd.C_drew ?_))); (case side2 => exact (Kd.R_reads' HO_5.out).2.1); rintro e w20 ⟨v171, rfl, ho0, hb⟩; refine ⟨_, rfl, ?_⟩; have n0_ := Aside0.mk (Kd.R_elder' (by (with_reducible repeat (first | apply Kd.R_alloc | apply Kd.R_drewN | apply Kd.R_drew)); exact HO_5.out) (Kd.R_base ho0) hb); have n1_ := Aside0.mk (Kd.R_lower (Kd.R_new' ho0 (Kd.R_lt (by (with_reducible repeat (first | apply Kd.R_alloc | apply Kd.R_drewN | apply Kd.R_drew)); exact HO_5.out))) (below_size (by repeat (first | (with_reducible first | exact HB.out | apply below_alloc | apply pw_below_drewN | apply below_drew1 | refine below_set ?_ GE164.out) | exact HB.out)))); have n2_ := Aside0.mk (blk_below (g := gb164) (o := .cells #[.string ((rd_T30 l0 x25_2).f0), .int .i64 ((rd_T30 l0 x25_2).f1), .bool ((rd_T30 l0 x25_2).f2), .slice A163_3 ((rd_T30 l0 x25_2).f3).length c163_3, .int .i64 ((rd_T30 l0 x25_2).f4)] 30 (0, 0)) (by (with_reducible repeat (first | refine blk_drewN ?_ _ | refine blk_drew ?_ | refine blk_alloc ?_ _)); exact BK164.out) hb); have n3_ := Aside0.mk (below_step (by repeat (first | (with_reducible first | exact HB.out | apply below_alloc | apply pw_below_drewN | apply below_drew1 | refine below_set ?_ GE164.out) | exact HB.out)) hb); clear HO_5; clear BK164; clear HB; have HO_5 := n0_; have HO172 := n1_; have BK164 := n2_; have HB := n3_; clear n0_ n1_ n2_ n3_; (try clear hb); (try clear hb2); (try clear hk); (try clear hi); (try clear ho0)))
                  go_roundg k2
                  case measure => have := HK1.out; have := HK2.out; omega
                  case rel => exact ⟨(t170), (wrap64 (x25_2 + 1)), (by first | rfl | (simp; done) | (simp [*]; done)), H', ⟨by have := HK1.out; have := HK2.out; omega⟩, ⟨by (with_reducible repeat (first | apply Kd.R_alloc | apply Kd.R_drewN | apply Kd.R_drew)); exact Kd.R_mono HO172.out (fun _ hk => trivial)⟩, ⟨by repeat (first | (with_reducible first | exact HB.out | apply below_alloc | apply pw_below_drewN | apply below_drew1 | refine below_set ?_ GE164.out) | exact HB.out)⟩⟩
                · rw [if_neg c13] at H
                  exact absurd H (by simp)
              · rw [if_neg c12] at H
                exact absurd H (by simp)
            · rw [if_neg c11] at H
              have c11b0 : decide (x25_2 < (l0.length : Int)) = false := decide_eq_false c11
              clear c11
              obtain rfl := Option.some.inj H
              go_wp2
              go_ret
              exact ⟨_, by first | rfl | (simp [errW_none, errW_some] <;> rfl) | (simp [*, errW_none, errW_some] <;> rfl), by (with_reducible repeat (first | apply Kd.R_alloc | apply Kd.R_drewN | apply Kd.R_drew)); exact HO_5.out, by repeat (first | (with_reducible first | exact HB.out | apply below_alloc | apply pw_below_drewN | apply below_drew1) | exact HB.out)⟩

-- NOT PRINTED: function 3 (laws_FnMergeDirs)

end Go.Proofs.Ytckjbgneblfceaa.PFnMergeDirs
