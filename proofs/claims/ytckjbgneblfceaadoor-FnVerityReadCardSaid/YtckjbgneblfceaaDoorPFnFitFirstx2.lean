-- PRINTED BY print.sh 35421559b90ae4d0a3588c463048766b98c2df88dd9212a6774a882060cdf62d: not written by this session
import Derived.Test.YtckjbgneblfceaaDoorPFnFitFirstx0
import Derived.Test.YtckjbgneblfceaaDoorPFnFitFirstx1
namespace Go.Proofs.YtckjbgneblfceaaDoor.PFnFitFirst
open Go.RowKit Go.Proofs.YtckjbgneblfceaaDoorW.PrintWords Go.Proofs.YtckjbgneblfceaaDoorW.PrintLast Go.Proofs.YtckjbgneblfceaaDoorW.PrintMore
attribute [local go_sem] max2_int min2_int max_two min_two max_three min_three max_four min_four   -- for this text's walks alone
set_option linter.unusedVariables false
set_option linter.unusedSimpArgs false

/-! ### laws_attributesFair: function 8 -/
mutual
def laws_attributesFair.l0 : Nat → List (S58) → List (S58) → Int → Int → Option (Bool)
  | 0, _, _, _, _ => none
  | k + 1, x0, x12, x13, x14 => if x14 < x13 then (if 0 ≤ x14 then (if x14 < (x12.length : Int) then ((spec_Prefixed.f k ((rd_T58 x12 x14).f0)).bind fun bt114 => (if bt114.2.toList = ([] : List UInt8) then (laws_attributesFair.j1 k x0 x14 x12 x13 x14 true ((rd_T58 x12 x14).f0) ((rd_T58 x12 x14).f1)) else (if (bt114.2.size : Int) > 255 then (laws_attributesFair.j1 k x0 x14 x12 x13 x14 true ((rd_T58 x12 x14).f0) ((rd_T58 x12 x14).f1)) else (laws_attributesFair.j1 k x0 x14 x12 x13 x14 (decide ((((rd_T58 x12 x14).f1).length : Int) > 4096)) ((rd_T58 x12 x14).f0) ((rd_T58 x12 x14).f1))))) else (none)) else (none)) else (some true)
def laws_attributesFair.j1 : Nat → List (S58) → Int → List (S58) → Int → Int → Bool → ByteArray → List Int → Option (Bool)
  | 0, _, _, _, _, _, _, _, _ => none
  | k + 1, x0, x3, x12, x13, x14, x37, x114000, x114001 => if x37 = true then (some false) else (if 0 ≤ x3 then (if x3 ≤ (x0.length : Int) then ((some (x0.take (x3 : Int).toNat : List (S58))).bind fun y116 => (laws_attributesFair.l1 k x0 x12 x13 x14 y116 (y116.length : Int) 0 x114000 x114001)) else (none)) else (none))
def laws_attributesFair.l1 : Nat → List (S58) → List (S58) → Int → Int → List (S58) → Int → Int → ByteArray → List Int → Option (Bool)
  | 0, _, _, _, _, _, _, _, _, _ => none
  | k + 1, x0, x12, x13, x14, x40, x41, x42, x114000, x114001 => if x42 < x41 then (if 0 ≤ x42 then (if x42 < (x40.length : Int) then (if x114000.toList = ((rd_T58 x40 x42).f0).toList then (some false) else (laws_attributesFair.l1 k x0 x12 x13 x14 x40 x41 (wrap64 (x42 + 1)) x114000 x114001)) else (none)) else (none)) else (laws_attributesFair.l0 k x0 x12 x13 (wrap64 (x14 + 1)))
end
def laws_attributesFair.f (k : Nat) (l0 : List (S58)) : Option (Bool) := if (l0.length : Int) > 40 then (some false) else (laws_attributesFair.l0 k l0 l0 (l0.length : Int) 0)
theorem laws_attributesFair.mono_l : ∀ k, (∀ y0 y1 y2 y3, LeO (laws_attributesFair.l0 k y0 y1 y2 y3) (laws_attributesFair.l0 (k + 1) y0 y1 y2 y3)) ∧ (∀ y0 y1 y2 y3 y4 y5 y6 y7, LeO (laws_attributesFair.j1 k y0 y1 y2 y3 y4 y5 y6 y7) (laws_attributesFair.j1 (k + 1) y0 y1 y2 y3 y4 y5 y6 y7)) ∧ (∀ y0 y1 y2 y3 y4 y5 y6 y7 y8, LeO (laws_attributesFair.l1 k y0 y1 y2 y3 y4 y5 y6 y7 y8) (laws_attributesFair.l1 (k + 1) y0 y1 y2 y3 y4 y5 y6 y7 y8))
  | 0 => ⟨fun _ _ _ _ r h => by simp [laws_attributesFair.l0] at h, fun _ _ _ _ _ _ _ _ r h => by simp [laws_attributesFair.j1] at h, fun _ _ _ _ _ _ _ _ _ r h => by simp [laws_attributesFair.l1] at h⟩
  | k + 1 => by
    obtain ⟨ih0, ih1, ih2⟩ := laws_attributesFair.mono_l k
    refine ⟨?_, ?_, ?_⟩
    · intro y0 y1 y2 y3
      unfold laws_attributesFair.l0
      repeat' first
      | (with_reducible exact ih0 _ _ _ _)
      | (with_reducible exact ih1 _ _ _ _ _ _ _ _)
      | (with_reducible exact ih2 _ _ _ _ _ _ _ _ _)
      | (with_reducible exact spec_Prefixed.mono _ _)
      | (with_reducible exact LeO.refl _)
      | (with_reducible exact LeO.none _)
      | (with_reducible refine LeO.ite ?_ ?_)
      | (with_reducible refine LeO.bind ?_ (fun _ => ?_))
      | exact ih0 _ _ _ _
      | exact ih1 _ _ _ _ _ _ _ _
      | exact ih2 _ _ _ _ _ _ _ _ _
      | exact spec_Prefixed.mono _ _
      | exact LeO.none _
      | refine LeO.ite ?_ ?_
      | refine LeO.bind ?_ (fun _ => ?_)
    · intro y0 y1 y2 y3 y4 y5 y6 y7
      unfold laws_attributesFair.j1
      repeat' first
      | (with_reducible exact ih0 _ _ _ _)
      | (with_reducible exact ih1 _ _ _ _ _ _ _ _)
      | (with_reducible exact ih2 _ _ _ _ _ _ _ _ _)
      | (with_reducible exact spec_Prefixed.mono _ _)
      | (with_reducible exact LeO.refl _)
      | (with_reducible exact LeO.none _)
      | (with_reducible refine LeO.ite ?_ ?_)
      | (with_reducible refine LeO.bind ?_ (fun _ => ?_))
      | exact ih0 _ _ _ _
      | exact ih1 _ _ _ _ _ _ _ _
      | exact ih2 _ _ _ _ _ _ _ _ _
      | exact spec_Prefixed.mono _ _
      | exact LeO.none _
      | refine LeO.ite ?_ ?_
      | refine LeO.bind ?_ (fun _ => ?_)
    · intro y0 y1 y2 y3 y4 y5 y6 y7 y8
      unfold laws_attributesFair.l1
      repeat' first
      | (with_reducible exact ih0 _ _ _ _)
      | (with_reducible exact ih1 _ _ _ _ _ _ _ _)
      | (with_reducible exact ih2 _ _ _ _ _ _ _ _ _)
      | (with_reducible exact spec_Prefixed.mono _ _)
      | (with_reducible exact LeO.refl _)
      | (with_reducible exact LeO.none _)
      | (with_reducible refine LeO.ite ?_ ?_)
      | (with_reducible refine LeO.bind ?_ (fun _ => ?_))
      | exact ih0 _ _ _ _
      | exact ih1 _ _ _ _ _ _ _ _
      | exact ih2 _ _ _ _ _ _ _ _ _
      | exact spec_Prefixed.mono _ _
      | exact LeO.none _
      | refine LeO.ite ?_ ?_
      | refine LeO.bind ?_ (fun _ => ?_)
theorem laws_attributesFair.mono : ∀ a0 k, LeO (laws_attributesFair.f k a0) (laws_attributesFair.f (k + 1) a0) := by
  intro a0 k
  obtain ⟨ih0, ih1, ih2⟩ := laws_attributesFair.mono_l k
  unfold laws_attributesFair.f
  repeat' first
      | (with_reducible exact ih0 _ _ _ _)
      | (with_reducible exact ih1 _ _ _ _ _ _ _ _)
      | (with_reducible exact ih2 _ _ _ _ _ _ _ _ _)
      | (with_reducible exact spec_Prefixed.mono _ _)
      | (with_reducible exact LeO.refl _)
      | (with_reducible exact LeO.none _)
      | (with_reducible refine LeO.ite ?_ ?_)
      | (with_reducible refine LeO.bind ?_ (fun _ => ?_))
      | exact ih0 _ _ _ _
      | exact ih1 _ _ _ _ _ _ _ _
      | exact ih2 _ _ _ _ _ _ _ _ _
      | exact spec_Prefixed.mono _ _
      | exact LeO.none _
      | refine LeO.ite ?_ ?_
      | refine LeO.bind ?_ (fun _ => ?_)
set_option maxHeartbeats 8000000 in
set_option maxRecDepth 100000 in
theorem laws_attributesFair.calls (k : Nat) (A0 : Option Addr) (c0 : Nat) (l0 : List (S58)) (r : Bool) (w : World) (hr0 : Kd.C k58 w A0 l0.length l0) (hc0 : l0.length ≤ c0) (h : laws_attributesFair.f k l0 = some r) :
    Calls Tryd.prog 8 #[.slice A0 l0.length c0] w fun e w' => e = .returned (.bool r) ∧ Below w.heap.size w w' := by
  have hu58 := Tryd.underlying58
  have HR0 := Aside0.mk hr0
  have HC0 := Aside0.mk hc0
  clear hr0 hc0
  have HB := Aside0.mk (Below.refl w.heap.size w)
  have H : (if (l0.length : Int) > 40 then (some false) else (laws_attributesFair.l0 k l0 l0 (l0.length : Int) 0)) = some r := h
  clear h
  by_cases c2 : (l0.length : Int) > 40
  · rw [if_pos c2] at H
    have c2b0 : decide (40 < (l0.length : Int)) = true := decide_eq_true c2
    have c2b1 : decide (40 < l0.length) = true := decide_eq_true (by omega)
    clear c2
    obtain rfl := Option.some.inj H
    go_enter Tryd.func8, Tryd.ntmps8
    go_wp2
    go_ret
    exact ⟨by first | rfl | (simp [errW_none, errW_some] <;> rfl) | (simp [*, errW_none, errW_some] <;> rfl), by repeat (first | (with_reducible first | exact HB.out | apply below_alloc | apply pw_below_drewN | apply below_drew1) | exact HB.out)⟩
  · rw [if_neg c2] at H
    have c2b0 : decide (40 < (l0.length : Int)) = false := decide_eq_false c2
    have c2b1 : decide (40 < l0.length) = false := decide_eq_false (by omega)
    clear c2
    have H' := Aside0.mk H
    clear H
    go_enter Tryd.func8, Tryd.ntmps8
    go_wp2
    go_loopg [14] k (fun kq v14 w' => ∃ (x14_1 : Int), v14 = .int .i64 x14_1 ∧ Aside0 (laws_attributesFair.l0 kq l0 l0 (l0.length : Int) x14_1 = some r) ∧ Aside0 (kq ≤ k) ∧ Aside0 (Below w.heap.size w w'))
    case atStart => exact ⟨(0), (by first | rfl | (simp; done) | (simp [*]; done)), H', ⟨Nat.le_refl _⟩, ⟨by repeat (first | (with_reducible first | exact HB.out | apply below_alloc | apply pw_below_drewN | apply below_drew1) | exact HB.out)⟩⟩
    case round =>
      clear H'
      try clear c2
      try clear c2b0
      try clear c2b1
      try clear p2
      obtain ⟨x14_1, rfl, HA, HK1, HB⟩ := hrel
      cases gk with
      | zero => exact absurd HA.out (by simp [laws_attributesFair.l0])
      | succ k1 =>
        have H := HA.out
        clear HA
        simp only [laws_attributesFair.l0] at H
        by_cases c3 : x14_1 < (l0.length : Int)
        · rw [if_pos c3] at H
          have c3b0 : decide (x14_1 < (l0.length : Int)) = true := decide_eq_true c3
          clear c3
          by_cases c4 : 0 ≤ x14_1
          · rw [if_pos c4] at H
            have c4b0 : decide (0 ≤ x14_1) = true := decide_eq_true c4
            clear c4
            by_cases c5 : x14_1 < (l0.length : Int)
            · rw [if_pos c5] at H
              have c5b0 : decide (x14_1 < (l0.length : Int)) = true := decide_eq_true c5
              clear c5
              replace H := Option.bind_eq_some_iff.mp H
              obtain ⟨⟨t114, t115⟩, A60, H⟩ := H
              replace H : (if t115.toList = ([] : List UInt8) then (laws_attributesFair.j1 k1 l0 x14_1 l0 (l0.length : Int) x14_1 true ((rd_T58 l0 x14_1).f0) ((rd_T58 l0 x14_1).f1)) else (if (t115.size : Int) > 255 then (laws_attributesFair.j1 k1 l0 x14_1 l0 (l0.length : Int) x14_1 true ((rd_T58 l0 x14_1).f0) ((rd_T58 l0 x14_1).f1)) else (laws_attributesFair.j1 k1 l0 x14_1 l0 (l0.length : Int) x14_1 (decide ((((rd_T58 l0 x14_1).f1).length : Int) > 4096)) ((rd_T58 l0 x14_1).f0) ((rd_T58 l0 x14_1).f1)))) = some r := H
              have A6 := Aside0.mk A60
              clear A60
              have HC7 := Aside0.mk H
              clear H
              have p112 : 0 ≤ (x14_1 : Int) := of_decide_eq_true (by first | (with_reducible assumption) | assumption)
              have q112 : x14_1 < (l0.length : Int) := of_decide_eq_true (by first | (with_reducible assumption) | assumption)
              obtain ⟨ad112, A112_1, c112_1, e112, hx112_0, hx112_1, hl112_1, hi112_1⟩ := at_T58 HR0.out x14_1 p112 q112
              cases e112
              replace hx112_0 := (HB.out.cell (World.block_lt_of_cell? w _ hx112_0)).trans hx112_0
              replace hx112_1 := (HB.out.cell (World.block_lt_of_cell? w _ hx112_1)).trans hx112_1
              have HR112_1 := Aside0.mk hi112_1
              have HC112_1 := Aside0.mk hl112_1
              clear hi112_1 hl112_1
              replace p112 := eq_true p112
              replace q112 := eq_true q112
              go_upto_region 7 with (first | ((with_reducible refine gate_dst (N := 4) rfl ?_); (try (refine gate_guard (by rfl) ?_; dsimp only)); refine box_event ?hg (N := 4) ?hd (cs := #[.string (⟨#[]⟩ : ByteArray), .slice none 0 0]) (t := 58) ?hr ?_; (case hd => rfl); (case hg => rfl); (case hr => first | (go_simp; done) | (go_simp; rfl)); intro gb113 hg w8 hbox hb; have n0_ := Aside0.mk (below_step (by repeat (first | (with_reducible first | exact HB.out | apply below_alloc | apply pw_below_drewN | apply below_drew1) | exact HB.out)) hb); have n1_ := Aside0.mk (hbox); have n2_ := Aside0.mk ((by rw [hg]; exact (below_size (by repeat (first | (with_reducible first | exact HB.out | apply below_alloc | apply pw_below_drewN | apply below_drew1) | exact HB.out))) : w.heap.size ≤ gb113)); have n3_ := Aside0.mk ((by rw [hg]; exact (below_size (by repeat (first | (with_reducible first | exact HB.out | apply below_alloc | apply pw_below_drewN | apply below_drew1) | exact HB.out))) : w.heap.size ≤ gb113)); clear HB; have HB := n0_; have BK113 := n1_; have GW113 := n2_; have GE113 := n3_; clear n0_ n1_ n2_ n3_; clear hb hbox hg; have hcz9_0 : w8.cell? ⟨gb113, 0, none⟩ = some (.string (⟨#[]⟩ : ByteArray)) := (blk_cell BK113.out 0).trans rfl; have hcz9_1 : w8.cell? ⟨gb113, 1, none⟩ = some (.slice none 0 0) := (blk_cell BK113.out 1).trans rfl; have hfz9_0 := blk_frozen BK113.out 0; have hfz9_1 := blk_frozen BK113.out 1) | ((with_reducible refine gate_callee (f := 27) rfl ?_); refine goesL_ (some 22) rfl rfl Tryd.func27 (by kernel_rfl) rfl #[.string ((rd_T58 l0 x14_1).f0)] rfl (by (try simp only [List.map_toArray, List.map_cons, List.map_nil]); first | done | rfl | (simp only [List.length_drop, List.length_take]; rfl)) ?_; (with_reducible refine (spec_Prefixed.calls k1 ((rd_T58 l0 x14_1).f0) t114 t115 _ A6.out).mono ?_); rintro e w10 ⟨rfl, hb⟩; refine ⟨_, rfl, ?_⟩; have n0_ := Aside0.mk (blk_below (g := gb113) (o := .cells #[.string ((rd_T58 l0 x14_1).f0), .slice A112_1 ((rd_T58 l0 x14_1).f1).length c112_1] 58 (0, 0)) (by (with_reducible repeat (first | refine blk_drewN ?_ _ | refine blk_drew ?_ | refine blk_alloc ?_ _)); refine blk_put (cs := #[.string ((rd_T58 l0 x14_1).f0), .slice none 0 0]) ?_ 1 _ rfl; (with_reducible repeat (first | refine blk_drewN ?_ _ | refine blk_drew ?_ | refine blk_alloc ?_ _)); refine blk_put (cs := #[.string (⟨#[]⟩ : ByteArray), .slice none 0 0]) ?_ 0 _ rfl; (with_reducible repeat (first | refine blk_drewN ?_ _ | refine blk_drew ?_ | refine blk_alloc ?_ _)); exact BK113.out) hb); have n1_ := Aside0.mk (below_step (by repeat (first | (with_reducible first | exact HB.out | apply below_alloc | apply pw_below_drewN | apply below_drew1 | refine below_set ?_ GE113.out) | exact HB.out)) hb); clear BK113; clear HB; have BK113 := n0_; have HB := n1_; clear n0_ n1_; (try clear hb); (try clear hb2); (try clear hk); (try clear hi)))
              (try simp only [Act.put, List.setIfInBounds_toArray, List.set_cons_zero, List.set_cons_succ])
              go_cut [37] (fun v37 wc => ∃ (kq : Nat) (x37_6 : Bool), v37 = .bool x37_6 ∧ Aside0 (laws_attributesFair.j1 kq l0 x14_1 l0 (l0.length : Int) x14_1 x37_6 ((rd_T58 l0 x14_1).f0) ((rd_T58 l0 x14_1).f1) = some r) ∧ Aside0 (kq ≤ k1) ∧ Aside0 (wc.heap[gb113]? = some (.cells #[.string ((rd_T58 l0 x14_1).f0), (.slice A112_1 ((rd_T58 l0 x14_1).f1).length c112_1)] 58 (0, 0))) ∧ Aside0 (Below w.heap.size w wc))
              case first =>
                have H := HC7.out
                clear HC7
                by_cases c11 : t115.toList = ([] : List UInt8)
                · rw [if_pos c11] at H
                  have c11b0 : (t115.toList == ([] : List UInt8)) = true := beq_iff_eq.mpr c11
                  have c11b1 : (t115.toList != ([] : List UInt8)) = false := bne_eq_false_iff_eq.mpr c11
                  clear c11
                  (first | rw [c11b0] | (simp only [i64_w, i32_w]; rw [c11b0]) | skip)
                  have H' := Aside0.mk H
                  clear H
                  go_wp2
                  go_meet
                  case rel => exact ⟨_, (true), (by first | rfl | (simp; done) | (simp [*]; done)), H', ⟨by have := HK1.out; first | omega | exact Nat.le_refl _⟩, ⟨by (with_reducible repeat (first | refine blk_drewN ?_ _ | refine blk_drew ?_ | refine blk_alloc ?_ _)); exact BK113.out⟩, ⟨by repeat (first | (with_reducible first | exact HB.out | apply below_alloc | apply pw_below_drewN | apply below_drew1 | refine below_set ?_ GE113.out) | exact HB.out)⟩⟩
                · rw [if_neg c11] at H
                  have c11b0 : (t115.toList == ([] : List UInt8)) = false := beq_eq_false_iff_ne.mpr c11
                  have c11b1 : (t115.toList != ([] : List UInt8)) = true := bne_iff_ne.mpr c11
                  (first | rw [c11b0] | (simp only [i64_w, i32_w]; rw [c11b0]) | skip)
                  by_cases c12 : (t115.size : Int) > 255
                  · rw [if_pos c12] at H
                    have c12b0 : decide (255 < (t115.size : Int)) = true := decide_eq_true c12
                    have c12b1 : decide (255 < t115.size) = true := decide_eq_true (by omega)
                    clear c12
                    have H' := Aside0.mk H
                    clear H
                    go_wp2
                    go_meet
                    case rel => exact ⟨_, (true), (by first | rfl | (simp; done) | (simp [*]; done)), H', ⟨by have := HK1.out; first | omega | exact Nat.le_refl _⟩, ⟨by (with_reducible repeat (first | refine blk_drewN ?_ _ | refine blk_drew ?_ | refine blk_alloc ?_ _)); exact BK113.out⟩, ⟨by repeat (first | (with_reducible first | exact HB.out | apply below_alloc | apply pw_below_drewN | apply below_drew1 | refine below_set ?_ GE113.out) | exact HB.out)⟩⟩
                  · rw [if_neg c12] at H
                    have c12b0 : decide (255 < (t115.size : Int)) = false := decide_eq_false c12
                    have c12b1 : decide (255 < t115.size) = false := decide_eq_false (by omega)
                    clear c12
                    have H' := Aside0.mk H
                    clear H
                    have hcz13_0 : w10.cell? ⟨gb113, 0, none⟩ = some (.string ((rd_T58 l0 x14_1).f0)) := (blk_cell BK113.out 0).trans rfl
                    have hcz13_1 : w10.cell? ⟨gb113, 1, none⟩ = some (.slice A112_1 ((rd_T58 l0 x14_1).f1).length c112_1) := (blk_cell BK113.out 1).trans rfl
                    have hfz13_0 := blk_frozen BK113.out 0
                    have hfz13_1 := blk_frozen BK113.out 1
                    go_wp2
                    go_meet
                    case rel => exact ⟨_, (decide ((((rd_T58 l0 x14_1).f1).length : Int) > 4096)), (by first | rfl | (simp; done) | (simp [*]; done)), H', ⟨by have := HK1.out; first | omega | exact Nat.le_refl _⟩, ⟨by (with_reducible repeat (first | refine blk_drewN ?_ _ | refine blk_drew ?_ | refine blk_alloc ?_ _)); exact BK113.out⟩, ⟨by repeat (first | (with_reducible first | exact HB.out | apply below_alloc | apply pw_below_drewN | apply below_drew1 | refine below_set ?_ GE113.out) | exact HB.out)⟩⟩
              case rest =>
                clear HC7
                try clear c1
                try clear p1
                try clear q1
                try clear hx1
                try clear c2
                try clear c2b0
                try clear c2b1
                try clear p2
                try clear c3
                try clear c3b0
                try clear c4
                try clear c4b0
                try clear c5
                try clear c5b0
                try clear c8
                try clear c11
                try clear c11b0
                try clear c11b1
                try clear p11
                try clear q11
                try clear hx11
                try clear c12
                try clear c12b0
                try clear c12b1
                try clear hcz13_0
                try clear hcz13_1
                try clear hcz9_0
                try clear hcz9_1
                try clear hfz13_0
                try clear hfz13_1
                try clear hfz9_0
                try clear hfz9_1
                try clear hx112_0
                try clear hx112_1
                try clear p112
                try clear p2
                try clear q112
                obtain ⟨kq, x37_6, rfl, HA, HJ6, BK113, HB⟩ := hcut
                cases kq with
                | zero => exact absurd HA.out (by simp [laws_attributesFair.j1])
                | succ kj6 =>
                  have H := HA.out
                  clear HA
                  simp only [laws_attributesFair.j1] at H
                  by_cases c14 : x37_6 = true
                  · subst c14
                    have H1 : (some false) = some r := by rw [if_pos rfl] at H; exact H
                    clear H
                    have H := H1
                    clear H1
                    obtain rfl := Option.some.inj H
                    go_wp2
                    go_ret
                    exact ⟨by first | rfl | (simp [errW_none, errW_some] <;> rfl) | (simp [*, errW_none, errW_some] <;> rfl), by repeat (first | (with_reducible first | exact HB.out | apply below_alloc | apply pw_below_drewN | apply below_drew1 | refine below_set ?_ GE113.out) | exact HB.out)⟩
                  · replace c14 := Bool.eq_false_iff.mpr c14
                    subst c14
                    have H1 : (if 0 ≤ x14_1 then (if x14_1 ≤ (l0.length : Int) then ((some (l0.take (x14_1 : Int).toNat : List (S58))).bind fun y116 => (laws_attributesFair.l1 kj6 l0 l0 (l0.length : Int) x14_1 y116 (y116.length : Int) 0 ((rd_T58 l0 x14_1).f0) ((rd_T58 l0 x14_1).f1))) else (none)) else (none)) = some r := by rw [if_neg (show ¬ (false = true) by decide)] at H; exact H
                    clear H
                    have H := H1
                    clear H1
                    by_cases c15 : 0 ≤ x14_1
                    · rw [if_pos c15] at H
                      have c15b0 := eq_true c15
                      have c15b1 : decide (0 ≤ x14_1) = true := decide_eq_true c15
                      clear c15
                      by_cases c16 : x14_1 ≤ (l0.length : Int)
                      · rw [if_pos c16] at H
                        have c16b0 := eq_true c16
                        have c16b1 : decide (x14_1 ≤ (l0.length : Int)) = true := decide_eq_true c16
                        clear c16
                        obtain ⟨y116, hy116⟩ : ∃ y_ : List (S58), y_ = (l0.take (x14_1 : Int).toNat) := ⟨_, rfl⟩
                        replace H : (laws_attributesFair.l1 kj6 l0 l0 (l0.length : Int) x14_1 y116 (y116.length : Int) 0 ((rd_T58 l0 x14_1).f0) ((rd_T58 l0 x14_1).f1)) = some r := by first | (rw [hy116]; with_reducible exact H) | (have H2_ := (Option.bind_some _ _).symm.trans H; rw [hy116]; with_reducible exact H2_) | (have H2_ := (Option.bind_some _ _).symm.trans H; with_reducible exact H2_) | with_reducible exact H | (rw [hy116]; exact H) | exact H
                        have Ny116 := Aside0.mk hy116
                        clear hy116
                        have H' := Aside0.mk H
                        clear H
                        have q17 : (x14_1 : Int) ≤ ((l0.length : Int) : Int) := of_decide_eq_true (by first | (with_reducible assumption) | assumption)
                        obtain ⟨i017, hi017, _, hsz17, _⟩ := info_parts info58
                        have hroom17 : l0.length ≤ c0 := HC0.out
                        have hC17 : Kd.C k58 _ (some ad112) l0.length l0 := HR0.out
                        have hcut17 := cut_to (P := Tryd.prog) 22 58 .i64 Tryd.underlying22 hi017 (some ad112) l0.length c0 x14_1 (of_decide_eq_true (by first | (with_reducible assumption) | assumption)) q17 hroom17
                        have hr17 := Kd.C_take (m := (x14_1 : Int).toNat) hC17 (by omega)
                        have hy17 : y116.length = (x14_1 : Int).toNat := (by rw [Ny116.out, List.length_take]; omega)
                        rw [← Ny116.out] at hr17
                        rw [← hy17] at hcut17
                        have HR119 := Aside0.mk hr17
                        have HC119 := Aside0.mk (show y116.length ≤ c0 from by omega)
                        clear hr17 hC17 hroom17 hi017 hsz17
                        have KY17 := Aside0.mk hy17
                        clear hy17
                        replace q17 := eq_true q17
                        go_wp2
                        go_loopg [42] kj6 (fun kq v42 w' => ∃ (x42_3 : Int), v42 = .int .i64 x42_3 ∧ Aside0 (laws_attributesFair.l1 kq l0 l0 (l0.length : Int) x14_1 y116 (y116.length : Int) x42_3 ((rd_T58 l0 x14_1).f0) ((rd_T58 l0 x14_1).f1) = some r) ∧ Aside0 (kq ≤ kj6) ∧ Aside0 (w'.heap[gb113]? = some (.cells #[.string ((rd_T58 l0 x14_1).f0), (.slice A112_1 ((rd_T58 l0 x14_1).f1).length c112_1)] 58 (0, 0))) ∧ Aside0 (Below w.heap.size w w'))
                        case atStart => exact ⟨(0), (by first | rfl | (simp; done) | (simp [*]; done)), H', ⟨Nat.le_refl _⟩, ⟨by (with_reducible repeat (first | refine blk_drewN ?_ _ | refine blk_drew ?_ | refine blk_alloc ?_ _)); exact BK113.out⟩, ⟨by repeat (first | (with_reducible first | exact HB.out | apply below_alloc | apply pw_below_drewN | apply below_drew1 | refine below_set ?_ GE113.out) | exact HB.out)⟩⟩
                        case round =>
                          clear H'
                          try clear c1
                          try clear p1
                          try clear q1
                          try clear hx1
                          try clear c2
                          try clear c2b0
                          try clear c2b1
                          try clear p2
                          try clear c3
                          try clear c3b0
                          try clear c4
                          try clear c4b0
                          try clear c5
                          try clear c5b0
                          try clear c8
                          try clear c11
                          try clear c11b0
                          try clear c11b1
                          try clear p11
                          try clear q11
                          try clear hx11
                          try clear c12
                          try clear c12b0
                          try clear c12b1
                          try clear c14
                          try clear c15
                          try clear c15b0
                          try clear c15b1
                          try clear c16
                          try clear c16b0
                          try clear c16b1
                          try clear q17
                          try clear hcz13_0
                          try clear hcz13_1
                          try clear hcz9_0
                          try clear hcz9_1
                          try clear hfz13_0
                          try clear hfz13_1
                          try clear hfz9_0
                          try clear hfz9_1
                          try clear hx112_0
                          try clear hx112_1
                          try clear p1
                          try clear p11
                          try clear p112
                          try clear p2
                          try clear q1
                          try clear q11
                          try clear q112
                          try clear q17
                          obtain ⟨x42_3, rfl, HA, HK3, BK113, HB⟩ := hrel
                          cases gk with
                          | zero => exact absurd HA.out (by simp [laws_attributesFair.l1])
                          | succ k3 =>
                            have H := HA.out
                            clear HA
                            simp only [laws_attributesFair.l1] at H
                            by_cases c18 : x42_3 < (y116.length : Int)
                            · rw [if_pos c18] at H
                              have c18b0 : decide (x42_3 < (y116.length : Int)) = true := decide_eq_true c18
                              clear c18
                              by_cases c19 : 0 ≤ x42_3
                              · rw [if_pos c19] at H
                                have c19b0 : decide (0 ≤ x42_3) = true := decide_eq_true c19
                                clear c19
                                by_cases c20 : x42_3 < (y116.length : Int)
                                · rw [if_pos c20] at H
                                  have c20b0 : decide (x42_3 < (y116.length : Int)) = true := decide_eq_true c20
                                  clear c20
                                  by_cases c21 : ((rd_T58 l0 x14_1).f0).toList = ((rd_T58 y116 x42_3).f0).toList
                                  · rw [if_pos c21] at H
                                    have c21b0 : (((rd_T58 l0 x14_1).f0).toList == ((rd_T58 y116 x42_3).f0).toList) = true := beq_iff_eq.mpr c21
                                    have c21b1 : (((rd_T58 l0 x14_1).f0).toList != ((rd_T58 y116 x42_3).f0).toList) = false := bne_eq_false_iff_eq.mpr c21
                                    clear c21
                                    obtain rfl := Option.some.inj H
                                    have p120 : 0 ≤ (x42_3 : Int) := of_decide_eq_true (by first | (with_reducible assumption) | assumption)
                                    have q120 : x42_3 < (y116.length : Int) := of_decide_eq_true (by first | (with_reducible assumption) | assumption)
                                    obtain ⟨ad120, A120_1, c120_1, e120, hx120_0, hx120_1, hl120_1, hi120_1⟩ := at_T58 HR119.out x42_3 p120 q120
                                    obtain rfl : ad112 = ad120 := (by injection e120)
                                    replace hx120_0 := (HB.out.cell (World.block_lt_of_cell? w _ hx120_0)).trans hx120_0
                                    replace hx120_1 := (HB.out.cell (World.block_lt_of_cell? w _ hx120_1)).trans hx120_1
                                    have HR120_1 := Aside0.mk hi120_1
                                    have HC120_1 := Aside0.mk hl120_1
                                    clear hi120_1 hl120_1
                                    replace p120 := eq_true p120
                                    replace q120 := eq_true q120
                                    go_wp2_with (first | ((with_reducible refine gate_dst (N := 8) rfl ?_); (try (refine gate_guard (by rfl) ?_; dsimp only)); refine box_event ?hg (N := 8) ?hd (cs := #[.string (⟨#[]⟩ : ByteArray), .slice none 0 0]) (t := 58) ?hr ?_; (case hd => rfl); (case hg => rfl); (case hr => first | (go_simp; done) | (go_simp; rfl)); intro gb121 hg w22 hbox hb; have n0_ := Aside0.mk (blk_below (g := gb113) (o := .cells #[.string ((rd_T58 l0 x14_1).f0), .slice A112_1 ((rd_T58 l0 x14_1).f1).length c112_1] 58 (0, 0)) (by (with_reducible repeat (first | refine blk_drewN ?_ _ | refine blk_drew ?_ | refine blk_alloc ?_ _)); exact BK113.out) hb); have n1_ := Aside0.mk (below_step (by repeat (first | (with_reducible first | exact HB.out | apply below_alloc | apply pw_below_drewN | apply below_drew1 | refine below_set ?_ GE113.out) | exact HB.out)) hb); have n2_ := Aside0.mk (hbox); have n3_ := Aside0.mk ((by rw [hg]; exact (below_size (by repeat (first | (with_reducible first | exact HB.out | apply below_alloc | apply pw_below_drewN | apply below_drew1 | refine below_set ?_ GE113.out) | exact HB.out))) : w.heap.size ≤ gb121)); have n4_ := Aside0.mk ((by rw [hg]; exact (below_size (by repeat (first | (with_reducible first | exact HB.out | apply below_alloc | apply pw_below_drewN | apply below_drew1 | refine below_set ?_ GE113.out) | exact HB.out))) : w.heap.size ≤ gb121)); have n5_ := Aside0.mk ((by rw [hg]; exact Nat.ne_of_lt (blk_lt (g := gb113) (o := .cells #[.string ((rd_T58 l0 x14_1).f0), .slice A112_1 ((rd_T58 l0 x14_1).f1).length c112_1] 58 (0, 0)) (by (with_reducible repeat (first | refine blk_drewN ?_ _ | refine blk_drew ?_ | refine blk_alloc ?_ _)); exact BK113.out)) : gb113 ≠ gb121)); have n6_ := Aside0.mk ((by rw [hg]; exact Nat.ne_of_gt (blk_lt (g := gb113) (o := .cells #[.string ((rd_T58 l0 x14_1).f0), .slice A112_1 ((rd_T58 l0 x14_1).f1).length c112_1] 58 (0, 0)) (by (with_reducible repeat (first | refine blk_drewN ?_ _ | refine blk_drew ?_ | refine blk_alloc ?_ _)); exact BK113.out)) : gb121 ≠ gb113)); clear BK113; clear HB; have BK113 := n0_; have HB := n1_; have BK121 := n2_; have GW121 := n3_; have GE121 := n4_; have NB113_121 := n5_; have NB121_113 := n6_; clear n0_ n1_ n2_ n3_ n4_ n5_ n6_; clear hb hbox hg; have hnb23 := NB121_113.out; have hnc23 := NB113_121.out; have hcz24_0 : w22.cell? ⟨gb121, 0, none⟩ = some (.string (⟨#[]⟩ : ByteArray)) := (blk_cell BK121.out 0).trans rfl; have hcz24_1 : w22.cell? ⟨gb121, 1, none⟩ = some (.slice none 0 0) := (blk_cell BK121.out 1).trans rfl; have hfz24_0 := blk_frozen BK121.out 0; have hfz24_1 := blk_frozen BK121.out 1; have hcz25_0 : w22.cell? ⟨gb113, 0, none⟩ = some (.string ((rd_T58 l0 x14_1).f0)) := (blk_cell BK113.out 0).trans rfl; have hcz25_1 : w22.cell? ⟨gb113, 1, none⟩ = some (.slice A112_1 ((rd_T58 l0 x14_1).f1).length c112_1) := (blk_cell BK113.out 1).trans rfl; have hfz25_0 := blk_frozen BK113.out 0; have hfz25_1 := blk_frozen BK113.out 1))
                                    go_ret
                                    exact ⟨by first | rfl | (simp [errW_none, errW_some] <;> rfl) | (simp [*, errW_none, errW_some] <;> rfl), by repeat (first | (with_reducible first | exact HB.out | apply below_alloc | apply pw_below_drewN | apply below_drew1 | refine below_set ?_ GE113.out | refine below_set ?_ GE121.out) | exact HB.out)⟩
                                  · rw [if_neg c21] at H
                                    have c21b0 : (((rd_T58 l0 x14_1).f0).toList == ((rd_T58 y116 x42_3).f0).toList) = false := beq_eq_false_iff_ne.mpr c21
                                    have c21b1 : (((rd_T58 l0 x14_1).f0).toList != ((rd_T58 y116 x42_3).f0).toList) = true := bne_iff_ne.mpr c21
                                    have H' := Aside0.mk H
                                    clear H
                                    have p120 : 0 ≤ (x42_3 : Int) := of_decide_eq_true (by first | (with_reducible assumption) | assumption)
                                    have q120 : x42_3 < (y116.length : Int) := of_decide_eq_true (by first | (with_reducible assumption) | assumption)
                                    obtain ⟨ad120, A120_1, c120_1, e120, hx120_0, hx120_1, hl120_1, hi120_1⟩ := at_T58 HR119.out x42_3 p120 q120
                                    obtain rfl : ad112 = ad120 := (by injection e120)
                                    replace hx120_0 := (HB.out.cell (World.block_lt_of_cell? w _ hx120_0)).trans hx120_0
                                    replace hx120_1 := (HB.out.cell (World.block_lt_of_cell? w _ hx120_1)).trans hx120_1
                                    have HR120_1 := Aside0.mk hi120_1
                                    have HC120_1 := Aside0.mk hl120_1
                                    clear hi120_1 hl120_1
                                    replace p120 := eq_true p120
                                    replace q120 := eq_true q120
                                    go_wp2_with (first | ((with_reducible refine gate_dst (N := 8) rfl ?_); (try (refine gate_guard (by rfl) ?_; dsimp only)); refine box_event ?hg (N := 8) ?hd (cs := #[.string (⟨#[]⟩ : ByteArray), .slice none 0 0]) (t := 58) ?hr ?_; (case hd => rfl); (case hg => rfl); (case hr => first | (go_simp; done) | (go_simp; rfl)); intro gb121 hg w26 hbox hb; have n0_ := Aside0.mk (blk_below (g := gb113) (o := .cells #[.string ((rd_T58 l0 x14_1).f0), .slice A112_1 ((rd_T58 l0 x14_1).f1).length c112_1] 58 (0, 0)) (by (with_reducible repeat (first | refine blk_drewN ?_ _ | refine blk_drew ?_ | refine blk_alloc ?_ _)); exact BK113.out) hb); have n1_ := Aside0.mk (below_step (by repeat (first | (with_reducible first | exact HB.out | apply below_alloc | apply pw_below_drewN | apply below_drew1 | refine below_set ?_ GE113.out) | exact HB.out)) hb); have n2_ := Aside0.mk (hbox); have n3_ := Aside0.mk ((by rw [hg]; exact (below_size (by repeat (first | (with_reducible first | exact HB.out | apply below_alloc | apply pw_below_drewN | apply below_drew1 | refine below_set ?_ GE113.out) | exact HB.out))) : w.heap.size ≤ gb121)); have n4_ := Aside0.mk ((by rw [hg]; exact (below_size (by repeat (first | (with_reducible first | exact HB.out | apply below_alloc | apply pw_below_drewN | apply below_drew1 | refine below_set ?_ GE113.out) | exact HB.out))) : w.heap.size ≤ gb121)); have n5_ := Aside0.mk ((by rw [hg]; exact Nat.ne_of_lt (blk_lt (g := gb113) (o := .cells #[.string ((rd_T58 l0 x14_1).f0), .slice A112_1 ((rd_T58 l0 x14_1).f1).length c112_1] 58 (0, 0)) (by (with_reducible repeat (first | refine blk_drewN ?_ _ | refine blk_drew ?_ | refine blk_alloc ?_ _)); exact BK113.out)) : gb113 ≠ gb121)); have n6_ := Aside0.mk ((by rw [hg]; exact Nat.ne_of_gt (blk_lt (g := gb113) (o := .cells #[.string ((rd_T58 l0 x14_1).f0), .slice A112_1 ((rd_T58 l0 x14_1).f1).length c112_1] 58 (0, 0)) (by (with_reducible repeat (first | refine blk_drewN ?_ _ | refine blk_drew ?_ | refine blk_alloc ?_ _)); exact BK113.out)) : gb121 ≠ gb113)); clear BK113; clear HB; have BK113 := n0_; have HB := n1_; have BK121 := n2_; have GW121 := n3_; have GE121 := n4_; have NB113_121 := n5_; have NB121_113 := n6_; clear n0_ n1_ n2_ n3_ n4_ n5_ n6_; clear hb hbox hg; have hnb27 := NB121_113.out; have hnc27 := NB113_121.out; have hcz28_0 : w26.cell? ⟨gb121, 0, none⟩ = some (.string (⟨#[]⟩ : ByteArray)) := (blk_cell BK121.out 0).trans rfl; have hcz28_1 : w26.cell? ⟨gb121, 1, none⟩ = some (.slice none 0 0) := (blk_cell BK121.out 1).trans rfl; have hfz28_0 := blk_frozen BK121.out 0; have hfz28_1 := blk_frozen BK121.out 1; have hcz29_0 : w26.cell? ⟨gb113, 0, none⟩ = some (.string ((rd_T58 l0 x14_1).f0)) := (blk_cell BK113.out 0).trans rfl; have hcz29_1 : w26.cell? ⟨gb113, 1, none⟩ = some (.slice A112_1 ((rd_T58 l0 x14_1).f1).length c112_1) := (blk_cell BK113.out 1).trans rfl; have hfz29_0 := blk_frozen BK113.out 0; have hfz29_1 := blk_frozen BK113.out 1))
                                    go_roundg k3
                                    case measure => have := HK1.out; have := HJ6.out; have := HK3.out; omega
                                    case rel => exact ⟨(wrap64 (x42_3 + 1)), (by first | rfl | (simp; done) | (simp [*]; done)), H', ⟨by have := HK1.out; have := HJ6.out; have := HK3.out; omega⟩, ⟨by (with_reducible repeat (first | refine blk_drewN ?_ _ | refine blk_drew ?_ | refine blk_alloc ?_ _)); refine blk_far ?_ NB113_121.out _; (with_reducible repeat (first | refine blk_drewN ?_ _ | refine blk_drew ?_ | refine blk_alloc ?_ _)); refine blk_far ?_ NB113_121.out _; (with_reducible repeat (first | refine blk_drewN ?_ _ | refine blk_drew ?_ | refine blk_alloc ?_ _)); exact BK113.out⟩, ⟨by repeat (first | (with_reducible first | exact HB.out | apply below_alloc | apply pw_below_drewN | apply below_drew1 | refine below_set ?_ GE113.out | refine below_set ?_ GE121.out) | exact HB.out)⟩⟩
                                · rw [if_neg c20] at H
                                  exact absurd H (by simp)
                              · rw [if_neg c19] at H
                                exact absurd H (by simp)
                            · rw [if_neg c18] at H
                              have c18b0 : decide (x42_3 < (y116.length : Int)) = false := decide_eq_false c18
                              clear c18
                              have H' := Aside0.mk H
                              clear H
                              go_wp2
                              go_roundg k3
                              case measure => have := HK1.out; have := HJ6.out; have := HK3.out; omega
                              case rel => exact ⟨(wrap64 (x14_1 + 1)), (by first | rfl | (simp; done) | (simp [*]; done)), H', ⟨by have := HK1.out; have := HJ6.out; have := HK3.out; omega⟩, ⟨by repeat (first | (with_reducible first | exact HB.out | apply below_alloc | apply pw_below_drewN | apply below_drew1 | refine below_set ?_ GE113.out) | exact HB.out)⟩⟩
                      · rw [if_neg c16] at H
                        exact absurd H (by simp)
                    · rw [if_neg c15] at H
                      exact absurd H (by simp)
            · rw [if_neg c5] at H
              exact absurd H (by simp)
          · rw [if_neg c4] at H
            exact absurd H (by simp)
        · rw [if_neg c3] at H
          have c3b0 : decide (x14_1 < (l0.length : Int)) = false := decide_eq_false c3
          clear c3
          obtain rfl := Option.some.inj H
          go_wp2
          go_ret
          exact ⟨by first | rfl | (simp [errW_none, errW_some] <;> rfl) | (simp [*, errW_none, errW_some] <;> rfl), by repeat (first | (with_reducible first | exact HB.out | apply below_alloc | apply pw_below_drewN | apply below_drew1) | exact HB.out)⟩

-- NOT PRINTED: function 28 (impl_split)

/-- A state of type 107 at block g of W; what its slices lead to came in by w0. -/
def IsS107 (w0 W : World) (g : Nat) (f0 : List (S133)) (f1 : List (S133)) (f2 : Int) (f3 : Int) : Prop := ∃ A0 c0, ∃ A1 c1, W.heap[g]? = some (.cells #[.slice A0 f0.length c0, .slice A1 f1.length c1, .int .i64 f2, .int .i64 f3] 107 (0, 0)) ∧ w0.heap.size ≤ g ∧ Kd.C k133 w0 A0 f0.length f0 ∧ Kd.C k133 w0 A1 f1.length f1
theorem IsS107.grown {w0 W : World} {g : Nat} {f0 : List (S133)} {f1 : List (S133)} {f2 : Int} {f3 : Int} {W1 : World} {row : Option Nat} (h : IsS107 w0 W g f0 f1 f2 f3) (hw : W.grownBy W1 row) (hne : some g ≠ row) : IsS107 w0 W1 g f0 f1 f2 f3 := by
  obtain ⟨A0, c0, A1, c1, hb, hg, hr0, hr1⟩ := h
  exact ⟨A0, c0, A1, c1, blk_grown hb hw hne, hg, hr0, hr1⟩
theorem IsS107.own_neN {w0 W : World} {g : Nat} {f0 : List (S133)} {f1 : List (S133)} {f2 : Int} {f3 : Int} {α : Type} {d : Kd α} {e : Nat} {base : Nat} {ok : Nat → Prop} {v : Value} {xs : List α} (h : IsS107 w0 W g f0 f1 f2 f3) (ho : Kd.N d e W base ok v xs) (ht : e ≠ 107) : some g ≠ v.ownBlock := by
  obtain ⟨A0, c0, A1, c1, hb, hg, hr0, hr1⟩ := h
  exact Kd.N_ne ho hb ht
theorem IsS107.fresh {w0 W : World} {g : Nat} {f0 : List (S133)} {f1 : List (S133)} {f2 : Int} {f3 : Int} (h : IsS107 w0 W g f0 f1 f2 f3) : ∀ k, W.heap.size ≤ k → k ≠ g := by
  obtain ⟨A0, c0, A1, c1, hb, hg, hr0, hr1⟩ := h
  exact Kd.freshB hb
theorem IsS107.kept {w0 W : World} {g : Nat} {f0 : List (S133)} {f1 : List (S133)} {f2 : Int} {f3 : Int} {W1 : World} {S : Nat → Prop} (h : IsS107 w0 W g f0 f1 f2 f3) (hk : Kept W W1 S) (hne : ¬ S g) : IsS107 w0 W1 g f0 f1 f2 f3 := by
  obtain ⟨A0, c0, A1, c1, hb, hg, hr0, hr1⟩ := h
  exact ⟨A0, c0, A1, c1, blk_kept hb hk hne, hg, hr0, hr1⟩
theorem IsS107.below {w0 W : World} {g : Nat} {f0 : List (S133)} {f1 : List (S133)} {f2 : Int} {f3 : Int} {W1 : World} (h : IsS107 w0 W g f0 f1 f2 f3) (hw : Below W.heap.size W W1) : IsS107 w0 W1 g f0 f1 f2 f3 := h.grown (grown_of_below hw none) (by simp)
theorem IsS107.alloc {w0 W : World} {g : Nat} {f0 : List (S133)} {f1 : List (S133)} {f2 : Int} {f3 : Int} (h : IsS107 w0 W g f0 f1 f2 f3) (o : Obj) : IsS107 w0 (W.alloc o) g f0 f1 f2 f3 := h.below (below_alloc (Below.refl _ _) o)
theorem IsS107.drewN {w0 W : World} {g : Nat} {f0 : List (S133)} {f1 : List (S133)} {f2 : Int} {f3 : Int} (h : IsS107 w0 W g f0 f1 f2 f3) (m : Nat) : IsS107 w0 (W.drewN m) g f0 f1 f2 f3 := h
theorem IsS107.drew {w0 W : World} {g : Nat} {f0 : List (S133)} {f1 : List (S133)} {f2 : Int} {f3 : Int} (h : IsS107 w0 W g f0 f1 f2 f3) : IsS107 w0 W.drew g f0 f1 f2 f3 := h
theorem IsS107.at_ {w0 W : World} {g : Nat} {f0 : List (S133)} {f1 : List (S133)} {f2 : Int} {f3 : Int} {w' : World} {m : Nat} (hq : W.drewN m = w') (h : IsS107 w0 W g f0 f1 f2 f3) : IsS107 w0 w' g f0 f1 f2 f3 := by subst hq; exact IsS107.drewN h m
theorem IsS107.apart {w0 W : World} {g : Nat} {f0 : List (S133)} {f1 : List (S133)} {f2 : Int} {f3 : Int} {α : Type} {d : Kd α} {e : Nat} {base : Nat} {ok : Nat → Prop} {v : Value} {xs : List α} (h : IsS107 w0 W g f0 f1 f2 f3) (ho : d.R e W base ok v xs) (ht : ∀ q, q ∈ e :: d.E → q ≠ 107) : d.R e W base (fun k => ok k ∧ k ≠ g) v xs := by
  obtain ⟨A0, c0, A1, c1, hb, hg, hr0, hr1⟩ := h
  exact Kd.R_types ho hb ht
theorem IsS107.own_ne {w0 W : World} {g : Nat} {f0 : List (S133)} {f1 : List (S133)} {f2 : Int} {f3 : Int} {α : Type} {d : Kd α} {e : Nat} {base : Nat} {ok : Nat → Prop} {v : Value} {xs : List α} (h : IsS107 w0 W g f0 f1 f2 f3) (ho : d.R e W base ok v xs) (ht : e ≠ 107) : some g ≠ v.ownBlock := by
  obtain ⟨A0, c0, A1, c1, hb, hg, hr0, hr1⟩ := h
  exact Kd.R_ne ho hb ht
theorem IsS107.apartQ {w0 W : World} {g : Nat} {f0 : List (S133)} {f1 : List (S133)} {f2 : Int} {f3 : Int} {α : Type} {d : Kd α} {e : Nat} {base : Nat} {ok : Nat → Prop} {v : Value} {xs : List α} (h : IsS107 w0 W g f0 f1 f2 f3) (ho : d.Q e W base ok v xs) (ht : ∀ q, q ∈ e :: d.E → q ≠ 107) : d.Q e W base (fun k => ok k ∧ k ≠ g) v xs := by
  obtain ⟨A0, c0, A1, c1, hb, hg, hr0, hr1⟩ := h
  exact Kd.Q_types ho hb ht
theorem IsS107.own_neQ {w0 W : World} {g : Nat} {f0 : List (S133)} {f1 : List (S133)} {f2 : Int} {f3 : Int} {α : Type} {d : Kd α} {e : Nat} {base : Nat} {ok : Nat → Prop} {v : Value} {xs : List α} (h : IsS107 w0 W g f0 f1 f2 f3) (ho : d.Q e W base ok v xs) (ht : e ≠ 107) : some g ≠ v.ownBlock := by
  obtain ⟨A0, c0, A1, c1, hb, hg, hr0, hr1⟩ := h
  exact Kd.Q_ne ho hb ht
theorem IsS107.apartS {w0 W : World} {g : Nat} {f0 : List (S133)} {f1 : List (S133)} {f2 : Int} {f3 : Int} {α : Type} {d : Kd α} {e : Nat} {base : Nat} {ok : Nat → Prop} {v : Value} {xs : List α} (h : IsS107 w0 W g f0 f1 f2 f3) (ho : d.S e W base ok v xs) (ht : ∀ q, q ∈ e :: d.E → q ≠ 107) : d.S e W base (fun k => ok k ∧ k ≠ g) v xs := by
  obtain ⟨A0, c0, A1, c1, hb, hg, hr0, hr1⟩ := h
  exact Kd.S_types ho hb ht
theorem IsS107.own_neS {w0 W : World} {g : Nat} {f0 : List (S133)} {f1 : List (S133)} {f2 : Int} {f3 : Int} {α : Type} {d : Kd α} {e : Nat} {base : Nat} {ok : Nat → Prop} {v : Value} {xs : List α} (h : IsS107 w0 W g f0 f1 f2 f3) (ho : d.S e W base ok v xs) (ht : e ≠ 107) : some g ≠ v.ownBlock := by
  obtain ⟨A0, c0, A1, c1, hb, hg, hr0, hr1⟩ := h
  exact Kd.S_ne ho hb ht
theorem IsS107.lt {w0 W : World} {g : Nat} {f0 : List (S133)} {f1 : List (S133)} {f2 : Int} {f3 : Int} (h : IsS107 w0 W g f0 f1 f2 f3) : g < W.heap.size := by
  obtain ⟨A0, c0, A1, c1, hb, hg, hr0, hr1⟩ := h
  exact blk_lt hb
theorem IsS107.ge {w0 W : World} {g : Nat} {f0 : List (S133)} {f1 : List (S133)} {f2 : Int} {f3 : Int} (h : IsS107 w0 W g f0 f1 f2 f3) : w0.heap.size ≤ g := by
  obtain ⟨A0, c0, A1, c1, hb, hg, hr0, hr1⟩ := h
  exact hg
theorem IsS107.ne_blk {w0 W : World} {g : Nat} {f0 : List (S133)} {f1 : List (S133)} {f2 : Int} {f3 : Int} {a : Nat} {cs : Array Value} {t : TypeId} {fr : Nat × Nat} (h : IsS107 w0 W g f0 f1 f2 f3) (hb2 : W.heap[a]? = some (.cells cs t fr)) (ht : t ≠ 107) : g ≠ a := by
  obtain ⟨A0, c0, A1, c1, hb, hg, hr0, hr1⟩ := h
  rintro rfl
  rw [hb] at hb2
  injection hb2 with hb2
  injection hb2 with _ ht2
  exact ht ht2.symm
theorem IsS107.far {w0 W : World} {g : Nat} {f0 : List (S133)} {f1 : List (S133)} {f2 : Int} {f3 : Int} {p : Addr} (h : IsS107 w0 W g f0 f1 f2 f3) (hne : g ≠ p.block) (u : Value) : IsS107 w0 (W.setCell p u) g f0 f1 f2 f3 := by
  obtain ⟨A0, c0, A1, c1, hb, hg, hr0, hr1⟩ := h
  exact ⟨A0, c0, A1, c1, blk_far hb hne u, hg, hr0, hr1⟩
theorem cellS107_0 {W : World} {g : Nat} {A0 : Option Addr} {c0 : Nat} {A1 : Option Addr} {c1 : Nat} {f0 : List (S133)} {f1 : List (S133)} {f2 : Int} {f3 : Int} (h : W.heap[g]? = some (.cells #[.slice A0 f0.length c0, .slice A1 f1.length c1, .int .i64 f2, .int .i64 f3] 107 (0, 0))) : W.cell? ⟨g, 0, none⟩ = some (.slice A0 f0.length c0) := (blk_cell h 0).trans rfl
theorem cellS107_1 {W : World} {g : Nat} {A0 : Option Addr} {c0 : Nat} {A1 : Option Addr} {c1 : Nat} {f0 : List (S133)} {f1 : List (S133)} {f2 : Int} {f3 : Int} (h : W.heap[g]? = some (.cells #[.slice A0 f0.length c0, .slice A1 f1.length c1, .int .i64 f2, .int .i64 f3] 107 (0, 0))) : W.cell? ⟨g, 1, none⟩ = some (.slice A1 f1.length c1) := (blk_cell h 1).trans rfl
theorem cellS107_2 {W : World} {g : Nat} {A0 : Option Addr} {c0 : Nat} {A1 : Option Addr} {c1 : Nat} {f0 : List (S133)} {f1 : List (S133)} {f2 : Int} {f3 : Int} (h : W.heap[g]? = some (.cells #[.slice A0 f0.length c0, .slice A1 f1.length c1, .int .i64 f2, .int .i64 f3] 107 (0, 0))) : W.cell? ⟨g, 2, none⟩ = some (.int .i64 f2) := (blk_cell h 2).trans rfl
theorem IsS107.set_2 {w0 W : World} {g : Nat} {f0 : List (S133)} {f1 : List (S133)} {f2 : Int} {f3 : Int} (h : IsS107 w0 W g f0 f1 f2 f3) (x : Int) : IsS107 w0 (W.setCell ⟨g, 2, none⟩ (.int .i64 x)) g f0 f1 x f3 := by
  obtain ⟨A0, c0, A1, c1, hb, hg, hr0, hr1⟩ := h
  exact ⟨A0, c0, A1, c1, by simpa using blk_set hb 2 (.int .i64 x), hg, hr0, hr1⟩
theorem cellS107_3 {W : World} {g : Nat} {A0 : Option Addr} {c0 : Nat} {A1 : Option Addr} {c1 : Nat} {f0 : List (S133)} {f1 : List (S133)} {f2 : Int} {f3 : Int} (h : W.heap[g]? = some (.cells #[.slice A0 f0.length c0, .slice A1 f1.length c1, .int .i64 f2, .int .i64 f3] 107 (0, 0))) : W.cell? ⟨g, 3, none⟩ = some (.int .i64 f3) := (blk_cell h 3).trans rfl
theorem IsS107.set_3 {w0 W : World} {g : Nat} {f0 : List (S133)} {f1 : List (S133)} {f2 : Int} {f3 : Int} (h : IsS107 w0 W g f0 f1 f2 f3) (x : Int) : IsS107 w0 (W.setCell ⟨g, 3, none⟩ (.int .i64 x)) g f0 f1 f2 x := by
  obtain ⟨A0, c0, A1, c1, hb, hg, hr0, hr1⟩ := h
  exact ⟨A0, c0, A1, c1, by simpa using blk_set hb 3 (.int .i64 x), hg, hr0, hr1⟩
theorem IsS107.new (w0 W : World) (A0 : Option Addr) (c0 : Nat) (A1 : Option Addr) (c1 : Nat) (f0 : List (S133)) (f1 : List (S133)) (f2 : Int) (f3 : Int) (hB : Below w0.heap.size w0 W) (hr0 : Kd.C k133 w0 A0 f0.length f0) (hr1 : Kd.C k133 w0 A1 f1.length f1) : IsS107 w0 (W.alloc (.cells #[.slice A0 f0.length c0, .slice A1 f1.length c1, .int .i64 f2, .int .i64 f3] 107)) W.heap.size f0 f1 f2 f3 := ⟨A0, c0, A1, c1, by simpa using heap_alloc_new W _, hB.size, hr0, hr1⟩

/-! ### compactext4_xattrState_init: function 50 -/
def compactext4_xattrState_init.f (s0_0 : List (S133)) (s0_1 : List (S133)) (s0_2 : Int) (s0_3 : Int) : Option (Int × Int) := some (96, 4060)
set_option maxHeartbeats 8000000 in
set_option maxRecDepth 100000 in
theorem compactext4_xattrState_init.calls (g : Nat) (s0_0 : List (S133)) (s0_1 : List (S133)) (s0_2 : Int) (s0_3 : Int) (r1 : Int) (r2 : Int) (w0 w : World) (hI : IsS107 w0 w g s0_0 s0_1 s0_2 s0_3) (hB : Below w0.heap.size w0 w) (h : compactext4_xattrState_init.f s0_0 s0_1 s0_2 s0_3 = some (r1, r2)) :
    Calls Tryd.prog 50 #[.pointer (some ⟨g, 0, none⟩)] w fun e w' => e = .returned (.tuple #[]) ∧ IsS107 w0 w' g s0_0 s0_1 r1 r2 ∧ Below w0.heap.size w0 w' ∧ KeepBut w w' g none := by
  have HI0 := Aside0.mk hI
  have HK := Aside0.mk (KeepBut.refl w g none)
  have HL := Aside0.mk hB.size
  clear hI
  have HW0 := Aside0.mk hB.size
  have HB := Aside0.mk hB
  clear hB
  have H : (some (96, 4060)) = some (r1, r2) := h
  clear h
  simp only [Option.some.injEq, Prod.mk.injEq] at H
  obtain ⟨rfl, rfl⟩ := H
  obtain ⟨ASz2_0, cSz2_0, ASz2_1, cSz2_1, HGz2, hgz2, HSz2_0, HSz2_1⟩ := HI0.out
  have hcz2_0 := cellS107_0 HGz2
  have hcz2_1 := cellS107_1 HGz2
  have hcz2_2 := cellS107_2 HGz2
  have hcz2_3 := cellS107_3 HGz2
  have hfz2_2 := blk_frozen HGz2 2
  have hfz2_3 := blk_frozen HGz2 3
  clear HGz2 hgz2
  go_enter Tryd.func50, Tryd.ntmps50
  go_wp2
  first | go_end0 | ((try simp only [Exit.inBlock, Exit.then]); refine bodyPost_ret (results_none rfl _ _ _) rfl ?_)
  exact ⟨by first | rfl | (simp [errW_none, errW_some] <;> rfl) | (simp [*, errW_none, errW_some] <;> rfl), by repeat (first | (with_reducible first | exact HI0.out | apply IsS107.alloc | apply IsS107.drewN | apply IsS107.drew | apply IsS107.set_2 | apply IsS107.set_3) | exact HI0.out), by repeat (first | (with_reducible first | exact HB.out | apply below_alloc | apply pw_below_drewN | apply below_drew1 | refine below_set ?_ (IsS107.ge HI0.out)) | exact HB.out), by repeat (first | (with_reducible first | exact HK.out | apply KeepBut.set_ | apply keep_drewN | apply keep_drew | apply keep_alloc) | exact HK.out)⟩

/-! ### stringslite_HasPrefix: function 79 -/
def stringslite_HasPrefix.f (a0 : ByteArray) (a1 : ByteArray) : Option (Bool) := if (a0.size : Int) ≥ (a1.size : Int) then (if 0 ≤ (a1.size : Int) then (if (a1.size : Int) ≤ (a0.size : Int) then (some ((a0.extract 0 ((a1.size : Int) : Int).toNat).toList == a1.toList)) else (none)) else (none)) else (some false)
set_option maxHeartbeats 8000000 in
set_option maxRecDepth 100000 in
theorem stringslite_HasPrefix.calls (a0 : ByteArray) (a1 : ByteArray) (r : Bool) (w : World) (h : stringslite_HasPrefix.f a0 a1 = some r) :
    Calls Tryd.prog 79 #[.string a0, .string a1] w fun e w' => e = .returned (.bool r) ∧ Drawn0 w w' := by
  have H : (if (a0.size : Int) ≥ (a1.size : Int) then (if 0 ≤ (a1.size : Int) then (if (a1.size : Int) ≤ (a0.size : Int) then (some ((a0.extract 0 ((a1.size : Int) : Int).toNat).toList == a1.toList)) else (none)) else (none)) else (some false)) = some r := h
  clear h
  by_cases c3 : (a0.size : Int) ≥ (a1.size : Int)
  · rw [if_pos c3] at H
    have c3b0 : decide ((a1.size : Int) ≤ (a0.size : Int)) = true := decide_eq_true c3
    have c3b1 : decide (a1.size ≤ a0.size) = true := decide_eq_true (Int.ofNat_le.mp c3)
    clear c3
    by_cases c4 : 0 ≤ (a1.size : Int)
    · rw [if_pos c4] at H
      have c4b0 := eq_true c4
      have c4b1 : decide (0 ≤ (a1.size : Int)) = true := decide_eq_true c4
      clear c4
      by_cases c5 : (a1.size : Int) ≤ (a0.size : Int)
      · rw [if_pos c5] at H
        have c5b0 := eq_true c5
        have c5b1 : decide ((a1.size : Int) ≤ (a0.size : Int)) = true := decide_eq_true c5
        clear c5
        obtain rfl := Option.some.inj H
        go_enter Tryd.func79, Tryd.ntmps79
        go_wp2
        go_ret
        exact ⟨by first | rfl | (simp; done) | (simp [*]; done), by repeat (first | exact Drawn0.refl _ | apply Drawn0.step)⟩
      · rw [if_neg c5] at H
        exact absurd H (by simp)
    · rw [if_neg c4] at H
      exact absurd H (by simp)
  · rw [if_neg c3] at H
    have c3b0 : decide ((a1.size : Int) ≤ (a0.size : Int)) = false := decide_eq_false c3
    have c3b1 : decide (a1.size ≤ a0.size) = false := decide_eq_false (fun h => c3 (Int.ofNat_le.mpr h))
    clear c3
    obtain rfl := Option.some.inj H
    go_enter Tryd.func79, Tryd.ntmps79
    go_wp2
    go_ret
    exact ⟨by first | rfl | (simp; done) | (simp [*]; done), by repeat (first | exact Drawn0.refl _ | apply Drawn0.step)⟩

/-! ### strings_HasPrefix: function 70 -/
def strings_HasPrefix.f (a0 : ByteArray) (a1 : ByteArray) : Option (Bool) := (stringslite_HasPrefix.f a0 a1).bind fun t127 => (some t127)
set_option maxHeartbeats 8000000 in
set_option maxRecDepth 100000 in
theorem strings_HasPrefix.calls (a0 : ByteArray) (a1 : ByteArray) (r : Bool) (w : World) (h : strings_HasPrefix.f a0 a1 = some r) :
    Calls Tryd.prog 70 #[.string a0, .string a1] w fun e w' => e = .returned (.bool r) ∧ Drawn0 w w' := by
  have H : ((stringslite_HasPrefix.f a0 a1).bind fun t127 => (some t127)) = some r := h
  clear h
  replace H := Option.bind_eq_some_iff.mp H
  obtain ⟨t127, A30, H⟩ := H
  replace H : (some t127) = some r := H
  have A3 := Aside0.mk A30
  clear A30
  obtain rfl := Option.some.inj H
  go_enter Tryd.func70, Tryd.ntmps70
  go_wp2_with (first | ((with_reducible refine gate_callee (f := 79) rfl ?_); refine goesL_ (some 7) rfl rfl Tryd.func79 (by kernel_rfl) rfl #[.string a0, .string a1] rfl (by (try simp only [List.map_toArray, List.map_cons, List.map_nil]); first | done | rfl | (simp only [List.length_drop, List.length_take]; rfl)) ?_; (with_reducible refine (stringslite_HasPrefix.calls a0 a1 t127 _ A3.out).mono ?_); rintro e w' ⟨rfl, ⟨nd, rfl⟩⟩; refine ⟨_, rfl, ?_⟩))
  go_ret
  exact ⟨by first | rfl | (simp; done) | (simp [*]; done), by repeat (first | exact Drawn0.refl _ | apply Drawn0.step)⟩

-- NOT PRINTED: function 60 (compactext4_compressXattrName)

/-- A state of type 133 at block g of W; what its slices lead to came in by w0. -/
def IsS133 (w0 W : World) (g : Nat) (f0 : ByteArray) (f1 : Int) (f2 : List Int) : Prop := ∃ A2 c2, W.heap[g]? = some (.cells #[.string f0, .int .u8 f1, .slice A2 f2.length c2] 133 (0, 0)) ∧ w0.heap.size ≤ g ∧ Kd.C (Kd.int .u8) w0 A2 f2.length f2
theorem IsS133.grown {w0 W : World} {g : Nat} {f0 : ByteArray} {f1 : Int} {f2 : List Int} {W1 : World} {row : Option Nat} (h : IsS133 w0 W g f0 f1 f2) (hw : W.grownBy W1 row) (hne : some g ≠ row) : IsS133 w0 W1 g f0 f1 f2 := by
  obtain ⟨A2, c2, hb, hg, hr2⟩ := h
  exact ⟨A2, c2, blk_grown hb hw hne, hg, hr2⟩
theorem IsS133.own_neN {w0 W : World} {g : Nat} {f0 : ByteArray} {f1 : Int} {f2 : List Int} {α : Type} {d : Kd α} {e : Nat} {base : Nat} {ok : Nat → Prop} {v : Value} {xs : List α} (h : IsS133 w0 W g f0 f1 f2) (ho : Kd.N d e W base ok v xs) (ht : e ≠ 133) : some g ≠ v.ownBlock := by
  obtain ⟨A2, c2, hb, hg, hr2⟩ := h
  exact Kd.N_ne ho hb ht
theorem IsS133.fresh {w0 W : World} {g : Nat} {f0 : ByteArray} {f1 : Int} {f2 : List Int} (h : IsS133 w0 W g f0 f1 f2) : ∀ k, W.heap.size ≤ k → k ≠ g := by
  obtain ⟨A2, c2, hb, hg, hr2⟩ := h
  exact Kd.freshB hb
theorem IsS133.kept {w0 W : World} {g : Nat} {f0 : ByteArray} {f1 : Int} {f2 : List Int} {W1 : World} {S : Nat → Prop} (h : IsS133 w0 W g f0 f1 f2) (hk : Kept W W1 S) (hne : ¬ S g) : IsS133 w0 W1 g f0 f1 f2 := by
  obtain ⟨A2, c2, hb, hg, hr2⟩ := h
  exact ⟨A2, c2, blk_kept hb hk hne, hg, hr2⟩
theorem IsS133.below {w0 W : World} {g : Nat} {f0 : ByteArray} {f1 : Int} {f2 : List Int} {W1 : World} (h : IsS133 w0 W g f0 f1 f2) (hw : Below W.heap.size W W1) : IsS133 w0 W1 g f0 f1 f2 := h.grown (grown_of_below hw none) (by simp)
theorem IsS133.alloc {w0 W : World} {g : Nat} {f0 : ByteArray} {f1 : Int} {f2 : List Int} (h : IsS133 w0 W g f0 f1 f2) (o : Obj) : IsS133 w0 (W.alloc o) g f0 f1 f2 := h.below (below_alloc (Below.refl _ _) o)
theorem IsS133.drewN {w0 W : World} {g : Nat} {f0 : ByteArray} {f1 : Int} {f2 : List Int} (h : IsS133 w0 W g f0 f1 f2) (m : Nat) : IsS133 w0 (W.drewN m) g f0 f1 f2 := h
theorem IsS133.drew {w0 W : World} {g : Nat} {f0 : ByteArray} {f1 : Int} {f2 : List Int} (h : IsS133 w0 W g f0 f1 f2) : IsS133 w0 W.drew g f0 f1 f2 := h
theorem IsS133.at_ {w0 W : World} {g : Nat} {f0 : ByteArray} {f1 : Int} {f2 : List Int} {w' : World} {m : Nat} (hq : W.drewN m = w') (h : IsS133 w0 W g f0 f1 f2) : IsS133 w0 w' g f0 f1 f2 := by subst hq; exact IsS133.drewN h m
theorem IsS133.apart {w0 W : World} {g : Nat} {f0 : ByteArray} {f1 : Int} {f2 : List Int} {α : Type} {d : Kd α} {e : Nat} {base : Nat} {ok : Nat → Prop} {v : Value} {xs : List α} (h : IsS133 w0 W g f0 f1 f2) (ho : d.R e W base ok v xs) (ht : ∀ q, q ∈ e :: d.E → q ≠ 133) : d.R e W base (fun k => ok k ∧ k ≠ g) v xs := by
  obtain ⟨A2, c2, hb, hg, hr2⟩ := h
  exact Kd.R_types ho hb ht
theorem IsS133.own_ne {w0 W : World} {g : Nat} {f0 : ByteArray} {f1 : Int} {f2 : List Int} {α : Type} {d : Kd α} {e : Nat} {base : Nat} {ok : Nat → Prop} {v : Value} {xs : List α} (h : IsS133 w0 W g f0 f1 f2) (ho : d.R e W base ok v xs) (ht : e ≠ 133) : some g ≠ v.ownBlock := by
  obtain ⟨A2, c2, hb, hg, hr2⟩ := h
  exact Kd.R_ne ho hb ht
theorem IsS133.apartQ {w0 W : World} {g : Nat} {f0 : ByteArray} {f1 : Int} {f2 : List Int} {α : Type} {d : Kd α} {e : Nat} {base : Nat} {ok : Nat → Prop} {v : Value} {xs : List α} (h : IsS133 w0 W g f0 f1 f2) (ho : d.Q e W base ok v xs) (ht : ∀ q, q ∈ e :: d.E → q ≠ 133) : d.Q e W base (fun k => ok k ∧ k ≠ g) v xs := by
  obtain ⟨A2, c2, hb, hg, hr2⟩ := h
  exact Kd.Q_types ho hb ht
theorem IsS133.own_neQ {w0 W : World} {g : Nat} {f0 : ByteArray} {f1 : Int} {f2 : List Int} {α : Type} {d : Kd α} {e : Nat} {base : Nat} {ok : Nat → Prop} {v : Value} {xs : List α} (h : IsS133 w0 W g f0 f1 f2) (ho : d.Q e W base ok v xs) (ht : e ≠ 133) : some g ≠ v.ownBlock := by
  obtain ⟨A2, c2, hb, hg, hr2⟩ := h
  exact Kd.Q_ne ho hb ht
theorem IsS133.apartS {w0 W : World} {g : Nat} {f0 : ByteArray} {f1 : Int} {f2 : List Int} {α : Type} {d : Kd α} {e : Nat} {base : Nat} {ok : Nat → Prop} {v : Value} {xs : List α} (h : IsS133 w0 W g f0 f1 f2) (ho : d.S e W base ok v xs) (ht : ∀ q, q ∈ e :: d.E → q ≠ 133) : d.S e W base (fun k => ok k ∧ k ≠ g) v xs := by
  obtain ⟨A2, c2, hb, hg, hr2⟩ := h
  exact Kd.S_types ho hb ht
theorem IsS133.own_neS {w0 W : World} {g : Nat} {f0 : ByteArray} {f1 : Int} {f2 : List Int} {α : Type} {d : Kd α} {e : Nat} {base : Nat} {ok : Nat → Prop} {v : Value} {xs : List α} (h : IsS133 w0 W g f0 f1 f2) (ho : d.S e W base ok v xs) (ht : e ≠ 133) : some g ≠ v.ownBlock := by
  obtain ⟨A2, c2, hb, hg, hr2⟩ := h
  exact Kd.S_ne ho hb ht
theorem IsS133.lt {w0 W : World} {g : Nat} {f0 : ByteArray} {f1 : Int} {f2 : List Int} (h : IsS133 w0 W g f0 f1 f2) : g < W.heap.size := by
  obtain ⟨A2, c2, hb, hg, hr2⟩ := h
  exact blk_lt hb
theorem IsS133.ge {w0 W : World} {g : Nat} {f0 : ByteArray} {f1 : Int} {f2 : List Int} (h : IsS133 w0 W g f0 f1 f2) : w0.heap.size ≤ g := by
  obtain ⟨A2, c2, hb, hg, hr2⟩ := h
  exact hg
theorem IsS133.ne_blk {w0 W : World} {g : Nat} {f0 : ByteArray} {f1 : Int} {f2 : List Int} {a : Nat} {cs : Array Value} {t : TypeId} {fr : Nat × Nat} (h : IsS133 w0 W g f0 f1 f2) (hb2 : W.heap[a]? = some (.cells cs t fr)) (ht : t ≠ 133) : g ≠ a := by
  obtain ⟨A2, c2, hb, hg, hr2⟩ := h
  rintro rfl
  rw [hb] at hb2
  injection hb2 with hb2
  injection hb2 with _ ht2
  exact ht ht2.symm
theorem IsS133.far {w0 W : World} {g : Nat} {f0 : ByteArray} {f1 : Int} {f2 : List Int} {p : Addr} (h : IsS133 w0 W g f0 f1 f2) (hne : g ≠ p.block) (u : Value) : IsS133 w0 (W.setCell p u) g f0 f1 f2 := by
  obtain ⟨A2, c2, hb, hg, hr2⟩ := h
  exact ⟨A2, c2, blk_far hb hne u, hg, hr2⟩
theorem cellS133_0 {W : World} {g : Nat} {A2 : Option Addr} {c2 : Nat} {f0 : ByteArray} {f1 : Int} {f2 : List Int} (h : W.heap[g]? = some (.cells #[.string f0, .int .u8 f1, .slice A2 f2.length c2] 133 (0, 0))) : W.cell? ⟨g, 0, none⟩ = some (.string f0) := (blk_cell h 0).trans rfl
theorem IsS133.set_0 {w0 W : World} {g : Nat} {f0 : ByteArray} {f1 : Int} {f2 : List Int} (h : IsS133 w0 W g f0 f1 f2) (x : ByteArray) : IsS133 w0 (W.setCell ⟨g, 0, none⟩ (.string x)) g x f1 f2 := by
  obtain ⟨A2, c2, hb, hg, hr2⟩ := h
  exact ⟨A2, c2, by simpa using blk_set hb 0 (.string x), hg, hr2⟩
theorem cellS133_1 {W : World} {g : Nat} {A2 : Option Addr} {c2 : Nat} {f0 : ByteArray} {f1 : Int} {f2 : List Int} (h : W.heap[g]? = some (.cells #[.string f0, .int .u8 f1, .slice A2 f2.length c2] 133 (0, 0))) : W.cell? ⟨g, 1, none⟩ = some (.int .u8 f1) := (blk_cell h 1).trans rfl
theorem IsS133.set_1 {w0 W : World} {g : Nat} {f0 : ByteArray} {f1 : Int} {f2 : List Int} (h : IsS133 w0 W g f0 f1 f2) (x : Int) : IsS133 w0 (W.setCell ⟨g, 1, none⟩ (.int .u8 x)) g f0 x f2 := by
  obtain ⟨A2, c2, hb, hg, hr2⟩ := h
  exact ⟨A2, c2, by simpa using blk_set hb 1 (.int .u8 x), hg, hr2⟩
theorem cellS133_2 {W : World} {g : Nat} {A2 : Option Addr} {c2 : Nat} {f0 : ByteArray} {f1 : Int} {f2 : List Int} (h : W.heap[g]? = some (.cells #[.string f0, .int .u8 f1, .slice A2 f2.length c2] 133 (0, 0))) : W.cell? ⟨g, 2, none⟩ = some (.slice A2 f2.length c2) := (blk_cell h 2).trans rfl
theorem IsS133.new (w0 W : World) (A2 : Option Addr) (c2 : Nat) (f0 : ByteArray) (f1 : Int) (f2 : List Int) (hB : Below w0.heap.size w0 W) (hr2 : Kd.C (Kd.int .u8) w0 A2 f2.length f2) : IsS133 w0 (W.alloc (.cells #[.string f0, .int .u8 f1, .slice A2 f2.length c2] 133)) W.heap.size f0 f1 f2 := ⟨A2, c2, by simpa using heap_alloc_new W _, hB.size, hr2⟩

/-! ### compactext4_xattr_EntryLen: function 65 -/
def compactext4_xattr_EntryLen.f (s0_0 : ByteArray) (s0_1 : Int) (s0_2 : List Int) : Option (Int × ByteArray × Int) := some (wrap64 ((Go.bits .andNot .i64 (wrap64 ((s0_0.size : Int) + 3)) 3) + 16), s0_0, s0_1)
set_option maxHeartbeats 8000000 in
set_option maxRecDepth 100000 in
theorem compactext4_xattr_EntryLen.calls (g : Nat) (s0_0 : ByteArray) (s0_1 : Int) (s0_2 : List Int) (r1 : Int) (r2 : ByteArray) (r3 : Int) (w0 w : World) (hI : IsS133 w0 w g s0_0 s0_1 s0_2) (hB : Below w0.heap.size w0 w) (h : compactext4_xattr_EntryLen.f s0_0 s0_1 s0_2 = some (r1, r2, r3)) :
    Calls Tryd.prog 65 #[.pointer (some ⟨g, 0, none⟩)] w fun e w' => e = .returned (.int .i64 r1) ∧ IsS133 w0 w' g r2 r3 s0_2 ∧ Below w0.heap.size w0 w' ∧ KeepBut w w' g none := by
  have HI0 := Aside0.mk hI
  have HK := Aside0.mk (KeepBut.refl w g none)
  have HL := Aside0.mk hB.size
  clear hI
  have HW0 := Aside0.mk hB.size
  have HB := Aside0.mk hB
  clear hB
  have H : (some (wrap64 ((Go.bits .andNot .i64 (wrap64 ((s0_0.size : Int) + 3)) 3) + 16), s0_0, s0_1)) = some (r1, r2, r3) := h
  clear h
  simp only [Option.some.injEq, Prod.mk.injEq] at H
  obtain ⟨rfl, rfl, rfl⟩ := H
  obtain ⟨ASz2_2, cSz2_2, HGz2, hgz2, HSz2_2⟩ := HI0.out
  have hcz2_0 := cellS133_0 HGz2
  have hcz2_1 := cellS133_1 HGz2
  have hcz2_2 := cellS133_2 HGz2
  have hfz2_0 := blk_frozen HGz2 0
  have hfz2_1 := blk_frozen HGz2 1
  clear HGz2 hgz2
  go_enter Tryd.func65, Tryd.ntmps65
  go_wp2
  go_ret
  exact ⟨by first | rfl | (simp [errW_none, errW_some] <;> rfl) | (simp [*, errW_none, errW_some] <;> rfl), by repeat (first | (with_reducible first | exact HI0.out | apply IsS133.alloc | apply IsS133.drewN | apply IsS133.drew | apply IsS133.set_0 | apply IsS133.set_1) | exact HI0.out), by repeat (first | (with_reducible first | exact HB.out | apply below_alloc | apply pw_below_drewN | apply below_drew1 | refine below_set ?_ (IsS133.ge HI0.out)) | exact HB.out), by repeat (first | (with_reducible first | exact HK.out | apply KeepBut.set_ | apply keep_drewN | apply keep_drew | apply keep_alloc) | exact HK.out)⟩

/-! ### compactext4_xattr_ValueLen: function 66 -/
def compactext4_xattr_ValueLen.f (s0_0 : ByteArray) (s0_1 : Int) (s0_2 : List Int) : Option (Int × ByteArray × Int) := some (Go.bits .andNot .i64 (wrap64 ((s0_2.length : Int) + 3)) 3, s0_0, s0_1)
set_option maxHeartbeats 8000000 in
set_option maxRecDepth 100000 in
theorem compactext4_xattr_ValueLen.calls (g : Nat) (s0_0 : ByteArray) (s0_1 : Int) (s0_2 : List Int) (r1 : Int) (r2 : ByteArray) (r3 : Int) (w0 w : World) (hI : IsS133 w0 w g s0_0 s0_1 s0_2) (hB : Below w0.heap.size w0 w) (h : compactext4_xattr_ValueLen.f s0_0 s0_1 s0_2 = some (r1, r2, r3)) :
    Calls Tryd.prog 66 #[.pointer (some ⟨g, 0, none⟩)] w fun e w' => e = .returned (.int .i64 r1) ∧ IsS133 w0 w' g r2 r3 s0_2 ∧ Below w0.heap.size w0 w' ∧ KeepBut w w' g none := by
  have HI0 := Aside0.mk hI
  have HK := Aside0.mk (KeepBut.refl w g none)
  have HL := Aside0.mk hB.size
  clear hI
  have HW0 := Aside0.mk hB.size
  have HB := Aside0.mk hB
  clear hB
  have H : (some (Go.bits .andNot .i64 (wrap64 ((s0_2.length : Int) + 3)) 3, s0_0, s0_1)) = some (r1, r2, r3) := h
  clear h
  simp only [Option.some.injEq, Prod.mk.injEq] at H
  obtain ⟨rfl, rfl, rfl⟩ := H
  obtain ⟨ASz2_2, cSz2_2, HGz2, hgz2, HSz2_2⟩ := HI0.out
  have hcz2_0 := cellS133_0 HGz2
  have hcz2_1 := cellS133_1 HGz2
  have hcz2_2 := cellS133_2 HGz2
  have hfz2_0 := blk_frozen HGz2 0
  have hfz2_1 := blk_frozen HGz2 1
  clear HGz2 hgz2
  go_enter Tryd.func66, Tryd.ntmps66
  go_wp2
  go_ret
  exact ⟨by first | rfl | (simp [errW_none, errW_some] <;> rfl) | (simp [*, errW_none, errW_some] <;> rfl), by repeat (first | (with_reducible first | exact HI0.out | apply IsS133.alloc | apply IsS133.drewN | apply IsS133.drew | apply IsS133.set_0 | apply IsS133.set_1) | exact HI0.out), by repeat (first | (with_reducible first | exact HB.out | apply below_alloc | apply pw_below_drewN | apply below_drew1 | refine below_set ?_ (IsS133.ge HI0.out)) | exact HB.out), by repeat (first | (with_reducible first | exact HK.out | apply KeepBut.set_ | apply keep_drewN | apply keep_drew | apply keep_alloc) | exact HK.out)⟩

-- NOT PRINTED: function 51 (compactext4_xattrState_addXattr)

-- NOT PRINTED: function 29 (compactext4_DoorFit)

-- NOT PRINTED: function 9 (impl_FitXattrs)

end Go.Proofs.YtckjbgneblfceaaDoor.PFnFitFirst
