-- PRINTED BY print.sh 35421559b90ae4d0a3588c463048766b98c2df88dd9212a6774a882060cdf62d: not written by this session
import Derived.Test.YtckjbgneblfceaaPFnMergeDirsx0
import Derived.Laws.Cover1
namespace Go.Proofs.Ytckjbgneblfceaa.PFnMergeDirs
open Go.RowKit Go.Proofs.YtckjbgneblfceaaW.PrintWords Go.Proofs.YtckjbgneblfceaaW.PrintLast Go.Proofs.YtckjbgneblfceaaW.PrintMore
attribute [local go_sem] max2_int min2_int max_two min_two max_three min_three max_four min_four   -- for this text's walks alone
set_option linter.unusedVariables false
set_option linter.unusedSimpArgs false

theorem less_or_eq : ∀ a b : List UInt8, (Op.bytesLess a b || a == b) = !(Op.bytesLess b a)
  | [], [] => by simp [Op.bytesLess]
  | [], y :: ys => by simp [Op.bytesLess]
  | x :: xs, [] => by simp [Op.bytesLess]
  | x :: xs, y :: ys => by
    have ih := less_or_eq xs ys
    simp only [Op.bytesLess]
    rcases Nat.lt_trichotomy x.toNat y.toNat with h | h | h
    · have h1 : x < y := UInt8.lt_iff_toNat_lt.2 h
      have h2 : ¬ y < x := fun e => by have := UInt8.lt_iff_toNat_lt.1 e; omega
      have h3 : (y == x) = false := beq_eq_false_iff_ne.2 (fun e => by subst e; omega)
      simp [h1, h2, h3]
    · obtain rfl := UInt8.toNat_inj.1 h
      have h2 : ¬ x < x := fun e => by have := UInt8.lt_iff_toNat_lt.1 e; omega
      simpa [h2] using ih
    · have h1 : y < x := UInt8.lt_iff_toNat_lt.2 h
      have h2 : ¬ x < y := fun e => by have := UInt8.lt_iff_toNat_lt.1 e; omega
      have h3 : (x == y) = false := beq_eq_false_iff_ne.2 (fun e => by subst e; omega)
      simp [h1, h2, h3]
/-! ### spec_told: function 15 -/
mutual
def spec_told.l0 : Nat → List (S35) → Bool → List (S35) → Int → Int → ByteArray → Int → Int → Bool → Int → Option ((List (S35)))
  | 0, _, _, _, _, _, _, _, _, _, _ => none
  | k + 1, x5, x6, x10, x11, x12, x133000, x133001, x133002, x133003, x133004 => if x12 < x11 then (if 0 ≤ x12 then (if x12 < (x10.length : Int) then (if x6 = true then (spec_told.j1 k x5 x6 x10 x11 x12 false x133000 x133001 x133002 x133003 x133004 ((rd_T35 x10 x12).f0) ((rd_T35 x10 x12).f1) ((rd_T35 x10 x12).f2) ((rd_T35 x10 x12).f3) ((rd_T35 x10 x12).f4)) else (spec_told.j1 k x5 x6 x10 x11 x12 (!(Op.bytesLess (((rd_T35 x10 x12).f0).toList) x133000.toList)) x133000 x133001 x133002 x133003 x133004 ((rd_T35 x10 x12).f0) ((rd_T35 x10 x12).f1) ((rd_T35 x10 x12).f2) ((rd_T35 x10 x12).f3) ((rd_T35 x10 x12).f4))) else (none)) else (none)) else (if x6 = true then (some x5) else (if x5.length < 2932031007402 then (some (x5 ++ [(⟨x133000, x133001, x133002, x133003, x133004⟩ : S35)])) else (none)))
def spec_told.j1 : Nat → List (S35) → Bool → List (S35) → Int → Int → Bool → ByteArray → Int → Int → Bool → Int → ByteArray → Int → Int → Bool → Int → Option ((List (S35)))
  | 0, _, _, _, _, _, _, _, _, _, _, _, _, _, _, _, _ => none
  | k + 1, x5, x6, x10, x11, x12, x24, x133000, x133001, x133002, x133003, x133004, x141000, x141001, x141002, x141003, x141004 => if x24 = true then (if x5.length < 2932031007402 then ((some (x5 ++ [(⟨x133000, x133001, x133002, x133003, x133004⟩ : S35)] : List (S35))).bind fun y141 => (if x141000.toList = x133000.toList then (spec_told.l0 k y141 true x10 x11 (wrap64 (x12 + 1)) x133000 x133001 x133002 x133003 x133004) else (if y141.length < 2932031007402 then (spec_told.l0 k (y141 ++ [(⟨x141000, x141001, x141002, x141003, x141004⟩ : S35)]) true x10 x11 (wrap64 (x12 + 1)) x133000 x133001 x133002 x133003 x133004) else (none)))) else (none)) else (if x141000.toList = x133000.toList then (spec_told.l0 k x5 x6 x10 x11 (wrap64 (x12 + 1)) x133000 x133001 x133002 x133003 x133004) else (if x5.length < 2932031007402 then (spec_told.l0 k (x5 ++ [(⟨x141000, x141001, x141002, x141003, x141004⟩ : S35)]) x6 x10 x11 (wrap64 (x12 + 1)) x133000 x133001 x133002 x133003 x133004) else (none)))
end
def spec_told.f (k : Nat) (l0 : List (S35)) (a1_0 : ByteArray) (a1_1 : Int) (a1_2 : Int) (a1_3 : Bool) (a1_4 : Int) : Option ((List (S35))) := spec_told.l0 k (([] : List (S35))) false l0 (l0.length : Int) 0 a1_0 a1_1 a1_2 a1_3 a1_4
theorem spec_told.mono_l : ∀ k, (∀ y0 y1 y2 y3 y4 y5 y6 y7 y8 y9, LeO (spec_told.l0 k y0 y1 y2 y3 y4 y5 y6 y7 y8 y9) (spec_told.l0 (k + 1) y0 y1 y2 y3 y4 y5 y6 y7 y8 y9)) ∧ (∀ y0 y1 y2 y3 y4 y5 y6 y7 y8 y9 y10 y11 y12 y13 y14 y15, LeO (spec_told.j1 k y0 y1 y2 y3 y4 y5 y6 y7 y8 y9 y10 y11 y12 y13 y14 y15) (spec_told.j1 (k + 1) y0 y1 y2 y3 y4 y5 y6 y7 y8 y9 y10 y11 y12 y13 y14 y15))
  | 0 => ⟨fun _ _ _ _ _ _ _ _ _ _ r h => by simp [spec_told.l0] at h, fun _ _ _ _ _ _ _ _ _ _ _ _ _ _ _ _ r h => by simp [spec_told.j1] at h⟩
  | k + 1 => by
    obtain ⟨ih0, ih1⟩ := spec_told.mono_l k
    refine ⟨?_, ?_⟩
    · intro y0 y1 y2 y3 y4 y5 y6 y7 y8 y9
      unfold spec_told.l0
      repeat' first
      | (with_reducible exact ih0 _ _ _ _ _ _ _ _ _ _)
      | (with_reducible exact ih1 _ _ _ _ _ _ _ _ _ _ _ _ _ _ _ _)
      | (with_reducible exact LeO.refl _)
      | (with_reducible exact LeO.none _)
      | (with_reducible refine LeO.ite ?_ ?_)
      | (with_reducible refine LeO.bind ?_ (fun _ => ?_))
      | exact ih0 _ _ _ _ _ _ _ _ _ _
      | exact ih1 _ _ _ _ _ _ _ _ _ _ _ _ _ _ _ _
      | exact LeO.none _
      | refine LeO.ite ?_ ?_
      | refine LeO.bind ?_ (fun _ => ?_)
    · intro y0 y1 y2 y3 y4 y5 y6 y7 y8 y9 y10 y11 y12 y13 y14 y15
      unfold spec_told.j1
      repeat' first
      | (with_reducible exact ih0 _ _ _ _ _ _ _ _ _ _)
      | (with_reducible exact ih1 _ _ _ _ _ _ _ _ _ _ _ _ _ _ _ _)
      | (with_reducible exact LeO.refl _)
      | (with_reducible exact LeO.none _)
      | (with_reducible refine LeO.ite ?_ ?_)
      | (with_reducible refine LeO.bind ?_ (fun _ => ?_))
      | exact ih0 _ _ _ _ _ _ _ _ _ _
      | exact ih1 _ _ _ _ _ _ _ _ _ _ _ _ _ _ _ _
      | exact LeO.none _
      | refine LeO.ite ?_ ?_
      | refine LeO.bind ?_ (fun _ => ?_)
theorem spec_told.mono : ∀ a0 a1 a2 a3 a4 a5 k, LeO (spec_told.f k a0 a1 a2 a3 a4 a5) (spec_told.f (k + 1) a0 a1 a2 a3 a4 a5) := by
  intro a0 a1 a2 a3 a4 a5 k
  obtain ⟨ih0, ih1⟩ := spec_told.mono_l k
  unfold spec_told.f
  repeat' first
      | (with_reducible exact ih0 _ _ _ _ _ _ _ _ _ _)
      | (with_reducible exact ih1 _ _ _ _ _ _ _ _ _ _ _ _ _ _ _ _)
      | (with_reducible exact LeO.refl _)
      | (with_reducible exact LeO.none _)
      | (with_reducible refine LeO.ite ?_ ?_)
      | (with_reducible refine LeO.bind ?_ (fun _ => ?_))
      | exact ih0 _ _ _ _ _ _ _ _ _ _
      | exact ih1 _ _ _ _ _ _ _ _ _ _ _ _ _ _ _ _
      | exact LeO.none _
      | refine LeO.ite ?_ ?_
      | refine LeO.bind ?_ (fun _ => ?_)
set_option maxHeartbeats 8000000 in
set_option maxRecDepth 100000 in
theorem spec_told.calls (k : Nat) (A0 : Option Addr) (c0 : Nat) (l0 : List (S35)) (a1_0 : ByteArray) (a1_1 : Int) (a1_2 : Int) (a1_3 : Bool) (a1_4 : Int) (r : List (S35)) (w : World) (hr0 : Kd.C k35 w A0 l0.length l0) (hc0 : l0.length ≤ c0) (h : spec_told.f k l0 a1_0 a1_1 a1_2 a1_3 a1_4 = some r) :
    Calls Try.prog 15 #[.slice A0 l0.length c0, .agg #[.string a1_0, .int .i64 a1_1, .int .i64 a1_2, .bool a1_3, .int .i64 a1_4]] w fun e w' => ∃ v0_ : Value, e = .returned (v0_) ∧ Kd.R k35 35 w' w.heap.size (fun _ => True) v0_ r ∧ Below w.heap.size w w' := by
  have hu35 := Try.underlying35
  have HR0 := Aside0.mk hr0
  have HC0 := Aside0.mk hc0
  clear hr0 hc0
  have HB := Aside0.mk (Below.refl w.heap.size w)
  have H : (spec_told.l0 k (([] : List (S35))) false l0 (l0.length : Int) 0 a1_0 a1_1 a1_2 a1_3 a1_4) = some r := h
  clear h
  obtain ⟨y133, hy133⟩ : ∃ y_ : List (S35), y_ = (([] : List (S35))) := ⟨_, rfl⟩
  replace H : (spec_told.l0 k y133 false l0 (l0.length : Int) 0 a1_0 a1_1 a1_2 a1_3 a1_4) = some r := by first | (rw [hy133]; with_reducible exact H) | (have H2_ := (Option.bind_some _ _).symm.trans H; rw [hy133]; with_reducible exact H2_) | (have H2_ := (Option.bind_some _ _).symm.trans H; with_reducible exact H2_) | with_reducible exact H | (rw [hy133]; exact H) | exact H
  have Ny133 := Aside0.mk hy133
  clear hy133
  have H' := Aside0.mk H
  clear H
  go_enter Try.func15, Try.ntmps15
  go_wp2_with (first | ((with_reducible refine gate_dst (N := 3) rfl ?_); refine box_event ?hg (N := 3) ?hd (cs := #[.string a1_0, .int .i64 a1_1, .int .i64 a1_2, .bool a1_3, .int .i64 a1_4]) (t := 35) ?hr ?_; (case hd => rfl); (case hg => rfl); (case hr => first | (go_simp; done) | (go_simp; rfl)); intro gb132 hg w3 hbox hb; have n0_ := Aside0.mk (below_step (by repeat (first | (with_reducible first | exact HB.out | apply below_alloc | apply pw_below_drewN | apply below_drew1) | exact HB.out)) hb); have n1_ := Aside0.mk (hbox); have n2_ := Aside0.mk ((by rw [hg]; exact (below_size (by repeat (first | (with_reducible first | exact HB.out | apply below_alloc | apply pw_below_drewN | apply below_drew1) | exact HB.out))) : w.heap.size ≤ gb132)); have n3_ := Aside0.mk ((by rw [hg]; exact (below_size (by repeat (first | (with_reducible first | exact HB.out | apply below_alloc | apply pw_below_drewN | apply below_drew1) | exact HB.out))) : w.heap.size ≤ gb132)); clear HB; have HB := n0_; have BK132 := n1_; have GW132 := n2_; have GE132 := n3_; clear n0_ n1_ n2_ n3_; clear hb hbox hg) | ((with_reducible refine gate_dst (N := 9) rfl ?_); refine Kd.R_lit k35 _ 35 ?hg (N := 9) ?hd (xs := ([] : List (S35))) (inner := []) (ok := fun _ => True) (okp := fun _ => True) ?hr ?hp (fun _ hk => hk) trivial (Below.refl _ _) (Nat.le_refl _) (by simp) ?_; (case hd => rfl); (case hg => rfl); (case hr => first | (go_simp; done) | (go_simp; rfl)); (case hp => exact (Reps.none _ _)); intro v134 w4 ho5 hb hg_ hnew_; clear hg_ hnew_; (first | rw [← Ny133.out] at ho5 | (simp only [Int.reduceToNat] at ho5; rw [← Ny133.out] at ho5)); have n0_ := Aside0.mk (Kd.R_lower (Kd.R_newB ho5 (g := gb132) (o := .cells #[.string a1_0, .int .i64 a1_1, .int .i64 a1_2, .bool a1_3, .int .i64 a1_4] 35 (0, 0)) (by (with_reducible repeat (first | refine blk_drewN ?_ _ | refine blk_drew ?_ | refine blk_alloc ?_ _)); exact BK132.out)) (below_size (by repeat (first | (with_reducible first | exact HB.out | apply below_alloc | apply pw_below_drewN | apply below_drew1 | refine below_set ?_ GE132.out) | exact HB.out)))); have n1_ := Aside0.mk (blk_below (g := gb132) (o := .cells #[.string a1_0, .int .i64 a1_1, .int .i64 a1_2, .bool a1_3, .int .i64 a1_4] 35 (0, 0)) (by (with_reducible repeat (first | refine blk_drewN ?_ _ | refine blk_drew ?_ | refine blk_alloc ?_ _)); exact BK132.out) hb); have n2_ := Aside0.mk (below_step (by repeat (first | (with_reducible first | exact HB.out | apply below_alloc | apply pw_below_drewN | apply below_drew1 | refine below_set ?_ GE132.out) | exact HB.out)) hb); clear BK132; clear HB; have HO135 := n0_; have BK132 := n1_; have HB := n2_; clear n0_ n1_ n2_; clear hb ho5))
  go_loopg [5, 6, 12] k (fun kq v5 v6 v12 w' => ∃ (x5_1 : List (S35)) (x6_1 : Bool) (x12_1 : Int), v6 = .bool x6_1 ∧ v12 = .int .i64 x12_1 ∧ Aside0 (spec_told.l0 kq x5_1 x6_1 l0 (l0.length : Int) x12_1 a1_0 a1_1 a1_2 a1_3 a1_4 = some r) ∧ Aside0 (kq ≤ k) ∧ Aside0 (Kd.R k35 35 w' w.heap.size (fun k_ => k_ ≠ gb132) v5 x5_1) ∧ Aside0 (w'.heap[gb132]? = some (.cells #[.string a1_0, .int .i64 a1_1, .int .i64 a1_2, .bool a1_3, .int .i64 a1_4] 35 (0, 0))) ∧ Aside0 (Below w.heap.size w w'))
  case atStart => exact ⟨(y133), (false), (0), (by first | rfl | (simp; done) | (simp [*]; done)), (by first | rfl | (simp; done) | (simp [*]; done)), H', ⟨Nat.le_refl _⟩, ⟨by (with_reducible repeat (first | apply Kd.R_alloc | apply Kd.R_drewN | apply Kd.R_drew)); exact Kd.R_mono HO135.out (fun _ hk => hk.2)⟩, ⟨by (with_reducible repeat (first | refine blk_drewN ?_ _ | refine blk_drew ?_ | refine blk_alloc ?_ _)); exact BK132.out⟩, ⟨by repeat (first | (with_reducible first | exact HB.out | apply below_alloc | apply pw_below_drewN | apply below_drew1 | refine below_set ?_ GE132.out) | exact HB.out)⟩⟩
  case round =>
    clear H'
    try clear c1
    try clear p2
    obtain ⟨x5_1, x6_1, x12_1, rfl, rfl, HA, HK1, HO_5, BK132, HB⟩ := hrel
    cases gk with
    | zero => exact absurd HA.out (by simp [spec_told.l0])
    | succ k1 =>
      have H := HA.out
      clear HA
      simp only [spec_told.l0] at H
      by_cases c6 : x12_1 < (l0.length : Int)
      · rw [if_pos c6] at H
        have c6b0 : decide (x12_1 < (l0.length : Int)) = true := decide_eq_true c6
        clear c6
        by_cases c7 : 0 ≤ x12_1
        · rw [if_pos c7] at H
          have c7b0 : decide (0 ≤ x12_1) = true := decide_eq_true c7
          clear c7
          by_cases c8 : x12_1 < (l0.length : Int)
          · rw [if_pos c8] at H
            have c8b0 : decide (x12_1 < (l0.length : Int)) = true := decide_eq_true c8
            clear c8
            have HC9 := Aside0.mk H
            clear H
            have p139 : 0 ≤ (x12_1 : Int) := of_decide_eq_true (by first | (with_reducible assumption) | assumption)
            have q139 : x12_1 < (l0.length : Int) := of_decide_eq_true (by first | (with_reducible assumption) | assumption)
            obtain ⟨ad139, e139, hx139_0, hx139_1, hx139_2, hx139_3, hx139_4⟩ := at_T35 HR0.out x12_1 p139 q139
            cases e139
            replace hx139_0 := (HB.out.cell (World.block_lt_of_cell? w _ hx139_0)).trans hx139_0
            replace hx139_1 := (HB.out.cell (World.block_lt_of_cell? w _ hx139_1)).trans hx139_1
            replace hx139_2 := (HB.out.cell (World.block_lt_of_cell? w _ hx139_2)).trans hx139_2
            replace hx139_3 := (HB.out.cell (World.block_lt_of_cell? w _ hx139_3)).trans hx139_3
            replace hx139_4 := (HB.out.cell (World.block_lt_of_cell? w _ hx139_4)).trans hx139_4
            replace p139 := eq_true p139
            replace q139 := eq_true q139
            go_upto_region 5 with (first | ((with_reducible refine gate_dst (N := 8) rfl ?_); refine box_event ?hg (N := 8) ?hd (cs := #[.string (⟨#[]⟩ : ByteArray), .int .i64 0, .int .i64 0, .bool false, .int .i64 0]) (t := 35) ?hr ?_; (case hd => rfl); (case hg => rfl); (case hr => first | (go_simp; done) | (go_simp; rfl)); intro gb140 hg w10 hbox hb; have n0_ := Aside0.mk (Kd.R_below (Kd.R_elderB (by (with_reducible repeat (first | apply Kd.R_alloc | apply Kd.R_drewN | apply Kd.R_drew)); exact HO_5.out) gb140 (Nat.le_of_eq hg.symm)) hb); have n1_ := Aside0.mk (blk_below (g := gb132) (o := .cells #[.string a1_0, .int .i64 a1_1, .int .i64 a1_2, .bool a1_3, .int .i64 a1_4] 35 (0, 0)) (by (with_reducible repeat (first | refine blk_drewN ?_ _ | refine blk_drew ?_ | refine blk_alloc ?_ _)); exact BK132.out) hb); have n2_ := Aside0.mk (below_step (by repeat (first | (with_reducible first | exact HB.out | apply below_alloc | apply pw_below_drewN | apply below_drew1 | refine below_set ?_ GE132.out) | exact HB.out)) hb); have n3_ := Aside0.mk (hbox); have n4_ := Aside0.mk ((by rw [hg]; exact (below_size (by repeat (first | (with_reducible first | exact HB.out | apply below_alloc | apply pw_below_drewN | apply below_drew1 | refine below_set ?_ GE132.out) | exact HB.out))) : w.heap.size ≤ gb140)); have n5_ := Aside0.mk ((by rw [hg]; exact (below_size (by repeat (first | (with_reducible first | exact HB.out | apply below_alloc | apply pw_below_drewN | apply below_drew1 | refine below_set ?_ GE132.out) | exact HB.out))) : w.heap.size ≤ gb140)); have n6_ := Aside0.mk ((by rw [hg]; exact Nat.ne_of_lt (blk_lt (g := gb132) (o := .cells #[.string a1_0, .int .i64 a1_1, .int .i64 a1_2, .bool a1_3, .int .i64 a1_4] 35 (0, 0)) (by (with_reducible repeat (first | refine blk_drewN ?_ _ | refine blk_drew ?_ | refine blk_alloc ?_ _)); exact BK132.out)) : gb132 ≠ gb140)); have n7_ := Aside0.mk ((by rw [hg]; exact Nat.ne_of_gt (blk_lt (g := gb132) (o := .cells #[.string a1_0, .int .i64 a1_1, .int .i64 a1_2, .bool a1_3, .int .i64 a1_4] 35 (0, 0)) (by (with_reducible repeat (first | refine blk_drewN ?_ _ | refine blk_drew ?_ | refine blk_alloc ?_ _)); exact BK132.out)) : gb140 ≠ gb132)); clear HO_5; clear BK132; clear HB; have HO_5 := n0_; have BK132 := n1_; have HB := n2_; have BK140 := n3_; have GW140 := n4_; have GE140 := n5_; have NB132_140 := n6_; have NB140_132 := n7_; clear n0_ n1_ n2_ n3_ n4_ n5_ n6_ n7_; clear hb hbox hg; have hnb11 := NB140_132.out; have hnc11 := NB132_140.out; have hcz12_0 : w10.cell? ⟨gb140, 0, none⟩ = some (.string (⟨#[]⟩ : ByteArray)) := (blk_cell BK140.out 0).trans rfl; have hcz12_1 : w10.cell? ⟨gb140, 1, none⟩ = some (.int .i64 0) := (blk_cell BK140.out 1).trans rfl; have hcz12_2 : w10.cell? ⟨gb140, 2, none⟩ = some (.int .i64 0) := (blk_cell BK140.out 2).trans rfl; have hcz12_3 : w10.cell? ⟨gb140, 3, none⟩ = some (.bool false) := (blk_cell BK140.out 3).trans rfl; have hcz12_4 : w10.cell? ⟨gb140, 4, none⟩ = some (.int .i64 0) := (blk_cell BK140.out 4).trans rfl; have hfz12_0 := blk_frozen BK140.out 0; have hfz12_1 := blk_frozen BK140.out 1; have hfz12_2 := blk_frozen BK140.out 2; have hfz12_3 := blk_frozen BK140.out 3; have hfz12_4 := blk_frozen BK140.out 4))
            (try simp only [Act.put, List.setIfInBounds_toArray, List.set_cons_zero, List.set_cons_succ])
            go_cut [24] (fun v24 wc => ∃ (kq : Nat) (x24_8 : Bool), v24 = .bool x24_8 ∧ Aside0 (spec_told.j1 kq x5_1 x6_1 l0 (l0.length : Int) x12_1 x24_8 a1_0 a1_1 a1_2 a1_3 a1_4 ((rd_T35 l0 x12_1).f0) ((rd_T35 l0 x12_1).f1) ((rd_T35 l0 x12_1).f2) ((rd_T35 l0 x12_1).f3) ((rd_T35 l0 x12_1).f4) = some r) ∧ Aside0 (kq ≤ k1) ∧ Aside0 (Kd.R k35 35 wc w.heap.size (fun k_ => k_ ≠ gb132 ∧ k_ ≠ gb140) u5 x5_1) ∧ Aside0 (wc.heap[gb132]? = some (.cells #[.string a1_0, .int .i64 a1_1, .int .i64 a1_2, .bool a1_3, .int .i64 a1_4] 35 (0, 0))) ∧ Aside0 (wc.heap[gb140]? = some (.cells #[.string ((rd_T35 l0 x12_1).f0), .int .i64 ((rd_T35 l0 x12_1).f1), .int .i64 ((rd_T35 l0 x12_1).f2), .bool ((rd_T35 l0 x12_1).f3), .int .i64 ((rd_T35 l0 x12_1).f4)] 35 (0, 0))) ∧ Aside0 (Below w.heap.size w wc))
            case first =>
              have H := HC9.out
              clear HC9
              by_cases c13 : x6_1 = true
              · subst c13
                have H1 : (spec_told.j1 k1 x5_1 true l0 (l0.length : Int) x12_1 false a1_0 a1_1 a1_2 a1_3 a1_4 ((rd_T35 l0 x12_1).f0) ((rd_T35 l0 x12_1).f1) ((rd_T35 l0 x12_1).f2) ((rd_T35 l0 x12_1).f3) ((rd_T35 l0 x12_1).f4)) = some r := by rw [if_pos rfl] at H; exact H
                clear H
                have H := H1
                clear H1
                have H' := Aside0.mk H
                clear H
                go_wp2
                go_meet
                case rel => exact ⟨_, (false), (by first | rfl | (simp; done) | (simp [*]; done)), H', ⟨by have := HK1.out; first | omega | exact Nat.le_refl _⟩, ⟨by (with_reducible repeat (first | apply Kd.R_alloc | apply Kd.R_drewN | apply Kd.R_drew)); exact Kd.R_mono (Kd.R_far (p := ⟨gb140, 4, none⟩) (Kd.R_far (p := ⟨gb140, 3, none⟩) (Kd.R_far (p := ⟨gb140, 2, none⟩) (Kd.R_far (p := ⟨gb140, 1, none⟩) (Kd.R_far (p := ⟨gb140, 0, none⟩) (Kd.R_mono HO_5.out (fun k_ hk => (⟨hk, hk.2⟩ : _ ∧ k_ ≠ gb140))) (fun _ hk => hk.2) (.string ((rd_T35 l0 x12_1).f0))) (fun _ hk => hk.2) (.int .i64 ((rd_T35 l0 x12_1).f1))) (fun _ hk => hk.2) (.int .i64 ((rd_T35 l0 x12_1).f2))) (fun _ hk => hk.2) (.bool ((rd_T35 l0 x12_1).f3))) (fun _ hk => hk.2) (.int .i64 ((rd_T35 l0 x12_1).f4))) (fun _ hk => ⟨hk.1.1, hk.1.2⟩)⟩, ⟨by (with_reducible repeat (first | refine blk_drewN ?_ _ | refine blk_drew ?_ | refine blk_alloc ?_ _)); refine blk_far ?_ NB132_140.out _; (with_reducible repeat (first | refine blk_drewN ?_ _ | refine blk_drew ?_ | refine blk_alloc ?_ _)); refine blk_far ?_ NB132_140.out _; (with_reducible repeat (first | refine blk_drewN ?_ _ | refine blk_drew ?_ | refine blk_alloc ?_ _)); refine blk_far ?_ NB132_140.out _; (with_reducible repeat (first | refine blk_drewN ?_ _ | refine blk_drew ?_ | refine blk_alloc ?_ _)); refine blk_far ?_ NB132_140.out _; (with_reducible repeat (first | refine blk_drewN ?_ _ | refine blk_drew ?_ | refine blk_alloc ?_ _)); refine blk_far ?_ NB132_140.out _; (with_reducible repeat (first | refine blk_drewN ?_ _ | refine blk_drew ?_ | refine blk_alloc ?_ _)); exact BK132.out⟩, ⟨by (with_reducible repeat (first | refine blk_drewN ?_ _ | refine blk_drew ?_ | refine blk_alloc ?_ _)); refine blk_put (cs := #[.string ((rd_T35 l0 x12_1).f0), .int .i64 ((rd_T35 l0 x12_1).f1), .int .i64 ((rd_T35 l0 x12_1).f2), .bool ((rd_T35 l0 x12_1).f3), .int .i64 0]) ?_ 4 _ rfl; (with_reducible repeat (first | refine blk_drewN ?_ _ | refine blk_drew ?_ | refine blk_alloc ?_ _)); refine blk_put (cs := #[.string ((rd_T35 l0 x12_1).f0), .int .i64 ((rd_T35 l0 x12_1).f1), .int .i64 ((rd_T35 l0 x12_1).f2), .bool false, .int .i64 0]) ?_ 3 _ rfl; (with_reducible repeat (first | refine blk_drewN ?_ _ | refine blk_drew ?_ | refine blk_alloc ?_ _)); refine blk_put (cs := #[.string ((rd_T35 l0 x12_1).f0), .int .i64 ((rd_T35 l0 x12_1).f1), .int .i64 0, .bool false, .int .i64 0]) ?_ 2 _ rfl; (with_reducible repeat (first | refine blk_drewN ?_ _ | refine blk_drew ?_ | refine blk_alloc ?_ _)); refine blk_put (cs := #[.string ((rd_T35 l0 x12_1).f0), .int .i64 0, .int .i64 0, .bool false, .int .i64 0]) ?_ 1 _ rfl; (with_reducible repeat (first | refine blk_drewN ?_ _ | refine blk_drew ?_ | refine blk_alloc ?_ _)); refine blk_put (cs := #[.string (⟨#[]⟩ : ByteArray), .int .i64 0, .int .i64 0, .bool false, .int .i64 0]) ?_ 0 _ rfl; (with_reducible repeat (first | refine blk_drewN ?_ _ | refine blk_drew ?_ | refine blk_alloc ?_ _)); exact BK140.out⟩, ⟨by repeat (first | (with_reducible first | exact HB.out | apply below_alloc | apply pw_below_drewN | apply below_drew1 | refine below_set ?_ GE132.out | refine below_set ?_ GE140.out) | exact HB.out)⟩⟩
              · replace c13 := Bool.eq_false_iff.mpr c13
                subst c13
                have H1 : (spec_told.j1 k1 x5_1 false l0 (l0.length : Int) x12_1 (!(Op.bytesLess (((rd_T35 l0 x12_1).f0).toList) a1_0.toList)) a1_0 a1_1 a1_2 a1_3 a1_4 ((rd_T35 l0 x12_1).f0) ((rd_T35 l0 x12_1).f1) ((rd_T35 l0 x12_1).f2) ((rd_T35 l0 x12_1).f3) ((rd_T35 l0 x12_1).f4)) = some r := by rw [if_neg (show ¬ (false = true) by decide)] at H; exact H
                clear H
                have H := H1
                clear H1
                have H' := Aside0.mk H
                clear H
                have hnb14 := NB132_140.out
                have hnc14 := NB140_132.out
                have hcz15_0 : w10.cell? ⟨gb132, 0, none⟩ = some (.string a1_0) := (blk_cell BK132.out 0).trans rfl
                have hcz15_1 : w10.cell? ⟨gb132, 1, none⟩ = some (.int .i64 a1_1) := (blk_cell BK132.out 1).trans rfl
                have hcz15_2 : w10.cell? ⟨gb132, 2, none⟩ = some (.int .i64 a1_2) := (blk_cell BK132.out 2).trans rfl
                have hcz15_3 : w10.cell? ⟨gb132, 3, none⟩ = some (.bool a1_3) := (blk_cell BK132.out 3).trans rfl
                have hcz15_4 : w10.cell? ⟨gb132, 4, none⟩ = some (.int .i64 a1_4) := (blk_cell BK132.out 4).trans rfl
                have hfz15_0 := blk_frozen BK132.out 0
                have hfz15_1 := blk_frozen BK132.out 1
                have hfz15_2 := blk_frozen BK132.out 2
                have hfz15_3 := blk_frozen BK132.out 3
                have hfz15_4 := blk_frozen BK132.out 4
                have hcz16_0 : w10.cell? ⟨gb140, 0, none⟩ = some (.string (⟨#[]⟩ : ByteArray)) := (blk_cell BK140.out 0).trans rfl
                have hcz16_1 : w10.cell? ⟨gb140, 1, none⟩ = some (.int .i64 0) := (blk_cell BK140.out 1).trans rfl
                have hcz16_2 : w10.cell? ⟨gb140, 2, none⟩ = some (.int .i64 0) := (blk_cell BK140.out 2).trans rfl
                have hcz16_3 : w10.cell? ⟨gb140, 3, none⟩ = some (.bool false) := (blk_cell BK140.out 3).trans rfl
                have hcz16_4 : w10.cell? ⟨gb140, 4, none⟩ = some (.int .i64 0) := (blk_cell BK140.out 4).trans rfl
                have hfz16_0 := blk_frozen BK140.out 0
                have hfz16_1 := blk_frozen BK140.out 1
                have hfz16_2 := blk_frozen BK140.out 2
                have hfz16_3 := blk_frozen BK140.out 3
                have hfz16_4 := blk_frozen BK140.out 4
                obtain ⟨xb, hxb⟩ : ∃ xb, xb = !(Op.bytesLess (((rd_T35 l0 x12_1).f0).toList) a1_0.toList) := ⟨_, rfl⟩
                rw [← hxb] at H'
                have hle : (Op.bytesLess a1_0.toList ((rd_T35 l0 x12_1).f0).toList || a1_0.toList == ((rd_T35 l0 x12_1).f0).toList) = xb := by rw [hxb]; exact less_or_eq _ _
                clear hxb
                go_wp2
                try rw [hle]
                go_meet
                case rel => exact ⟨_, (xb), (by first | rfl | (simp; done) | (simp [*]; done)), H', ⟨by have := HK1.out; first | omega | exact Nat.le_refl _⟩, ⟨by (with_reducible repeat (first | apply Kd.R_alloc | apply Kd.R_drewN | apply Kd.R_drew)); exact Kd.R_mono (Kd.R_far (p := ⟨gb140, 4, none⟩) (Kd.R_far (p := ⟨gb140, 3, none⟩) (Kd.R_far (p := ⟨gb140, 2, none⟩) (Kd.R_far (p := ⟨gb140, 1, none⟩) (Kd.R_far (p := ⟨gb140, 0, none⟩) (Kd.R_mono HO_5.out (fun k_ hk => (⟨hk, hk.2⟩ : _ ∧ k_ ≠ gb140))) (fun _ hk => hk.2) (.string ((rd_T35 l0 x12_1).f0))) (fun _ hk => hk.2) (.int .i64 ((rd_T35 l0 x12_1).f1))) (fun _ hk => hk.2) (.int .i64 ((rd_T35 l0 x12_1).f2))) (fun _ hk => hk.2) (.bool ((rd_T35 l0 x12_1).f3))) (fun _ hk => hk.2) (.int .i64 ((rd_T35 l0 x12_1).f4))) (fun _ hk => ⟨hk.1.1, hk.1.2⟩)⟩, ⟨by (with_reducible repeat (first | refine blk_drewN ?_ _ | refine blk_drew ?_ | refine blk_alloc ?_ _)); refine blk_far ?_ NB132_140.out _; (with_reducible repeat (first | refine blk_drewN ?_ _ | refine blk_drew ?_ | refine blk_alloc ?_ _)); refine blk_far ?_ NB132_140.out _; (with_reducible repeat (first | refine blk_drewN ?_ _ | refine blk_drew ?_ | refine blk_alloc ?_ _)); refine blk_far ?_ NB132_140.out _; (with_reducible repeat (first | refine blk_drewN ?_ _ | refine blk_drew ?_ | refine blk_alloc ?_ _)); refine blk_far ?_ NB132_140.out _; (with_reducible repeat (first | refine blk_drewN ?_ _ | refine blk_drew ?_ | refine blk_alloc ?_ _)); refine blk_far ?_ NB132_140.out _; (with_reducible repeat (first | refine blk_drewN ?_ _ | refine blk_drew ?_ | refine blk_alloc ?_ _)); exact BK132.out⟩, ⟨by (with_reducible repeat (first | refine blk_drewN ?_ _ | refine blk_drew ?_ | refine blk_alloc ?_ _)); refine blk_put (cs := #[.string ((rd_T35 l0 x12_1).f0), .int .i64 ((rd_T35 l0 x12_1).f1), .int .i64 ((rd_T35 l0 x12_1).f2), .bool ((rd_T35 l0 x12_1).f3), .int .i64 0]) ?_ 4 _ rfl; (with_reducible repeat (first | refine blk_drewN ?_ _ | refine blk_drew ?_ | refine blk_alloc ?_ _)); refine blk_put (cs := #[.string ((rd_T35 l0 x12_1).f0), .int .i64 ((rd_T35 l0 x12_1).f1), .int .i64 ((rd_T35 l0 x12_1).f2), .bool false, .int .i64 0]) ?_ 3 _ rfl; (with_reducible repeat (first | refine blk_drewN ?_ _ | refine blk_drew ?_ | refine blk_alloc ?_ _)); refine blk_put (cs := #[.string ((rd_T35 l0 x12_1).f0), .int .i64 ((rd_T35 l0 x12_1).f1), .int .i64 0, .bool false, .int .i64 0]) ?_ 2 _ rfl; (with_reducible repeat (first | refine blk_drewN ?_ _ | refine blk_drew ?_ | refine blk_alloc ?_ _)); refine blk_put (cs := #[.string ((rd_T35 l0 x12_1).f0), .int .i64 0, .int .i64 0, .bool false, .int .i64 0]) ?_ 1 _ rfl; (with_reducible repeat (first | refine blk_drewN ?_ _ | refine blk_drew ?_ | refine blk_alloc ?_ _)); refine blk_put (cs := #[.string (⟨#[]⟩ : ByteArray), .int .i64 0, .int .i64 0, .bool false, .int .i64 0]) ?_ 0 _ rfl; (with_reducible repeat (first | refine blk_drewN ?_ _ | refine blk_drew ?_ | refine blk_alloc ?_ _)); exact BK140.out⟩, ⟨by repeat (first | (with_reducible first | exact HB.out | apply below_alloc | apply pw_below_drewN | apply below_drew1 | refine below_set ?_ GE132.out | refine below_set ?_ GE140.out) | exact HB.out)⟩⟩
            case rest =>
              clear HC9
              try clear c1
              try clear p1
              try clear q1
              try clear hx1
              try clear p2
              try clear c6
              try clear c6b0
              try clear c7
              try clear c7b0
              try clear c8
              try clear c8b0
              try clear c11
              try clear c13
              try clear p13
              try clear q13
              try clear hx13
              try clear c14
              try clear c15
              try clear hcz12_0
              try clear hcz12_1
              try clear hcz12_2
              try clear hcz12_3
              try clear hcz12_4
              try clear hcz15_0
              try clear hcz15_1
              try clear hcz15_2
              try clear hcz15_3
              try clear hcz15_4
              try clear hcz16_0
              try clear hcz16_1
              try clear hcz16_2
              try clear hcz16_3
              try clear hcz16_4
              try clear hfz12_0
              try clear hfz12_1
              try clear hfz12_2
              try clear hfz12_3
              try clear hfz12_4
              try clear hfz15_0
              try clear hfz15_1
              try clear hfz15_2
              try clear hfz15_3
              try clear hfz15_4
              try clear hfz16_0
              try clear hfz16_1
              try clear hfz16_2
              try clear hfz16_3
              try clear hfz16_4
              try clear hx139_0
              try clear hx139_1
              try clear hx139_2
              try clear hx139_3
              try clear hx139_4
              try clear p139
              try clear p2
              try clear q139
              obtain ⟨kq, x24_8, rfl, HA, HJ8, HO_5, BK132, BK140, HB⟩ := hcut
              cases kq with
              | zero => exact absurd HA.out (by simp [spec_told.j1])
              | succ kj8 =>
                have H := HA.out
                clear HA
                simp only [spec_told.j1] at H
                by_cases c17 : x24_8 = true
                · subst c17
                  have H1 : (if x5_1.length < 2932031007402 then ((some (x5_1 ++ [(⟨a1_0, a1_1, a1_2, a1_3, a1_4⟩ : S35)] : List (S35))).bind fun y141 => (if ((rd_T35 l0 x12_1).f0).toList = a1_0.toList then (spec_told.l0 kj8 y141 true l0 (l0.length : Int) (wrap64 (x12_1 + 1)) a1_0 a1_1 a1_2 a1_3 a1_4) else (if y141.length < 2932031007402 then (spec_told.l0 kj8 (y141 ++ [(⟨((rd_T35 l0 x12_1).f0), ((rd_T35 l0 x12_1).f1), ((rd_T35 l0 x12_1).f2), ((rd_T35 l0 x12_1).f3), ((rd_T35 l0 x12_1).f4)⟩ : S35)]) true l0 (l0.length : Int) (wrap64 (x12_1 + 1)) a1_0 a1_1 a1_2 a1_3 a1_4) else (none)))) else (none)) = some r := by rw [if_pos rfl] at H; exact H
                  clear H
                  have H := H1
                  clear H1
                  by_cases c18 : x5_1.length < 2932031007402
                  · rw [if_pos c18] at H
                    have LMc18 := Aside0.mk c18
                    clear c18
                    obtain ⟨y141, hy141⟩ : ∃ y_ : List (S35), y_ = (x5_1 ++ [(⟨a1_0, a1_1, a1_2, a1_3, a1_4⟩ : S35)]) := ⟨_, rfl⟩
                    replace H : (if ((rd_T35 l0 x12_1).f0).toList = a1_0.toList then (spec_told.l0 kj8 y141 true l0 (l0.length : Int) (wrap64 (x12_1 + 1)) a1_0 a1_1 a1_2 a1_3 a1_4) else (if y141.length < 2932031007402 then (spec_told.l0 kj8 (y141 ++ [(⟨((rd_T35 l0 x12_1).f0), ((rd_T35 l0 x12_1).f1), ((rd_T35 l0 x12_1).f2), ((rd_T35 l0 x12_1).f3), ((rd_T35 l0 x12_1).f4)⟩ : S35)]) true l0 (l0.length : Int) (wrap64 (x12_1 + 1)) a1_0 a1_1 a1_2 a1_3 a1_4) else (none))) = some r := by first | (rw [hy141]; with_reducible exact H) | (have H2_ := (Option.bind_some _ _).symm.trans H; rw [hy141]; with_reducible exact H2_) | (have H2_ := (Option.bind_some _ _).symm.trans H; with_reducible exact H2_) | with_reducible exact H | (rw [hy141]; exact H) | exact H
                    have Ny141 := Aside0.mk hy141
                    clear hy141
                    by_cases c19 : ((rd_T35 l0 x12_1).f0).toList = a1_0.toList
                    · rw [if_pos c19] at H
                      have c19b0 : (((rd_T35 l0 x12_1).f0).toList == a1_0.toList) = true := beq_iff_eq.mpr c19
                      have c19b1 : (((rd_T35 l0 x12_1).f0).toList != a1_0.toList) = false := bne_eq_false_iff_eq.mpr c19
                      clear c19
                      have H' := Aside0.mk H
                      clear H
                      have hnb20 := NB132_140.out
                      have hnc20 := NB140_132.out
                      have hcz21_0 : wc.cell? ⟨gb132, 0, none⟩ = some (.string a1_0) := (blk_cell BK132.out 0).trans rfl
                      have hcz21_1 : wc.cell? ⟨gb132, 1, none⟩ = some (.int .i64 a1_1) := (blk_cell BK132.out 1).trans rfl
                      have hcz21_2 : wc.cell? ⟨gb132, 2, none⟩ = some (.int .i64 a1_2) := (blk_cell BK132.out 2).trans rfl
                      have hcz21_3 : wc.cell? ⟨gb132, 3, none⟩ = some (.bool a1_3) := (blk_cell BK132.out 3).trans rfl
                      have hcz21_4 : wc.cell? ⟨gb132, 4, none⟩ = some (.int .i64 a1_4) := (blk_cell BK132.out 4).trans rfl
                      have hfz21_0 := blk_frozen BK132.out 0
                      have hfz21_1 := blk_frozen BK132.out 1
                      have hfz21_2 := blk_frozen BK132.out 2
                      have hfz21_3 := blk_frozen BK132.out 3
                      have hfz21_4 := blk_frozen BK132.out 4
                      go_wp2_with (first | ((with_reducible refine gate_builtin (b := .append) (xs := #[.tmp 25, .tmp 27]) rfl ?_); at_builtin; refine Kd.R_append k35 (w0 := w) w.heap.size rfl (.tmp 25) (.tmp 27) 25 35 (.agg #[(.string ⟨#[]⟩), (.int .i64 0), (.int .i64 0), (.bool false), (.int .i64 0)]) 48 rfl Try.underlying25 info35 rfl (by decide) (by omega) u5 x5_1 (⟨a1_0, a1_1, a1_2, a1_3, a1_4⟩ : S35) [.string a1_0, .int .i64 a1_1, .int .i64 a1_2, .bool a1_3, .int .i64 a1_4] (fun k_ => k_ ≠ gb132 ∧ k_ ≠ gb140) (fun _ => False) rfl rfl ?aP (fun _ hk => hk.elim) ?aF ?aO ?aB ?aS ?aL ?_; (case aP => exact k35_mkM _ _ _ (⟨a1_0, a1_1, a1_2, a1_3, a1_4⟩ : S35)); (case aB => exact (by repeat (first | (with_reducible first | exact HB.out | apply below_alloc | apply pw_below_drewN | apply below_drew1 | refine below_set ?_ GE132.out | refine below_set ?_ GE140.out) | exact HB.out))); (case aF => exact (fun k_ hk => ⟨Kd.freshB (g := gb132) (o := .cells #[.string a1_0, .int .i64 a1_1, .int .i64 a1_2, .bool a1_3, .int .i64 a1_4] 35 (0, 0)) (by (with_reducible repeat (first | refine blk_drewN ?_ _ | refine blk_drew ?_ | refine blk_alloc ?_ _)); exact BK132.out) k_ hk, Kd.freshB (g := gb140) (o := .cells #[.string ((rd_T35 l0 x12_1).f0), .int .i64 ((rd_T35 l0 x12_1).f1), .int .i64 ((rd_T35 l0 x12_1).f2), .bool ((rd_T35 l0 x12_1).f3), .int .i64 ((rd_T35 l0 x12_1).f4)] 35 (0, 0)) (by (with_reducible repeat (first | refine blk_drewN ?_ _ | refine blk_drew ?_ | refine blk_alloc ?_ _)); exact BK140.out) k_ hk⟩)); (case aO => exact (by (with_reducible repeat (first | apply Kd.R_alloc | apply Kd.R_drewN | apply Kd.R_drew)); exact HO_5.out)); (case aS => exact (below_size (by repeat (first | (with_reducible first | exact HB.out | apply below_alloc | apply pw_below_drewN | apply below_drew1 | refine below_set ?_ GE132.out | refine below_set ?_ GE140.out) | exact HB.out)))); (case aL => have := LMc18.out; omega); intro v142 w22 ho hb hg hat; rw [← Ny141.out] at ho; have n0_ := Aside0.mk (blk_grown (g := gb132) (o := .cells #[.string a1_0, .int .i64 a1_1, .int .i64 a1_2, .bool a1_3, .int .i64 a1_4] 35 (0, 0)) (by (with_reducible repeat (first | refine blk_drewN ?_ _ | refine blk_drew ?_ | refine blk_alloc ?_ _)); exact BK132.out) hg (Kd.R_away HO_5.out (fun _ hk => hk.1))); have n1_ := Aside0.mk (blk_grown (g := gb140) (o := .cells #[.string ((rd_T35 l0 x12_1).f0), .int .i64 ((rd_T35 l0 x12_1).f1), .int .i64 ((rd_T35 l0 x12_1).f2), .bool ((rd_T35 l0 x12_1).f3), .int .i64 ((rd_T35 l0 x12_1).f4)] 35 (0, 0)) (by (with_reducible repeat (first | refine blk_drewN ?_ _ | refine blk_drew ?_ | refine blk_alloc ?_ _)); exact BK140.out) hg (Kd.R_away HO_5.out (fun _ hk => hk.2))); have n2_ := Aside0.mk (hb); have n3_ := Aside0.mk (ho); clear BK132; clear BK140; clear HB; clear HO_5; have BK132 := n0_; have BK140 := n1_; have HB := n2_; have HO143 := n3_; clear n0_ n1_ n2_ n3_; clear ho hb hg hat; have hcz23_0 : w22.cell? ⟨gb140, 0, none⟩ = some (.string ((rd_T35 l0 x12_1).f0)) := (blk_cell BK140.out 0).trans rfl; have hcz23_1 : w22.cell? ⟨gb140, 1, none⟩ = some (.int .i64 ((rd_T35 l0 x12_1).f1)) := (blk_cell BK140.out 1).trans rfl; have hcz23_2 : w22.cell? ⟨gb140, 2, none⟩ = some (.int .i64 ((rd_T35 l0 x12_1).f2)) := (blk_cell BK140.out 2).trans rfl; have hcz23_3 : w22.cell? ⟨gb140, 3, none⟩ = some (.bool ((rd_T35 l0 x12_1).f3)) := (blk_cell BK140.out 3).trans rfl; have hcz23_4 : w22.cell? ⟨gb140, 4, none⟩ = some (.int .i64 ((rd_T35 l0 x12_1).f4)) := (blk_cell BK140.out 4).trans rfl; have hfz23_0 := blk_frozen BK140.out 0; have hfz23_1 := blk_frozen BK140.out 1; have hfz23_2 := blk_frozen BK140.out 2; have hfz23_3 := blk_frozen BK140.out 3; have hfz23_4 := blk_frozen BK140.out 4; have hcz24_0 : w22.cell? ⟨gb132, 0, none⟩ = some (.string a1_0) := (blk_cell BK132.out 0).trans rfl; have hcz24_1 : w22.cell? ⟨gb132, 1, none⟩ = some (.int .i64 a1_1) := (blk_cell BK132.out 1).trans rfl; have hcz24_2 : w22.cell? ⟨gb132, 2, none⟩ = some (.int .i64 a1_2) := (blk_cell BK132.out 2).trans rfl; have hcz24_3 : w22.cell? ⟨gb132, 3, none⟩ = some (.bool a1_3) := (blk_cell BK132.out 3).trans rfl; have hcz24_4 : w22.cell? ⟨gb132, 4, none⟩ = some (.int .i64 a1_4) := (blk_cell BK132.out 4).trans rfl; have hfz24_0 := blk_frozen BK132.out 0; have hfz24_1 := blk_frozen BK132.out 1; have hfz24_2 := blk_frozen BK132.out 2; have hfz24_3 := blk_frozen BK132.out 3; have hfz24_4 := blk_frozen BK132.out 4))
                      go_roundg kj8
                      case measure => have := HK1.out; have := HJ8.out; omega
                      case rel => exact ⟨(y141), (true), (wrap64 (x12_1 + 1)), (by first | rfl | (simp; done) | (simp [*]; done)), (by first | rfl | (simp; done) | (simp [*]; done)), H', ⟨by have := HK1.out; have := HJ8.out; omega⟩, ⟨by (with_reducible repeat (first | apply Kd.R_alloc | apply Kd.R_drewN | apply Kd.R_drew)); exact Kd.R_mono HO143.out (fun _ hk => hk.1)⟩, ⟨by (with_reducible repeat (first | refine blk_drewN ?_ _ | refine blk_drew ?_ | refine blk_alloc ?_ _)); exact BK132.out⟩, ⟨by repeat (first | (with_reducible first | exact HB.out | apply below_alloc | apply pw_below_drewN | apply below_drew1 | refine below_set ?_ GE132.out | refine below_set ?_ GE140.out) | exact HB.out)⟩⟩
                    · rw [if_neg c19] at H
                      have c19b0 : (((rd_T35 l0 x12_1).f0).toList == a1_0.toList) = false := beq_eq_false_iff_ne.mpr c19
                      have c19b1 : (((rd_T35 l0 x12_1).f0).toList != a1_0.toList) = true := bne_iff_ne.mpr c19
                      by_cases c25 : y141.length < 2932031007402
                      · rw [if_pos c25] at H
                        have LMc25 := Aside0.mk c25
                        clear c25
                        obtain ⟨y144, hy144⟩ : ∃ y_ : List (S35), y_ = (y141 ++ [(⟨((rd_T35 l0 x12_1).f0), ((rd_T35 l0 x12_1).f1), ((rd_T35 l0 x12_1).f2), ((rd_T35 l0 x12_1).f3), ((rd_T35 l0 x12_1).f4)⟩ : S35)]) := ⟨_, rfl⟩
                        replace H : (spec_told.l0 kj8 y144 true l0 (l0.length : Int) (wrap64 (x12_1 + 1)) a1_0 a1_1 a1_2 a1_3 a1_4) = some r := by first | (rw [hy144]; with_reducible exact H) | (have H2_ := (Option.bind_some _ _).symm.trans H; rw [hy144]; with_reducible exact H2_) | (have H2_ := (Option.bind_some _ _).symm.trans H; with_reducible exact H2_) | with_reducible exact H | (rw [hy144]; exact H) | exact H
                        have Ny144 := Aside0.mk hy144
                        clear hy144
                        have H' := Aside0.mk H
                        clear H
                        have hnb26 := NB132_140.out
                        have hnc26 := NB140_132.out
                        have hcz27_0 : wc.cell? ⟨gb132, 0, none⟩ = some (.string a1_0) := (blk_cell BK132.out 0).trans rfl
                        have hcz27_1 : wc.cell? ⟨gb132, 1, none⟩ = some (.int .i64 a1_1) := (blk_cell BK132.out 1).trans rfl
                        have hcz27_2 : wc.cell? ⟨gb132, 2, none⟩ = some (.int .i64 a1_2) := (blk_cell BK132.out 2).trans rfl
                        have hcz27_3 : wc.cell? ⟨gb132, 3, none⟩ = some (.bool a1_3) := (blk_cell BK132.out 3).trans rfl
                        have hcz27_4 : wc.cell? ⟨gb132, 4, none⟩ = some (.int .i64 a1_4) := (blk_cell BK132.out 4).trans rfl
                        have hfz27_0 := blk_frozen BK132.out 0
                        have hfz27_1 := blk_frozen BK132.out 1
                        have hfz27_2 := blk_frozen BK132.out 2
                        have hfz27_3 := blk_frozen BK132.out 3
                        have hfz27_4 := blk_frozen BK132.out 4
                        go_wp2_with (first | ((with_reducible refine gate_builtin (b := .append) (xs := #[.tmp 25, .tmp 27]) rfl ?_); at_builtin; refine Kd.R_append k35 (w0 := w) w.heap.size rfl (.tmp 25) (.tmp 27) 25 35 (.agg #[(.string ⟨#[]⟩), (.int .i64 0), (.int .i64 0), (.bool false), (.int .i64 0)]) 48 rfl Try.underlying25 info35 rfl (by decide) (by omega) u5 x5_1 (⟨a1_0, a1_1, a1_2, a1_3, a1_4⟩ : S35) [.string a1_0, .int .i64 a1_1, .int .i64 a1_2, .bool a1_3, .int .i64 a1_4] (fun k_ => k_ ≠ gb132 ∧ k_ ≠ gb140) (fun _ => False) rfl rfl ?aP (fun _ hk => hk.elim) ?aF ?aO ?aB ?aS ?aL ?_; (case aP => exact k35_mkM _ _ _ (⟨a1_0, a1_1, a1_2, a1_3, a1_4⟩ : S35)); (case aB => exact (by repeat (first | (with_reducible first | exact HB.out | apply below_alloc | apply pw_below_drewN | apply below_drew1 | refine below_set ?_ GE132.out | refine below_set ?_ GE140.out) | exact HB.out))); (case aF => exact (fun k_ hk => ⟨Kd.freshB (g := gb132) (o := .cells #[.string a1_0, .int .i64 a1_1, .int .i64 a1_2, .bool a1_3, .int .i64 a1_4] 35 (0, 0)) (by (with_reducible repeat (first | refine blk_drewN ?_ _ | refine blk_drew ?_ | refine blk_alloc ?_ _)); exact BK132.out) k_ hk, Kd.freshB (g := gb140) (o := .cells #[.string ((rd_T35 l0 x12_1).f0), .int .i64 ((rd_T35 l0 x12_1).f1), .int .i64 ((rd_T35 l0 x12_1).f2), .bool ((rd_T35 l0 x12_1).f3), .int .i64 ((rd_T35 l0 x12_1).f4)] 35 (0, 0)) (by (with_reducible repeat (first | refine blk_drewN ?_ _ | refine blk_drew ?_ | refine blk_alloc ?_ _)); exact BK140.out) k_ hk⟩)); (case aO => exact (by (with_reducible repeat (first | apply Kd.R_alloc | apply Kd.R_drewN | apply Kd.R_drew)); exact HO_5.out)); (case aS => exact (below_size (by repeat (first | (with_reducible first | exact HB.out | apply below_alloc | apply pw_below_drewN | apply below_drew1 | refine below_set ?_ GE132.out | refine below_set ?_ GE140.out) | exact HB.out)))); (case aL => have := LMc18.out; omega); intro v142 w28 ho hb hg hat; rw [← Ny141.out] at ho; have n0_ := Aside0.mk (blk_grown (g := gb132) (o := .cells #[.string a1_0, .int .i64 a1_1, .int .i64 a1_2, .bool a1_3, .int .i64 a1_4] 35 (0, 0)) (by (with_reducible repeat (first | refine blk_drewN ?_ _ | refine blk_drew ?_ | refine blk_alloc ?_ _)); exact BK132.out) hg (Kd.R_away HO_5.out (fun _ hk => hk.1))); have n1_ := Aside0.mk (blk_grown (g := gb140) (o := .cells #[.string ((rd_T35 l0 x12_1).f0), .int .i64 ((rd_T35 l0 x12_1).f1), .int .i64 ((rd_T35 l0 x12_1).f2), .bool ((rd_T35 l0 x12_1).f3), .int .i64 ((rd_T35 l0 x12_1).f4)] 35 (0, 0)) (by (with_reducible repeat (first | refine blk_drewN ?_ _ | refine blk_drew ?_ | refine blk_alloc ?_ _)); exact BK140.out) hg (Kd.R_away HO_5.out (fun _ hk => hk.2))); have n2_ := Aside0.mk (hb); have n3_ := Aside0.mk (ho); clear BK132; clear BK140; clear HB; clear HO_5; have BK132 := n0_; have BK140 := n1_; have HB := n2_; have HO143 := n3_; clear n0_ n1_ n2_ n3_; clear ho hb hg hat; have hcz29_0 : w28.cell? ⟨gb140, 0, none⟩ = some (.string ((rd_T35 l0 x12_1).f0)) := (blk_cell BK140.out 0).trans rfl; have hcz29_1 : w28.cell? ⟨gb140, 1, none⟩ = some (.int .i64 ((rd_T35 l0 x12_1).f1)) := (blk_cell BK140.out 1).trans rfl; have hcz29_2 : w28.cell? ⟨gb140, 2, none⟩ = some (.int .i64 ((rd_T35 l0 x12_1).f2)) := (blk_cell BK140.out 2).trans rfl; have hcz29_3 : w28.cell? ⟨gb140, 3, none⟩ = some (.bool ((rd_T35 l0 x12_1).f3)) := (blk_cell BK140.out 3).trans rfl; have hcz29_4 : w28.cell? ⟨gb140, 4, none⟩ = some (.int .i64 ((rd_T35 l0 x12_1).f4)) := (blk_cell BK140.out 4).trans rfl; have hfz29_0 := blk_frozen BK140.out 0; have hfz29_1 := blk_frozen BK140.out 1; have hfz29_2 := blk_frozen BK140.out 2; have hfz29_3 := blk_frozen BK140.out 3; have hfz29_4 := blk_frozen BK140.out 4; have hcz30_0 : w28.cell? ⟨gb132, 0, none⟩ = some (.string a1_0) := (blk_cell BK132.out 0).trans rfl; have hcz30_1 : w28.cell? ⟨gb132, 1, none⟩ = some (.int .i64 a1_1) := (blk_cell BK132.out 1).trans rfl; have hcz30_2 : w28.cell? ⟨gb132, 2, none⟩ = some (.int .i64 a1_2) := (blk_cell BK132.out 2).trans rfl; have hcz30_3 : w28.cell? ⟨gb132, 3, none⟩ = some (.bool a1_3) := (blk_cell BK132.out 3).trans rfl; have hcz30_4 : w28.cell? ⟨gb132, 4, none⟩ = some (.int .i64 a1_4) := (blk_cell BK132.out 4).trans rfl; have hfz30_0 := blk_frozen BK132.out 0; have hfz30_1 := blk_frozen BK132.out 1; have hfz30_2 := blk_frozen BK132.out 2; have hfz30_3 := blk_frozen BK132.out 3; have hfz30_4 := blk_frozen BK132.out 4) | ((with_reducible refine gate_builtin (b := .append) (xs := #[.tmp 34, .tmp 36]) rfl ?_); at_builtin; refine Kd.R_append k35 (w0 := w) w.heap.size rfl (.tmp 34) (.tmp 36) 25 35 (.agg #[(.string ⟨#[]⟩), (.int .i64 0), (.int .i64 0), (.bool false), (.int .i64 0)]) 48 rfl Try.underlying25 info35 rfl (by decide) (by omega) v142 y141 (⟨((rd_T35 l0 x12_1).f0), ((rd_T35 l0 x12_1).f1), ((rd_T35 l0 x12_1).f2), ((rd_T35 l0 x12_1).f3), ((rd_T35 l0 x12_1).f4)⟩ : S35) [.string ((rd_T35 l0 x12_1).f0), .int .i64 ((rd_T35 l0 x12_1).f1), .int .i64 ((rd_T35 l0 x12_1).f2), .bool ((rd_T35 l0 x12_1).f3), .int .i64 ((rd_T35 l0 x12_1).f4)] (fun k_ => k_ ≠ gb132 ∧ k_ ≠ gb140) (fun _ => False) rfl rfl ?aP (fun _ hk => hk.elim) ?aF ?aO ?aB ?aS ?aL ?_; (case aP => exact k35_mkM _ _ _ (⟨((rd_T35 l0 x12_1).f0), ((rd_T35 l0 x12_1).f1), ((rd_T35 l0 x12_1).f2), ((rd_T35 l0 x12_1).f3), ((rd_T35 l0 x12_1).f4)⟩ : S35)); (case aB => exact (by repeat (first | (with_reducible first | exact HB.out | apply below_alloc | apply pw_below_drewN | apply below_drew1 | refine below_set ?_ GE132.out | refine below_set ?_ GE140.out) | exact HB.out))); (case aF => exact (fun k_ hk => ⟨Kd.freshB (g := gb132) (o := .cells #[.string a1_0, .int .i64 a1_1, .int .i64 a1_2, .bool a1_3, .int .i64 a1_4] 35 (0, 0)) (by (with_reducible repeat (first | refine blk_drewN ?_ _ | refine blk_drew ?_ | refine blk_alloc ?_ _)); exact BK132.out) k_ hk, Kd.freshB (g := gb140) (o := .cells #[.string ((rd_T35 l0 x12_1).f0), .int .i64 ((rd_T35 l0 x12_1).f1), .int .i64 ((rd_T35 l0 x12_1).f2), .bool ((rd_T35 l0 x12_1).f3), .int .i64 ((rd_T35 l0 x12_1).f4)] 35 (0, 0)) (by (with_reducible repeat (first | refine blk_drewN ?_ _ | refine blk_drew ?_ | refine blk_alloc ?_ _)); exact BK140.out) k_ hk⟩)); (case aO => exact (by (with_reducible repeat (first | apply Kd.R_alloc | apply Kd.R_drewN | apply Kd.R_drew)); exact HO143.out)); (case aS => exact (below_size (by repeat (first | (with_reducible first | exact HB.out | apply below_alloc | apply pw_below_drewN | apply below_drew1 | refine below_set ?_ GE132.out | refine below_set ?_ GE140.out) | exact HB.out)))); (case aL => have := LMc25.out; omega); intro v145 w31 ho hb hg hat; rw [← Ny144.out] at ho; have n0_ := Aside0.mk (blk_grown (g := gb132) (o := .cells #[.string a1_0, .int .i64 a1_1, .int .i64 a1_2, .bool a1_3, .int .i64 a1_4] 35 (0, 0)) (by (with_reducible repeat (first | refine blk_drewN ?_ _ | refine blk_drew ?_ | refine blk_alloc ?_ _)); exact BK132.out) hg (Kd.R_away HO143.out (fun _ hk => hk.1))); have n1_ := Aside0.mk (blk_grown (g := gb140) (o := .cells #[.string ((rd_T35 l0 x12_1).f0), .int .i64 ((rd_T35 l0 x12_1).f1), .int .i64 ((rd_T35 l0 x12_1).f2), .bool ((rd_T35 l0 x12_1).f3), .int .i64 ((rd_T35 l0 x12_1).f4)] 35 (0, 0)) (by (with_reducible repeat (first | refine blk_drewN ?_ _ | refine blk_drew ?_ | refine blk_alloc ?_ _)); exact BK140.out) hg (Kd.R_away HO143.out (fun _ hk => hk.2))); have n2_ := Aside0.mk (hb); have n3_ := Aside0.mk (ho); clear BK132; clear BK140; clear HB; clear HO143; have BK132 := n0_; have BK140 := n1_; have HB := n2_; have HO146 := n3_; clear n0_ n1_ n2_ n3_; clear ho hb hg hat))
                        go_roundg kj8
                        case measure => have := HK1.out; have := HJ8.out; omega
                        case rel => exact ⟨(y144), (true), (wrap64 (x12_1 + 1)), (by first | rfl | (simp; done) | (simp [*]; done)), (by first | rfl | (simp; done) | (simp [*]; done)), H', ⟨by have := HK1.out; have := HJ8.out; omega⟩, ⟨by (with_reducible repeat (first | apply Kd.R_alloc | apply Kd.R_drewN | apply Kd.R_drew)); exact Kd.R_mono HO146.out (fun _ hk => hk.1)⟩, ⟨by (with_reducible repeat (first | refine blk_drewN ?_ _ | refine blk_drew ?_ | refine blk_alloc ?_ _)); exact BK132.out⟩, ⟨by repeat (first | (with_reducible first | exact HB.out | apply below_alloc | apply pw_below_drewN | apply below_drew1 | refine below_set ?_ GE132.out | refine below_set ?_ GE140.out) | exact HB.out)⟩⟩
                      · rw [if_neg c25] at H
                        exact absurd H (by simp)
                  · rw [if_neg c18] at H
                    exact absurd H (by simp)
                · replace c17 := Bool.eq_false_iff.mpr c17
                  subst c17
                  have H1 : (if ((rd_T35 l0 x12_1).f0).toList = a1_0.toList then (spec_told.l0 kj8 x5_1 x6_1 l0 (l0.length : Int) (wrap64 (x12_1 + 1)) a1_0 a1_1 a1_2 a1_3 a1_4) else (if x5_1.length < 2932031007402 then (spec_told.l0 kj8 (x5_1 ++ [(⟨((rd_T35 l0 x12_1).f0), ((rd_T35 l0 x12_1).f1), ((rd_T35 l0 x12_1).f2), ((rd_T35 l0 x12_1).f3), ((rd_T35 l0 x12_1).f4)⟩ : S35)]) x6_1 l0 (l0.length : Int) (wrap64 (x12_1 + 1)) a1_0 a1_1 a1_2 a1_3 a1_4) else (none))) = some r := by rw [if_neg (show ¬ (false = true) by decide)] at H; exact H
                  clear H
                  have H := H1
                  clear H1
                  by_cases c32 : ((rd_T35 l0 x12_1).f0).toList = a1_0.toList
                  · rw [if_pos c32] at H
                    have c32b0 : (((rd_T35 l0 x12_1).f0).toList == a1_0.toList) = true := beq_iff_eq.mpr c32
                    have c32b1 : (((rd_T35 l0 x12_1).f0).toList != a1_0.toList) = false := bne_eq_false_iff_eq.mpr c32
                    clear c32
                    have H' := Aside0.mk H
                    clear H
                    have hnb33 := NB140_132.out
                    have hnc33 := NB132_140.out
                    have hcz34_0 : wc.cell? ⟨gb140, 0, none⟩ = some (.string ((rd_T35 l0 x12_1).f0)) := (blk_cell BK140.out 0).trans rfl
                    have hcz34_1 : wc.cell? ⟨gb140, 1, none⟩ = some (.int .i64 ((rd_T35 l0 x12_1).f1)) := (blk_cell BK140.out 1).trans rfl
                    have hcz34_2 : wc.cell? ⟨gb140, 2, none⟩ = some (.int .i64 ((rd_T35 l0 x12_1).f2)) := (blk_cell BK140.out 2).trans rfl
                    have hcz34_3 : wc.cell? ⟨gb140, 3, none⟩ = some (.bool ((rd_T35 l0 x12_1).f3)) := (blk_cell BK140.out 3).trans rfl
                    have hcz34_4 : wc.cell? ⟨gb140, 4, none⟩ = some (.int .i64 ((rd_T35 l0 x12_1).f4)) := (blk_cell BK140.out 4).trans rfl
                    have hfz34_0 := blk_frozen BK140.out 0
                    have hfz34_1 := blk_frozen BK140.out 1
                    have hfz34_2 := blk_frozen BK140.out 2
                    have hfz34_3 := blk_frozen BK140.out 3
                    have hfz34_4 := blk_frozen BK140.out 4
                    have hcz35_0 : wc.cell? ⟨gb132, 0, none⟩ = some (.string a1_0) := (blk_cell BK132.out 0).trans rfl
                    have hcz35_1 : wc.cell? ⟨gb132, 1, none⟩ = some (.int .i64 a1_1) := (blk_cell BK132.out 1).trans rfl
                    have hcz35_2 : wc.cell? ⟨gb132, 2, none⟩ = some (.int .i64 a1_2) := (blk_cell BK132.out 2).trans rfl
                    have hcz35_3 : wc.cell? ⟨gb132, 3, none⟩ = some (.bool a1_3) := (blk_cell BK132.out 3).trans rfl
                    have hcz35_4 : wc.cell? ⟨gb132, 4, none⟩ = some (.int .i64 a1_4) := (blk_cell BK132.out 4).trans rfl
                    have hfz35_0 := blk_frozen BK132.out 0
                    have hfz35_1 := blk_frozen BK132.out 1
                    have hfz35_2 := blk_frozen BK132.out 2
                    have hfz35_3 := blk_frozen BK132.out 3
                    have hfz35_4 := blk_frozen BK132.out 4
                    go_wp2
                    go_roundg kj8
                    case measure => have := HK1.out; have := HJ8.out; omega
                    case rel => exact ⟨(x5_1), (x6_1), (wrap64 (x12_1 + 1)), (by first | rfl | (simp; done) | (simp [*]; done)), (by first | rfl | (simp; done) | (simp [*]; done)), H', ⟨by have := HK1.out; have := HJ8.out; omega⟩, ⟨by (with_reducible repeat (first | apply Kd.R_alloc | apply Kd.R_drewN | apply Kd.R_drew)); exact Kd.R_mono HO_5.out (fun _ hk => hk.1)⟩, ⟨by (with_reducible repeat (first | refine blk_drewN ?_ _ | refine blk_drew ?_ | refine blk_alloc ?_ _)); exact BK132.out⟩, ⟨by repeat (first | (with_reducible first | exact HB.out | apply below_alloc | apply pw_below_drewN | apply below_drew1 | refine below_set ?_ GE132.out | refine below_set ?_ GE140.out) | exact HB.out)⟩⟩
                  · rw [if_neg c32] at H
                    have c32b0 : (((rd_T35 l0 x12_1).f0).toList == a1_0.toList) = false := beq_eq_false_iff_ne.mpr c32
                    have c32b1 : (((rd_T35 l0 x12_1).f0).toList != a1_0.toList) = true := bne_iff_ne.mpr c32
                    by_cases c36 : x5_1.length < 2932031007402
                    · rw [if_pos c36] at H
                      have LMc36 := Aside0.mk c36
                      clear c36
                      obtain ⟨y147, hy147⟩ : ∃ y_ : List (S35), y_ = (x5_1 ++ [(⟨((rd_T35 l0 x12_1).f0), ((rd_T35 l0 x12_1).f1), ((rd_T35 l0 x12_1).f2), ((rd_T35 l0 x12_1).f3), ((rd_T35 l0 x12_1).f4)⟩ : S35)]) := ⟨_, rfl⟩
                      replace H : (spec_told.l0 kj8 y147 x6_1 l0 (l0.length : Int) (wrap64 (x12_1 + 1)) a1_0 a1_1 a1_2 a1_3 a1_4) = some r := by first | (rw [hy147]; with_reducible exact H) | (have H2_ := (Option.bind_some _ _).symm.trans H; rw [hy147]; with_reducible exact H2_) | (have H2_ := (Option.bind_some _ _).symm.trans H; with_reducible exact H2_) | with_reducible exact H | (rw [hy147]; exact H) | exact H
                      have Ny147 := Aside0.mk hy147
                      clear hy147
                      have H' := Aside0.mk H
                      clear H
                      have hnb37 := NB140_132.out
                      have hnc37 := NB132_140.out
                      have hcz38_0 : wc.cell? ⟨gb140, 0, none⟩ = some (.string ((rd_T35 l0 x12_1).f0)) := (blk_cell BK140.out 0).trans rfl
                      have hcz38_1 : wc.cell? ⟨gb140, 1, none⟩ = some (.int .i64 ((rd_T35 l0 x12_1).f1)) := (blk_cell BK140.out 1).trans rfl
                      have hcz38_2 : wc.cell? ⟨gb140, 2, none⟩ = some (.int .i64 ((rd_T35 l0 x12_1).f2)) := (blk_cell BK140.out 2).trans rfl
                      have hcz38_3 : wc.cell? ⟨gb140, 3, none⟩ = some (.bool ((rd_T35 l0 x12_1).f3)) := (blk_cell BK140.out 3).trans rfl
                      have hcz38_4 : wc.cell? ⟨gb140, 4, none⟩ = some (.int .i64 ((rd_T35 l0 x12_1).f4)) := (blk_cell BK140.out 4).trans rfl
                      have hfz38_0 := blk_frozen BK140.out 0
                      have hfz38_1 := blk_frozen BK140.out 1
                      have hfz38_2 := blk_frozen BK140.out 2
                      have hfz38_3 := blk_frozen BK140.out 3
                      have hfz38_4 := blk_frozen BK140.out 4
                      have hcz39_0 : wc.cell? ⟨gb132, 0, none⟩ = some (.string a1_0) := (blk_cell BK132.out 0).trans rfl
                      have hcz39_1 : wc.cell? ⟨gb132, 1, none⟩ = some (.int .i64 a1_1) := (blk_cell BK132.out 1).trans rfl
                      have hcz39_2 : wc.cell? ⟨gb132, 2, none⟩ = some (.int .i64 a1_2) := (blk_cell BK132.out 2).trans rfl
                      have hcz39_3 : wc.cell? ⟨gb132, 3, none⟩ = some (.bool a1_3) := (blk_cell BK132.out 3).trans rfl
                      have hcz39_4 : wc.cell? ⟨gb132, 4, none⟩ = some (.int .i64 a1_4) := (blk_cell BK132.out 4).trans rfl
                      have hfz39_0 := blk_frozen BK132.out 0
                      have hfz39_1 := blk_frozen BK132.out 1
                      have hfz39_2 := blk_frozen BK132.out 2
                      have hfz39_3 := blk_frozen BK132.out 3
                      have hfz39_4 := blk_frozen BK132.out 4
                      go_wp2_with (first | ((with_reducible refine gate_builtin (b := .append) (xs := #[.tmp 34, .tmp 36]) rfl ?_); at_builtin; refine Kd.R_append k35 (w0 := w) w.heap.size rfl (.tmp 34) (.tmp 36) 25 35 (.agg #[(.string ⟨#[]⟩), (.int .i64 0), (.int .i64 0), (.bool false), (.int .i64 0)]) 48 rfl Try.underlying25 info35 rfl (by decide) (by omega) u5 x5_1 (⟨((rd_T35 l0 x12_1).f0), ((rd_T35 l0 x12_1).f1), ((rd_T35 l0 x12_1).f2), ((rd_T35 l0 x12_1).f3), ((rd_T35 l0 x12_1).f4)⟩ : S35) [.string ((rd_T35 l0 x12_1).f0), .int .i64 ((rd_T35 l0 x12_1).f1), .int .i64 ((rd_T35 l0 x12_1).f2), .bool ((rd_T35 l0 x12_1).f3), .int .i64 ((rd_T35 l0 x12_1).f4)] (fun k_ => k_ ≠ gb132 ∧ k_ ≠ gb140) (fun _ => False) rfl rfl ?aP (fun _ hk => hk.elim) ?aF ?aO ?aB ?aS ?aL ?_; (case aP => exact k35_mkM _ _ _ (⟨((rd_T35 l0 x12_1).f0), ((rd_T35 l0 x12_1).f1), ((rd_T35 l0 x12_1).f2), ((rd_T35 l0 x12_1).f3), ((rd_T35 l0 x12_1).f4)⟩ : S35)); (case aB => exact (by repeat (first | (with_reducible first | exact HB.out | apply below_alloc | apply pw_below_drewN | apply below_drew1 | refine below_set ?_ GE132.out | refine below_set ?_ GE140.out) | exact HB.out))); (case aF => exact (fun k_ hk => ⟨Kd.freshB (g := gb132) (o := .cells #[.string a1_0, .int .i64 a1_1, .int .i64 a1_2, .bool a1_3, .int .i64 a1_4] 35 (0, 0)) (by (with_reducible repeat (first | refine blk_drewN ?_ _ | refine blk_drew ?_ | refine blk_alloc ?_ _)); exact BK132.out) k_ hk, Kd.freshB (g := gb140) (o := .cells #[.string ((rd_T35 l0 x12_1).f0), .int .i64 ((rd_T35 l0 x12_1).f1), .int .i64 ((rd_T35 l0 x12_1).f2), .bool ((rd_T35 l0 x12_1).f3), .int .i64 ((rd_T35 l0 x12_1).f4)] 35 (0, 0)) (by (with_reducible repeat (first | refine blk_drewN ?_ _ | refine blk_drew ?_ | refine blk_alloc ?_ _)); exact BK140.out) k_ hk⟩)); (case aO => exact (by (with_reducible repeat (first | apply Kd.R_alloc | apply Kd.R_drewN | apply Kd.R_drew)); exact HO_5.out)); (case aS => exact (below_size (by repeat (first | (with_reducible first | exact HB.out | apply below_alloc | apply pw_below_drewN | apply below_drew1 | refine below_set ?_ GE132.out | refine below_set ?_ GE140.out) | exact HB.out)))); (case aL => have := LMc36.out; omega); intro v148 w40 ho hb hg hat; rw [← Ny147.out] at ho; have n0_ := Aside0.mk (blk_grown (g := gb132) (o := .cells #[.string a1_0, .int .i64 a1_1, .int .i64 a1_2, .bool a1_3, .int .i64 a1_4] 35 (0, 0)) (by (with_reducible repeat (first | refine blk_drewN ?_ _ | refine blk_drew ?_ | refine blk_alloc ?_ _)); exact BK132.out) hg (Kd.R_away HO_5.out (fun _ hk => hk.1))); have n1_ := Aside0.mk (blk_grown (g := gb140) (o := .cells #[.string ((rd_T35 l0 x12_1).f0), .int .i64 ((rd_T35 l0 x12_1).f1), .int .i64 ((rd_T35 l0 x12_1).f2), .bool ((rd_T35 l0 x12_1).f3), .int .i64 ((rd_T35 l0 x12_1).f4)] 35 (0, 0)) (by (with_reducible repeat (first | refine blk_drewN ?_ _ | refine blk_drew ?_ | refine blk_alloc ?_ _)); exact BK140.out) hg (Kd.R_away HO_5.out (fun _ hk => hk.2))); have n2_ := Aside0.mk (hb); have n3_ := Aside0.mk (ho); clear BK132; clear BK140; clear HB; clear HO_5; have BK132 := n0_; have BK140 := n1_; have HB := n2_; have HO149 := n3_; clear n0_ n1_ n2_ n3_; clear ho hb hg hat))
                      go_roundg kj8
                      case measure => have := HK1.out; have := HJ8.out; omega
                      case rel => exact ⟨(y147), (x6_1), (wrap64 (x12_1 + 1)), (by first | rfl | (simp; done) | (simp [*]; done)), (by first | rfl | (simp; done) | (simp [*]; done)), H', ⟨by have := HK1.out; have := HJ8.out; omega⟩, ⟨by (with_reducible repeat (first | apply Kd.R_alloc | apply Kd.R_drewN | apply Kd.R_drew)); exact Kd.R_mono HO149.out (fun _ hk => hk.1)⟩, ⟨by (with_reducible repeat (first | refine blk_drewN ?_ _ | refine blk_drew ?_ | refine blk_alloc ?_ _)); exact BK132.out⟩, ⟨by repeat (first | (with_reducible first | exact HB.out | apply below_alloc | apply pw_below_drewN | apply below_drew1 | refine below_set ?_ GE132.out | refine below_set ?_ GE140.out) | exact HB.out)⟩⟩
                    · rw [if_neg c36] at H
                      exact absurd H (by simp)
          · rw [if_neg c8] at H
            exact absurd H (by simp)
        · rw [if_neg c7] at H
          exact absurd H (by simp)
      · rw [if_neg c6] at H
        have c6b0 : decide (x12_1 < (l0.length : Int)) = false := decide_eq_false c6
        clear c6
        by_cases c41 : x6_1 = true
        · subst c41
          have H1 : (some x5_1) = some r := by rw [if_pos rfl] at H; exact H
          clear H
          have H := H1
          clear H1
          obtain rfl := Option.some.inj H
          go_wp2
          go_ret
          exact ⟨_, by first | rfl | (simp [errW_none, errW_some] <;> rfl) | (simp [*, errW_none, errW_some] <;> rfl), by (with_reducible repeat (first | apply Kd.R_alloc | apply Kd.R_drewN | apply Kd.R_drew)); exact Kd.R_mono HO_5.out (fun _ hk => trivial), by repeat (first | (with_reducible first | exact HB.out | apply below_alloc | apply pw_below_drewN | apply below_drew1 | refine below_set ?_ GE132.out) | exact HB.out)⟩
        · replace c41 := Bool.eq_false_iff.mpr c41
          subst c41
          have H1 : (if x5_1.length < 2932031007402 then (some (x5_1 ++ [(⟨a1_0, a1_1, a1_2, a1_3, a1_4⟩ : S35)])) else (none)) = some r := by rw [if_neg (show ¬ (false = true) by decide)] at H; exact H
          clear H
          have H := H1
          clear H1
          by_cases c42 : x5_1.length < 2932031007402
          · rw [if_pos c42] at H
            have LMc42 := Aside0.mk c42
            clear c42
            obtain ⟨y136, hy136⟩ : ∃ y_ : List (S35), y_ = (x5_1 ++ [(⟨a1_0, a1_1, a1_2, a1_3, a1_4⟩ : S35)]) := ⟨_, rfl⟩
            replace H : (some y136) = some r := by first | (rw [hy136]; with_reducible exact H) | (have H2_ := (Option.bind_some _ _).symm.trans H; rw [hy136]; with_reducible exact H2_) | (have H2_ := (Option.bind_some _ _).symm.trans H; with_reducible exact H2_) | with_reducible exact H | (rw [hy136]; exact H) | exact H
            have Ny136 := Aside0.mk hy136
            clear hy136
            obtain rfl := Option.some.inj H
            have hcz43_0 : wr.cell? ⟨gb132, 0, none⟩ = some (.string a1_0) := (blk_cell BK132.out 0).trans rfl
            have hcz43_1 : wr.cell? ⟨gb132, 1, none⟩ = some (.int .i64 a1_1) := (blk_cell BK132.out 1).trans rfl
            have hcz43_2 : wr.cell? ⟨gb132, 2, none⟩ = some (.int .i64 a1_2) := (blk_cell BK132.out 2).trans rfl
            have hcz43_3 : wr.cell? ⟨gb132, 3, none⟩ = some (.bool a1_3) := (blk_cell BK132.out 3).trans rfl
            have hcz43_4 : wr.cell? ⟨gb132, 4, none⟩ = some (.int .i64 a1_4) := (blk_cell BK132.out 4).trans rfl
            have hfz43_0 := blk_frozen BK132.out 0
            have hfz43_1 := blk_frozen BK132.out 1
            have hfz43_2 := blk_frozen BK132.out 2
            have hfz43_3 := blk_frozen BK132.out 3
            have hfz43_4 := blk_frozen BK132.out 4
            go_wp2_with (first | ((with_reducible refine gate_builtin (b := .append) (xs := #[.tmp 41, .tmp 43]) rfl ?_); at_builtin; refine Kd.R_append k35 (w0 := w) w.heap.size rfl (.tmp 41) (.tmp 43) 25 35 (.agg #[(.string ⟨#[]⟩), (.int .i64 0), (.int .i64 0), (.bool false), (.int .i64 0)]) 48 rfl Try.underlying25 info35 rfl (by decide) (by omega) u5 x5_1 (⟨a1_0, a1_1, a1_2, a1_3, a1_4⟩ : S35) [.string a1_0, .int .i64 a1_1, .int .i64 a1_2, .bool a1_3, .int .i64 a1_4] (fun k_ => k_ ≠ gb132) (fun _ => False) rfl rfl ?aP (fun _ hk => hk.elim) ?aF ?aO ?aB ?aS ?aL ?_; (case aP => exact k35_mkM _ _ _ (⟨a1_0, a1_1, a1_2, a1_3, a1_4⟩ : S35)); (case aB => exact (by repeat (first | (with_reducible first | exact HB.out | apply below_alloc | apply pw_below_drewN | apply below_drew1 | refine below_set ?_ GE132.out) | exact HB.out))); (case aF => exact (fun k_ hk => Kd.freshB (g := gb132) (o := .cells #[.string a1_0, .int .i64 a1_1, .int .i64 a1_2, .bool a1_3, .int .i64 a1_4] 35 (0, 0)) (by (with_reducible repeat (first | refine blk_drewN ?_ _ | refine blk_drew ?_ | refine blk_alloc ?_ _)); exact BK132.out) k_ hk)); (case aO => exact (by (with_reducible repeat (first | apply Kd.R_alloc | apply Kd.R_drewN | apply Kd.R_drew)); exact HO_5.out)); (case aS => exact (below_size (by repeat (first | (with_reducible first | exact HB.out | apply below_alloc | apply pw_below_drewN | apply below_drew1 | refine below_set ?_ GE132.out) | exact HB.out)))); (case aL => have := LMc42.out; omega); intro v137 w44 ho hb hg hat; rw [← Ny136.out] at ho; have n0_ := Aside0.mk (blk_grown (g := gb132) (o := .cells #[.string a1_0, .int .i64 a1_1, .int .i64 a1_2, .bool a1_3, .int .i64 a1_4] 35 (0, 0)) (by (with_reducible repeat (first | refine blk_drewN ?_ _ | refine blk_drew ?_ | refine blk_alloc ?_ _)); exact BK132.out) hg (Kd.R_away HO_5.out (fun _ hk => hk))); have n1_ := Aside0.mk (hb); have n2_ := Aside0.mk (ho); clear BK132; clear HB; clear HO_5; have BK132 := n0_; have HB := n1_; have HO138 := n2_; clear n0_ n1_ n2_; clear ho hb hg hat))
            go_ret
            exact ⟨_, by first | rfl | (simp [errW_none, errW_some] <;> rfl) | (simp [*, errW_none, errW_some] <;> rfl), by (with_reducible repeat (first | apply Kd.R_alloc | apply Kd.R_drewN | apply Kd.R_drew)); exact Kd.R_mono HO138.out (fun _ hk => trivial), by repeat (first | (with_reducible first | exact HB.out | apply below_alloc | apply pw_below_drewN | apply below_drew1 | refine below_set ?_ GE132.out) | exact HB.out)⟩
          · rw [if_neg c42] at H
            exact absurd H (by simp)

/-! ### spec_MemBase: function 20 -/
def spec_MemBase.l0 : Nat → ByteArray → Int → Option (ByteArray)
  | 0, _, _ => none
  | k + 1, x0, x3 => if x3 ≥ 0 then (if 0 ≤ x3 then (if x3 < (x0.size : Int) then (if (bt x0 x3) = 47 then (if 0 ≤ (wrap64 (x3 + 1)) then (if (wrap64 (x3 + 1)) ≤ (x0.size : Int) then (some (x0.extract ((wrap64 (x3 + 1)) : Int).toNat x0.size)) else (none)) else (none)) else (spec_MemBase.l0 k x0 (wrap64 (x3 - 1)))) else (none)) else (none)) else (some x0)
def spec_MemBase.f (k : Nat) (a0 : ByteArray) : Option (ByteArray) := spec_MemBase.l0 k a0 (wrap64 ((a0.size : Int) - 1))
theorem spec_MemBase.mono_l : ∀ k, (∀ y0 y1, LeO (spec_MemBase.l0 k y0 y1) (spec_MemBase.l0 (k + 1) y0 y1))
  | 0 => fun _ _ r h => by simp [spec_MemBase.l0] at h
  | k + 1 => by
    have ih0 := spec_MemBase.mono_l k
    · intro y0 y1
      unfold spec_MemBase.l0
      repeat' first
      | (with_reducible exact ih0 _ _)
      | (with_reducible exact LeO.refl _)
      | (with_reducible exact LeO.none _)
      | (with_reducible refine LeO.ite ?_ ?_)
      | (with_reducible refine LeO.bind ?_ (fun _ => ?_))
      | exact ih0 _ _
      | exact LeO.none _
      | refine LeO.ite ?_ ?_
      | refine LeO.bind ?_ (fun _ => ?_)
theorem spec_MemBase.mono : ∀ a0 k, LeO (spec_MemBase.f k a0) (spec_MemBase.f (k + 1) a0) := by
  intro a0 k
  have ih0 := spec_MemBase.mono_l k
  unfold spec_MemBase.f
  repeat' first
      | (with_reducible exact ih0 _ _)
      | (with_reducible exact LeO.refl _)
      | (with_reducible exact LeO.none _)
      | (with_reducible refine LeO.ite ?_ ?_)
      | (with_reducible refine LeO.bind ?_ (fun _ => ?_))
      | exact ih0 _ _
      | exact LeO.none _
      | refine LeO.ite ?_ ?_
      | refine LeO.bind ?_ (fun _ => ?_)
set_option maxHeartbeats 8000000 in
set_option maxRecDepth 100000 in
theorem spec_MemBase.calls (k : Nat) (a0 : ByteArray) (r : ByteArray) (w : World) (h : spec_MemBase.f k a0 = some r) :
    Calls Try.prog 20 #[.string a0] w fun e w' => e = .returned (.string r) ∧ Drawn0 w w' := by
  have H : (spec_MemBase.l0 k a0 (wrap64 ((a0.size : Int) - 1))) = some r := h
  clear h
  have H' := Aside0.mk H
  clear H
  go_enter Try.func20, Try.ntmps20
  go_wp2
  go_loopg [3] k (fun kq v3 w' => ∃ (x3_1 : Int), v3 = .int .i64 x3_1 ∧ Aside0 (spec_MemBase.l0 kq a0 x3_1 = some r) ∧ Aside0 (kq ≤ k) ∧ Drawn0 w w')
  case atStart => exact ⟨(wrap64 ((a0.size : Int) - 1)), (by first | rfl | (simp; done) | (simp [*]; done)), H', ⟨Nat.le_refl _⟩, by repeat (first | exact Drawn0.refl _ | apply Drawn0.step)⟩
  case round =>
    clear H'
    obtain ⟨x3_1, rfl, HA, HK1, ⟨m1, rfl⟩⟩ := hrel
    cases gk with
    | zero => exact absurd HA.out (by simp [spec_MemBase.l0])
    | succ k1 =>
      have H := HA.out
      clear HA
      simp only [spec_MemBase.l0] at H
      by_cases c2 : x3_1 ≥ 0
      · rw [if_pos c2] at H
        have c2b0 : decide (0 ≤ x3_1) = true := decide_eq_true c2
        clear c2
        by_cases c3 : 0 ≤ x3_1
        · rw [if_pos c3] at H
          have c3b0 : decide (0 ≤ x3_1) = true := decide_eq_true c3
          clear c3
          by_cases c4 : x3_1 < (a0.size : Int)
          · rw [if_pos c4] at H
            have c4b0 : decide (x3_1 < (a0.size : Int)) = true := decide_eq_true c4
            clear c4
            by_cases c6 : (bt a0 x3_1) = 47
            · rw [if_pos c6] at H
              have c6b0 : ((bt a0 x3_1) == 47) = true := beq_iff_eq.mpr c6
              have c6b1 : ((bt a0 x3_1) != 47) = false := bne_eq_false_iff_eq.mpr c6
              clear c6
              obtain ⟨ji7, hji7⟩ : ∃ j_ : Int, (wrap64 (x3_1 + 1)) = j_ := ⟨_, rfl⟩
              replace H : (if 0 ≤ (ji7) then (if (ji7) ≤ (a0.size : Int) then (some (a0.extract ((ji7) : Int).toNat a0.size)) else (none)) else (none)) = some r := by first | (rw [hji7] at H; exact H) | (simp only [hji7] at H ⊢; exact H)
              have hji7w : (IntKind.i64.wrap (x3_1 + 1)) = ji7 := (i64_w _).trans hji7
              by_cases c8 : 0 ≤ (ji7)
              · rw [if_pos c8] at H
                have c8b0 := eq_true c8
                have c8b1 : decide (0 ≤ (ji7)) = true := decide_eq_true c8
                clear c8
                by_cases c9 : (ji7) ≤ (a0.size : Int)
                · rw [if_pos c9] at H
                  have c9b0 := eq_true c9
                  have c9b1 : decide ((ji7) ≤ (a0.size : Int)) = true := decide_eq_true c9
                  clear c9
                  obtain rfl := Option.some.inj H
                  have p5 : 0 ≤ (x3_1 : Int) := of_decide_eq_true (by first | (with_reducible assumption) | assumption)
                  have q5 : x3_1 < (a0.size : Int) := of_decide_eq_true (by first | (with_reducible assumption) | assumption)
                  have hx5 := bt_at a0 x3_1
                  replace p5 := eq_true p5
                  replace q5 := eq_true q5
                  go_wp2
                  go_ret
                  exact ⟨by first | rfl | (simp; done) | (simp only [← hji7] <;> (first | rfl | simp)) | (simp [*]; done), by repeat (first | exact Drawn0.refl _ | apply Drawn0.step)⟩
                · rw [if_neg c9] at H
                  exact absurd H (by simp)
              · rw [if_neg c8] at H
                exact absurd H (by simp)
            · rw [if_neg c6] at H
              have c6b0 : ((bt a0 x3_1) == 47) = false := beq_eq_false_iff_ne.mpr c6
              have c6b1 : ((bt a0 x3_1) != 47) = true := bne_iff_ne.mpr c6
              have H' := Aside0.mk H
              clear H
              have p5 : 0 ≤ (x3_1 : Int) := of_decide_eq_true (by first | (with_reducible assumption) | assumption)
              have q5 : x3_1 < (a0.size : Int) := of_decide_eq_true (by first | (with_reducible assumption) | assumption)
              have hx5 := bt_at a0 x3_1
              replace p5 := eq_true p5
              replace q5 := eq_true q5
              go_wp2
              go_roundg k1
              case measure => have := HK1.out; omega
              case rel => exact ⟨(wrap64 (x3_1 - 1)), (by first | rfl | (simp; done) | (simp [*]; done)), H', ⟨by have := HK1.out; omega⟩, by repeat (first | exact Drawn0.refl _ | apply Drawn0.step)⟩
          · rw [if_neg c4] at H
            exact absurd H (by simp)
        · rw [if_neg c3] at H
          exact absurd H (by simp)
      · rw [if_neg c2] at H
        have c2b0 : decide (0 ≤ x3_1) = false := decide_eq_false c2
        clear c2
        obtain rfl := Option.some.inj H
        go_wp2
        go_ret
        exact ⟨by first | rfl | (simp; done) | (simp [*]; done), by repeat (first | exact Drawn0.refl _ | apply Drawn0.step)⟩

end Go.Proofs.Ytckjbgneblfceaa.PFnMergeDirs
