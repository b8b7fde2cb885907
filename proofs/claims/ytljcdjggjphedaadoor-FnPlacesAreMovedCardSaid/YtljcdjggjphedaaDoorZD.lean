/- A part of the proof that FnHandleScript answers true for every file and all steps. -/
import Derived.Test.YtljcdjggjphedaaDoorZB
import Derived.Test.YtljcdjggjphedaaDoorZC
namespace Go.Proofs.YtljcdjggjphedaaDoor.PFnHandleScript
open Go.RowKit Go.Proofs.YtljcdjggjphedaaDoorW.PrintWords Go.Proofs.YtljcdjggjphedaaDoorW.PrintLast Go.Proofs.YtljcdjggjphedaaDoorW.PrintMore
attribute [local go_sem] max2_int min2_int max_two min_two max_three min_three max_four min_four   -- for this text's walks alone
set_option linter.unusedVariables false
set_option linter.unusedSimpArgs false
attribute [local go_sem high] eqA75
mutual
def spec_SameAnswer.j0 : Nat → Bool → Int → Int → Int → List Int → List ByteArray → List (S75) → Int → Int → Int → List Int → List ByteArray → List (S75) → Option (Bool)
  | 0, _, _, _, _, _, _, _, _, _, _, _, _, _ => none
  | k + 1, x52, x148000, x148001, x148002, x148003, x148004, x148005, x149000, x149001, x149002, x149003, x149004, x149005 => if x52 = true then (some false) else (spec_SameAnswer.l0 k (x148004.length : Int) 0 x148000 x148001 x148002 x148003 x148004 x148005 x149000 x149001 x149002 x149003 x149004 x149005)
def spec_SameAnswer.l0 : Nat → Int → Int → Int → Int → Int → List Int → List ByteArray → List (S75) → Int → Int → Int → List Int → List ByteArray → List (S75) → Option (Bool)
  | 0, _, _, _, _, _, _, _, _, _, _, _, _, _, _ => none
  | k + 1, x55, x56, x148000, x148001, x148002, x148003, x148004, x148005, x149000, x149001, x149002, x149003, x149004, x149005 => if x56 < x55 then (if 0 ≤ x56 then (if x56 < (x148004.length : Int) then (if x56 < (x149004.length : Int) then (if (rdOf ByteArray.empty x148004 x56).toList = (rdOf ByteArray.empty x149004 x56).toList then (spec_SameAnswer.l0 k x55 (wrap64 (x56 + 1)) x148000 x148001 x148002 x148003 x148004 x148005 x149000 x149001 x149002 x149003 x149004 x149005) else (some false)) else (none)) else (none)) else (none)) else (spec_SameAnswer.l1 k (x148005.length : Int) 0 x148000 x148001 x148002 x148003 x148004 x148005 x149000 x149001 x149002 x149003 x149004 x149005)
def spec_SameAnswer.l1 : Nat → Int → Int → Int → Int → Int → List Int → List ByteArray → List (S75) → Int → Int → Int → List Int → List ByteArray → List (S75) → Option (Bool)
  | 0, _, _, _, _, _, _, _, _, _, _, _, _, _, _ => none
  | k + 1, x73, x74, x148000, x148001, x148002, x148003, x148004, x148005, x149000, x149001, x149002, x149003, x149004, x149005 => if x74 < x73 then (if 0 ≤ x74 then (if x74 < (x148005.length : Int) then (if x74 < (x149005.length : Int) then (if (!((((rd_T75 x148005 x74).f0).toList) == (((rd_T75 x149005 x74).f0).toList)) || (!(((rd_T75 x148005 x74).f1) == ((rd_T75 x149005 x74).f1)) || (!(((rd_T75 x148005 x74).f2) == ((rd_T75 x149005 x74).f2)) || (!(((rd_T75 x148005 x74).f3) == ((rd_T75 x149005 x74).f3)) || (!(((rd_T75 x148005 x74).f4) == ((rd_T75 x149005 x74).f4))))))) = true then (some false) else (spec_SameAnswer.l1 k x73 (wrap64 (x74 + 1)) x148000 x148001 x148002 x148003 x148004 x148005 x149000 x149001 x149002 x149003 x149004 x149005)) else (none)) else (none)) else (none)) else (some true)
end
def spec_SameAnswer.f (k : Nat) (a0_0 : Int) (a0_1 : Int) (a0_2 : Int) (l0_3 : List Int) (l0_4 : List ByteArray) (l0_5 : List (S75)) (a1_0 : Int) (a1_1 : Int) (a1_2 : Int) (l1_3 : List Int) (l1_4 : List ByteArray) (l1_5 : List (S75)) : Option (Bool) := if a0_0 = a1_0 then (if a0_1 = a1_1 then (if a0_2 = a1_2 then (if (strOfNums l0_3).toList = (strOfNums l1_3).toList then (if (l0_4.length : Int) = (l1_4.length : Int) then (spec_SameAnswer.j0 k ((l0_5.length : Int) != (l1_5.length : Int)) a0_0 a0_1 a0_2 l0_3 l0_4 l0_5 a1_0 a1_1 a1_2 l1_3 l1_4 l1_5) else (spec_SameAnswer.j0 k true a0_0 a0_1 a0_2 l0_3 l0_4 l0_5 a1_0 a1_1 a1_2 l1_3 l1_4 l1_5)) else (spec_SameAnswer.j0 k true a0_0 a0_1 a0_2 l0_3 l0_4 l0_5 a1_0 a1_1 a1_2 l1_3 l1_4 l1_5)) else (spec_SameAnswer.j0 k true a0_0 a0_1 a0_2 l0_3 l0_4 l0_5 a1_0 a1_1 a1_2 l1_3 l1_4 l1_5)) else (spec_SameAnswer.j0 k true a0_0 a0_1 a0_2 l0_3 l0_4 l0_5 a1_0 a1_1 a1_2 l1_3 l1_4 l1_5)) else (spec_SameAnswer.j0 k true a0_0 a0_1 a0_2 l0_3 l0_4 l0_5 a1_0 a1_1 a1_2 l1_3 l1_4 l1_5)
theorem spec_SameAnswer.mono_l : ∀ k, (∀ y0 y1 y2 y3 y4 y5 y6 y7 y8 y9 y10 y11 y12, LeO (spec_SameAnswer.j0 k y0 y1 y2 y3 y4 y5 y6 y7 y8 y9 y10 y11 y12) (spec_SameAnswer.j0 (k + 1) y0 y1 y2 y3 y4 y5 y6 y7 y8 y9 y10 y11 y12)) ∧ (∀ y0 y1 y2 y3 y4 y5 y6 y7 y8 y9 y10 y11 y12 y13, LeO (spec_SameAnswer.l0 k y0 y1 y2 y3 y4 y5 y6 y7 y8 y9 y10 y11 y12 y13) (spec_SameAnswer.l0 (k + 1) y0 y1 y2 y3 y4 y5 y6 y7 y8 y9 y10 y11 y12 y13)) ∧ (∀ y0 y1 y2 y3 y4 y5 y6 y7 y8 y9 y10 y11 y12 y13, LeO (spec_SameAnswer.l1 k y0 y1 y2 y3 y4 y5 y6 y7 y8 y9 y10 y11 y12 y13) (spec_SameAnswer.l1 (k + 1) y0 y1 y2 y3 y4 y5 y6 y7 y8 y9 y10 y11 y12 y13))
  | 0 => ⟨fun _ _ _ _ _ _ _ _ _ _ _ _ _ r h => by simp [spec_SameAnswer.j0] at h, fun _ _ _ _ _ _ _ _ _ _ _ _ _ _ r h => by simp [spec_SameAnswer.l0] at h, fun _ _ _ _ _ _ _ _ _ _ _ _ _ _ r h => by simp [spec_SameAnswer.l1] at h⟩
  | k + 1 => by
    obtain ⟨ih0, ih1, ih2⟩ := spec_SameAnswer.mono_l k
    refine ⟨?_, ?_, ?_⟩
    · intro y0 y1 y2 y3 y4 y5 y6 y7 y8 y9 y10 y11 y12
      unfold spec_SameAnswer.j0
      repeat' first
      | (with_reducible exact ih0 _ _ _ _ _ _ _ _ _ _ _ _ _)
      | (with_reducible exact ih1 _ _ _ _ _ _ _ _ _ _ _ _ _ _)
      | (with_reducible exact ih2 _ _ _ _ _ _ _ _ _ _ _ _ _ _)
      | (with_reducible exact LeO.refl _)
      | (with_reducible exact LeO.none _)
      | (with_reducible refine LeO.ite ?_ ?_)
      | (with_reducible refine LeO.bind ?_ (fun _ => ?_))
      | exact ih0 _ _ _ _ _ _ _ _ _ _ _ _ _
      | exact ih1 _ _ _ _ _ _ _ _ _ _ _ _ _ _
      | exact ih2 _ _ _ _ _ _ _ _ _ _ _ _ _ _
      | exact LeO.none _
      | refine LeO.ite ?_ ?_
      | refine LeO.bind ?_ (fun _ => ?_)
    · intro y0 y1 y2 y3 y4 y5 y6 y7 y8 y9 y10 y11 y12 y13
      unfold spec_SameAnswer.l0
      repeat' first
      | (with_reducible exact ih0 _ _ _ _ _ _ _ _ _ _ _ _ _)
      | (with_reducible exact ih1 _ _ _ _ _ _ _ _ _ _ _ _ _ _)
      | (with_reducible exact ih2 _ _ _ _ _ _ _ _ _ _ _ _ _ _)
      | (with_reducible exact LeO.refl _)
      | (with_reducible exact LeO.none _)
      | (with_reducible refine LeO.ite ?_ ?_)
      | (with_reducible refine LeO.bind ?_ (fun _ => ?_))
      | exact ih0 _ _ _ _ _ _ _ _ _ _ _ _ _
      | exact ih1 _ _ _ _ _ _ _ _ _ _ _ _ _ _
      | exact ih2 _ _ _ _ _ _ _ _ _ _ _ _ _ _
      | exact LeO.none _
      | refine LeO.ite ?_ ?_
      | refine LeO.bind ?_ (fun _ => ?_)
    · intro y0 y1 y2 y3 y4 y5 y6 y7 y8 y9 y10 y11 y12 y13
      unfold spec_SameAnswer.l1
      repeat' first
      | (with_reducible exact ih0 _ _ _ _ _ _ _ _ _ _ _ _ _)
      | (with_reducible exact ih1 _ _ _ _ _ _ _ _ _ _ _ _ _ _)
      | (with_reducible exact ih2 _ _ _ _ _ _ _ _ _ _ _ _ _ _)
      | (with_reducible exact LeO.refl _)
      | (with_reducible exact LeO.none _)
      | (with_reducible refine LeO.ite ?_ ?_)
      | (with_reducible refine LeO.bind ?_ (fun _ => ?_))
      | exact ih0 _ _ _ _ _ _ _ _ _ _ _ _ _
      | exact ih1 _ _ _ _ _ _ _ _ _ _ _ _ _ _
      | exact ih2 _ _ _ _ _ _ _ _ _ _ _ _ _ _
      | exact LeO.none _
      | refine LeO.ite ?_ ?_
      | refine LeO.bind ?_ (fun _ => ?_)
theorem spec_SameAnswer.mono : ∀ a0 a1 a2 a3 a4 a5 a6 a7 a8 a9 a10 a11 k, LeO (spec_SameAnswer.f k a0 a1 a2 a3 a4 a5 a6 a7 a8 a9 a10 a11) (spec_SameAnswer.f (k + 1) a0 a1 a2 a3 a4 a5 a6 a7 a8 a9 a10 a11) := by
  intro a0 a1 a2 a3 a4 a5 a6 a7 a8 a9 a10 a11 k
  obtain ⟨ih0, ih1, ih2⟩ := spec_SameAnswer.mono_l k
  unfold spec_SameAnswer.f
  repeat' first
      | (with_reducible exact ih0 _ _ _ _ _ _ _ _ _ _ _ _ _)
      | (with_reducible exact ih1 _ _ _ _ _ _ _ _ _ _ _ _ _ _)
      | (with_reducible exact ih2 _ _ _ _ _ _ _ _ _ _ _ _ _ _)
      | (with_reducible exact LeO.refl _)
      | (with_reducible exact LeO.none _)
      | (with_reducible refine LeO.ite ?_ ?_)
      | (with_reducible refine LeO.bind ?_ (fun _ => ?_))
      | exact ih0 _ _ _ _ _ _ _ _ _ _ _ _ _
      | exact ih1 _ _ _ _ _ _ _ _ _ _ _ _ _ _
      | exact ih2 _ _ _ _ _ _ _ _ _ _ _ _ _ _
      | exact LeO.none _
      | refine LeO.ite ?_ ?_
      | refine LeO.bind ?_ (fun _ => ?_)
set_option maxHeartbeats 8000000 in
set_option maxRecDepth 100000 in
theorem spec_SameAnswer.calls (k : Nat) (a0_0 : Int) (a0_1 : Int) (a0_2 : Int) (A0_3 : Option Addr) (c0_3 : Nat) (l0_3 : List Int) (A0_4 : Option Addr) (c0_4 : Nat) (l0_4 : List ByteArray) (A0_5 : Option Addr) (c0_5 : Nat) (l0_5 : List (S75)) (a1_0 : Int) (a1_1 : Int) (a1_2 : Int) (A1_3 : Option Addr) (c1_3 : Nat) (l1_3 : List Int) (A1_4 : Option Addr) (c1_4 : Nat) (l1_4 : List ByteArray) (A1_5 : Option Addr) (c1_5 : Nat) (l1_5 : List (S75)) (r : Bool) (w : World) (hr0_3 : Kd.C (Kd.int .u8) w A0_3 l0_3.length l0_3) (hc0_3 : l0_3.length ≤ c0_3) (hr0_4 : Kd.C Kd.string w A0_4 l0_4.length l0_4) (hc0_4 : l0_4.length ≤ c0_4) (hr0_5 : Kd.C k75 w A0_5 l0_5.length l0_5) (hc0_5 : l0_5.length ≤ c0_5) (hr1_3 : Kd.C (Kd.int .u8) w A1_3 l1_3.length l1_3) (hc1_3 : l1_3.length ≤ c1_3) (hr1_4 : Kd.C Kd.string w A1_4 l1_4.length l1_4) (hc1_4 : l1_4.length ≤ c1_4) (hr1_5 : Kd.C k75 w A1_5 l1_5.length l1_5) (hc1_5 : l1_5.length ≤ c1_5) (h : spec_SameAnswer.f k a0_0 a0_1 a0_2 l0_3 l0_4 l0_5 a1_0 a1_1 a1_2 l1_3 l1_4 l1_5 = some r) :
    Calls Tryd.prog 19 #[.agg #[.int .i64 a0_0, .int .i64 a0_1, .int .i64 a0_2, .slice A0_3 l0_3.length c0_3, .slice A0_4 l0_4.length c0_4, .slice A0_5 l0_5.length c0_5], .agg #[.int .i64 a1_0, .int .i64 a1_1, .int .i64 a1_2, .slice A1_3 l1_3.length c1_3, .slice A1_4 l1_4.length c1_4, .slice A1_5 l1_5.length c1_5]] w fun e w' => e = .returned (.bool r) ∧ Below w.heap.size w w' := by
  have hu33 := Tryd.underlying33
  have hu75 := Tryd.underlying75
  have HR0_3 := Aside0.mk hr0_3
  have HC0_3 := Aside0.mk hc0_3
  clear hr0_3 hc0_3
  have HR0_4 := Aside0.mk hr0_4
  have HC0_4 := Aside0.mk hc0_4
  clear hr0_4 hc0_4
  have HR0_5 := Aside0.mk hr0_5
  have HC0_5 := Aside0.mk hc0_5
  clear hr0_5 hc0_5
  have HR1_3 := Aside0.mk hr1_3
  have HC1_3 := Aside0.mk hc1_3
  clear hr1_3 hc1_3
  have HR1_4 := Aside0.mk hr1_4
  have HC1_4 := Aside0.mk hc1_4
  clear hr1_4 hc1_4
  have HR1_5 := Aside0.mk hr1_5
  have HC1_5 := Aside0.mk hc1_5
  clear hr1_5 hc1_5
  have HB := Aside0.mk (Below.refl w.heap.size w)
  have H : (if a0_0 = a1_0 then (if a0_1 = a1_1 then (if a0_2 = a1_2 then (if (strOfNums l0_3).toList = (strOfNums l1_3).toList then (if (l0_4.length : Int) = (l1_4.length : Int) then (spec_SameAnswer.j0 k ((l0_5.length : Int) != (l1_5.length : Int)) a0_0 a0_1 a0_2 l0_3 l0_4 l0_5 a1_0 a1_1 a1_2 l1_3 l1_4 l1_5) else (spec_SameAnswer.j0 k true a0_0 a0_1 a0_2 l0_3 l0_4 l0_5 a1_0 a1_1 a1_2 l1_3 l1_4 l1_5)) else (spec_SameAnswer.j0 k true a0_0 a0_1 a0_2 l0_3 l0_4 l0_5 a1_0 a1_1 a1_2 l1_3 l1_4 l1_5)) else (spec_SameAnswer.j0 k true a0_0 a0_1 a0_2 l0_3 l0_4 l0_5 a1_0 a1_1 a1_2 l1_3 l1_4 l1_5)) else (spec_SameAnswer.j0 k true a0_0 a0_1 a0_2 l0_3 l0_4 l0_5 a1_0 a1_1 a1_2 l1_3 l1_4 l1_5)) else (spec_SameAnswer.j0 k true a0_0 a0_1 a0_2 l0_3 l0_4 l0_5 a1_0 a1_1 a1_2 l1_3 l1_4 l1_5)) = some r := h
  clear h
  have HC3 := Aside0.mk H
  clear H
  go_enter Tryd.func19, Tryd.ntmps19
  go_upto_region 1 with (first | ((with_reducible refine gate_dst (N := 2) rfl ?_); (try (refine gate_guard (by rfl) ?_; dsimp only)); refine box_event ?hg (N := 2) ?hd (cs := #[.int .i64 a0_0, .int .i64 a0_1, .int .i64 a0_2, .slice A0_3 l0_3.length c0_3, .slice A0_4 l0_4.length c0_4, .slice A0_5 l0_5.length c0_5]) (t := 33) ?hr ?_; (case hd => rfl); (case hg => rfl); (case hr => first | (go_simp; done) | (go_simp; rfl)); intro gb147 hg w4 hbox hb; have n0_ := Aside0.mk (below_step (by repeat (first | (with_reducible first | exact HB.out | apply below_alloc | apply pw_below_drewN | apply below_drew1) | exact HB.out)) hb); have n1_ := Aside0.mk (hbox); have n2_ := Aside0.mk ((by rw [hg]; exact (below_size (by repeat (first | (with_reducible first | exact HB.out | apply below_alloc | apply pw_below_drewN | apply below_drew1) | exact HB.out))) : w.heap.size ≤ gb147)); have n3_ := Aside0.mk ((by rw [hg]; exact (below_size (by repeat (first | (with_reducible first | exact HB.out | apply below_alloc | apply pw_below_drewN | apply below_drew1) | exact HB.out))) : w.heap.size ≤ gb147)); clear HB; have HB := n0_; have BK147 := n1_; have GW147 := n2_; have GE147 := n3_; clear n0_ n1_ n2_ n3_; clear hb hbox hg) | ((with_reducible refine gate_dst (N := 3) rfl ?_); (try (refine gate_guard (by rfl) ?_; dsimp only)); refine box_event ?hg (N := 3) ?hd (cs := #[.int .i64 a1_0, .int .i64 a1_1, .int .i64 a1_2, .slice A1_3 l1_3.length c1_3, .slice A1_4 l1_4.length c1_4, .slice A1_5 l1_5.length c1_5]) (t := 33) ?hr ?_; (case hd => rfl); (case hg => rfl); (case hr => first | (go_simp; done) | (go_simp; rfl)); intro gb148 hg w5 hbox hb; have n0_ := Aside0.mk (blk_below (g := gb147) (o := .cells #[.int .i64 a0_0, .int .i64 a0_1, .int .i64 a0_2, .slice A0_3 l0_3.length c0_3, .slice A0_4 l0_4.length c0_4, .slice A0_5 l0_5.length c0_5] 33 (0, 0)) (by (with_reducible repeat (first | refine blk_drewN ?_ _ | refine blk_drew ?_ | refine blk_alloc ?_ _)); exact BK147.out) hb); have n1_ := Aside0.mk (below_step (by repeat (first | (with_reducible first | exact HB.out | apply below_alloc | apply pw_below_drewN | apply below_drew1 | refine below_set ?_ GE147.out) | exact HB.out)) hb); have n2_ := Aside0.mk (hbox); have n3_ := Aside0.mk ((by rw [hg]; exact (below_size (by repeat (first | (with_reducible first | exact HB.out | apply below_alloc | apply pw_below_drewN | apply below_drew1 | refine below_set ?_ GE147.out) | exact HB.out))) : w.heap.size ≤ gb148)); have n4_ := Aside0.mk ((by rw [hg]; exact (below_size (by repeat (first | (with_reducible first | exact HB.out | apply below_alloc | apply pw_below_drewN | apply below_drew1 | refine below_set ?_ GE147.out) | exact HB.out))) : w.heap.size ≤ gb148)); have n5_ := Aside0.mk ((by rw [hg]; exact Nat.ne_of_lt (blk_lt (g := gb147) (o := .cells #[.int .i64 a0_0, .int .i64 a0_1, .int .i64 a0_2, .slice A0_3 l0_3.length c0_3, .slice A0_4 l0_4.length c0_4, .slice A0_5 l0_5.length c0_5] 33 (0, 0)) (by (with_reducible repeat (first | refine blk_drewN ?_ _ | refine blk_drew ?_ | refine blk_alloc ?_ _)); exact BK147.out)) : gb147 ≠ gb148)); have n6_ := Aside0.mk ((by rw [hg]; exact Nat.ne_of_gt (blk_lt (g := gb147) (o := .cells #[.int .i64 a0_0, .int .i64 a0_1, .int .i64 a0_2, .slice A0_3 l0_3.length c0_3, .slice A0_4 l0_4.length c0_4, .slice A0_5 l0_5.length c0_5] 33 (0, 0)) (by (with_reducible repeat (first | refine blk_drewN ?_ _ | refine blk_drew ?_ | refine blk_alloc ?_ _)); exact BK147.out)) : gb148 ≠ gb147)); clear BK147; clear HB; have BK147 := n0_; have HB := n1_; have BK148 := n2_; have GW148 := n3_; have GE148 := n4_; have NB147_148 := n5_; have NB148_147 := n6_; clear n0_ n1_ n2_ n3_ n4_ n5_ n6_; clear hb hbox hg))
  repeat (go_quiet (first | ((with_reducible refine gate_dst (N := 2) rfl ?_); (try (refine gate_guard (by rfl) ?_; dsimp only)); refine box_event ?hg (N := 2) ?hd (cs := #[.int .i64 a0_0, .int .i64 a0_1, .int .i64 a0_2, .slice A0_3 l0_3.length c0_3, .slice A0_4 l0_4.length c0_4, .slice A0_5 l0_5.length c0_5]) (t := 33) ?hr ?_; (case hd => rfl); (case hg => rfl); (case hr => first | (go_simp; done) | (go_simp; rfl)); intro gb147 hg w4 hbox hb; have n0_ := Aside0.mk (below_step (by repeat (first | (with_reducible first | exact HB.out | apply below_alloc | apply pw_below_drewN | apply below_drew1) | exact HB.out)) hb); have n1_ := Aside0.mk (hbox); have n2_ := Aside0.mk ((by rw [hg]; exact (below_size (by repeat (first | (with_reducible first | exact HB.out | apply below_alloc | apply pw_below_drewN | apply below_drew1) | exact HB.out))) : w.heap.size ≤ gb147)); have n3_ := Aside0.mk ((by rw [hg]; exact (below_size (by repeat (first | (with_reducible first | exact HB.out | apply below_alloc | apply pw_below_drewN | apply below_drew1) | exact HB.out))) : w.heap.size ≤ gb147)); clear HB; have HB := n0_; have BK147 := n1_; have GW147 := n2_; have GE147 := n3_; clear n0_ n1_ n2_ n3_; clear hb hbox hg) | ((with_reducible refine gate_dst (N := 3) rfl ?_); (try (refine gate_guard (by rfl) ?_; dsimp only)); refine box_event ?hg (N := 3) ?hd (cs := #[.int .i64 a1_0, .int .i64 a1_1, .int .i64 a1_2, .slice A1_3 l1_3.length c1_3, .slice A1_4 l1_4.length c1_4, .slice A1_5 l1_5.length c1_5]) (t := 33) ?hr ?_; (case hd => rfl); (case hg => rfl); (case hr => first | (go_simp; done) | (go_simp; rfl)); intro gb148 hg w5 hbox hb; have n0_ := Aside0.mk (blk_below (g := gb147) (o := .cells #[.int .i64 a0_0, .int .i64 a0_1, .int .i64 a0_2, .slice A0_3 l0_3.length c0_3, .slice A0_4 l0_4.length c0_4, .slice A0_5 l0_5.length c0_5] 33 (0, 0)) (by (with_reducible repeat (first | refine blk_drewN ?_ _ | refine blk_drew ?_ | refine blk_alloc ?_ _)); exact BK147.out) hb); have n1_ := Aside0.mk (below_step (by repeat (first | (with_reducible first | exact HB.out | apply below_alloc | apply pw_below_drewN | apply below_drew1 | refine below_set ?_ GE147.out) | exact HB.out)) hb); have n2_ := Aside0.mk (hbox); have n3_ := Aside0.mk ((by rw [hg]; exact (below_size (by repeat (first | (with_reducible first | exact HB.out | apply below_alloc | apply pw_below_drewN | apply below_drew1 | refine below_set ?_ GE147.out) | exact HB.out))) : w.heap.size ≤ gb148)); have n4_ := Aside0.mk ((by rw [hg]; exact (below_size (by repeat (first | (with_reducible first | exact HB.out | apply below_alloc | apply pw_below_drewN | apply below_drew1 | refine below_set ?_ GE147.out) | exact HB.out))) : w.heap.size ≤ gb148)); have n5_ := Aside0.mk ((by rw [hg]; exact Nat.ne_of_lt (blk_lt (g := gb147) (o := .cells #[.int .i64 a0_0, .int .i64 a0_1, .int .i64 a0_2, .slice A0_3 l0_3.length c0_3, .slice A0_4 l0_4.length c0_4, .slice A0_5 l0_5.length c0_5] 33 (0, 0)) (by (with_reducible repeat (first | refine blk_drewN ?_ _ | refine blk_drew ?_ | refine blk_alloc ?_ _)); exact BK147.out)) : gb147 ≠ gb148)); have n6_ := Aside0.mk ((by rw [hg]; exact Nat.ne_of_gt (blk_lt (g := gb147) (o := .cells #[.int .i64 a0_0, .int .i64 a0_1, .int .i64 a0_2, .slice A0_3 l0_3.length c0_3, .slice A0_4 l0_4.length c0_4, .slice A0_5 l0_5.length c0_5] 33 (0, 0)) (by (with_reducible repeat (first | refine blk_drewN ?_ _ | refine blk_drew ?_ | refine blk_alloc ?_ _)); exact BK147.out)) : gb148 ≠ gb147)); clear BK147; clear HB; have BK147 := n0_; have HB := n1_; have BK148 := n2_; have GW148 := n3_; have GE148 := n4_; have NB147_148 := n5_; have NB148_147 := n6_; clear n0_ n1_ n2_ n3_ n4_ n5_ n6_; clear hb hbox hg)); go_upto_region 1 with (first | ((with_reducible refine gate_dst (N := 2) rfl ?_); (try (refine gate_guard (by rfl) ?_; dsimp only)); refine box_event ?hg (N := 2) ?hd (cs := #[.int .i64 a0_0, .int .i64 a0_1, .int .i64 a0_2, .slice A0_3 l0_3.length c0_3, .slice A0_4 l0_4.length c0_4, .slice A0_5 l0_5.length c0_5]) (t := 33) ?hr ?_; (case hd => rfl); (case hg => rfl); (case hr => first | (go_simp; done) | (go_simp; rfl)); intro gb147 hg w4 hbox hb; have n0_ := Aside0.mk (below_step (by repeat (first | (with_reducible first | exact HB.out | apply below_alloc | apply pw_below_drewN | apply below_drew1) | exact HB.out)) hb); have n1_ := Aside0.mk (hbox); have n2_ := Aside0.mk ((by rw [hg]; exact (below_size (by repeat (first | (with_reducible first | exact HB.out | apply below_alloc | apply pw_below_drewN | apply below_drew1) | exact HB.out))) : w.heap.size ≤ gb147)); have n3_ := Aside0.mk ((by rw [hg]; exact (below_size (by repeat (first | (with_reducible first | exact HB.out | apply below_alloc | apply pw_below_drewN | apply below_drew1) | exact HB.out))) : w.heap.size ≤ gb147)); clear HB; have HB := n0_; have BK147 := n1_; have GW147 := n2_; have GE147 := n3_; clear n0_ n1_ n2_ n3_; clear hb hbox hg) | ((with_reducible refine gate_dst (N := 3) rfl ?_); (try (refine gate_guard (by rfl) ?_; dsimp only)); refine box_event ?hg (N := 3) ?hd (cs := #[.int .i64 a1_0, .int .i64 a1_1, .int .i64 a1_2, .slice A1_3 l1_3.length c1_3, .slice A1_4 l1_4.length c1_4, .slice A1_5 l1_5.length c1_5]) (t := 33) ?hr ?_; (case hd => rfl); (case hg => rfl); (case hr => first | (go_simp; done) | (go_simp; rfl)); intro gb148 hg w5 hbox hb; have n0_ := Aside0.mk (blk_below (g := gb147) (o := .cells #[.int .i64 a0_0, .int .i64 a0_1, .int .i64 a0_2, .slice A0_3 l0_3.length c0_3, .slice A0_4 l0_4.length c0_4, .slice A0_5 l0_5.length c0_5] 33 (0, 0)) (by (with_reducible repeat (first | refine blk_drewN ?_ _ | refine blk_drew ?_ | refine blk_alloc ?_ _)); exact BK147.out) hb); have n1_ := Aside0.mk (below_step (by repeat (first | (with_reducible first | exact HB.out | apply below_alloc | apply pw_below_drewN | apply below_drew1 | refine below_set ?_ GE147.out) | exact HB.out)) hb); have n2_ := Aside0.mk (hbox); have n3_ := Aside0.mk ((by rw [hg]; exact (below_size (by repeat (first | (with_reducible first | exact HB.out | apply below_alloc | apply pw_below_drewN | apply below_drew1 | refine below_set ?_ GE147.out) | exact HB.out))) : w.heap.size ≤ gb148)); have n4_ := Aside0.mk ((by rw [hg]; exact (below_size (by repeat (first | (with_reducible first | exact HB.out | apply below_alloc | apply pw_below_drewN | apply below_drew1 | refine below_set ?_ GE147.out) | exact HB.out))) : w.heap.size ≤ gb148)); have n5_ := Aside0.mk ((by rw [hg]; exact Nat.ne_of_lt (blk_lt (g := gb147) (o := .cells #[.int .i64 a0_0, .int .i64 a0_1, .int .i64 a0_2, .slice A0_3 l0_3.length c0_3, .slice A0_4 l0_4.length c0_4, .slice A0_5 l0_5.length c0_5] 33 (0, 0)) (by (with_reducible repeat (first | refine blk_drewN ?_ _ | refine blk_drew ?_ | refine blk_alloc ?_ _)); exact BK147.out)) : gb147 ≠ gb148)); have n6_ := Aside0.mk ((by rw [hg]; exact Nat.ne_of_gt (blk_lt (g := gb147) (o := .cells #[.int .i64 a0_0, .int .i64 a0_1, .int .i64 a0_2, .slice A0_3 l0_3.length c0_3, .slice A0_4 l0_4.length c0_4, .slice A0_5 l0_5.length c0_5] 33 (0, 0)) (by (with_reducible repeat (first | refine blk_drewN ?_ _ | refine blk_drew ?_ | refine blk_alloc ?_ _)); exact BK147.out)) : gb148 ≠ gb147)); clear BK147; clear HB; have BK147 := n0_; have HB := n1_; have BK148 := n2_; have GW148 := n3_; have GE148 := n4_; have NB147_148 := n5_; have NB148_147 := n6_; clear n0_ n1_ n2_ n3_ n4_ n5_ n6_; clear hb hbox hg)))
  (try simp only [Act.put, List.setIfInBounds_toArray, List.set_cons_zero, List.set_cons_succ])
  go_cut [52] (fun v52 wc => ∃ (kq : Nat) (x52_2 : Bool), v52 = .bool x52_2 ∧ Aside0 (spec_SameAnswer.j0 kq x52_2 a0_0 a0_1 a0_2 l0_3 l0_4 l0_5 a1_0 a1_1 a1_2 l1_3 l1_4 l1_5 = some r) ∧ Aside0 (kq ≤ k) ∧ Aside0 (wc.heap[gb147]? = some (.cells #[.int .i64 a0_0, .int .i64 a0_1, .int .i64 a0_2, (.slice A0_3 l0_3.length c0_3), (.slice A0_4 l0_4.length c0_4), (.slice A0_5 l0_5.length c0_5)] 33 (0, 0))) ∧ Aside0 (wc.heap[gb148]? = some (.cells #[.int .i64 a1_0, .int .i64 a1_1, .int .i64 a1_2, (.slice A1_3 l1_3.length c1_3), (.slice A1_4 l1_4.length c1_4), (.slice A1_5 l1_5.length c1_5)] 33 (0, 0))) ∧ Aside0 (Below w.heap.size w wc))
  case first =>
    have H := HC3.out
    clear HC3
    by_cases c6 : a0_0 = a1_0
    · rw [if_pos c6] at H
      have c6b0 : (a0_0 == a1_0) = true := beq_iff_eq.mpr c6
      have c6b1 : (a0_0 != a1_0) = false := bne_eq_false_iff_eq.mpr c6
      clear c6
      (first | rw [c6b0] | (simp only [i64_w, i32_w]; rw [c6b0]) | skip)
      by_cases c7 : a0_1 = a1_1
      · rw [if_pos c7] at H
        have c7b0 : (a0_1 == a1_1) = true := beq_iff_eq.mpr c7
        have c7b1 : (a0_1 != a1_1) = false := bne_eq_false_iff_eq.mpr c7
        clear c7
        by_cases c8 : a0_2 = a1_2
        · rw [if_pos c8] at H
          have c8b0 : (a0_2 == a1_2) = true := beq_iff_eq.mpr c8
          have c8b1 : (a0_2 != a1_2) = false := bne_eq_false_iff_eq.mpr c8
          clear c8
          by_cases c9 : (strOfNums l0_3).toList = (strOfNums l1_3).toList
          · rw [if_pos c9] at H
            have c9b0 : ((strOfNums l0_3).toList == (strOfNums l1_3).toList) = true := beq_iff_eq.mpr c9
            have c9b1 : ((strOfNums l0_3).toList != (strOfNums l1_3).toList) = false := bne_eq_false_iff_eq.mpr c9
            clear c9
            by_cases c10 : (l0_4.length : Int) = (l1_4.length : Int)
            · rw [if_pos c10] at H
              have c10b0 : ((l0_4.length : Int) == (l1_4.length : Int)) = true := beq_iff_eq.mpr c10
              have c10b1 : ((l0_4.length : Int) != (l1_4.length : Int)) = false := bne_eq_false_iff_eq.mpr c10
              have c10b2 : (l0_4.length == l1_4.length) = true := by first | simpa using c10 | (simp at c10 ⊢; omega)
              clear c10
              have H' := Aside0.mk H
              clear H
              have hnb11 := NB147_148.out
              have hnc11 := NB148_147.out
              have hcz12_0 : w5.cell? ⟨gb147, 0, none⟩ = some (.int .i64 a0_0) := (blk_cell BK147.out 0).trans rfl
              have hcz12_1 : w5.cell? ⟨gb147, 1, none⟩ = some (.int .i64 a0_1) := (blk_cell BK147.out 1).trans rfl
              have hcz12_2 : w5.cell? ⟨gb147, 2, none⟩ = some (.int .i64 a0_2) := (blk_cell BK147.out 2).trans rfl
              have hcz12_3 : w5.cell? ⟨gb147, 3, none⟩ = some (.slice A0_3 l0_3.length c0_3) := (blk_cell BK147.out 3).trans rfl
              have hcz12_4 : w5.cell? ⟨gb147, 4, none⟩ = some (.slice A0_4 l0_4.length c0_4) := (blk_cell BK147.out 4).trans rfl
              have hcz12_5 : w5.cell? ⟨gb147, 5, none⟩ = some (.slice A0_5 l0_5.length c0_5) := (blk_cell BK147.out 5).trans rfl
              have hfz12_0 := blk_frozen BK147.out 0
              have hfz12_1 := blk_frozen BK147.out 1
              have hfz12_2 := blk_frozen BK147.out 2
              have hfz12_3 := blk_frozen BK147.out 3
              have hfz12_4 := blk_frozen BK147.out 4
              have hfz12_5 := blk_frozen BK147.out 5
              have hcz13_0 : w5.cell? ⟨gb148, 0, none⟩ = some (.int .i64 a1_0) := (blk_cell BK148.out 0).trans rfl
              have hcz13_1 : w5.cell? ⟨gb148, 1, none⟩ = some (.int .i64 a1_1) := (blk_cell BK148.out 1).trans rfl
              have hcz13_2 : w5.cell? ⟨gb148, 2, none⟩ = some (.int .i64 a1_2) := (blk_cell BK148.out 2).trans rfl
              have hcz13_3 : w5.cell? ⟨gb148, 3, none⟩ = some (.slice A1_3 l1_3.length c1_3) := (blk_cell BK148.out 3).trans rfl
              have hcz13_4 : w5.cell? ⟨gb148, 4, none⟩ = some (.slice A1_4 l1_4.length c1_4) := (blk_cell BK148.out 4).trans rfl
              have hcz13_5 : w5.cell? ⟨gb148, 5, none⟩ = some (.slice A1_5 l1_5.length c1_5) := (blk_cell BK148.out 5).trans rfl
              have hfz13_0 := blk_frozen BK148.out 0
              have hfz13_1 := blk_frozen BK148.out 1
              have hfz13_2 := blk_frozen BK148.out 2
              have hfz13_3 := blk_frozen BK148.out 3
              have hfz13_4 := blk_frozen BK148.out 4
              have hfz13_5 := blk_frozen BK148.out 5
              have hcv14 := Kd.C_string (P := Tryd.prog) (A := A0_3) (c := c0_3) Tryd.underlying22 Tryd.underlying5 Tryd.underlying9 (Kd.C_below HR0_3.out HB.out)
              have hcv15 := Kd.C_string (P := Tryd.prog) (A := A1_3) (c := c1_3) Tryd.underlying22 Tryd.underlying5 Tryd.underlying9 (Kd.C_below HR1_3.out HB.out)
              go_wp2
              repeat (go_quiet (fail); try go_wp2)
              go_meet
              case rel => exact ⟨_, (((l0_5.length : Int) != (l1_5.length : Int))), (by first | rfl | (simp; done) | (simp [*]; done)), H', ⟨by first | omega | exact Nat.le_refl _⟩, ⟨by (with_reducible repeat (first | refine blk_drewN ?_ _ | refine blk_drew ?_ | refine blk_alloc ?_ _)); exact BK147.out⟩, ⟨by (with_reducible repeat (first | refine blk_drewN ?_ _ | refine blk_drew ?_ | refine blk_alloc ?_ _)); exact BK148.out⟩, ⟨by repeat (first | (with_reducible first | exact HB.out | apply below_alloc | apply pw_below_drewN | apply below_drew1 | refine below_set ?_ GE147.out | refine below_set ?_ GE148.out) | exact HB.out)⟩⟩
            · rw [if_neg c10] at H
              have c10b0 : ((l0_4.length : Int) == (l1_4.length : Int)) = false := beq_eq_false_iff_ne.mpr c10
              have c10b1 : ((l0_4.length : Int) != (l1_4.length : Int)) = true := bne_iff_ne.mpr c10
              have c10b2 : (l0_4.length == l1_4.length) = false := by first | simpa using c10 | (simp at c10 ⊢; omega)
              have H' := Aside0.mk H
              clear H
              have hnb16 := NB147_148.out
              have hnc16 := NB148_147.out
              have hcz17_0 : w5.cell? ⟨gb147, 0, none⟩ = some (.int .i64 a0_0) := (blk_cell BK147.out 0).trans rfl
              have hcz17_1 : w5.cell? ⟨gb147, 1, none⟩ = some (.int .i64 a0_1) := (blk_cell BK147.out 1).trans rfl
              have hcz17_2 : w5.cell? ⟨gb147, 2, none⟩ = some (.int .i64 a0_2) := (blk_cell BK147.out 2).trans rfl
              have hcz17_3 : w5.cell? ⟨gb147, 3, none⟩ = some (.slice A0_3 l0_3.length c0_3) := (blk_cell BK147.out 3).trans rfl
              have hcz17_4 : w5.cell? ⟨gb147, 4, none⟩ = some (.slice A0_4 l0_4.length c0_4) := (blk_cell BK147.out 4).trans rfl
              have hcz17_5 : w5.cell? ⟨gb147, 5, none⟩ = some (.slice A0_5 l0_5.length c0_5) := (blk_cell BK147.out 5).trans rfl
              have hfz17_0 := blk_frozen BK147.out 0
              have hfz17_1 := blk_frozen BK147.out 1
              have hfz17_2 := blk_frozen BK147.out 2
              have hfz17_3 := blk_frozen BK147.out 3
              have hfz17_4 := blk_frozen BK147.out 4
              have hfz17_5 := blk_frozen BK147.out 5
              have hcz18_0 : w5.cell? ⟨gb148, 0, none⟩ = some (.int .i64 a1_0) := (blk_cell BK148.out 0).trans rfl
              have hcz18_1 : w5.cell? ⟨gb148, 1, none⟩ = some (.int .i64 a1_1) := (blk_cell BK148.out 1).trans rfl
              have hcz18_2 : w5.cell? ⟨gb148, 2, none⟩ = some (.int .i64 a1_2) := (blk_cell BK148.out 2).trans rfl
              have hcz18_3 : w5.cell? ⟨gb148, 3, none⟩ = some (.slice A1_3 l1_3.length c1_3) := (blk_cell BK148.out 3).trans rfl
              have hcz18_4 : w5.cell? ⟨gb148, 4, none⟩ = some (.slice A1_4 l1_4.length c1_4) := (blk_cell BK148.out 4).trans rfl
              have hcz18_5 : w5.cell? ⟨gb148, 5, none⟩ = some (.slice A1_5 l1_5.length c1_5) := (blk_cell BK148.out 5).trans rfl
              have hfz18_0 := blk_frozen BK148.out 0
              have hfz18_1 := blk_frozen BK148.out 1
              have hfz18_2 := blk_frozen BK148.out 2
              have hfz18_3 := blk_frozen BK148.out 3
              have hfz18_4 := blk_frozen BK148.out 4
              have hfz18_5 := blk_frozen BK148.out 5
              have hcv19 := Kd.C_string (P := Tryd.prog) (A := A0_3) (c := c0_3) Tryd.underlying22 Tryd.underlying5 Tryd.underlying9 (Kd.C_below HR0_3.out HB.out)
              have hcv20 := Kd.C_string (P := Tryd.prog) (A := A1_3) (c := c1_3) Tryd.underlying22 Tryd.underlying5 Tryd.underlying9 (Kd.C_below HR1_3.out HB.out)
              go_wp2
              repeat (go_quiet (fail); try go_wp2)
              go_meet
              case rel => exact ⟨_, (true), (by first | rfl | (simp; done) | (simp [*]; done)), H', ⟨by first | omega | exact Nat.le_refl _⟩, ⟨by (with_reducible repeat (first | refine blk_drewN ?_ _ | refine blk_drew ?_ | refine blk_alloc ?_ _)); exact BK147.out⟩, ⟨by (with_reducible repeat (first | refine blk_drewN ?_ _ | refine blk_drew ?_ | refine blk_alloc ?_ _)); exact BK148.out⟩, ⟨by repeat (first | (with_reducible first | exact HB.out | apply below_alloc | apply pw_below_drewN | apply below_drew1 | refine below_set ?_ GE147.out | refine below_set ?_ GE148.out) | exact HB.out)⟩⟩
          · rw [if_neg c9] at H
            have c9b0 : ((strOfNums l0_3).toList == (strOfNums l1_3).toList) = false := beq_eq_false_iff_ne.mpr c9
            have c9b1 : ((strOfNums l0_3).toList != (strOfNums l1_3).toList) = true := bne_iff_ne.mpr c9
            have H' := Aside0.mk H
            clear H
            have hnb21 := NB147_148.out
            have hnc21 := NB148_147.out
            have hcz22_0 : w5.cell? ⟨gb147, 0, none⟩ = some (.int .i64 a0_0) := (blk_cell BK147.out 0).trans rfl
            have hcz22_1 : w5.cell? ⟨gb147, 1, none⟩ = some (.int .i64 a0_1) := (blk_cell BK147.out 1).trans rfl
            have hcz22_2 : w5.cell? ⟨gb147, 2, none⟩ = some (.int .i64 a0_2) := (blk_cell BK147.out 2).trans rfl
            have hcz22_3 : w5.cell? ⟨gb147, 3, none⟩ = some (.slice A0_3 l0_3.length c0_3) := (blk_cell BK147.out 3).trans rfl
            have hcz22_4 : w5.cell? ⟨gb147, 4, none⟩ = some (.slice A0_4 l0_4.length c0_4) := (blk_cell BK147.out 4).trans rfl
            have hcz22_5 : w5.cell? ⟨gb147, 5, none⟩ = some (.slice A0_5 l0_5.length c0_5) := (blk_cell BK147.out 5).trans rfl
            have hfz22_0 := blk_frozen BK147.out 0
            have hfz22_1 := blk_frozen BK147.out 1
            have hfz22_2 := blk_frozen BK147.out 2
            have hfz22_3 := blk_frozen BK147.out 3
            have hfz22_4 := blk_frozen BK147.out 4
            have hfz22_5 := blk_frozen BK147.out 5
            have hcz23_0 : w5.cell? ⟨gb148, 0, none⟩ = some (.int .i64 a1_0) := (blk_cell BK148.out 0).trans rfl
            have hcz23_1 : w5.cell? ⟨gb148, 1, none⟩ = some (.int .i64 a1_1) := (blk_cell BK148.out 1).trans rfl
            have hcz23_2 : w5.cell? ⟨gb148, 2, none⟩ = some (.int .i64 a1_2) := (blk_cell BK148.out 2).trans rfl
            have hcz23_3 : w5.cell? ⟨gb148, 3, none⟩ = some (.slice A1_3 l1_3.length c1_3) := (blk_cell BK148.out 3).trans rfl
            have hcz23_4 : w5.cell? ⟨gb148, 4, none⟩ = some (.slice A1_4 l1_4.length c1_4) := (blk_cell BK148.out 4).trans rfl
            have hcz23_5 : w5.cell? ⟨gb148, 5, none⟩ = some (.slice A1_5 l1_5.length c1_5) := (blk_cell BK148.out 5).trans rfl
            have hfz23_0 := blk_frozen BK148.out 0
            have hfz23_1 := blk_frozen BK148.out 1
            have hfz23_2 := blk_frozen BK148.out 2
            have hfz23_3 := blk_frozen BK148.out 3
            have hfz23_4 := blk_frozen BK148.out 4
            have hfz23_5 := blk_frozen BK148.out 5
            have hcv24 := Kd.C_string (P := Tryd.prog) (A := A0_3) (c := c0_3) Tryd.underlying22 Tryd.underlying5 Tryd.underlying9 (Kd.C_below HR0_3.out HB.out)
            have hcv25 := Kd.C_string (P := Tryd.prog) (A := A1_3) (c := c1_3) Tryd.underlying22 Tryd.underlying5 Tryd.underlying9 (Kd.C_below HR1_3.out HB.out)
            go_wp2
            repeat (go_quiet (fail); try go_wp2)
            go_meet
            case rel => exact ⟨_, (true), (by first | rfl | (simp; done) | (simp [*]; done)), H', ⟨by first | omega | exact Nat.le_refl _⟩, ⟨by (with_reducible repeat (first | refine blk_drewN ?_ _ | refine blk_drew ?_ | refine blk_alloc ?_ _)); exact BK147.out⟩, ⟨by (with_reducible repeat (first | refine blk_drewN ?_ _ | refine blk_drew ?_ | refine blk_alloc ?_ _)); exact BK148.out⟩, ⟨by repeat (first | (with_reducible first | exact HB.out | apply below_alloc | apply pw_below_drewN | apply below_drew1 | refine below_set ?_ GE147.out | refine below_set ?_ GE148.out) | exact HB.out)⟩⟩
        · rw [if_neg c8] at H
          have c8b0 : (a0_2 == a1_2) = false := beq_eq_false_iff_ne.mpr c8
          have c8b1 : (a0_2 != a1_2) = true := bne_iff_ne.mpr c8
          have H' := Aside0.mk H
          clear H
          have hnb26 := NB147_148.out
          have hnc26 := NB148_147.out
          have hcz27_0 : w5.cell? ⟨gb147, 0, none⟩ = some (.int .i64 a0_0) := (blk_cell BK147.out 0).trans rfl
          have hcz27_1 : w5.cell? ⟨gb147, 1, none⟩ = some (.int .i64 a0_1) := (blk_cell BK147.out 1).trans rfl
          have hcz27_2 : w5.cell? ⟨gb147, 2, none⟩ = some (.int .i64 a0_2) := (blk_cell BK147.out 2).trans rfl
          have hcz27_3 : w5.cell? ⟨gb147, 3, none⟩ = some (.slice A0_3 l0_3.length c0_3) := (blk_cell BK147.out 3).trans rfl
          have hcz27_4 : w5.cell? ⟨gb147, 4, none⟩ = some (.slice A0_4 l0_4.length c0_4) := (blk_cell BK147.out 4).trans rfl
          have hcz27_5 : w5.cell? ⟨gb147, 5, none⟩ = some (.slice A0_5 l0_5.length c0_5) := (blk_cell BK147.out 5).trans rfl
          have hfz27_0 := blk_frozen BK147.out 0
          have hfz27_1 := blk_frozen BK147.out 1
          have hfz27_2 := blk_frozen BK147.out 2
          have hfz27_3 := blk_frozen BK147.out 3
          have hfz27_4 := blk_frozen BK147.out 4
          have hfz27_5 := blk_frozen BK147.out 5
          have hcz28_0 : w5.cell? ⟨gb148, 0, none⟩ = some (.int .i64 a1_0) := (blk_cell BK148.out 0).trans rfl
          have hcz28_1 : w5.cell? ⟨gb148, 1, none⟩ = some (.int .i64 a1_1) := (blk_cell BK148.out 1).trans rfl
          have hcz28_2 : w5.cell? ⟨gb148, 2, none⟩ = some (.int .i64 a1_2) := (blk_cell BK148.out 2).trans rfl
          have hcz28_3 : w5.cell? ⟨gb148, 3, none⟩ = some (.slice A1_3 l1_3.length c1_3) := (blk_cell BK148.out 3).trans rfl
          have hcz28_4 : w5.cell? ⟨gb148, 4, none⟩ = some (.slice A1_4 l1_4.length c1_4) := (blk_cell BK148.out 4).trans rfl
          have hcz28_5 : w5.cell? ⟨gb148, 5, none⟩ = some (.slice A1_5 l1_5.length c1_5) := (blk_cell BK148.out 5).trans rfl
          have hfz28_0 := blk_frozen BK148.out 0
          have hfz28_1 := blk_frozen BK148.out 1
          have hfz28_2 := blk_frozen BK148.out 2
          have hfz28_3 := blk_frozen BK148.out 3
          have hfz28_4 := blk_frozen BK148.out 4
          have hfz28_5 := blk_frozen BK148.out 5
          go_wp2
          repeat (go_quiet (fail); try go_wp2)
          go_meet
          case rel => exact ⟨_, (true), (by first | rfl | (simp; done) | (simp [*]; done)), H', ⟨by first | omega | exact Nat.le_refl _⟩, ⟨by (with_reducible repeat (first | refine blk_drewN ?_ _ | refine blk_drew ?_ | refine blk_alloc ?_ _)); exact BK147.out⟩, ⟨by (with_reducible repeat (first | refine blk_drewN ?_ _ | refine blk_drew ?_ | refine blk_alloc ?_ _)); exact BK148.out⟩, ⟨by repeat (first | (with_reducible first | exact HB.out | apply below_alloc | apply pw_below_drewN | apply below_drew1 | refine below_set ?_ GE147.out | refine below_set ?_ GE148.out) | exact HB.out)⟩⟩
      · rw [if_neg c7] at H
        have c7b0 : (a0_1 == a1_1) = false := beq_eq_false_iff_ne.mpr c7
        have c7b1 : (a0_1 != a1_1) = true := bne_iff_ne.mpr c7
        have H' := Aside0.mk H
        clear H
        have hnb29 := NB147_148.out
        have hnc29 := NB148_147.out
        have hcz30_0 : w5.cell? ⟨gb147, 0, none⟩ = some (.int .i64 a0_0) := (blk_cell BK147.out 0).trans rfl
        have hcz30_1 : w5.cell? ⟨gb147, 1, none⟩ = some (.int .i64 a0_1) := (blk_cell BK147.out 1).trans rfl
        have hcz30_2 : w5.cell? ⟨gb147, 2, none⟩ = some (.int .i64 a0_2) := (blk_cell BK147.out 2).trans rfl
        have hcz30_3 : w5.cell? ⟨gb147, 3, none⟩ = some (.slice A0_3 l0_3.length c0_3) := (blk_cell BK147.out 3).trans rfl
        have hcz30_4 : w5.cell? ⟨gb147, 4, none⟩ = some (.slice A0_4 l0_4.length c0_4) := (blk_cell BK147.out 4).trans rfl
        have hcz30_5 : w5.cell? ⟨gb147, 5, none⟩ = some (.slice A0_5 l0_5.length c0_5) := (blk_cell BK147.out 5).trans rfl
        have hfz30_0 := blk_frozen BK147.out 0
        have hfz30_1 := blk_frozen BK147.out 1
        have hfz30_2 := blk_frozen BK147.out 2
        have hfz30_3 := blk_frozen BK147.out 3
        have hfz30_4 := blk_frozen BK147.out 4
        have hfz30_5 := blk_frozen BK147.out 5
        have hcz31_0 : w5.cell? ⟨gb148, 0, none⟩ = some (.int .i64 a1_0) := (blk_cell BK148.out 0).trans rfl
        have hcz31_1 : w5.cell? ⟨gb148, 1, none⟩ = some (.int .i64 a1_1) := (blk_cell BK148.out 1).trans rfl
        have hcz31_2 : w5.cell? ⟨gb148, 2, none⟩ = some (.int .i64 a1_2) := (blk_cell BK148.out 2).trans rfl
        have hcz31_3 : w5.cell? ⟨gb148, 3, none⟩ = some (.slice A1_3 l1_3.length c1_3) := (blk_cell BK148.out 3).trans rfl
        have hcz31_4 : w5.cell? ⟨gb148, 4, none⟩ = some (.slice A1_4 l1_4.length c1_4) := (blk_cell BK148.out 4).trans rfl
        have hcz31_5 : w5.cell? ⟨gb148, 5, none⟩ = some (.slice A1_5 l1_5.length c1_5) := (blk_cell BK148.out 5).trans rfl
        have hfz31_0 := blk_frozen BK148.out 0
        have hfz31_1 := blk_frozen BK148.out 1
        have hfz31_2 := blk_frozen BK148.out 2
        have hfz31_3 := blk_frozen BK148.out 3
        have hfz31_4 := blk_frozen BK148.out 4
        have hfz31_5 := blk_frozen BK148.out 5
        go_wp2
        repeat (go_quiet (fail); try go_wp2)
        go_meet
        case rel => exact ⟨_, (true), (by first | rfl | (simp; done) | (simp [*]; done)), H', ⟨by first | omega | exact Nat.le_refl _⟩, ⟨by (with_reducible repeat (first | refine blk_drewN ?_ _ | refine blk_drew ?_ | refine blk_alloc ?_ _)); exact BK147.out⟩, ⟨by (with_reducible repeat (first | refine blk_drewN ?_ _ | refine blk_drew ?_ | refine blk_alloc ?_ _)); exact BK148.out⟩, ⟨by repeat (first | (with_reducible first | exact HB.out | apply below_alloc | apply pw_below_drewN | apply below_drew1 | refine below_set ?_ GE147.out | refine below_set ?_ GE148.out) | exact HB.out)⟩⟩
    · rw [if_neg c6] at H
      have c6b0 : (a0_0 == a1_0) = false := beq_eq_false_iff_ne.mpr c6
      have c6b1 : (a0_0 != a1_0) = true := bne_iff_ne.mpr c6
      (first | rw [c6b0] | (simp only [i64_w, i32_w]; rw [c6b0]) | skip)
      have H' := Aside0.mk H
      clear H
      have hnb32 := NB147_148.out
      have hnc32 := NB148_147.out
      have hcz33_0 : w5.cell? ⟨gb147, 0, none⟩ = some (.int .i64 a0_0) := (blk_cell BK147.out 0).trans rfl
      have hcz33_1 : w5.cell? ⟨gb147, 1, none⟩ = some (.int .i64 a0_1) := (blk_cell BK147.out 1).trans rfl
      have hcz33_2 : w5.cell? ⟨gb147, 2, none⟩ = some (.int .i64 a0_2) := (blk_cell BK147.out 2).trans rfl
      have hcz33_3 : w5.cell? ⟨gb147, 3, none⟩ = some (.slice A0_3 l0_3.length c0_3) := (blk_cell BK147.out 3).trans rfl
      have hcz33_4 : w5.cell? ⟨gb147, 4, none⟩ = some (.slice A0_4 l0_4.length c0_4) := (blk_cell BK147.out 4).trans rfl
      have hcz33_5 : w5.cell? ⟨gb147, 5, none⟩ = some (.slice A0_5 l0_5.length c0_5) := (blk_cell BK147.out 5).trans rfl
      have hfz33_0 := blk_frozen BK147.out 0
      have hfz33_1 := blk_frozen BK147.out 1
      have hfz33_2 := blk_frozen BK147.out 2
      have hfz33_3 := blk_frozen BK147.out 3
      have hfz33_4 := blk_frozen BK147.out 4
      have hfz33_5 := blk_frozen BK147.out 5
      have hcz34_0 : w5.cell? ⟨gb148, 0, none⟩ = some (.int .i64 a1_0) := (blk_cell BK148.out 0).trans rfl
      have hcz34_1 : w5.cell? ⟨gb148, 1, none⟩ = some (.int .i64 a1_1) := (blk_cell BK148.out 1).trans rfl
      have hcz34_2 : w5.cell? ⟨gb148, 2, none⟩ = some (.int .i64 a1_2) := (blk_cell BK148.out 2).trans rfl
      have hcz34_3 : w5.cell? ⟨gb148, 3, none⟩ = some (.slice A1_3 l1_3.length c1_3) := (blk_cell BK148.out 3).trans rfl
      have hcz34_4 : w5.cell? ⟨gb148, 4, none⟩ = some (.slice A1_4 l1_4.length c1_4) := (blk_cell BK148.out 4).trans rfl
      have hcz34_5 : w5.cell? ⟨gb148, 5, none⟩ = some (.slice A1_5 l1_5.length c1_5) := (blk_cell BK148.out 5).trans rfl
      have hfz34_0 := blk_frozen BK148.out 0
      have hfz34_1 := blk_frozen BK148.out 1
      have hfz34_2 := blk_frozen BK148.out 2
      have hfz34_3 := blk_frozen BK148.out 3
      have hfz34_4 := blk_frozen BK148.out 4
      have hfz34_5 := blk_frozen BK148.out 5
      go_wp2
      repeat (go_quiet (fail); try go_wp2)
      go_meet
      case rel => exact ⟨_, (true), (by first | rfl | (simp; done) | (simp [*]; done)), H', ⟨by first | omega | exact Nat.le_refl _⟩, ⟨by (with_reducible repeat (first | refine blk_drewN ?_ _ | refine blk_drew ?_ | refine blk_alloc ?_ _)); exact BK147.out⟩, ⟨by (with_reducible repeat (first | refine blk_drewN ?_ _ | refine blk_drew ?_ | refine blk_alloc ?_ _)); exact BK148.out⟩, ⟨by repeat (first | (with_reducible first | exact HB.out | apply below_alloc | apply pw_below_drewN | apply below_drew1 | refine below_set ?_ GE147.out | refine below_set ?_ GE148.out) | exact HB.out)⟩⟩
  case rest =>
    clear HC3
    try clear c1
    try clear hcv1
    try clear c2
    try clear p2
    try clear hcv2
    try clear c3
    try clear c6
    try clear c6b0
    try clear c6b1
    try clear c7
    try clear c7b0
    try clear c7b1
    try clear c8
    try clear c8b0
    try clear c8b1
    try clear c9
    try clear c9b0
    try clear c9b1
    try clear c10
    try clear c10b0
    try clear c10b1
    try clear c10b2
    try clear c11
    try clear hcv14
    try clear hcv15
    try clear c16
    try clear c19
    try clear hcv19
    try clear hcv20
    try clear c21
    try clear hcv24
    try clear hcv25
    try clear c26
    try clear c29
    try clear c32
    try clear hcz12_0
    try clear hcz12_1
    try clear hcz12_2
    try clear hcz12_3
    try clear hcz12_4
    try clear hcz12_5
    try clear hcz13_0
    try clear hcz13_1
    try clear hcz13_2
    try clear hcz13_3
    try clear hcz13_4
    try clear hcz13_5
    try clear hcz17_0
    try clear hcz17_1
    try clear hcz17_2
    try clear hcz17_3
    try clear hcz17_4
    try clear hcz17_5
    try clear hcz18_0
    try clear hcz18_1
    try clear hcz18_2
    try clear hcz18_3
    try clear hcz18_4
    try clear hcz18_5
    try clear hcz22_0
    try clear hcz22_1
    try clear hcz22_2
    try clear hcz22_3
    try clear hcz22_4
    try clear hcz22_5
    try clear hcz23_0
    try clear hcz23_1
    try clear hcz23_2
    try clear hcz23_3
    try clear hcz23_4
    try clear hcz23_5
    try clear hcz27_0
    try clear hcz27_1
    try clear hcz27_2
    try clear hcz27_3
    try clear hcz27_4
    try clear hcz27_5
    try clear hcz28_0
    try clear hcz28_1
    try clear hcz28_2
    try clear hcz28_3
    try clear hcz28_4
    try clear hcz28_5
    try clear hcz30_0
    try clear hcz30_1
    try clear hcz30_2
    try clear hcz30_3
    try clear hcz30_4
    try clear hcz30_5
    try clear hcz31_0
    try clear hcz31_1
    try clear hcz31_2
    try clear hcz31_3
    try clear hcz31_4
    try clear hcz31_5
    try clear hcz33_0
    try clear hcz33_1
    try clear hcz33_2
    try clear hcz33_3
    try clear hcz33_4
    try clear hcz33_5
    try clear hcz34_0
    try clear hcz34_1
    try clear hcz34_2
    try clear hcz34_3
    try clear hcz34_4
    try clear hcz34_5
    try clear hfz12_0
    try clear hfz12_1
    try clear hfz12_2
    try clear hfz12_3
    try clear hfz12_4
    try clear hfz12_5
    try clear hfz13_0
    try clear hfz13_1
    try clear hfz13_2
    try clear hfz13_3
    try clear hfz13_4
    try clear hfz13_5
    try clear hfz17_0
    try clear hfz17_1
    try clear hfz17_2
    try clear hfz17_3
    try clear hfz17_4
    try clear hfz17_5
    try clear hfz18_0
    try clear hfz18_1
    try clear hfz18_2
    try clear hfz18_3
    try clear hfz18_4
    try clear hfz18_5
    try clear hfz22_0
    try clear hfz22_1
    try clear hfz22_2
    try clear hfz22_3
    try clear hfz22_4
    try clear hfz22_5
    try clear hfz23_0
    try clear hfz23_1
    try clear hfz23_2
    try clear hfz23_3
    try clear hfz23_4
    try clear hfz23_5
    try clear hfz27_0
    try clear hfz27_1
    try clear hfz27_2
    try clear hfz27_3
    try clear hfz27_4
    try clear hfz27_5
    try clear hfz28_0
    try clear hfz28_1
    try clear hfz28_2
    try clear hfz28_3
    try clear hfz28_4
    try clear hfz28_5
    try clear hfz30_0
    try clear hfz30_1
    try clear hfz30_2
    try clear hfz30_3
    try clear hfz30_4
    try clear hfz30_5
    try clear hfz31_0
    try clear hfz31_1
    try clear hfz31_2
    try clear hfz31_3
    try clear hfz31_4
    try clear hfz31_5
    try clear hfz33_0
    try clear hfz33_1
    try clear hfz33_2
    try clear hfz33_3
    try clear hfz33_4
    try clear hfz33_5
    try clear hfz34_0
    try clear hfz34_1
    try clear hfz34_2
    try clear hfz34_3
    try clear hfz34_4
    try clear hfz34_5
    obtain ⟨kq, x52_2, rfl, HA, HJ2, BK147, BK148, HB⟩ := hcut
    cases kq with
    | zero => exact absurd HA.out (by simp [spec_SameAnswer.j0])
    | succ kj2 =>
      have H := HA.out
      clear HA
      simp only [spec_SameAnswer.j0] at H
      by_cases c35 : x52_2 = true
      · subst c35
        have H1 : (some false) = some r := by rw [if_pos rfl] at H; exact H
        clear H
        have H := H1
        clear H1
        obtain rfl := Option.some.inj H
        go_wp2
        repeat (go_quiet (fail); try go_wp2)
        go_ret
        exact ⟨by first | rfl | (simp [errW_none, errW_some] <;> rfl) | (simp [*, errW_none, errW_some] <;> rfl), by repeat (first | (with_reducible first | exact HB.out | apply below_alloc | apply pw_below_drewN | apply below_drew1 | refine below_set ?_ GE147.out | refine below_set ?_ GE148.out) | exact HB.out)⟩
      · replace c35 := Bool.eq_false_iff.mpr c35
        subst c35
        have H1 : (spec_SameAnswer.l0 kj2 (l0_4.length : Int) 0 a0_0 a0_1 a0_2 l0_3 l0_4 l0_5 a1_0 a1_1 a1_2 l1_3 l1_4 l1_5) = some r := by rw [if_neg (show ¬ (false = true) by decide)] at H; exact H
        clear H
        have H := H1
        clear H1
        have H' := Aside0.mk H
        clear H
        have hnb36 := NB147_148.out
        have hnc36 := NB148_147.out
        have hcz37_0 : wc.cell? ⟨gb147, 0, none⟩ = some (.int .i64 a0_0) := (blk_cell BK147.out 0).trans rfl
        have hcz37_1 : wc.cell? ⟨gb147, 1, none⟩ = some (.int .i64 a0_1) := (blk_cell BK147.out 1).trans rfl
        have hcz37_2 : wc.cell? ⟨gb147, 2, none⟩ = some (.int .i64 a0_2) := (blk_cell BK147.out 2).trans rfl
        have hcz37_3 : wc.cell? ⟨gb147, 3, none⟩ = some (.slice A0_3 l0_3.length c0_3) := (blk_cell BK147.out 3).trans rfl
        have hcz37_4 : wc.cell? ⟨gb147, 4, none⟩ = some (.slice A0_4 l0_4.length c0_4) := (blk_cell BK147.out 4).trans rfl
        have hcz37_5 : wc.cell? ⟨gb147, 5, none⟩ = some (.slice A0_5 l0_5.length c0_5) := (blk_cell BK147.out 5).trans rfl
        have hfz37_0 := blk_frozen BK147.out 0
        have hfz37_1 := blk_frozen BK147.out 1
        have hfz37_2 := blk_frozen BK147.out 2
        have hfz37_3 := blk_frozen BK147.out 3
        have hfz37_4 := blk_frozen BK147.out 4
        have hfz37_5 := blk_frozen BK147.out 5
        go_wp2
        repeat (go_quiet (fail); try go_wp2)
        go_loopg [56] kj2 (fun kq v56 w' => ∃ (x56_2 : Int), v56 = .int .i64 x56_2 ∧ Aside0 (spec_SameAnswer.l0 kq (l0_4.length : Int) x56_2 a0_0 a0_1 a0_2 l0_3 l0_4 l0_5 a1_0 a1_1 a1_2 l1_3 l1_4 l1_5 = some r) ∧ Aside0 (kq ≤ kj2) ∧ Aside0 (w'.heap[gb147]? = some (.cells #[.int .i64 a0_0, .int .i64 a0_1, .int .i64 a0_2, (.slice A0_3 l0_3.length c0_3), (.slice A0_4 l0_4.length c0_4), (.slice A0_5 l0_5.length c0_5)] 33 (0, 0))) ∧ Aside0 (w'.heap[gb148]? = some (.cells #[.int .i64 a1_0, .int .i64 a1_1, .int .i64 a1_2, (.slice A1_3 l1_3.length c1_3), (.slice A1_4 l1_4.length c1_4), (.slice A1_5 l1_5.length c1_5)] 33 (0, 0))) ∧ Aside0 (Below w.heap.size w w'))
        case atStart => exact ⟨(0), (by first | rfl | (simp; done) | (simp [*]; done)), H', ⟨Nat.le_refl _⟩, ⟨by (with_reducible repeat (first | refine blk_drewN ?_ _ | refine blk_drew ?_ | refine blk_alloc ?_ _)); exact BK147.out⟩, ⟨by (with_reducible repeat (first | refine blk_drewN ?_ _ | refine blk_drew ?_ | refine blk_alloc ?_ _)); exact BK148.out⟩, ⟨by repeat (first | (with_reducible first | exact HB.out | apply below_alloc | apply pw_below_drewN | apply below_drew1 | refine below_set ?_ GE147.out | refine below_set ?_ GE148.out) | exact HB.out)⟩⟩
        case round =>
          clear H'
          try clear c1
          try clear hcv1
          try clear c2
          try clear p2
          try clear hcv2
          try clear c3
          try clear c6
          try clear c6b0
          try clear c6b1
          try clear c7
          try clear c7b0
          try clear c7b1
          try clear c8
          try clear c8b0
          try clear c8b1
          try clear c9
          try clear c9b0
          try clear c9b1
          try clear c10
          try clear c10b0
          try clear c10b1
          try clear c10b2
          try clear c11
          try clear hcv14
          try clear hcv15
          try clear c16
          try clear c19
          try clear hcv19
          try clear hcv20
          try clear c21
          try clear hcv24
          try clear hcv25
          try clear c26
          try clear c29
          try clear c32
          try clear c35
          try clear c36
          try clear hcz12_0
          try clear hcz12_1
          try clear hcz12_2
          try clear hcz12_3
          try clear hcz12_4
          try clear hcz12_5
          try clear hcz13_0
          try clear hcz13_1
          try clear hcz13_2
          try clear hcz13_3
          try clear hcz13_4
          try clear hcz13_5
          try clear hcz17_0
          try clear hcz17_1
          try clear hcz17_2
          try clear hcz17_3
          try clear hcz17_4
          try clear hcz17_5
          try clear hcz18_0
          try clear hcz18_1
          try clear hcz18_2
          try clear hcz18_3
          try clear hcz18_4
          try clear hcz18_5
          try clear hcz22_0
          try clear hcz22_1
          try clear hcz22_2
          try clear hcz22_3
          try clear hcz22_4
          try clear hcz22_5
          try clear hcz23_0
          try clear hcz23_1
          try clear hcz23_2
          try clear hcz23_3
          try clear hcz23_4
          try clear hcz23_5
          try clear hcz27_0
          try clear hcz27_1
          try clear hcz27_2
          try clear hcz27_3
          try clear hcz27_4
          try clear hcz27_5
          try clear hcz28_0
          try clear hcz28_1
          try clear hcz28_2
          try clear hcz28_3
          try clear hcz28_4
          try clear hcz28_5
          try clear hcz30_0
          try clear hcz30_1
          try clear hcz30_2
          try clear hcz30_3
          try clear hcz30_4
          try clear hcz30_5
          try clear hcz31_0
          try clear hcz31_1
          try clear hcz31_2
          try clear hcz31_3
          try clear hcz31_4
          try clear hcz31_5
          try clear hcz33_0
          try clear hcz33_1
          try clear hcz33_2
          try clear hcz33_3
          try clear hcz33_4
          try clear hcz33_5
          try clear hcz34_0
          try clear hcz34_1
          try clear hcz34_2
          try clear hcz34_3
          try clear hcz34_4
          try clear hcz34_5
          try clear hcz37_0
          try clear hcz37_1
          try clear hcz37_2
          try clear hcz37_3
          try clear hcz37_4
          try clear hcz37_5
          try clear hfz12_0
          try clear hfz12_1
          try clear hfz12_2
          try clear hfz12_3
          try clear hfz12_4
          try clear hfz12_5
          try clear hfz13_0
          try clear hfz13_1
          try clear hfz13_2
          try clear hfz13_3
          try clear hfz13_4
          try clear hfz13_5
          try clear hfz17_0
          try clear hfz17_1
          try clear hfz17_2
          try clear hfz17_3
          try clear hfz17_4
          try clear hfz17_5
          try clear hfz18_0
          try clear hfz18_1
          try clear hfz18_2
          try clear hfz18_3
          try clear hfz18_4
          try clear hfz18_5
          try clear hfz22_0
          try clear hfz22_1
          try clear hfz22_2
          try clear hfz22_3
          try clear hfz22_4
          try clear hfz22_5
          try clear hfz23_0
          try clear hfz23_1
          try clear hfz23_2
          try clear hfz23_3
          try clear hfz23_4
          try clear hfz23_5
          try clear hfz27_0
          try clear hfz27_1
          try clear hfz27_2
          try clear hfz27_3
          try clear hfz27_4
          try clear hfz27_5
          try clear hfz28_0
          try clear hfz28_1
          try clear hfz28_2
          try clear hfz28_3
          try clear hfz28_4
          try clear hfz28_5
          try clear hfz30_0
          try clear hfz30_1
          try clear hfz30_2
          try clear hfz30_3
          try clear hfz30_4
          try clear hfz30_5
          try clear hfz31_0
          try clear hfz31_1
          try clear hfz31_2
          try clear hfz31_3
          try clear hfz31_4
          try clear hfz31_5
          try clear hfz33_0
          try clear hfz33_1
          try clear hfz33_2
          try clear hfz33_3
          try clear hfz33_4
          try clear hfz33_5
          try clear hfz34_0
          try clear hfz34_1
          try clear hfz34_2
          try clear hfz34_3
          try clear hfz34_4
          try clear hfz34_5
          try clear hfz37_0
          try clear hfz37_1
          try clear hfz37_2
          try clear hfz37_3
          try clear hfz37_4
          try clear hfz37_5
          try clear p2
          obtain ⟨x56_2, rfl, HA, HK2, BK147, BK148, HB⟩ := hrel
          cases gk with
          | zero => exact absurd HA.out (by simp [spec_SameAnswer.l0])
          | succ k2 =>
            have H := HA.out
            clear HA
            simp only [spec_SameAnswer.l0] at H
            by_cases c38 : x56_2 < (l0_4.length : Int)
            · rw [if_pos c38] at H
              have c38b0 : decide (x56_2 < (l0_4.length : Int)) = true := decide_eq_true c38
              clear c38
              by_cases c39 : 0 ≤ x56_2
              · rw [if_pos c39] at H
                have c39b0 : decide (0 ≤ x56_2) = true := decide_eq_true c39
                clear c39
                by_cases c40 : x56_2 < (l0_4.length : Int)
                · rw [if_pos c40] at H
                  have c40b0 : decide (x56_2 < (l0_4.length : Int)) = true := decide_eq_true c40
                  clear c40
                  by_cases c41 : x56_2 < (l1_4.length : Int)
                  · rw [if_pos c41] at H
                    have c41b0 : decide (x56_2 < (l1_4.length : Int)) = true := decide_eq_true c41
                    clear c41
                    by_cases c42 : (rdOf ByteArray.empty l0_4 x56_2).toList = (rdOf ByteArray.empty l1_4 x56_2).toList
                    · rw [if_pos c42] at H
                      have c42b0 : ((rdOf ByteArray.empty l0_4 x56_2).toList == (rdOf ByteArray.empty l1_4 x56_2).toList) = true := beq_iff_eq.mpr c42
                      have c42b1 : ((rdOf ByteArray.empty l0_4 x56_2).toList != (rdOf ByteArray.empty l1_4 x56_2).toList) = false := bne_eq_false_iff_eq.mpr c42
                      clear c42
                      have H' := Aside0.mk H
                      clear H
                      have hnb43 := NB147_148.out
                      have hnc43 := NB148_147.out
                      have hcz44_0 : wr.cell? ⟨gb147, 0, none⟩ = some (.int .i64 a0_0) := (blk_cell BK147.out 0).trans rfl
                      have hcz44_1 : wr.cell? ⟨gb147, 1, none⟩ = some (.int .i64 a0_1) := (blk_cell BK147.out 1).trans rfl
                      have hcz44_2 : wr.cell? ⟨gb147, 2, none⟩ = some (.int .i64 a0_2) := (blk_cell BK147.out 2).trans rfl
                      have hcz44_3 : wr.cell? ⟨gb147, 3, none⟩ = some (.slice A0_3 l0_3.length c0_3) := (blk_cell BK147.out 3).trans rfl
                      have hcz44_4 : wr.cell? ⟨gb147, 4, none⟩ = some (.slice A0_4 l0_4.length c0_4) := (blk_cell BK147.out 4).trans rfl
                      have hcz44_5 : wr.cell? ⟨gb147, 5, none⟩ = some (.slice A0_5 l0_5.length c0_5) := (blk_cell BK147.out 5).trans rfl
                      have hfz44_0 := blk_frozen BK147.out 0
                      have hfz44_1 := blk_frozen BK147.out 1
                      have hfz44_2 := blk_frozen BK147.out 2
                      have hfz44_3 := blk_frozen BK147.out 3
                      have hfz44_4 := blk_frozen BK147.out 4
                      have hfz44_5 := blk_frozen BK147.out 5
                      have p149 : 0 ≤ (x56_2 : Int) := of_decide_eq_true (by first | (with_reducible assumption) | assumption)
                      have q149 : x56_2 < (l0_4.length : Int) := of_decide_eq_true (by first | (with_reducible assumption) | assumption)
                      obtain ⟨ad149, e149, hx149_0⟩ := Kd.at_string HR0_4.out x56_2 p149 q149
                      cases e149
                      replace hx149_0 := (HB.out.cell (World.block_lt_of_cell? w _ hx149_0)).trans hx149_0
                      replace p149 := eq_true p149
                      replace q149 := eq_true q149
                      have hcz45_0 : wr.cell? ⟨gb148, 0, none⟩ = some (.int .i64 a1_0) := (blk_cell BK148.out 0).trans rfl
                      have hcz45_1 : wr.cell? ⟨gb148, 1, none⟩ = some (.int .i64 a1_1) := (blk_cell BK148.out 1).trans rfl
                      have hcz45_2 : wr.cell? ⟨gb148, 2, none⟩ = some (.int .i64 a1_2) := (blk_cell BK148.out 2).trans rfl
                      have hcz45_3 : wr.cell? ⟨gb148, 3, none⟩ = some (.slice A1_3 l1_3.length c1_3) := (blk_cell BK148.out 3).trans rfl
                      have hcz45_4 : wr.cell? ⟨gb148, 4, none⟩ = some (.slice A1_4 l1_4.length c1_4) := (blk_cell BK148.out 4).trans rfl
                      have hcz45_5 : wr.cell? ⟨gb148, 5, none⟩ = some (.slice A1_5 l1_5.length c1_5) := (blk_cell BK148.out 5).trans rfl
                      have hfz45_0 := blk_frozen BK148.out 0
                      have hfz45_1 := blk_frozen BK148.out 1
                      have hfz45_2 := blk_frozen BK148.out 2
                      have hfz45_3 := blk_frozen BK148.out 3
                      have hfz45_4 := blk_frozen BK148.out 4
                      have hfz45_5 := blk_frozen BK148.out 5
                      have p150 : 0 ≤ (x56_2 : Int) := of_decide_eq_true (by first | (with_reducible assumption) | assumption)
                      have q150 : x56_2 < (l1_4.length : Int) := of_decide_eq_true (by first | (with_reducible assumption) | assumption)
                      obtain ⟨ad150, e150, hx150_0⟩ := Kd.at_string HR1_4.out x56_2 p150 q150
                      cases e150
                      replace hx150_0 := (HB.out.cell (World.block_lt_of_cell? w _ hx150_0)).trans hx150_0
                      replace p150 := eq_true p150
                      replace q150 := eq_true q150
                      go_wp2
                      repeat (go_quiet (fail); try go_wp2)
                      go_roundg k2
                      case measure => have := HJ2.out; have := HK2.out; omega
                      case rel => exact ⟨(wrap64 (x56_2 + 1)), (by first | rfl | (simp; done) | (simp [*]; done)), H', ⟨by have := HJ2.out; have := HK2.out; omega⟩, ⟨by (with_reducible repeat (first | refine blk_drewN ?_ _ | refine blk_drew ?_ | refine blk_alloc ?_ _)); exact BK147.out⟩, ⟨by (with_reducible repeat (first | refine blk_drewN ?_ _ | refine blk_drew ?_ | refine blk_alloc ?_ _)); exact BK148.out⟩, ⟨by repeat (first | (with_reducible first | exact HB.out | apply below_alloc | apply pw_below_drewN | apply below_drew1 | refine below_set ?_ GE147.out | refine below_set ?_ GE148.out) | exact HB.out)⟩⟩
                    · rw [if_neg c42] at H
                      have c42b0 : ((rdOf ByteArray.empty l0_4 x56_2).toList == (rdOf ByteArray.empty l1_4 x56_2).toList) = false := beq_eq_false_iff_ne.mpr c42
                      have c42b1 : ((rdOf ByteArray.empty l0_4 x56_2).toList != (rdOf ByteArray.empty l1_4 x56_2).toList) = true := bne_iff_ne.mpr c42
                      obtain rfl := Option.some.inj H
                      have hnb46 := NB147_148.out
                      have hnc46 := NB148_147.out
                      have hcz47_0 : wr.cell? ⟨gb147, 0, none⟩ = some (.int .i64 a0_0) := (blk_cell BK147.out 0).trans rfl
                      have hcz47_1 : wr.cell? ⟨gb147, 1, none⟩ = some (.int .i64 a0_1) := (blk_cell BK147.out 1).trans rfl
                      have hcz47_2 : wr.cell? ⟨gb147, 2, none⟩ = some (.int .i64 a0_2) := (blk_cell BK147.out 2).trans rfl
                      have hcz47_3 : wr.cell? ⟨gb147, 3, none⟩ = some (.slice A0_3 l0_3.length c0_3) := (blk_cell BK147.out 3).trans rfl
                      have hcz47_4 : wr.cell? ⟨gb147, 4, none⟩ = some (.slice A0_4 l0_4.length c0_4) := (blk_cell BK147.out 4).trans rfl
                      have hcz47_5 : wr.cell? ⟨gb147, 5, none⟩ = some (.slice A0_5 l0_5.length c0_5) := (blk_cell BK147.out 5).trans rfl
                      have hfz47_0 := blk_frozen BK147.out 0
                      have hfz47_1 := blk_frozen BK147.out 1
                      have hfz47_2 := blk_frozen BK147.out 2
                      have hfz47_3 := blk_frozen BK147.out 3
                      have hfz47_4 := blk_frozen BK147.out 4
                      have hfz47_5 := blk_frozen BK147.out 5
                      have p149 : 0 ≤ (x56_2 : Int) := of_decide_eq_true (by first | (with_reducible assumption) | assumption)
                      have q149 : x56_2 < (l0_4.length : Int) := of_decide_eq_true (by first | (with_reducible assumption) | assumption)
                      obtain ⟨ad149, e149, hx149_0⟩ := Kd.at_string HR0_4.out x56_2 p149 q149
                      cases e149
                      replace hx149_0 := (HB.out.cell (World.block_lt_of_cell? w _ hx149_0)).trans hx149_0
                      replace p149 := eq_true p149
                      replace q149 := eq_true q149
                      have hcz48_0 : wr.cell? ⟨gb148, 0, none⟩ = some (.int .i64 a1_0) := (blk_cell BK148.out 0).trans rfl
                      have hcz48_1 : wr.cell? ⟨gb148, 1, none⟩ = some (.int .i64 a1_1) := (blk_cell BK148.out 1).trans rfl
                      have hcz48_2 : wr.cell? ⟨gb148, 2, none⟩ = some (.int .i64 a1_2) := (blk_cell BK148.out 2).trans rfl
                      have hcz48_3 : wr.cell? ⟨gb148, 3, none⟩ = some (.slice A1_3 l1_3.length c1_3) := (blk_cell BK148.out 3).trans rfl
                      have hcz48_4 : wr.cell? ⟨gb148, 4, none⟩ = some (.slice A1_4 l1_4.length c1_4) := (blk_cell BK148.out 4).trans rfl
                      have hcz48_5 : wr.cell? ⟨gb148, 5, none⟩ = some (.slice A1_5 l1_5.length c1_5) := (blk_cell BK148.out 5).trans rfl
                      have hfz48_0 := blk_frozen BK148.out 0
                      have hfz48_1 := blk_frozen BK148.out 1
                      have hfz48_2 := blk_frozen BK148.out 2
                      have hfz48_3 := blk_frozen BK148.out 3
                      have hfz48_4 := blk_frozen BK148.out 4
                      have hfz48_5 := blk_frozen BK148.out 5
                      have p150 : 0 ≤ (x56_2 : Int) := of_decide_eq_true (by first | (with_reducible assumption) | assumption)
                      have q150 : x56_2 < (l1_4.length : Int) := of_decide_eq_true (by first | (with_reducible assumption) | assumption)
                      obtain ⟨ad150, e150, hx150_0⟩ := Kd.at_string HR1_4.out x56_2 p150 q150
                      cases e150
                      replace hx150_0 := (HB.out.cell (World.block_lt_of_cell? w _ hx150_0)).trans hx150_0
                      replace p150 := eq_true p150
                      replace q150 := eq_true q150
                      go_wp2
                      repeat (go_quiet (fail); try go_wp2)
                      go_ret
                      exact ⟨by first | rfl | (simp [errW_none, errW_some] <;> rfl) | (simp [*, errW_none, errW_some] <;> rfl), by repeat (first | (with_reducible first | exact HB.out | apply below_alloc | apply pw_below_drewN | apply below_drew1 | refine below_set ?_ GE147.out | refine below_set ?_ GE148.out) | exact HB.out)⟩
                  · rw [if_neg c41] at H
                    exact absurd H (by simp)
                · rw [if_neg c40] at H
                  exact absurd H (by simp)
              · rw [if_neg c39] at H
                exact absurd H (by simp)
            · rw [if_neg c38] at H
              have c38b0 : decide (x56_2 < (l0_4.length : Int)) = false := decide_eq_false c38
              clear c38
              have H' := Aside0.mk H
              clear H
              have hnb49 := NB147_148.out
              have hnc49 := NB148_147.out
              have hcz50_0 : wr.cell? ⟨gb147, 0, none⟩ = some (.int .i64 a0_0) := (blk_cell BK147.out 0).trans rfl
              have hcz50_1 : wr.cell? ⟨gb147, 1, none⟩ = some (.int .i64 a0_1) := (blk_cell BK147.out 1).trans rfl
              have hcz50_2 : wr.cell? ⟨gb147, 2, none⟩ = some (.int .i64 a0_2) := (blk_cell BK147.out 2).trans rfl
              have hcz50_3 : wr.cell? ⟨gb147, 3, none⟩ = some (.slice A0_3 l0_3.length c0_3) := (blk_cell BK147.out 3).trans rfl
              have hcz50_4 : wr.cell? ⟨gb147, 4, none⟩ = some (.slice A0_4 l0_4.length c0_4) := (blk_cell BK147.out 4).trans rfl
              have hcz50_5 : wr.cell? ⟨gb147, 5, none⟩ = some (.slice A0_5 l0_5.length c0_5) := (blk_cell BK147.out 5).trans rfl
              have hfz50_0 := blk_frozen BK147.out 0
              have hfz50_1 := blk_frozen BK147.out 1
              have hfz50_2 := blk_frozen BK147.out 2
              have hfz50_3 := blk_frozen BK147.out 3
              have hfz50_4 := blk_frozen BK147.out 4
              have hfz50_5 := blk_frozen BK147.out 5
              go_wp2
              repeat (go_quiet (fail); try go_wp2)
              go_loopg [74] k2 (fun kq v74 w' => ∃ (x74_3 : Int), v74 = .int .i64 x74_3 ∧ Aside0 (spec_SameAnswer.l1 kq (l0_5.length : Int) x74_3 a0_0 a0_1 a0_2 l0_3 l0_4 l0_5 a1_0 a1_1 a1_2 l1_3 l1_4 l1_5 = some r) ∧ Aside0 (kq ≤ k2) ∧ Aside0 (w'.heap[gb147]? = some (.cells #[.int .i64 a0_0, .int .i64 a0_1, .int .i64 a0_2, (.slice A0_3 l0_3.length c0_3), (.slice A0_4 l0_4.length c0_4), (.slice A0_5 l0_5.length c0_5)] 33 (0, 0))) ∧ Aside0 (w'.heap[gb148]? = some (.cells #[.int .i64 a1_0, .int .i64 a1_1, .int .i64 a1_2, (.slice A1_3 l1_3.length c1_3), (.slice A1_4 l1_4.length c1_4), (.slice A1_5 l1_5.length c1_5)] 33 (0, 0))) ∧ Aside0 (Below w.heap.size w w'))
              case atStart => exact ⟨(0), (by first | rfl | (simp; done) | (simp [*]; done)), H', ⟨Nat.le_refl _⟩, ⟨by (with_reducible repeat (first | refine blk_drewN ?_ _ | refine blk_drew ?_ | refine blk_alloc ?_ _)); exact BK147.out⟩, ⟨by (with_reducible repeat (first | refine blk_drewN ?_ _ | refine blk_drew ?_ | refine blk_alloc ?_ _)); exact BK148.out⟩, ⟨by repeat (first | (with_reducible first | exact HB.out | apply below_alloc | apply pw_below_drewN | apply below_drew1 | refine below_set ?_ GE147.out | refine below_set ?_ GE148.out) | exact HB.out)⟩⟩
              case round =>
                clear H'
                try clear c1
                try clear p1
                try clear q1
                try clear hx1
                try clear hcv1
                try clear c2
                try clear p2
                try clear hcv2
                try clear c3
                try clear c4
                try clear c6
                try clear c6b0
                try clear c6b1
                try clear p6
                try clear c7
                try clear c7b0
                try clear c7b1
                try clear c8
                try clear c8b0
                try clear c8b1
                try clear c9
                try clear c9b0
                try clear c9b1
                try clear c10
                try clear c10b0
                try clear c10b1
                try clear c10b2
                try clear c11
                try clear p14
                try clear q14
                try clear hx14
                try clear hcv14
                try clear p15
                try clear q15
                try clear hx15
                try clear hcv15
                try clear c16
                try clear c19
                try clear hcv19
                try clear hcv20
                try clear c21
                try clear hcv24
                try clear hcv25
                try clear c26
                try clear c29
                try clear c32
                try clear c35
                try clear c36
                try clear c38
                try clear c38b0
                try clear c39
                try clear c39b0
                try clear c40
                try clear c40b0
                try clear c41
                try clear c41b0
                try clear c42
                try clear c42b0
                try clear c42b1
                try clear c43
                try clear c46
                try clear c49
                try clear hcz12_0
                try clear hcz12_1
                try clear hcz12_2
                try clear hcz12_3
                try clear hcz12_4
                try clear hcz12_5
                try clear hcz13_0
                try clear hcz13_1
                try clear hcz13_2
                try clear hcz13_3
                try clear hcz13_4
                try clear hcz13_5
                try clear hcz17_0
                try clear hcz17_1
                try clear hcz17_2
                try clear hcz17_3
                try clear hcz17_4
                try clear hcz17_5
                try clear hcz18_0
                try clear hcz18_1
                try clear hcz18_2
                try clear hcz18_3
                try clear hcz18_4
                try clear hcz18_5
                try clear hcz22_0
                try clear hcz22_1
                try clear hcz22_2
                try clear hcz22_3
                try clear hcz22_4
                try clear hcz22_5
                try clear hcz23_0
                try clear hcz23_1
                try clear hcz23_2
                try clear hcz23_3
                try clear hcz23_4
                try clear hcz23_5
                try clear hcz27_0
                try clear hcz27_1
                try clear hcz27_2
                try clear hcz27_3
                try clear hcz27_4
                try clear hcz27_5
                try clear hcz28_0
                try clear hcz28_1
                try clear hcz28_2
                try clear hcz28_3
                try clear hcz28_4
                try clear hcz28_5
                try clear hcz30_0
                try clear hcz30_1
                try clear hcz30_2
                try clear hcz30_3
                try clear hcz30_4
                try clear hcz30_5
                try clear hcz31_0
                try clear hcz31_1
                try clear hcz31_2
                try clear hcz31_3
                try clear hcz31_4
                try clear hcz31_5
                try clear hcz33_0
                try clear hcz33_1
                try clear hcz33_2
                try clear hcz33_3
                try clear hcz33_4
                try clear hcz33_5
                try clear hcz34_0
                try clear hcz34_1
                try clear hcz34_2
                try clear hcz34_3
                try clear hcz34_4
                try clear hcz34_5
                try clear hcz37_0
                try clear hcz37_1
                try clear hcz37_2
                try clear hcz37_3
                try clear hcz37_4
                try clear hcz37_5
                try clear hcz44_0
                try clear hcz44_1
                try clear hcz44_2
                try clear hcz44_3
                try clear hcz44_4
                try clear hcz44_5
                try clear hcz45_0
                try clear hcz45_1
                try clear hcz45_2
                try clear hcz45_3
                try clear hcz45_4
                try clear hcz45_5
                try clear hcz47_0
                try clear hcz47_1
                try clear hcz47_2
                try clear hcz47_3
                try clear hcz47_4
                try clear hcz47_5
                try clear hcz48_0
                try clear hcz48_1
                try clear hcz48_2
                try clear hcz48_3
                try clear hcz48_4
                try clear hcz48_5
                try clear hcz50_0
                try clear hcz50_1
                try clear hcz50_2
                try clear hcz50_3
                try clear hcz50_4
                try clear hcz50_5
                try clear hfz12_0
                try clear hfz12_1
                try clear hfz12_2
                try clear hfz12_3
                try clear hfz12_4
                try clear hfz12_5
                try clear hfz13_0
                try clear hfz13_1
                try clear hfz13_2
                try clear hfz13_3
                try clear hfz13_4
                try clear hfz13_5
                try clear hfz17_0
                try clear hfz17_1
                try clear hfz17_2
                try clear hfz17_3
                try clear hfz17_4
                try clear hfz17_5
                try clear hfz18_0
                try clear hfz18_1
                try clear hfz18_2
                try clear hfz18_3
                try clear hfz18_4
                try clear hfz18_5
                try clear hfz22_0
                try clear hfz22_1
                try clear hfz22_2
                try clear hfz22_3
                try clear hfz22_4
                try clear hfz22_5
                try clear hfz23_0
                try clear hfz23_1
                try clear hfz23_2
                try clear hfz23_3
                try clear hfz23_4
                try clear hfz23_5
                try clear hfz27_0
                try clear hfz27_1
                try clear hfz27_2
                try clear hfz27_3
                try clear hfz27_4
                try clear hfz27_5
                try clear hfz28_0
                try clear hfz28_1
                try clear hfz28_2
                try clear hfz28_3
                try clear hfz28_4
                try clear hfz28_5
                try clear hfz30_0
                try clear hfz30_1
                try clear hfz30_2
                try clear hfz30_3
                try clear hfz30_4
                try clear hfz30_5
                try clear hfz31_0
                try clear hfz31_1
                try clear hfz31_2
                try clear hfz31_3
                try clear hfz31_4
                try clear hfz31_5
                try clear hfz33_0
                try clear hfz33_1
                try clear hfz33_2
                try clear hfz33_3
                try clear hfz33_4
                try clear hfz33_5
                try clear hfz34_0
                try clear hfz34_1
                try clear hfz34_2
                try clear hfz34_3
                try clear hfz34_4
                try clear hfz34_5
                try clear hfz37_0
                try clear hfz37_1
                try clear hfz37_2
                try clear hfz37_3
                try clear hfz37_4
                try clear hfz37_5
                try clear hfz44_0
                try clear hfz44_1
                try clear hfz44_2
                try clear hfz44_3
                try clear hfz44_4
                try clear hfz44_5
                try clear hfz45_0
                try clear hfz45_1
                try clear hfz45_2
                try clear hfz45_3
                try clear hfz45_4
                try clear hfz45_5
                try clear hfz47_0
                try clear hfz47_1
                try clear hfz47_2
                try clear hfz47_3
                try clear hfz47_4
                try clear hfz47_5
                try clear hfz48_0
                try clear hfz48_1
                try clear hfz48_2
                try clear hfz48_3
                try clear hfz48_4
                try clear hfz48_5
                try clear hfz50_0
                try clear hfz50_1
                try clear hfz50_2
                try clear hfz50_3
                try clear hfz50_4
                try clear hfz50_5
                try clear hx149_0
                try clear hx150_0
                try clear p149
                try clear p150
                try clear p2
                try clear q149
                try clear q150
                obtain ⟨x74_3, rfl, HA, HK3, BK147, BK148, HB⟩ := hrel
                cases gk with
                | zero => exact absurd HA.out (by simp [spec_SameAnswer.l1])
                | succ k3 =>
                  have H := HA.out
                  clear HA
                  simp only [spec_SameAnswer.l1] at H
                  by_cases c51 : x74_3 < (l0_5.length : Int)
                  · rw [if_pos c51] at H
                    have c51b0 : decide (x74_3 < (l0_5.length : Int)) = true := decide_eq_true c51
                    clear c51
                    by_cases c52 : 0 ≤ x74_3
                    · rw [if_pos c52] at H
                      have c52b0 : decide (0 ≤ x74_3) = true := decide_eq_true c52
                      clear c52
                      by_cases c53 : x74_3 < (l0_5.length : Int)
                      · rw [if_pos c53] at H
                        have c53b0 : decide (x74_3 < (l0_5.length : Int)) = true := decide_eq_true c53
                        clear c53
                        by_cases c54 : x74_3 < (l1_5.length : Int)
                        · rw [if_pos c54] at H
                          have c54b0 : decide (x74_3 < (l1_5.length : Int)) = true := decide_eq_true c54
                          clear c54
                          by_cases c55 : (!((((rd_T75 l0_5 x74_3).f0).toList) == (((rd_T75 l1_5 x74_3).f0).toList)) || (!(((rd_T75 l0_5 x74_3).f1) == ((rd_T75 l1_5 x74_3).f1)) || (!(((rd_T75 l0_5 x74_3).f2) == ((rd_T75 l1_5 x74_3).f2)) || (!(((rd_T75 l0_5 x74_3).f3) == ((rd_T75 l1_5 x74_3).f3)) || (!(((rd_T75 l0_5 x74_3).f4) == ((rd_T75 l1_5 x74_3).f4))))))) = true
                          · rw [if_pos c55] at H
                            have c55b0 : (!((((rd_T75 l0_5 x74_3).f0).toList) == (((rd_T75 l1_5 x74_3).f0).toList)) || (!(((rd_T75 l0_5 x74_3).f1) == ((rd_T75 l1_5 x74_3).f1)) || (!(((rd_T75 l0_5 x74_3).f2) == ((rd_T75 l1_5 x74_3).f2)) || (!(((rd_T75 l0_5 x74_3).f3) == ((rd_T75 l1_5 x74_3).f3)) || (!(((rd_T75 l0_5 x74_3).f4) == ((rd_T75 l1_5 x74_3).f4))))))) = true := c55
                            clear c55
                            obtain rfl := Option.some.inj H
                            have hnb56 := NB147_148.out
                            have hnc56 := NB148_147.out
                            have hcz57_0 : wr.cell? ⟨gb147, 0, none⟩ = some (.int .i64 a0_0) := (blk_cell BK147.out 0).trans rfl
                            have hcz57_1 : wr.cell? ⟨gb147, 1, none⟩ = some (.int .i64 a0_1) := (blk_cell BK147.out 1).trans rfl
                            have hcz57_2 : wr.cell? ⟨gb147, 2, none⟩ = some (.int .i64 a0_2) := (blk_cell BK147.out 2).trans rfl
                            have hcz57_3 : wr.cell? ⟨gb147, 3, none⟩ = some (.slice A0_3 l0_3.length c0_3) := (blk_cell BK147.out 3).trans rfl
                            have hcz57_4 : wr.cell? ⟨gb147, 4, none⟩ = some (.slice A0_4 l0_4.length c0_4) := (blk_cell BK147.out 4).trans rfl
                            have hcz57_5 : wr.cell? ⟨gb147, 5, none⟩ = some (.slice A0_5 l0_5.length c0_5) := (blk_cell BK147.out 5).trans rfl
                            have hfz57_0 := blk_frozen BK147.out 0
                            have hfz57_1 := blk_frozen BK147.out 1
                            have hfz57_2 := blk_frozen BK147.out 2
                            have hfz57_3 := blk_frozen BK147.out 3
                            have hfz57_4 := blk_frozen BK147.out 4
                            have hfz57_5 := blk_frozen BK147.out 5
                            have p151 : 0 ≤ (x74_3 : Int) := of_decide_eq_true (by first | (with_reducible assumption) | assumption)
                            have q151 : x74_3 < (l0_5.length : Int) := of_decide_eq_true (by first | (with_reducible assumption) | assumption)
                            obtain ⟨ad151, e151, hx151_0, hx151_1, hx151_2, hx151_3, hx151_4⟩ := at_T75 HR0_5.out x74_3 p151 q151
                            cases e151
                            replace hx151_0 := (HB.out.cell (World.block_lt_of_cell? w _ hx151_0)).trans hx151_0
                            replace hx151_1 := (HB.out.cell (World.block_lt_of_cell? w _ hx151_1)).trans hx151_1
                            replace hx151_2 := (HB.out.cell (World.block_lt_of_cell? w _ hx151_2)).trans hx151_2
                            replace hx151_3 := (HB.out.cell (World.block_lt_of_cell? w _ hx151_3)).trans hx151_3
                            replace hx151_4 := (HB.out.cell (World.block_lt_of_cell? w _ hx151_4)).trans hx151_4
                            replace p151 := eq_true p151
                            replace q151 := eq_true q151
                            have hcz58_0 : wr.cell? ⟨gb148, 0, none⟩ = some (.int .i64 a1_0) := (blk_cell BK148.out 0).trans rfl
                            have hcz58_1 : wr.cell? ⟨gb148, 1, none⟩ = some (.int .i64 a1_1) := (blk_cell BK148.out 1).trans rfl
                            have hcz58_2 : wr.cell? ⟨gb148, 2, none⟩ = some (.int .i64 a1_2) := (blk_cell BK148.out 2).trans rfl
                            have hcz58_3 : wr.cell? ⟨gb148, 3, none⟩ = some (.slice A1_3 l1_3.length c1_3) := (blk_cell BK148.out 3).trans rfl
                            have hcz58_4 : wr.cell? ⟨gb148, 4, none⟩ = some (.slice A1_4 l1_4.length c1_4) := (blk_cell BK148.out 4).trans rfl
                            have hcz58_5 : wr.cell? ⟨gb148, 5, none⟩ = some (.slice A1_5 l1_5.length c1_5) := (blk_cell BK148.out 5).trans rfl
                            have hfz58_0 := blk_frozen BK148.out 0
                            have hfz58_1 := blk_frozen BK148.out 1
                            have hfz58_2 := blk_frozen BK148.out 2
                            have hfz58_3 := blk_frozen BK148.out 3
                            have hfz58_4 := blk_frozen BK148.out 4
                            have hfz58_5 := blk_frozen BK148.out 5
                            have p152 : 0 ≤ (x74_3 : Int) := of_decide_eq_true (by first | (with_reducible assumption) | assumption)
                            have q152 : x74_3 < (l1_5.length : Int) := of_decide_eq_true (by first | (with_reducible assumption) | assumption)
                            obtain ⟨ad152, e152, hx152_0, hx152_1, hx152_2, hx152_3, hx152_4⟩ := at_T75 HR1_5.out x74_3 p152 q152
                            cases e152
                            replace hx152_0 := (HB.out.cell (World.block_lt_of_cell? w _ hx152_0)).trans hx152_0
                            replace hx152_1 := (HB.out.cell (World.block_lt_of_cell? w _ hx152_1)).trans hx152_1
                            replace hx152_2 := (HB.out.cell (World.block_lt_of_cell? w _ hx152_2)).trans hx152_2
                            replace hx152_3 := (HB.out.cell (World.block_lt_of_cell? w _ hx152_3)).trans hx152_3
                            replace hx152_4 := (HB.out.cell (World.block_lt_of_cell? w _ hx152_4)).trans hx152_4
                            replace p152 := eq_true p152
                            replace q152 := eq_true q152
                            go_wp2
                            repeat (go_quiet (fail); try go_wp2)
                            go_ret
                            exact ⟨by first | rfl | (simp [errW_none, errW_some] <;> rfl) | (simp [*, errW_none, errW_some] <;> rfl), by repeat (first | (with_reducible first | exact HB.out | apply below_alloc | apply pw_below_drewN | apply below_drew1 | refine below_set ?_ GE147.out | refine below_set ?_ GE148.out) | exact HB.out)⟩
                          · rw [if_neg c55] at H
                            have c55b0 : (!((((rd_T75 l0_5 x74_3).f0).toList) == (((rd_T75 l1_5 x74_3).f0).toList)) || (!(((rd_T75 l0_5 x74_3).f1) == ((rd_T75 l1_5 x74_3).f1)) || (!(((rd_T75 l0_5 x74_3).f2) == ((rd_T75 l1_5 x74_3).f2)) || (!(((rd_T75 l0_5 x74_3).f3) == ((rd_T75 l1_5 x74_3).f3)) || (!(((rd_T75 l0_5 x74_3).f4) == ((rd_T75 l1_5 x74_3).f4))))))) = false := by simpa using c55
                            clear c55
                            have H' := Aside0.mk H
                            clear H
                            have hnb59 := NB147_148.out
                            have hnc59 := NB148_147.out
                            have hcz60_0 : wr.cell? ⟨gb147, 0, none⟩ = some (.int .i64 a0_0) := (blk_cell BK147.out 0).trans rfl
                            have hcz60_1 : wr.cell? ⟨gb147, 1, none⟩ = some (.int .i64 a0_1) := (blk_cell BK147.out 1).trans rfl
                            have hcz60_2 : wr.cell? ⟨gb147, 2, none⟩ = some (.int .i64 a0_2) := (blk_cell BK147.out 2).trans rfl
                            have hcz60_3 : wr.cell? ⟨gb147, 3, none⟩ = some (.slice A0_3 l0_3.length c0_3) := (blk_cell BK147.out 3).trans rfl
                            have hcz60_4 : wr.cell? ⟨gb147, 4, none⟩ = some (.slice A0_4 l0_4.length c0_4) := (blk_cell BK147.out 4).trans rfl
                            have hcz60_5 : wr.cell? ⟨gb147, 5, none⟩ = some (.slice A0_5 l0_5.length c0_5) := (blk_cell BK147.out 5).trans rfl
                            have hfz60_0 := blk_frozen BK147.out 0
                            have hfz60_1 := blk_frozen BK147.out 1
                            have hfz60_2 := blk_frozen BK147.out 2
                            have hfz60_3 := blk_frozen BK147.out 3
                            have hfz60_4 := blk_frozen BK147.out 4
                            have hfz60_5 := blk_frozen BK147.out 5
                            have p151 : 0 ≤ (x74_3 : Int) := of_decide_eq_true (by first | (with_reducible assumption) | assumption)
                            have q151 : x74_3 < (l0_5.length : Int) := of_decide_eq_true (by first | (with_reducible assumption) | assumption)
                            obtain ⟨ad151, e151, hx151_0, hx151_1, hx151_2, hx151_3, hx151_4⟩ := at_T75 HR0_5.out x74_3 p151 q151
                            cases e151
                            replace hx151_0 := (HB.out.cell (World.block_lt_of_cell? w _ hx151_0)).trans hx151_0
                            replace hx151_1 := (HB.out.cell (World.block_lt_of_cell? w _ hx151_1)).trans hx151_1
                            replace hx151_2 := (HB.out.cell (World.block_lt_of_cell? w _ hx151_2)).trans hx151_2
                            replace hx151_3 := (HB.out.cell (World.block_lt_of_cell? w _ hx151_3)).trans hx151_3
                            replace hx151_4 := (HB.out.cell (World.block_lt_of_cell? w _ hx151_4)).trans hx151_4
                            replace p151 := eq_true p151
                            replace q151 := eq_true q151
                            have hcz61_0 : wr.cell? ⟨gb148, 0, none⟩ = some (.int .i64 a1_0) := (blk_cell BK148.out 0).trans rfl
                            have hcz61_1 : wr.cell? ⟨gb148, 1, none⟩ = some (.int .i64 a1_1) := (blk_cell BK148.out 1).trans rfl
                            have hcz61_2 : wr.cell? ⟨gb148, 2, none⟩ = some (.int .i64 a1_2) := (blk_cell BK148.out 2).trans rfl
                            have hcz61_3 : wr.cell? ⟨gb148, 3, none⟩ = some (.slice A1_3 l1_3.length c1_3) := (blk_cell BK148.out 3).trans rfl
                            have hcz61_4 : wr.cell? ⟨gb148, 4, none⟩ = some (.slice A1_4 l1_4.length c1_4) := (blk_cell BK148.out 4).trans rfl
                            have hcz61_5 : wr.cell? ⟨gb148, 5, none⟩ = some (.slice A1_5 l1_5.length c1_5) := (blk_cell BK148.out 5).trans rfl
                            have hfz61_0 := blk_frozen BK148.out 0
                            have hfz61_1 := blk_frozen BK148.out 1
                            have hfz61_2 := blk_frozen BK148.out 2
                            have hfz61_3 := blk_frozen BK148.out 3
                            have hfz61_4 := blk_frozen BK148.out 4
                            have hfz61_5 := blk_frozen BK148.out 5
                            have p152 : 0 ≤ (x74_3 : Int) := of_decide_eq_true (by first | (with_reducible assumption) | assumption)
                            have q152 : x74_3 < (l1_5.length : Int) := of_decide_eq_true (by first | (with_reducible assumption) | assumption)
                            obtain ⟨ad152, e152, hx152_0, hx152_1, hx152_2, hx152_3, hx152_4⟩ := at_T75 HR1_5.out x74_3 p152 q152
                            cases e152
                            replace hx152_0 := (HB.out.cell (World.block_lt_of_cell? w _ hx152_0)).trans hx152_0
                            replace hx152_1 := (HB.out.cell (World.block_lt_of_cell? w _ hx152_1)).trans hx152_1
                            replace hx152_2 := (HB.out.cell (World.block_lt_of_cell? w _ hx152_2)).trans hx152_2
                            replace hx152_3 := (HB.out.cell (World.block_lt_of_cell? w _ hx152_3)).trans hx152_3
                            replace hx152_4 := (HB.out.cell (World.block_lt_of_cell? w _ hx152_4)).trans hx152_4
                            replace p152 := eq_true p152
                            replace q152 := eq_true q152
                            go_wp2
                            repeat (go_quiet (fail); try go_wp2)
                            go_roundg k3
                            case measure => have := HJ2.out; have := HK2.out; have := HK3.out; omega
                            case rel => exact ⟨(wrap64 (x74_3 + 1)), (by first | rfl | (simp; done) | (simp [*]; done)), H', ⟨by have := HJ2.out; have := HK2.out; have := HK3.out; omega⟩, ⟨by (with_reducible repeat (first | refine blk_drewN ?_ _ | refine blk_drew ?_ | refine blk_alloc ?_ _)); exact BK147.out⟩, ⟨by (with_reducible repeat (first | refine blk_drewN ?_ _ | refine blk_drew ?_ | refine blk_alloc ?_ _)); exact BK148.out⟩, ⟨by repeat (first | (with_reducible first | exact HB.out | apply below_alloc | apply pw_below_drewN | apply below_drew1 | refine below_set ?_ GE147.out | refine below_set ?_ GE148.out) | exact HB.out)⟩⟩
                        · rw [if_neg c54] at H
                          exact absurd H (by simp)
                      · rw [if_neg c53] at H
                        exact absurd H (by simp)
                    · rw [if_neg c52] at H
                      exact absurd H (by simp)
                  · rw [if_neg c51] at H
                    have c51b0 : decide (x74_3 < (l0_5.length : Int)) = false := decide_eq_false c51
                    clear c51
                    obtain rfl := Option.some.inj H
                    go_wp2
                    repeat (go_quiet (fail); try go_wp2)
                    go_ret
                    exact ⟨by first | rfl | (simp [errW_none, errW_some] <;> rfl) | (simp [*, errW_none, errW_some] <;> rfl), by repeat (first | (with_reducible first | exact HB.out | apply below_alloc | apply pw_below_drewN | apply below_drew1 | refine below_set ?_ GE147.out | refine below_set ?_ GE148.out) | exact HB.out)⟩
end Go.Proofs.YtljcdjggjphedaaDoor.PFnHandleScript
namespace Go.Proofs.YtljcdjggjphedaaDoor.PFnHandleScript
open Go.RowKit Go.Proofs.YtljcdjggjphedaaDoorW.PrintWords Go.Proofs.YtljcdjggjphedaaDoorW.PrintLast Go.Proofs.YtljcdjggjphedaaDoorW.PrintMore
attribute [local go_sem] max2_int min2_int max_two min_two max_three min_three max_four min_four   -- for this text's walks alone
set_option linter.unusedVariables false
set_option linter.unusedSimpArgs false
def spec_SameAnswers.l0 : Nat → List (S33) → List (S33) → Int → Int → Option (Bool)
  | 0, _, _, _, _ => none
  | k + 1, x0, x1, x12, x13 => if x13 < x12 then (if 0 ≤ x13 then (if x13 < (x0.length : Int) then (if x13 < (x1.length : Int) then ((spec_SameAnswer.f k ((rd_T33 x0 x13).f0) ((rd_T33 x0 x13).f1) ((rd_T33 x0 x13).f2) ((rd_T33 x0 x13).f3) ((rd_T33 x0 x13).f4) ((rd_T33 x0 x13).f5) ((rd_T33 x1 x13).f0) ((rd_T33 x1 x13).f1) ((rd_T33 x1 x13).f2) ((rd_T33 x1 x13).f3) ((rd_T33 x1 x13).f4) ((rd_T33 x1 x13).f5)).bind fun t155 => (if t155 = true then (spec_SameAnswers.l0 k x0 x1 x12 (wrap64 (x13 + 1))) else (some false))) else (none)) else (none)) else (none)) else (some true)
def spec_SameAnswers.f (k : Nat) (l0 : List (S33)) (l1 : List (S33)) : Option (Bool) := if (l0.length : Int) = (l1.length : Int) then (spec_SameAnswers.l0 k l0 l1 (l0.length : Int) 0) else (some false)
theorem spec_SameAnswers.mono_l : ∀ k, (∀ y0 y1 y2 y3, LeO (spec_SameAnswers.l0 k y0 y1 y2 y3) (spec_SameAnswers.l0 (k + 1) y0 y1 y2 y3))
  | 0 => fun _ _ _ _ r h => by simp [spec_SameAnswers.l0] at h
  | k + 1 => by
    have ih0 := spec_SameAnswers.mono_l k
    · intro y0 y1 y2 y3
      unfold spec_SameAnswers.l0
      repeat' first
      | (with_reducible exact ih0 _ _ _ _)
      | (with_reducible exact spec_SameAnswer.mono _ _ _ _ _ _ _ _ _ _ _ _ _)
      | (with_reducible exact LeO.refl _)
      | (with_reducible exact LeO.none _)
      | (with_reducible refine LeO.ite ?_ ?_)
      | (with_reducible refine LeO.bind ?_ (fun _ => ?_))
      | exact ih0 _ _ _ _
      | exact spec_SameAnswer.mono _ _ _ _ _ _ _ _ _ _ _ _ _
      | exact LeO.none _
      | refine LeO.ite ?_ ?_
      | refine LeO.bind ?_ (fun _ => ?_)
theorem spec_SameAnswers.mono : ∀ a0 a1 k, LeO (spec_SameAnswers.f k a0 a1) (spec_SameAnswers.f (k + 1) a0 a1) := by
  intro a0 a1 k
  have ih0 := spec_SameAnswers.mono_l k
  unfold spec_SameAnswers.f
  repeat' first
      | (with_reducible exact ih0 _ _ _ _)
      | (with_reducible exact spec_SameAnswer.mono _ _ _ _ _ _ _ _ _ _ _ _ _)
      | (with_reducible exact LeO.refl _)
      | (with_reducible exact LeO.none _)
      | (with_reducible refine LeO.ite ?_ ?_)
      | (with_reducible refine LeO.bind ?_ (fun _ => ?_))
      | exact ih0 _ _ _ _
      | exact spec_SameAnswer.mono _ _ _ _ _ _ _ _ _ _ _ _ _
      | exact LeO.none _
      | refine LeO.ite ?_ ?_
      | refine LeO.bind ?_ (fun _ => ?_)
def spec_SameAnswers.T6 : Bool × List (List Nat × List Nat) := (true, [([], []), ([], []), ([0, 1], [0, 1]), ([2], [2]), ([], []), ([], []), ([4, 5], [4, 5]), ([6], [6]), ([3, 7], [3, 7]), ([8], [8])])
def spec_SameAnswers.B6 : List Nat := [0, 0, 3, 7, 0, 0, 48, 112, 255, 511]
theorem spec_SameAnswers.tab6 : rtab .any (opsOf Tryd.f17 6) = spec_SameAnswers.T6 := by kernel_rfl
theorem spec_SameAnswers.bits6 : waitsOk spec_SameAnswers.T6.2 spec_SameAnswers.B6 = true := by kernel_rfl
set_option maxHeartbeats 8000000 in
set_option maxRecDepth 100000 in
theorem spec_SameAnswers.calls (k : Nat) (A0 : Option Addr) (c0 : Nat) (l0 : List (S33)) (A1 : Option Addr) (c1 : Nat) (l1 : List (S33)) (r : Bool) (w : World) (hr0 : Kd.C k33 w A0 l0.length l0) (hc0 : l0.length ≤ c0) (hr1 : Kd.C k33 w A1 l1.length l1) (hc1 : l1.length ≤ c1) (h : spec_SameAnswers.f k l0 l1 = some r) :
    Calls Tryd.prog 17 #[.slice A0 l0.length c0, .slice A1 l1.length c1] w fun e w' => e = .returned (.bool r) ∧ Below w.heap.size w w' := by
  have hu33 := Tryd.underlying33
  have HR0 := Aside0.mk hr0
  have HC0 := Aside0.mk hc0
  clear hr0 hc0
  have HR1 := Aside0.mk hr1
  have HC1 := Aside0.mk hc1
  clear hr1 hc1
  have HB := Aside0.mk (Below.refl w.heap.size w)
  have H : (if (l0.length : Int) = (l1.length : Int) then (spec_SameAnswers.l0 k l0 l1 (l0.length : Int) 0) else (some false)) = some r := h
  clear h
  by_cases c3 : (l0.length : Int) = (l1.length : Int)
  · rw [if_pos c3] at H
    have c3b0 : ((l0.length : Int) == (l1.length : Int)) = true := beq_iff_eq.mpr c3
    have c3b1 : ((l0.length : Int) != (l1.length : Int)) = false := bne_eq_false_iff_eq.mpr c3
    have c3b2 : (l0.length == l1.length) = true := by first | simpa using c3 | (simp at c3 ⊢; omega)
    clear c3
    have H' := Aside0.mk H
    clear H
    go_enter Tryd.func17, Tryd.ntmps17
    go_wp2
    go_loopg [13] k (fun kq v13 w' => ∃ (x13_1 : Int), v13 = .int .i64 x13_1 ∧ Aside0 (spec_SameAnswers.l0 kq l0 l1 (l0.length : Int) x13_1 = some r) ∧ Aside0 (kq ≤ k) ∧ Aside0 (Below w.heap.size w w'))
    case atStart => exact ⟨(0), (by first | rfl | (simp; done) | (simp [*]; done)), H', ⟨Nat.le_refl _⟩, ⟨by repeat (first | (with_reducible first | exact HB.out | apply below_alloc | apply pw_below_drewN | apply below_drew1) | exact HB.out)⟩⟩
    case round =>
      clear H'
      try clear c1
      try clear p2
      try clear c3
      try clear c3b0
      try clear c3b1
      try clear c3b2
      obtain ⟨x13_1, rfl, HA, HK1, HB⟩ := hrel
      cases gk with
      | zero => exact absurd HA.out (by simp [spec_SameAnswers.l0])
      | succ k1 =>
        have H := HA.out
        clear HA
        simp only [spec_SameAnswers.l0] at H
        by_cases c4 : x13_1 < (l0.length : Int)
        · rw [if_pos c4] at H
          have c4b0 : decide (x13_1 < (l0.length : Int)) = true := decide_eq_true c4
          clear c4
          by_cases c5 : 0 ≤ x13_1
          · rw [if_pos c5] at H
            have c5b0 : decide (0 ≤ x13_1) = true := decide_eq_true c5
            clear c5
            by_cases c6 : x13_1 < (l0.length : Int)
            · rw [if_pos c6] at H
              have c6b0 : decide (x13_1 < (l0.length : Int)) = true := decide_eq_true c6
              clear c6
              by_cases c7 : x13_1 < (l1.length : Int)
              · rw [if_pos c7] at H
                have c7b0 : decide (x13_1 < (l1.length : Int)) = true := decide_eq_true c7
                clear c7
                replace H := Option.bind_eq_some_iff.mp H
                obtain ⟨t155, A80, H⟩ := H
                replace H : (if t155 = true then (spec_SameAnswers.l0 k1 l0 l1 (l0.length : Int) (wrap64 (x13_1 + 1))) else (some false)) = some r := H
                have A8 := Aside0.mk A80
                clear A80
                by_cases c9 : t155 = true
                · subst c9
                  have H1 : (spec_SameAnswers.l0 k1 l0 l1 (l0.length : Int) (wrap64 (x13_1 + 1))) = some r := by rw [if_pos rfl] at H; exact H
                  clear H
                  have H := H1
                  clear H1
                  have H' := Aside0.mk H
                  clear H
                  try go_wp2
                  have n0_ := Aside0.mk (below_drew1 HB.out)
                  clear HB
                  have HB := n0_
                  clear n0_
                  have p153 : 0 ≤ (x13_1 : Int) := of_decide_eq_true (by first | (with_reducible assumption) | assumption)
                  have q153 : x13_1 < (l0.length : Int) := of_decide_eq_true (by first | (with_reducible assumption) | assumption)
                  obtain ⟨ad153, A153_3, c153_3, A153_4, c153_4, A153_5, c153_5, e153, hx153_0, hx153_1, hx153_2, hx153_3, hx153_4, hx153_5, hl153_3, hi153_3, hl153_4, hi153_4, hl153_5, hi153_5⟩ := at_T33 HR0.out x13_1 p153 q153
                  have hw153_5 := hx153_5
                  have hw153_4 := hx153_4
                  have hw153_3 := hx153_3
                  have hw153_2 := hx153_2
                  have hw153_1 := hx153_1
                  have hw153_0 := hx153_0
                  cases e153
                  replace hx153_0 := (HB.out.cell (World.block_lt_of_cell? w _ hx153_0)).trans hx153_0
                  replace hx153_1 := (HB.out.cell (World.block_lt_of_cell? w _ hx153_1)).trans hx153_1
                  replace hx153_2 := (HB.out.cell (World.block_lt_of_cell? w _ hx153_2)).trans hx153_2
                  replace hx153_3 := (HB.out.cell (World.block_lt_of_cell? w _ hx153_3)).trans hx153_3
                  replace hx153_4 := (HB.out.cell (World.block_lt_of_cell? w _ hx153_4)).trans hx153_4
                  replace hx153_5 := (HB.out.cell (World.block_lt_of_cell? w _ hx153_5)).trans hx153_5
                  have HR153_3 := Aside0.mk hi153_3
                  have HC153_3 := Aside0.mk hl153_3
                  clear hi153_3 hl153_3
                  have HR153_4 := Aside0.mk hi153_4
                  have HC153_4 := Aside0.mk hl153_4
                  clear hi153_4 hl153_4
                  have HR153_5 := Aside0.mk hi153_5
                  have HC153_5 := Aside0.mk hl153_5
                  clear hi153_5 hl153_5
                  replace p153 := eq_true p153
                  replace q153 := eq_true q153
                  have p154 : 0 ≤ (x13_1 : Int) := of_decide_eq_true (by first | (with_reducible assumption) | assumption)
                  have q154 : x13_1 < (l1.length : Int) := of_decide_eq_true (by first | (with_reducible assumption) | assumption)
                  obtain ⟨ad154, A154_3, c154_3, A154_4, c154_4, A154_5, c154_5, e154, hx154_0, hx154_1, hx154_2, hx154_3, hx154_4, hx154_5, hl154_3, hi154_3, hl154_4, hi154_4, hl154_5, hi154_5⟩ := at_T33 HR1.out x13_1 p154 q154
                  have hw154_5 := hx154_5
                  have hw154_4 := hx154_4
                  have hw154_3 := hx154_3
                  have hw154_2 := hx154_2
                  have hw154_1 := hx154_1
                  have hw154_0 := hx154_0
                  cases e154
                  replace hx154_0 := (HB.out.cell (World.block_lt_of_cell? w _ hx154_0)).trans hx154_0
                  replace hx154_1 := (HB.out.cell (World.block_lt_of_cell? w _ hx154_1)).trans hx154_1
                  replace hx154_2 := (HB.out.cell (World.block_lt_of_cell? w _ hx154_2)).trans hx154_2
                  replace hx154_3 := (HB.out.cell (World.block_lt_of_cell? w _ hx154_3)).trans hx154_3
                  replace hx154_4 := (HB.out.cell (World.block_lt_of_cell? w _ hx154_4)).trans hx154_4
                  replace hx154_5 := (HB.out.cell (World.block_lt_of_cell? w _ hx154_5)).trans hx154_5
                  have HR154_3 := Aside0.mk hi154_3
                  have HC154_3 := Aside0.mk hl154_3
                  clear hi154_3 hl154_3
                  have HR154_4 := Aside0.mk hi154_4
                  have HC154_4 := Aside0.mk hl154_4
                  clear hi154_4 hl154_4
                  have HR154_5 := Aside0.mk hi154_5
                  have HC154_5 := Aside0.mk hl154_5
                  clear hi154_5 hl154_5
                  replace p154 := eq_true p154
                  replace q154 := eq_true q154
                  refine start_ (n := 10) (S := fun w' => w'.cell? (ad153.add ((x13_1).toNat * 6)) = some (.int .i64 ((rd_T33 l0 x13_1).f0)) ∧ w'.cell? ⟨(ad153.add ((x13_1).toNat * 6)).block, (ad153.add ((x13_1).toNat * 6)).off + 1, none⟩ = some (.int .i64 ((rd_T33 l0 x13_1).f1)) ∧ w'.cell? ⟨(ad153.add ((x13_1).toNat * 6)).block, (ad153.add ((x13_1).toNat * 6)).off + 2, none⟩ = some (.int .i64 ((rd_T33 l0 x13_1).f2)) ∧ w'.cell? ⟨(ad153.add ((x13_1).toNat * 6)).block, (ad153.add ((x13_1).toNat * 6)).off + 3, none⟩ = some (.slice A153_3 ((rd_T33 l0 x13_1).f3).length c153_3) ∧ w'.cell? ⟨(ad153.add ((x13_1).toNat * 6)).block, (ad153.add ((x13_1).toNat * 6)).off + 4, none⟩ = some (.slice A153_4 ((rd_T33 l0 x13_1).f4).length c153_4) ∧ w'.cell? ⟨(ad153.add ((x13_1).toNat * 6)).block, (ad153.add ((x13_1).toNat * 6)).off + 5, none⟩ = some (.slice A153_5 ((rd_T33 l0 x13_1).f5).length c153_5) ∧ w'.cell? (ad154.add ((x13_1).toNat * 6)) = some (.int .i64 ((rd_T33 l1 x13_1).f0)) ∧ w'.cell? ⟨(ad154.add ((x13_1).toNat * 6)).block, (ad154.add ((x13_1).toNat * 6)).off + 1, none⟩ = some (.int .i64 ((rd_T33 l1 x13_1).f1)) ∧ w'.cell? ⟨(ad154.add ((x13_1).toNat * 6)).block, (ad154.add ((x13_1).toNat * 6)).off + 2, none⟩ = some (.int .i64 ((rd_T33 l1 x13_1).f2)) ∧ w'.cell? ⟨(ad154.add ((x13_1).toNat * 6)).block, (ad154.add ((x13_1).toNat * 6)).off + 3, none⟩ = some (.slice A154_3 ((rd_T33 l1 x13_1).f3).length c154_3) ∧ w'.cell? ⟨(ad154.add ((x13_1).toNat * 6)).block, (ad154.add ((x13_1).toNat * 6)).off + 4, none⟩ = some (.slice A154_4 ((rd_T33 l1 x13_1).f4).length c154_4) ∧ w'.cell? ⟨(ad154.add ((x13_1).toNat * 6)).block, (ad154.add ((x13_1).toNat * 6)).off + 5, none⟩ = some (.slice A154_5 ((rd_T33 l1 x13_1).f5).length c154_5)) (ds := []) #[false, false, false, false, false, false, false, false, false, false] (by kernel_rfl) rfl rfl ⟨((HB.out.cell (World.block_lt_of_cell? w _ hw153_0)).trans hw153_0), ((HB.out.cell (World.block_lt_of_cell? w _ hw153_1)).trans hw153_1), ((HB.out.cell (World.block_lt_of_cell? w _ hw153_2)).trans hw153_2), ((HB.out.cell (World.block_lt_of_cell? w _ hw153_3)).trans hw153_3), ((HB.out.cell (World.block_lt_of_cell? w _ hw153_4)).trans hw153_4), ((HB.out.cell (World.block_lt_of_cell? w _ hw153_5)).trans hw153_5), ((HB.out.cell (World.block_lt_of_cell? w _ hw154_0)).trans hw154_0), ((HB.out.cell (World.block_lt_of_cell? w _ hw154_1)).trans hw154_1), ((HB.out.cell (World.block_lt_of_cell? w _ hw154_2)).trans hw154_2), ((HB.out.cell (World.block_lt_of_cell? w _ hw154_3)).trans hw154_3), ((HB.out.cell (World.block_lt_of_cell? w _ hw154_4)).trans hw154_4), ((HB.out.cell (World.block_lt_of_cell? w _ hw154_5)).trans hw154_5)⟩ (fun hHeld => ?_); refine with_tabW spec_SameAnswers.tab6 spec_SameAnswers.bits6 (fun HT_ HW_ => ?_)
                  generalize wr.drew = w10 at HB HR153_3 HR153_4 HR153_5 HR154_3 HR154_4 HR154_5 hx153_0 hx153_1 hx153_2 hx153_3 hx153_4 hx153_5 hx154_0 hx154_1 hx154_2 hx154_3 hx154_4 hx154_5 hHeld ⊢
                  refine pure_ (i := 0) (N := some 16) (v := ?_) (a' := ?_) #[true, false, false, false, false, false, false, false, false, false] rfl rfl (any_of HT_.out (by kernel_rfl)) (fun _ _ _ h => h) (Or.inl ⟨by rfl, ?_⟩) ?_ ?_
                  rotate_left
                  · intro w'
                    go_simp
                    with_reducible rfl
                  rotate_left
                  · simp only [Act.put, List.setIfInBounds_toArray, List.set_cons_zero, List.set_cons_succ, i64_w, i32_w]
                    rfl
                  refine pure_ (i := 1) (N := some 17) (v := ?_) (a' := ?_) #[true, true, false, false, false, false, false, false, false, false] rfl rfl (any_of HT_.out (by kernel_rfl)) (fun _ _ _ h => h) (Or.inl ⟨by rfl, ?_⟩) ?_ ?_
                  rotate_left
                  · intro w'
                    go_simp
                    with_reducible rfl
                  rotate_left
                  · simp only [Act.put, List.setIfInBounds_toArray, List.set_cons_zero, List.set_cons_succ, i64_w, i32_w]
                    rfl
                  refine pure_ (i := 2) (N := some 18) (v := ?_) (a' := ?_) #[true, true, true, false, false, false, false, false, false, false] rfl rfl (any_of HT_.out (by kernel_rfl)) (fun _ _ _ h => h) (Or.inl ⟨by rfl, ?_⟩) ?_ ?_
                  rotate_left
                  · intro w'
                    go_simp
                    with_reducible rfl
                  rotate_left
                  · simp only [Act.put, List.setIfInBounds_toArray, List.set_cons_zero, List.set_cons_succ, i64_w, i32_w]
                    rfl
                  refine pure_ (i := 4) (N := some 20) (v := ?_) (a' := ?_) #[true, true, true, false, true, false, false, false, false, false] rfl rfl (any_of HT_.out (by kernel_rfl)) (fun _ _ _ h => h) (Or.inl ⟨by rfl, ?_⟩) ?_ ?_
                  rotate_left
                  · intro w'
                    go_simp
                    with_reducible rfl
                  rotate_left
                  · simp only [Act.put, List.setIfInBounds_toArray, List.set_cons_zero, List.set_cons_succ, i64_w, i32_w]
                    rfl
                  refine pure_ (i := 5) (N := some 21) (v := ?_) (a' := ?_) #[true, true, true, false, true, true, false, false, false, false] rfl rfl (any_of HT_.out (by kernel_rfl)) (fun _ _ _ h => h) (Or.inl ⟨by rfl, ?_⟩) ?_ ?_
                  rotate_left
                  · intro w'
                    go_simp
                    with_reducible rfl
                  rotate_left
                  · simp only [Act.put, List.setIfInBounds_toArray, List.set_cons_zero, List.set_cons_succ, i64_w, i32_w]
                    rfl
                  refine pure_ (i := 6) (N := some 22) (v := ?_) (a' := ?_) #[true, true, true, false, true, true, true, false, false, false] rfl rfl (any_of HT_.out (by kernel_rfl)) (fun _ _ _ h => h) (Or.inl ⟨by rfl, ?_⟩) ?_ ?_
                  rotate_left
                  · intro w'
                    go_simp
                    with_reducible rfl
                  rotate_left
                  · simp only [Act.put, List.setIfInBounds_toArray, List.set_cons_zero, List.set_cons_succ, i64_w, i32_w]
                    rfl
                  refine take_ (i := 3) (N := some 19) (v := ?_) (a' := ?_) #[true, true, true, true, true, true, true, false, false, false] rfl rfl (take_ofW HT_.out HW_.out (by kernel_rfl)) (fun _ _ _ h => h) (Or.inl ⟨by rfl, ?_⟩) hHeld ?_ ?_
                  rotate_left
                  · rintro w' ⟨s0, s1, s2, s3, s4, s5, s6, s7, s8, s9, s10, s11⟩
                    go_simp
                    with_reducible rfl
                  rotate_left
                  · simp only [Act.put, List.setIfInBounds_toArray, List.set_cons_zero, List.set_cons_succ, i64_w, i32_w]
                    rfl
                  refine take_ (i := 7) (N := some 23) (v := ?_) (a' := ?_) #[true, true, true, true, true, true, true, true, false, false] rfl rfl (take_ofW HT_.out HW_.out (by kernel_rfl)) (fun _ _ _ h => h) (Or.inl ⟨by rfl, ?_⟩) hHeld ?_ ?_
                  rotate_left
                  · rintro w' ⟨s0, s1, s2, s3, s4, s5, s6, s7, s8, s9, s10, s11⟩
                    go_simp
                    with_reducible rfl
                  rotate_left
                  · simp only [Act.put, List.setIfInBounds_toArray, List.set_cons_zero, List.set_cons_succ, i64_w, i32_w]
                    rfl
                  refine one_ (i := 8) (N := some 24) #[true, true, true, true, true, true, true, true, true, false] rfl rfl (one_of HT_.out (by kernel_rfl)) (by decide) (fun K hK => ?_)
                  refine goes_ Tryd.func19 (by kernel_rfl) rfl #[.agg #[.int .i64 ((rd_T33 l0 x13_1).f0), .int .i64 ((rd_T33 l0 x13_1).f1), .int .i64 ((rd_T33 l0 x13_1).f2), .slice A153_3 ((rd_T33 l0 x13_1).f3).length c153_3, .slice A153_4 ((rd_T33 l0 x13_1).f4).length c153_4, .slice A153_5 ((rd_T33 l0 x13_1).f5).length c153_5], .agg #[.int .i64 ((rd_T33 l1 x13_1).f0), .int .i64 ((rd_T33 l1 x13_1).f1), .int .i64 ((rd_T33 l1 x13_1).f2), .slice A154_3 ((rd_T33 l1 x13_1).f3).length c154_3, .slice A154_4 ((rd_T33 l1 x13_1).f4).length c154_4, .slice A154_5 ((rd_T33 l1 x13_1).f5).length c154_5]] (by rfl) rfl rfl (by (try simp only [List.map_toArray, List.map_cons, List.map_nil]); first | done | rfl | (simp only [List.length_drop, List.length_take]; rfl)) ?_
                  with_reducible refine (spec_SameAnswer.calls k1 ((rd_T33 l0 x13_1).f0) ((rd_T33 l0 x13_1).f1) ((rd_T33 l0 x13_1).f2) _ _ ((rd_T33 l0 x13_1).f3) _ _ ((rd_T33 l0 x13_1).f4) _ _ ((rd_T33 l0 x13_1).f5) ((rd_T33 l1 x13_1).f0) ((rd_T33 l1 x13_1).f1) ((rd_T33 l1 x13_1).f2) _ _ ((rd_T33 l1 x13_1).f3) _ _ ((rd_T33 l1 x13_1).f4) _ _ ((rd_T33 l1 x13_1).f5) true _ ?side1 ?side2 ?side3 ?side4 ?side5 ?side6 ?side7 ?side8 ?side9 ?side10 ?side11 ?side12 A8.out).mono ?_
                  (case side1 => repeat (first | exact (Kd.C_below HR153_3.out HB.out) | (with_reducible refine Kd.C_alloc ?_ _) | (with_reducible refine Kd.C_drewN ?_ _) | (with_reducible refine Kd.C_drew ?_)))
                  (case side2 => exact HC153_3.out)
                  (case side3 => repeat (first | exact (Kd.C_below HR153_4.out HB.out) | (with_reducible refine Kd.C_alloc ?_ _) | (with_reducible refine Kd.C_drewN ?_ _) | (with_reducible refine Kd.C_drew ?_)))
                  (case side4 => exact HC153_4.out)
                  (case side5 => repeat (first | exact (Kd.C_below HR153_5.out HB.out) | (with_reducible refine Kd.C_alloc ?_ _) | (with_reducible refine Kd.C_drewN ?_ _) | (with_reducible refine Kd.C_drew ?_)))
                  (case side6 => exact HC153_5.out)
                  (case side7 => repeat (first | exact (Kd.C_below HR154_3.out HB.out) | (with_reducible refine Kd.C_alloc ?_ _) | (with_reducible refine Kd.C_drewN ?_ _) | (with_reducible refine Kd.C_drew ?_)))
                  (case side8 => exact HC154_3.out)
                  (case side9 => repeat (first | exact (Kd.C_below HR154_4.out HB.out) | (with_reducible refine Kd.C_alloc ?_ _) | (with_reducible refine Kd.C_drewN ?_ _) | (with_reducible refine Kd.C_drew ?_)))
                  (case side10 => exact HC154_4.out)
                  (case side11 => repeat (first | exact (Kd.C_below HR154_5.out HB.out) | (with_reducible refine Kd.C_alloc ?_ _) | (with_reducible refine Kd.C_drewN ?_ _) | (with_reducible refine Kd.C_drew ?_)))
                  (case side12 => exact HC154_5.out)
                  rintro e w11 ⟨rfl, hb⟩
                  refine ⟨_, rfl, ?_⟩
                  have n0_ := Aside0.mk (below_step (by repeat (first | (with_reducible first | exact HB.out | apply below_alloc | apply pw_below_drewN | apply below_drew1) | exact HB.out)) hb)
                  clear HB
                  have HB := n0_
                  clear n0_
                  (try clear hb)
                  (try clear hb2)
                  (try clear hk)
                  (try clear hi)
                  refine hK.out _ _ ⟨((HB.out.cell (World.block_lt_of_cell? w _ hw153_0)).trans hw153_0), ((HB.out.cell (World.block_lt_of_cell? w _ hw153_1)).trans hw153_1), ((HB.out.cell (World.block_lt_of_cell? w _ hw153_2)).trans hw153_2), ((HB.out.cell (World.block_lt_of_cell? w _ hw153_3)).trans hw153_3), ((HB.out.cell (World.block_lt_of_cell? w _ hw153_4)).trans hw153_4), ((HB.out.cell (World.block_lt_of_cell? w _ hw153_5)).trans hw153_5), ((HB.out.cell (World.block_lt_of_cell? w _ hw154_0)).trans hw154_0), ((HB.out.cell (World.block_lt_of_cell? w _ hw154_1)).trans hw154_1), ((HB.out.cell (World.block_lt_of_cell? w _ hw154_2)).trans hw154_2), ((HB.out.cell (World.block_lt_of_cell? w _ hw154_3)).trans hw154_3), ((HB.out.cell (World.block_lt_of_cell? w _ hw154_4)).trans hw154_4), ((HB.out.cell (World.block_lt_of_cell? w _ hw154_5)).trans hw154_5)⟩ (fun hHeld => ?_)
                  clear hK K
                  refine norm_ (a' := ?_) ?_ ?_
                  rotate_left
                  · show Act.put _ (some 24) _ = _
                    simp only [Act.put, List.setIfInBounds_toArray, List.set_cons_zero, List.set_cons_succ, i64_w, i32_w]
                    rfl
                  refine pure_ (i := 9) (N := some 25) (v := ?_) (a' := ?_) #[true, true, true, true, true, true, true, true, true, true] rfl rfl (any_of HT_.out (by kernel_rfl)) (fun _ _ _ h => h) (Or.inl ⟨by rfl, ?_⟩) ?_ ?_
                  rotate_left
                  · intro w'
                    go_simp
                    with_reducible rfl
                  rotate_left
                  · simp only [Act.put, List.setIfInBounds_toArray, List.set_cons_zero, List.set_cons_succ, i64_w, i32_w]
                    rfl
                  refine done_ (done_of HT_.out (by kernel_rfl)) ?_
                  try go_wp2
                  go_roundg k1
                  case measure => have := HK1.out; omega
                  case rel => exact ⟨(wrap64 (x13_1 + 1)), (by first | rfl | (simp; done) | (simp [*]; done)), H', ⟨by have := HK1.out; omega⟩, ⟨by repeat (first | (with_reducible first | exact HB.out | apply below_alloc | apply pw_below_drewN | apply below_drew1) | exact HB.out)⟩⟩
                · replace c9 := Bool.eq_false_iff.mpr c9
                  subst c9
                  have H1 : (some false) = some r := by rw [if_neg (show ¬ (false = true) by decide)] at H; exact H
                  clear H
                  have H := H1
                  clear H1
                  obtain rfl := Option.some.inj H
                  try go_wp2
                  have n0_ := Aside0.mk (below_drew1 HB.out)
                  clear HB
                  have HB := n0_
                  clear n0_
                  have p153 : 0 ≤ (x13_1 : Int) := of_decide_eq_true (by first | (with_reducible assumption) | assumption)
                  have q153 : x13_1 < (l0.length : Int) := of_decide_eq_true (by first | (with_reducible assumption) | assumption)
                  obtain ⟨ad153, A153_3, c153_3, A153_4, c153_4, A153_5, c153_5, e153, hx153_0, hx153_1, hx153_2, hx153_3, hx153_4, hx153_5, hl153_3, hi153_3, hl153_4, hi153_4, hl153_5, hi153_5⟩ := at_T33 HR0.out x13_1 p153 q153
                  have hw153_5 := hx153_5
                  have hw153_4 := hx153_4
                  have hw153_3 := hx153_3
                  have hw153_2 := hx153_2
                  have hw153_1 := hx153_1
                  have hw153_0 := hx153_0
                  cases e153
                  replace hx153_0 := (HB.out.cell (World.block_lt_of_cell? w _ hx153_0)).trans hx153_0
                  replace hx153_1 := (HB.out.cell (World.block_lt_of_cell? w _ hx153_1)).trans hx153_1
                  replace hx153_2 := (HB.out.cell (World.block_lt_of_cell? w _ hx153_2)).trans hx153_2
                  replace hx153_3 := (HB.out.cell (World.block_lt_of_cell? w _ hx153_3)).trans hx153_3
                  replace hx153_4 := (HB.out.cell (World.block_lt_of_cell? w _ hx153_4)).trans hx153_4
                  replace hx153_5 := (HB.out.cell (World.block_lt_of_cell? w _ hx153_5)).trans hx153_5
                  have HR153_3 := Aside0.mk hi153_3
                  have HC153_3 := Aside0.mk hl153_3
                  clear hi153_3 hl153_3
                  have HR153_4 := Aside0.mk hi153_4
                  have HC153_4 := Aside0.mk hl153_4
                  clear hi153_4 hl153_4
                  have HR153_5 := Aside0.mk hi153_5
                  have HC153_5 := Aside0.mk hl153_5
                  clear hi153_5 hl153_5
                  replace p153 := eq_true p153
                  replace q153 := eq_true q153
                  have p154 : 0 ≤ (x13_1 : Int) := of_decide_eq_true (by first | (with_reducible assumption) | assumption)
                  have q154 : x13_1 < (l1.length : Int) := of_decide_eq_true (by first | (with_reducible assumption) | assumption)
                  obtain ⟨ad154, A154_3, c154_3, A154_4, c154_4, A154_5, c154_5, e154, hx154_0, hx154_1, hx154_2, hx154_3, hx154_4, hx154_5, hl154_3, hi154_3, hl154_4, hi154_4, hl154_5, hi154_5⟩ := at_T33 HR1.out x13_1 p154 q154
                  have hw154_5 := hx154_5
                  have hw154_4 := hx154_4
                  have hw154_3 := hx154_3
                  have hw154_2 := hx154_2
                  have hw154_1 := hx154_1
                  have hw154_0 := hx154_0
                  cases e154
                  replace hx154_0 := (HB.out.cell (World.block_lt_of_cell? w _ hx154_0)).trans hx154_0
                  replace hx154_1 := (HB.out.cell (World.block_lt_of_cell? w _ hx154_1)).trans hx154_1
                  replace hx154_2 := (HB.out.cell (World.block_lt_of_cell? w _ hx154_2)).trans hx154_2
                  replace hx154_3 := (HB.out.cell (World.block_lt_of_cell? w _ hx154_3)).trans hx154_3
                  replace hx154_4 := (HB.out.cell (World.block_lt_of_cell? w _ hx154_4)).trans hx154_4
                  replace hx154_5 := (HB.out.cell (World.block_lt_of_cell? w _ hx154_5)).trans hx154_5
                  have HR154_3 := Aside0.mk hi154_3
                  have HC154_3 := Aside0.mk hl154_3
                  clear hi154_3 hl154_3
                  have HR154_4 := Aside0.mk hi154_4
                  have HC154_4 := Aside0.mk hl154_4
                  clear hi154_4 hl154_4
                  have HR154_5 := Aside0.mk hi154_5
                  have HC154_5 := Aside0.mk hl154_5
                  clear hi154_5 hl154_5
                  replace p154 := eq_true p154
                  replace q154 := eq_true q154
                  refine start_ (n := 10) (S := fun w' => w'.cell? (ad153.add ((x13_1).toNat * 6)) = some (.int .i64 ((rd_T33 l0 x13_1).f0)) ∧ w'.cell? ⟨(ad153.add ((x13_1).toNat * 6)).block, (ad153.add ((x13_1).toNat * 6)).off + 1, none⟩ = some (.int .i64 ((rd_T33 l0 x13_1).f1)) ∧ w'.cell? ⟨(ad153.add ((x13_1).toNat * 6)).block, (ad153.add ((x13_1).toNat * 6)).off + 2, none⟩ = some (.int .i64 ((rd_T33 l0 x13_1).f2)) ∧ w'.cell? ⟨(ad153.add ((x13_1).toNat * 6)).block, (ad153.add ((x13_1).toNat * 6)).off + 3, none⟩ = some (.slice A153_3 ((rd_T33 l0 x13_1).f3).length c153_3) ∧ w'.cell? ⟨(ad153.add ((x13_1).toNat * 6)).block, (ad153.add ((x13_1).toNat * 6)).off + 4, none⟩ = some (.slice A153_4 ((rd_T33 l0 x13_1).f4).length c153_4) ∧ w'.cell? ⟨(ad153.add ((x13_1).toNat * 6)).block, (ad153.add ((x13_1).toNat * 6)).off + 5, none⟩ = some (.slice A153_5 ((rd_T33 l0 x13_1).f5).length c153_5) ∧ w'.cell? (ad154.add ((x13_1).toNat * 6)) = some (.int .i64 ((rd_T33 l1 x13_1).f0)) ∧ w'.cell? ⟨(ad154.add ((x13_1).toNat * 6)).block, (ad154.add ((x13_1).toNat * 6)).off + 1, none⟩ = some (.int .i64 ((rd_T33 l1 x13_1).f1)) ∧ w'.cell? ⟨(ad154.add ((x13_1).toNat * 6)).block, (ad154.add ((x13_1).toNat * 6)).off + 2, none⟩ = some (.int .i64 ((rd_T33 l1 x13_1).f2)) ∧ w'.cell? ⟨(ad154.add ((x13_1).toNat * 6)).block, (ad154.add ((x13_1).toNat * 6)).off + 3, none⟩ = some (.slice A154_3 ((rd_T33 l1 x13_1).f3).length c154_3) ∧ w'.cell? ⟨(ad154.add ((x13_1).toNat * 6)).block, (ad154.add ((x13_1).toNat * 6)).off + 4, none⟩ = some (.slice A154_4 ((rd_T33 l1 x13_1).f4).length c154_4) ∧ w'.cell? ⟨(ad154.add ((x13_1).toNat * 6)).block, (ad154.add ((x13_1).toNat * 6)).off + 5, none⟩ = some (.slice A154_5 ((rd_T33 l1 x13_1).f5).length c154_5)) (ds := []) #[false, false, false, false, false, false, false, false, false, false] (by kernel_rfl) rfl rfl ⟨((HB.out.cell (World.block_lt_of_cell? w _ hw153_0)).trans hw153_0), ((HB.out.cell (World.block_lt_of_cell? w _ hw153_1)).trans hw153_1), ((HB.out.cell (World.block_lt_of_cell? w _ hw153_2)).trans hw153_2), ((HB.out.cell (World.block_lt_of_cell? w _ hw153_3)).trans hw153_3), ((HB.out.cell (World.block_lt_of_cell? w _ hw153_4)).trans hw153_4), ((HB.out.cell (World.block_lt_of_cell? w _ hw153_5)).trans hw153_5), ((HB.out.cell (World.block_lt_of_cell? w _ hw154_0)).trans hw154_0), ((HB.out.cell (World.block_lt_of_cell? w _ hw154_1)).trans hw154_1), ((HB.out.cell (World.block_lt_of_cell? w _ hw154_2)).trans hw154_2), ((HB.out.cell (World.block_lt_of_cell? w _ hw154_3)).trans hw154_3), ((HB.out.cell (World.block_lt_of_cell? w _ hw154_4)).trans hw154_4), ((HB.out.cell (World.block_lt_of_cell? w _ hw154_5)).trans hw154_5)⟩ (fun hHeld => ?_); refine with_tabW spec_SameAnswers.tab6 spec_SameAnswers.bits6 (fun HT_ HW_ => ?_)
                  generalize wr.drew = w12 at HB HR153_3 HR153_4 HR153_5 HR154_3 HR154_4 HR154_5 hx153_0 hx153_1 hx153_2 hx153_3 hx153_4 hx153_5 hx154_0 hx154_1 hx154_2 hx154_3 hx154_4 hx154_5 hHeld ⊢
                  refine pure_ (i := 0) (N := some 16) (v := ?_) (a' := ?_) #[true, false, false, false, false, false, false, false, false, false] rfl rfl (any_of HT_.out (by kernel_rfl)) (fun _ _ _ h => h) (Or.inl ⟨by rfl, ?_⟩) ?_ ?_
                  rotate_left
                  · intro w'
                    go_simp
                    with_reducible rfl
                  rotate_left
                  · simp only [Act.put, List.setIfInBounds_toArray, List.set_cons_zero, List.set_cons_succ, i64_w, i32_w]
                    rfl
                  refine pure_ (i := 1) (N := some 17) (v := ?_) (a' := ?_) #[true, true, false, false, false, false, false, false, false, false] rfl rfl (any_of HT_.out (by kernel_rfl)) (fun _ _ _ h => h) (Or.inl ⟨by rfl, ?_⟩) ?_ ?_
                  rotate_left
                  · intro w'
                    go_simp
                    with_reducible rfl
                  rotate_left
                  · simp only [Act.put, List.setIfInBounds_toArray, List.set_cons_zero, List.set_cons_succ, i64_w, i32_w]
                    rfl
                  refine pure_ (i := 2) (N := some 18) (v := ?_) (a' := ?_) #[true, true, true, false, false, false, false, false, false, false] rfl rfl (any_of HT_.out (by kernel_rfl)) (fun _ _ _ h => h) (Or.inl ⟨by rfl, ?_⟩) ?_ ?_
                  rotate_left
                  · intro w'
                    go_simp
                    with_reducible rfl
                  rotate_left
                  · simp only [Act.put, List.setIfInBounds_toArray, List.set_cons_zero, List.set_cons_succ, i64_w, i32_w]
                    rfl
                  refine pure_ (i := 4) (N := some 20) (v := ?_) (a' := ?_) #[true, true, true, false, true, false, false, false, false, false] rfl rfl (any_of HT_.out (by kernel_rfl)) (fun _ _ _ h => h) (Or.inl ⟨by rfl, ?_⟩) ?_ ?_
                  rotate_left
                  · intro w'
                    go_simp
                    with_reducible rfl
                  rotate_left
                  · simp only [Act.put, List.setIfInBounds_toArray, List.set_cons_zero, List.set_cons_succ, i64_w, i32_w]
                    rfl
                  refine pure_ (i := 5) (N := some 21) (v := ?_) (a' := ?_) #[true, true, true, false, true, true, false, false, false, false] rfl rfl (any_of HT_.out (by kernel_rfl)) (fun _ _ _ h => h) (Or.inl ⟨by rfl, ?_⟩) ?_ ?_
                  rotate_left
                  · intro w'
                    go_simp
                    with_reducible rfl
                  rotate_left
                  · simp only [Act.put, List.setIfInBounds_toArray, List.set_cons_zero, List.set_cons_succ, i64_w, i32_w]
                    rfl
                  refine pure_ (i := 6) (N := some 22) (v := ?_) (a' := ?_) #[true, true, true, false, true, true, true, false, false, false] rfl rfl (any_of HT_.out (by kernel_rfl)) (fun _ _ _ h => h) (Or.inl ⟨by rfl, ?_⟩) ?_ ?_
                  rotate_left
                  · intro w'
                    go_simp
                    with_reducible rfl
                  rotate_left
                  · simp only [Act.put, List.setIfInBounds_toArray, List.set_cons_zero, List.set_cons_succ, i64_w, i32_w]
                    rfl
                  refine take_ (i := 3) (N := some 19) (v := ?_) (a' := ?_) #[true, true, true, true, true, true, true, false, false, false] rfl rfl (take_ofW HT_.out HW_.out (by kernel_rfl)) (fun _ _ _ h => h) (Or.inl ⟨by rfl, ?_⟩) hHeld ?_ ?_
                  rotate_left
                  · rintro w' ⟨s0, s1, s2, s3, s4, s5, s6, s7, s8, s9, s10, s11⟩
                    go_simp
                    with_reducible rfl
                  rotate_left
                  · simp only [Act.put, List.setIfInBounds_toArray, List.set_cons_zero, List.set_cons_succ, i64_w, i32_w]
                    rfl
                  refine take_ (i := 7) (N := some 23) (v := ?_) (a' := ?_) #[true, true, true, true, true, true, true, true, false, false] rfl rfl (take_ofW HT_.out HW_.out (by kernel_rfl)) (fun _ _ _ h => h) (Or.inl ⟨by rfl, ?_⟩) hHeld ?_ ?_
                  rotate_left
                  · rintro w' ⟨s0, s1, s2, s3, s4, s5, s6, s7, s8, s9, s10, s11⟩
                    go_simp
                    with_reducible rfl
                  rotate_left
                  · simp only [Act.put, List.setIfInBounds_toArray, List.set_cons_zero, List.set_cons_succ, i64_w, i32_w]
                    rfl
                  refine one_ (i := 8) (N := some 24) #[true, true, true, true, true, true, true, true, true, false] rfl rfl (one_of HT_.out (by kernel_rfl)) (by decide) (fun K hK => ?_)
                  refine goes_ Tryd.func19 (by kernel_rfl) rfl #[.agg #[.int .i64 ((rd_T33 l0 x13_1).f0), .int .i64 ((rd_T33 l0 x13_1).f1), .int .i64 ((rd_T33 l0 x13_1).f2), .slice A153_3 ((rd_T33 l0 x13_1).f3).length c153_3, .slice A153_4 ((rd_T33 l0 x13_1).f4).length c153_4, .slice A153_5 ((rd_T33 l0 x13_1).f5).length c153_5], .agg #[.int .i64 ((rd_T33 l1 x13_1).f0), .int .i64 ((rd_T33 l1 x13_1).f1), .int .i64 ((rd_T33 l1 x13_1).f2), .slice A154_3 ((rd_T33 l1 x13_1).f3).length c154_3, .slice A154_4 ((rd_T33 l1 x13_1).f4).length c154_4, .slice A154_5 ((rd_T33 l1 x13_1).f5).length c154_5]] (by rfl) rfl rfl (by (try simp only [List.map_toArray, List.map_cons, List.map_nil]); first | done | rfl | (simp only [List.length_drop, List.length_take]; rfl)) ?_
                  with_reducible refine (spec_SameAnswer.calls k1 ((rd_T33 l0 x13_1).f0) ((rd_T33 l0 x13_1).f1) ((rd_T33 l0 x13_1).f2) _ _ ((rd_T33 l0 x13_1).f3) _ _ ((rd_T33 l0 x13_1).f4) _ _ ((rd_T33 l0 x13_1).f5) ((rd_T33 l1 x13_1).f0) ((rd_T33 l1 x13_1).f1) ((rd_T33 l1 x13_1).f2) _ _ ((rd_T33 l1 x13_1).f3) _ _ ((rd_T33 l1 x13_1).f4) _ _ ((rd_T33 l1 x13_1).f5) false _ ?side1 ?side2 ?side3 ?side4 ?side5 ?side6 ?side7 ?side8 ?side9 ?side10 ?side11 ?side12 A8.out).mono ?_
                  (case side1 => repeat (first | exact (Kd.C_below HR153_3.out HB.out) | (with_reducible refine Kd.C_alloc ?_ _) | (with_reducible refine Kd.C_drewN ?_ _) | (with_reducible refine Kd.C_drew ?_)))
                  (case side2 => exact HC153_3.out)
                  (case side3 => repeat (first | exact (Kd.C_below HR153_4.out HB.out) | (with_reducible refine Kd.C_alloc ?_ _) | (with_reducible refine Kd.C_drewN ?_ _) | (with_reducible refine Kd.C_drew ?_)))
                  (case side4 => exact HC153_4.out)
                  (case side5 => repeat (first | exact (Kd.C_below HR153_5.out HB.out) | (with_reducible refine Kd.C_alloc ?_ _) | (with_reducible refine Kd.C_drewN ?_ _) | (with_reducible refine Kd.C_drew ?_)))
                  (case side6 => exact HC153_5.out)
                  (case side7 => repeat (first | exact (Kd.C_below HR154_3.out HB.out) | (with_reducible refine Kd.C_alloc ?_ _) | (with_reducible refine Kd.C_drewN ?_ _) | (with_reducible refine Kd.C_drew ?_)))
                  (case side8 => exact HC154_3.out)
                  (case side9 => repeat (first | exact (Kd.C_below HR154_4.out HB.out) | (with_reducible refine Kd.C_alloc ?_ _) | (with_reducible refine Kd.C_drewN ?_ _) | (with_reducible refine Kd.C_drew ?_)))
                  (case side10 => exact HC154_4.out)
                  (case side11 => repeat (first | exact (Kd.C_below HR154_5.out HB.out) | (with_reducible refine Kd.C_alloc ?_ _) | (with_reducible refine Kd.C_drewN ?_ _) | (with_reducible refine Kd.C_drew ?_)))
                  (case side12 => exact HC154_5.out)
                  rintro e w13 ⟨rfl, hb⟩
                  refine ⟨_, rfl, ?_⟩
                  have n0_ := Aside0.mk (below_step (by repeat (first | (with_reducible first | exact HB.out | apply below_alloc | apply pw_below_drewN | apply below_drew1) | exact HB.out)) hb)
                  clear HB
                  have HB := n0_
                  clear n0_
                  (try clear hb)
                  (try clear hb2)
                  (try clear hk)
                  (try clear hi)
                  refine hK.out _ _ ⟨((HB.out.cell (World.block_lt_of_cell? w _ hw153_0)).trans hw153_0), ((HB.out.cell (World.block_lt_of_cell? w _ hw153_1)).trans hw153_1), ((HB.out.cell (World.block_lt_of_cell? w _ hw153_2)).trans hw153_2), ((HB.out.cell (World.block_lt_of_cell? w _ hw153_3)).trans hw153_3), ((HB.out.cell (World.block_lt_of_cell? w _ hw153_4)).trans hw153_4), ((HB.out.cell (World.block_lt_of_cell? w _ hw153_5)).trans hw153_5), ((HB.out.cell (World.block_lt_of_cell? w _ hw154_0)).trans hw154_0), ((HB.out.cell (World.block_lt_of_cell? w _ hw154_1)).trans hw154_1), ((HB.out.cell (World.block_lt_of_cell? w _ hw154_2)).trans hw154_2), ((HB.out.cell (World.block_lt_of_cell? w _ hw154_3)).trans hw154_3), ((HB.out.cell (World.block_lt_of_cell? w _ hw154_4)).trans hw154_4), ((HB.out.cell (World.block_lt_of_cell? w _ hw154_5)).trans hw154_5)⟩ (fun hHeld => ?_)
                  clear hK K
                  refine norm_ (a' := ?_) ?_ ?_
                  rotate_left
                  · show Act.put _ (some 24) _ = _
                    simp only [Act.put, List.setIfInBounds_toArray, List.set_cons_zero, List.set_cons_succ, i64_w, i32_w]
                    rfl
                  refine pure_ (i := 9) (N := some 25) (v := ?_) (a' := ?_) #[true, true, true, true, true, true, true, true, true, true] rfl rfl (any_of HT_.out (by kernel_rfl)) (fun _ _ _ h => h) (Or.inl ⟨by rfl, ?_⟩) ?_ ?_
                  rotate_left
                  · intro w'
                    go_simp
                    with_reducible rfl
                  rotate_left
                  · simp only [Act.put, List.setIfInBounds_toArray, List.set_cons_zero, List.set_cons_succ, i64_w, i32_w]
                    rfl
                  refine done_ (done_of HT_.out (by kernel_rfl)) ?_
                  try go_wp2
                  go_ret
                  exact ⟨by first | rfl | (simp [errW_none, errW_some] <;> rfl) | (simp [*, errW_none, errW_some] <;> rfl), by repeat (first | (with_reducible first | exact HB.out | apply below_alloc | apply pw_below_drewN | apply below_drew1) | exact HB.out)⟩
              · rw [if_neg c7] at H
                exact absurd H (by simp)
            · rw [if_neg c6] at H
              exact absurd H (by simp)
          · rw [if_neg c5] at H
            exact absurd H (by simp)
        · rw [if_neg c4] at H
          have c4b0 : decide (x13_1 < (l0.length : Int)) = false := decide_eq_false c4
          clear c4
          obtain rfl := Option.some.inj H
          go_wp2
          go_ret
          exact ⟨by first | rfl | (simp [errW_none, errW_some] <;> rfl) | (simp [*, errW_none, errW_some] <;> rfl), by repeat (first | (with_reducible first | exact HB.out | apply below_alloc | apply pw_below_drewN | apply below_drew1) | exact HB.out)⟩
  · rw [if_neg c3] at H
    have c3b0 : ((l0.length : Int) == (l1.length : Int)) = false := beq_eq_false_iff_ne.mpr c3
    have c3b1 : ((l0.length : Int) != (l1.length : Int)) = true := bne_iff_ne.mpr c3
    have c3b2 : (l0.length == l1.length) = false := by first | simpa using c3 | (simp at c3 ⊢; omega)
    obtain rfl := Option.some.inj H
    go_enter Tryd.func17, Tryd.ntmps17
    go_wp2
    go_ret
    exact ⟨by first | rfl | (simp [errW_none, errW_some] <;> rfl) | (simp [*, errW_none, errW_some] <;> rfl), by repeat (first | (with_reducible first | exact HB.out | apply below_alloc | apply pw_below_drewN | apply below_drew1) | exact HB.out)⟩
end Go.Proofs.YtljcdjggjphedaaDoor.PFnHandleScript
