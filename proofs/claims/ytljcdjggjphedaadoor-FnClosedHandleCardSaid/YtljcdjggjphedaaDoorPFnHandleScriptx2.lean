-- PRINTED BY print.sh 35421559b90ae4d0a3588c463048766b98c2df88dd9212a6774a882060cdf62d: not written by this session
import Derived.Test.YtljcdjggjphedaaDoorPFnHandleScriptx0
namespace Go.Proofs.YtljcdjggjphedaaDoor.PFnHandleScript
open Go.RowKit Go.Proofs.YtljcdjggjphedaaDoorW.PrintWords Go.Proofs.YtljcdjggjphedaaDoorW.PrintLast Go.Proofs.YtljcdjggjphedaaDoorW.PrintMore
attribute [local go_sem] max2_int min2_int max_two min_two max_three min_three max_four min_four   -- for this text's walks alone
set_option linter.unusedVariables false
set_option linter.unusedSimpArgs false

/-! ### laws_zzFits2: function 23 -/
def laws_zzFits2.f (a0_0 : Int) (a0_1 : ByteArray) (a0_2 : ByteArray) (a0_3 : Int) (a0_4 : Int) (a0_5 : Int) (l0_6 : List Int) (a0_7 : Int) (a0_8 : Int) (a0_9 : Int) : Option (Bool) := if (a0_1.size : Int) > 2147483647 then (some false) else (if (a0_2.size : Int) > 2147483647 then (some false) else (if (l0_6.length : Int) > 2147483647 then (some false) else (some true)))
set_option maxHeartbeats 8000000 in
set_option maxRecDepth 100000 in
theorem laws_zzFits2.calls (a0_0 : Int) (a0_1 : ByteArray) (a0_2 : ByteArray) (a0_3 : Int) (a0_4 : Int) (a0_5 : Int) (A0_6 : Option Addr) (c0_6 : Nat) (l0_6 : List Int) (a0_7 : Int) (a0_8 : Int) (a0_9 : Int) (r : Bool) (w : World) (hr0_6 : Kd.C (Kd.int .u8) w A0_6 l0_6.length l0_6) (hc0_6 : l0_6.length ≤ c0_6) (h : laws_zzFits2.f a0_0 a0_1 a0_2 a0_3 a0_4 a0_5 l0_6 a0_7 a0_8 a0_9 = some r) :
    Calls Tryd.prog 23 #[.agg #[.int .i64 a0_0, .string a0_1, .string a0_2, .int .i64 a0_3, .int .i64 a0_4, .int .i64 a0_5, .slice A0_6 l0_6.length c0_6, .int .i64 a0_7, .int .i64 a0_8, .int .i64 a0_9]] w fun e w' => e = .returned (.bool r) ∧ Below w.heap.size w w' := by
  have hu26 := Tryd.underlying26
  have HR0_6 := Aside0.mk hr0_6
  have HC0_6 := Aside0.mk hc0_6
  clear hr0_6 hc0_6
  have HB := Aside0.mk (Below.refl w.heap.size w)
  have H : (if (a0_1.size : Int) > 2147483647 then (some false) else (if (a0_2.size : Int) > 2147483647 then (some false) else (if (l0_6.length : Int) > 2147483647 then (some false) else (some true)))) = some r := h
  clear h
  by_cases c2 : (a0_1.size : Int) > 2147483647
  · rw [if_pos c2] at H
    have c2b0 : decide (2147483647 < (a0_1.size : Int)) = true := decide_eq_true c2
    have c2b1 : decide (2147483647 < a0_1.size) = true := decide_eq_true (by omega)
    clear c2
    obtain rfl := Option.some.inj H
    go_enter Tryd.func23, Tryd.ntmps23
    go_wp2_with (first | ((with_reducible refine gate_dst (N := 1) rfl ?_); refine box_event ?hg (N := 1) ?hd (cs := #[.int .i64 a0_0, .string a0_1, .string a0_2, .int .i64 a0_3, .int .i64 a0_4, .int .i64 a0_5, .slice A0_6 l0_6.length c0_6, .int .i64 a0_7, .int .i64 a0_8, .int .i64 a0_9]) (t := 26) ?hr ?_; (case hd => rfl); (case hg => rfl); (case hr => first | (go_simp; done) | (go_simp; rfl)); intro gb101 hg w3 hbox hb; have n0_ := Aside0.mk (below_step (by repeat (first | (with_reducible first | exact HB.out | apply below_alloc | apply pw_below_drewN | apply below_drew1) | exact HB.out)) hb); have n1_ := Aside0.mk (hbox); have n2_ := Aside0.mk ((by rw [hg]; exact (below_size (by repeat (first | (with_reducible first | exact HB.out | apply below_alloc | apply pw_below_drewN | apply below_drew1) | exact HB.out))) : w.heap.size ≤ gb101)); have n3_ := Aside0.mk ((by rw [hg]; exact (below_size (by repeat (first | (with_reducible first | exact HB.out | apply below_alloc | apply pw_below_drewN | apply below_drew1) | exact HB.out))) : w.heap.size ≤ gb101)); clear HB; have HB := n0_; have BK101 := n1_; have GW101 := n2_; have GE101 := n3_; clear n0_ n1_ n2_ n3_; clear hb hbox hg; have hcz4_0 : w3.cell? ⟨gb101, 0, none⟩ = some (.int .i64 a0_0) := (blk_cell BK101.out 0).trans rfl; have hcz4_1 : w3.cell? ⟨gb101, 1, none⟩ = some (.string a0_1) := (blk_cell BK101.out 1).trans rfl; have hcz4_2 : w3.cell? ⟨gb101, 2, none⟩ = some (.string a0_2) := (blk_cell BK101.out 2).trans rfl; have hcz4_3 : w3.cell? ⟨gb101, 3, none⟩ = some (.int .i64 a0_3) := (blk_cell BK101.out 3).trans rfl; have hcz4_4 : w3.cell? ⟨gb101, 4, none⟩ = some (.int .i64 a0_4) := (blk_cell BK101.out 4).trans rfl; have hcz4_5 : w3.cell? ⟨gb101, 5, none⟩ = some (.int .i64 a0_5) := (blk_cell BK101.out 5).trans rfl; have hcz4_6 : w3.cell? ⟨gb101, 6, none⟩ = some (.slice A0_6 l0_6.length c0_6) := (blk_cell BK101.out 6).trans rfl; have hcz4_7 : w3.cell? ⟨gb101, 7, none⟩ = some (.int .i64 a0_7) := (blk_cell BK101.out 7).trans rfl; have hcz4_8 : w3.cell? ⟨gb101, 8, none⟩ = some (.int .i64 a0_8) := (blk_cell BK101.out 8).trans rfl; have hcz4_9 : w3.cell? ⟨gb101, 9, none⟩ = some (.int .i64 a0_9) := (blk_cell BK101.out 9).trans rfl; have hfz4_0 := blk_frozen BK101.out 0; have hfz4_1 := blk_frozen BK101.out 1; have hfz4_2 := blk_frozen BK101.out 2; have hfz4_3 := blk_frozen BK101.out 3; have hfz4_4 := blk_frozen BK101.out 4; have hfz4_5 := blk_frozen BK101.out 5; have hfz4_6 := blk_frozen BK101.out 6; have hfz4_7 := blk_frozen BK101.out 7; have hfz4_8 := blk_frozen BK101.out 8; have hfz4_9 := blk_frozen BK101.out 9))
    go_ret
    exact ⟨by first | rfl | (simp [errW_none, errW_some] <;> rfl) | (simp [*, errW_none, errW_some] <;> rfl), by repeat (first | (with_reducible first | exact HB.out | apply below_alloc | apply pw_below_drewN | apply below_drew1 | refine below_set ?_ GE101.out) | exact HB.out)⟩
  · rw [if_neg c2] at H
    have c2b0 : decide (2147483647 < (a0_1.size : Int)) = false := decide_eq_false c2
    have c2b1 : decide (2147483647 < a0_1.size) = false := decide_eq_false (by omega)
    clear c2
    by_cases c5 : (a0_2.size : Int) > 2147483647
    · rw [if_pos c5] at H
      have c5b0 : decide (2147483647 < (a0_2.size : Int)) = true := decide_eq_true c5
      have c5b1 : decide (2147483647 < a0_2.size) = true := decide_eq_true (by omega)
      clear c5
      obtain rfl := Option.some.inj H
      go_enter Tryd.func23, Tryd.ntmps23
      go_wp2_with (first | ((with_reducible refine gate_dst (N := 1) rfl ?_); refine box_event ?hg (N := 1) ?hd (cs := #[.int .i64 a0_0, .string a0_1, .string a0_2, .int .i64 a0_3, .int .i64 a0_4, .int .i64 a0_5, .slice A0_6 l0_6.length c0_6, .int .i64 a0_7, .int .i64 a0_8, .int .i64 a0_9]) (t := 26) ?hr ?_; (case hd => rfl); (case hg => rfl); (case hr => first | (go_simp; done) | (go_simp; rfl)); intro gb101 hg w6 hbox hb; have n0_ := Aside0.mk (below_step (by repeat (first | (with_reducible first | exact HB.out | apply below_alloc | apply pw_below_drewN | apply below_drew1) | exact HB.out)) hb); have n1_ := Aside0.mk (hbox); have n2_ := Aside0.mk ((by rw [hg]; exact (below_size (by repeat (first | (with_reducible first | exact HB.out | apply below_alloc | apply pw_below_drewN | apply below_drew1) | exact HB.out))) : w.heap.size ≤ gb101)); have n3_ := Aside0.mk ((by rw [hg]; exact (below_size (by repeat (first | (with_reducible first | exact HB.out | apply below_alloc | apply pw_below_drewN | apply below_drew1) | exact HB.out))) : w.heap.size ≤ gb101)); clear HB; have HB := n0_; have BK101 := n1_; have GW101 := n2_; have GE101 := n3_; clear n0_ n1_ n2_ n3_; clear hb hbox hg; have hcz7_0 : w6.cell? ⟨gb101, 0, none⟩ = some (.int .i64 a0_0) := (blk_cell BK101.out 0).trans rfl; have hcz7_1 : w6.cell? ⟨gb101, 1, none⟩ = some (.string a0_1) := (blk_cell BK101.out 1).trans rfl; have hcz7_2 : w6.cell? ⟨gb101, 2, none⟩ = some (.string a0_2) := (blk_cell BK101.out 2).trans rfl; have hcz7_3 : w6.cell? ⟨gb101, 3, none⟩ = some (.int .i64 a0_3) := (blk_cell BK101.out 3).trans rfl; have hcz7_4 : w6.cell? ⟨gb101, 4, none⟩ = some (.int .i64 a0_4) := (blk_cell BK101.out 4).trans rfl; have hcz7_5 : w6.cell? ⟨gb101, 5, none⟩ = some (.int .i64 a0_5) := (blk_cell BK101.out 5).trans rfl; have hcz7_6 : w6.cell? ⟨gb101, 6, none⟩ = some (.slice A0_6 l0_6.length c0_6) := (blk_cell BK101.out 6).trans rfl; have hcz7_7 : w6.cell? ⟨gb101, 7, none⟩ = some (.int .i64 a0_7) := (blk_cell BK101.out 7).trans rfl; have hcz7_8 : w6.cell? ⟨gb101, 8, none⟩ = some (.int .i64 a0_8) := (blk_cell BK101.out 8).trans rfl; have hcz7_9 : w6.cell? ⟨gb101, 9, none⟩ = some (.int .i64 a0_9) := (blk_cell BK101.out 9).trans rfl; have hfz7_0 := blk_frozen BK101.out 0; have hfz7_1 := blk_frozen BK101.out 1; have hfz7_2 := blk_frozen BK101.out 2; have hfz7_3 := blk_frozen BK101.out 3; have hfz7_4 := blk_frozen BK101.out 4; have hfz7_5 := blk_frozen BK101.out 5; have hfz7_6 := blk_frozen BK101.out 6; have hfz7_7 := blk_frozen BK101.out 7; have hfz7_8 := blk_frozen BK101.out 8; have hfz7_9 := blk_frozen BK101.out 9))
      go_ret
      exact ⟨by first | rfl | (simp [errW_none, errW_some] <;> rfl) | (simp [*, errW_none, errW_some] <;> rfl), by repeat (first | (with_reducible first | exact HB.out | apply below_alloc | apply pw_below_drewN | apply below_drew1 | refine below_set ?_ GE101.out) | exact HB.out)⟩
    · rw [if_neg c5] at H
      have c5b0 : decide (2147483647 < (a0_2.size : Int)) = false := decide_eq_false c5
      have c5b1 : decide (2147483647 < a0_2.size) = false := decide_eq_false (by omega)
      clear c5
      by_cases c8 : (l0_6.length : Int) > 2147483647
      · rw [if_pos c8] at H
        have c8b0 : decide (2147483647 < (l0_6.length : Int)) = true := decide_eq_true c8
        have c8b1 : decide (2147483647 < l0_6.length) = true := decide_eq_true (by omega)
        clear c8
        obtain rfl := Option.some.inj H
        go_enter Tryd.func23, Tryd.ntmps23
        go_wp2_with (first | ((with_reducible refine gate_dst (N := 1) rfl ?_); refine box_event ?hg (N := 1) ?hd (cs := #[.int .i64 a0_0, .string a0_1, .string a0_2, .int .i64 a0_3, .int .i64 a0_4, .int .i64 a0_5, .slice A0_6 l0_6.length c0_6, .int .i64 a0_7, .int .i64 a0_8, .int .i64 a0_9]) (t := 26) ?hr ?_; (case hd => rfl); (case hg => rfl); (case hr => first | (go_simp; done) | (go_simp; rfl)); intro gb101 hg w9 hbox hb; have n0_ := Aside0.mk (below_step (by repeat (first | (with_reducible first | exact HB.out | apply below_alloc | apply pw_below_drewN | apply below_drew1) | exact HB.out)) hb); have n1_ := Aside0.mk (hbox); have n2_ := Aside0.mk ((by rw [hg]; exact (below_size (by repeat (first | (with_reducible first | exact HB.out | apply below_alloc | apply pw_below_drewN | apply below_drew1) | exact HB.out))) : w.heap.size ≤ gb101)); have n3_ := Aside0.mk ((by rw [hg]; exact (below_size (by repeat (first | (with_reducible first | exact HB.out | apply below_alloc | apply pw_below_drewN | apply below_drew1) | exact HB.out))) : w.heap.size ≤ gb101)); clear HB; have HB := n0_; have BK101 := n1_; have GW101 := n2_; have GE101 := n3_; clear n0_ n1_ n2_ n3_; clear hb hbox hg; have hcz10_0 : w9.cell? ⟨gb101, 0, none⟩ = some (.int .i64 a0_0) := (blk_cell BK101.out 0).trans rfl; have hcz10_1 : w9.cell? ⟨gb101, 1, none⟩ = some (.string a0_1) := (blk_cell BK101.out 1).trans rfl; have hcz10_2 : w9.cell? ⟨gb101, 2, none⟩ = some (.string a0_2) := (blk_cell BK101.out 2).trans rfl; have hcz10_3 : w9.cell? ⟨gb101, 3, none⟩ = some (.int .i64 a0_3) := (blk_cell BK101.out 3).trans rfl; have hcz10_4 : w9.cell? ⟨gb101, 4, none⟩ = some (.int .i64 a0_4) := (blk_cell BK101.out 4).trans rfl; have hcz10_5 : w9.cell? ⟨gb101, 5, none⟩ = some (.int .i64 a0_5) := (blk_cell BK101.out 5).trans rfl; have hcz10_6 : w9.cell? ⟨gb101, 6, none⟩ = some (.slice A0_6 l0_6.length c0_6) := (blk_cell BK101.out 6).trans rfl; have hcz10_7 : w9.cell? ⟨gb101, 7, none⟩ = some (.int .i64 a0_7) := (blk_cell BK101.out 7).trans rfl; have hcz10_8 : w9.cell? ⟨gb101, 8, none⟩ = some (.int .i64 a0_8) := (blk_cell BK101.out 8).trans rfl; have hcz10_9 : w9.cell? ⟨gb101, 9, none⟩ = some (.int .i64 a0_9) := (blk_cell BK101.out 9).trans rfl; have hfz10_0 := blk_frozen BK101.out 0; have hfz10_1 := blk_frozen BK101.out 1; have hfz10_2 := blk_frozen BK101.out 2; have hfz10_3 := blk_frozen BK101.out 3; have hfz10_4 := blk_frozen BK101.out 4; have hfz10_5 := blk_frozen BK101.out 5; have hfz10_6 := blk_frozen BK101.out 6; have hfz10_7 := blk_frozen BK101.out 7; have hfz10_8 := blk_frozen BK101.out 8; have hfz10_9 := blk_frozen BK101.out 9))
        go_ret
        exact ⟨by first | rfl | (simp [errW_none, errW_some] <;> rfl) | (simp [*, errW_none, errW_some] <;> rfl), by repeat (first | (with_reducible first | exact HB.out | apply below_alloc | apply pw_below_drewN | apply below_drew1 | refine below_set ?_ GE101.out) | exact HB.out)⟩
      · rw [if_neg c8] at H
        have c8b0 : decide (2147483647 < (l0_6.length : Int)) = false := decide_eq_false c8
        have c8b1 : decide (2147483647 < l0_6.length) = false := decide_eq_false (by omega)
        clear c8
        obtain rfl := Option.some.inj H
        go_enter Tryd.func23, Tryd.ntmps23
        go_wp2_with (first | ((with_reducible refine gate_dst (N := 1) rfl ?_); refine box_event ?hg (N := 1) ?hd (cs := #[.int .i64 a0_0, .string a0_1, .string a0_2, .int .i64 a0_3, .int .i64 a0_4, .int .i64 a0_5, .slice A0_6 l0_6.length c0_6, .int .i64 a0_7, .int .i64 a0_8, .int .i64 a0_9]) (t := 26) ?hr ?_; (case hd => rfl); (case hg => rfl); (case hr => first | (go_simp; done) | (go_simp; rfl)); intro gb101 hg w11 hbox hb; have n0_ := Aside0.mk (below_step (by repeat (first | (with_reducible first | exact HB.out | apply below_alloc | apply pw_below_drewN | apply below_drew1) | exact HB.out)) hb); have n1_ := Aside0.mk (hbox); have n2_ := Aside0.mk ((by rw [hg]; exact (below_size (by repeat (first | (with_reducible first | exact HB.out | apply below_alloc | apply pw_below_drewN | apply below_drew1) | exact HB.out))) : w.heap.size ≤ gb101)); have n3_ := Aside0.mk ((by rw [hg]; exact (below_size (by repeat (first | (with_reducible first | exact HB.out | apply below_alloc | apply pw_below_drewN | apply below_drew1) | exact HB.out))) : w.heap.size ≤ gb101)); clear HB; have HB := n0_; have BK101 := n1_; have GW101 := n2_; have GE101 := n3_; clear n0_ n1_ n2_ n3_; clear hb hbox hg; have hcz12_0 : w11.cell? ⟨gb101, 0, none⟩ = some (.int .i64 a0_0) := (blk_cell BK101.out 0).trans rfl; have hcz12_1 : w11.cell? ⟨gb101, 1, none⟩ = some (.string a0_1) := (blk_cell BK101.out 1).trans rfl; have hcz12_2 : w11.cell? ⟨gb101, 2, none⟩ = some (.string a0_2) := (blk_cell BK101.out 2).trans rfl; have hcz12_3 : w11.cell? ⟨gb101, 3, none⟩ = some (.int .i64 a0_3) := (blk_cell BK101.out 3).trans rfl; have hcz12_4 : w11.cell? ⟨gb101, 4, none⟩ = some (.int .i64 a0_4) := (blk_cell BK101.out 4).trans rfl; have hcz12_5 : w11.cell? ⟨gb101, 5, none⟩ = some (.int .i64 a0_5) := (blk_cell BK101.out 5).trans rfl; have hcz12_6 : w11.cell? ⟨gb101, 6, none⟩ = some (.slice A0_6 l0_6.length c0_6) := (blk_cell BK101.out 6).trans rfl; have hcz12_7 : w11.cell? ⟨gb101, 7, none⟩ = some (.int .i64 a0_7) := (blk_cell BK101.out 7).trans rfl; have hcz12_8 : w11.cell? ⟨gb101, 8, none⟩ = some (.int .i64 a0_8) := (blk_cell BK101.out 8).trans rfl; have hcz12_9 : w11.cell? ⟨gb101, 9, none⟩ = some (.int .i64 a0_9) := (blk_cell BK101.out 9).trans rfl; have hfz12_0 := blk_frozen BK101.out 0; have hfz12_1 := blk_frozen BK101.out 1; have hfz12_2 := blk_frozen BK101.out 2; have hfz12_3 := blk_frozen BK101.out 3; have hfz12_4 := blk_frozen BK101.out 4; have hfz12_5 := blk_frozen BK101.out 5; have hfz12_6 := blk_frozen BK101.out 6; have hfz12_7 := blk_frozen BK101.out 7; have hfz12_8 := blk_frozen BK101.out 8; have hfz12_9 := blk_frozen BK101.out 9))
        go_ret
        exact ⟨by first | rfl | (simp [errW_none, errW_some] <;> rfl) | (simp [*, errW_none, errW_some] <;> rfl), by repeat (first | (with_reducible first | exact HB.out | apply below_alloc | apply pw_below_drewN | apply below_drew1 | refine below_set ?_ GE101.out) | exact HB.out)⟩

/-! ### laws_zzFits1: function 12 -/
def laws_zzFits1.l0 : Nat → List (S26) → Int → Int → Option (Bool)
  | 0, _, _, _ => none
  | k + 1, x8, x9, x10 => if x10 < x9 then (if 0 ≤ x10 then (if x10 < (x8.length : Int) then ((laws_zzFits2.f ((rd_T26 x8 x10).f0) ((rd_T26 x8 x10).f1) ((rd_T26 x8 x10).f2) ((rd_T26 x8 x10).f3) ((rd_T26 x8 x10).f4) ((rd_T26 x8 x10).f5) ((rd_T26 x8 x10).f6) ((rd_T26 x8 x10).f7) ((rd_T26 x8 x10).f8) ((rd_T26 x8 x10).f9)).bind fun t104 => (if t104 = true then (laws_zzFits1.l0 k x8 x9 (wrap64 (x10 + 1))) else (some false))) else (none)) else (none)) else (some true)
def laws_zzFits1.f (k : Nat) (l0 : List (S26)) : Option (Bool) := if (l0.length : Int) > 2147483647 then (some false) else (laws_zzFits1.l0 k l0 (l0.length : Int) 0)
theorem laws_zzFits1.mono_l : ∀ k, (∀ y0 y1 y2, LeO (laws_zzFits1.l0 k y0 y1 y2) (laws_zzFits1.l0 (k + 1) y0 y1 y2))
  | 0 => fun _ _ _ r h => by simp [laws_zzFits1.l0] at h
  | k + 1 => by
    have ih0 := laws_zzFits1.mono_l k
    · intro y0 y1 y2
      unfold laws_zzFits1.l0
      repeat' first
      | (with_reducible exact ih0 _ _ _)
      | (with_reducible exact LeO.refl _)
      | (with_reducible exact LeO.none _)
      | (with_reducible refine LeO.ite ?_ ?_)
      | (with_reducible refine LeO.bind ?_ (fun _ => ?_))
      | exact ih0 _ _ _
      | exact LeO.none _
      | refine LeO.ite ?_ ?_
      | refine LeO.bind ?_ (fun _ => ?_)
theorem laws_zzFits1.mono : ∀ a0 k, LeO (laws_zzFits1.f k a0) (laws_zzFits1.f (k + 1) a0) := by
  intro a0 k
  have ih0 := laws_zzFits1.mono_l k
  unfold laws_zzFits1.f
  repeat' first
      | (with_reducible exact ih0 _ _ _)
      | (with_reducible exact LeO.refl _)
      | (with_reducible exact LeO.none _)
      | (with_reducible refine LeO.ite ?_ ?_)
      | (with_reducible refine LeO.bind ?_ (fun _ => ?_))
      | exact ih0 _ _ _
      | exact LeO.none _
      | refine LeO.ite ?_ ?_
      | refine LeO.bind ?_ (fun _ => ?_)
set_option maxHeartbeats 8000000 in
set_option maxRecDepth 100000 in
theorem laws_zzFits1.calls (k : Nat) (A0 : Option Addr) (c0 : Nat) (l0 : List (S26)) (r : Bool) (w : World) (hr0 : Kd.C k26 w A0 l0.length l0) (hc0 : l0.length ≤ c0) (h : laws_zzFits1.f k l0 = some r) :
    Calls Tryd.prog 12 #[.slice A0 l0.length c0] w fun e w' => e = .returned (.bool r) ∧ Below w.heap.size w w' := by
  have hu26 := Tryd.underlying26
  have HR0 := Aside0.mk hr0
  have HC0 := Aside0.mk hc0
  clear hr0 hc0
  have HB := Aside0.mk (Below.refl w.heap.size w)
  have H : (if (l0.length : Int) > 2147483647 then (some false) else (laws_zzFits1.l0 k l0 (l0.length : Int) 0)) = some r := h
  clear h
  by_cases c2 : (l0.length : Int) > 2147483647
  · rw [if_pos c2] at H
    have c2b0 : decide (2147483647 < (l0.length : Int)) = true := decide_eq_true c2
    have c2b1 : decide (2147483647 < l0.length) = true := decide_eq_true (by omega)
    clear c2
    obtain rfl := Option.some.inj H
    go_enter Tryd.func12, Tryd.ntmps12
    go_wp2
    go_ret
    exact ⟨by first | rfl | (simp [errW_none, errW_some] <;> rfl) | (simp [*, errW_none, errW_some] <;> rfl), by repeat (first | (with_reducible first | exact HB.out | apply below_alloc | apply pw_below_drewN | apply below_drew1) | exact HB.out)⟩
  · rw [if_neg c2] at H
    have c2b0 : decide (2147483647 < (l0.length : Int)) = false := decide_eq_false c2
    have c2b1 : decide (2147483647 < l0.length) = false := decide_eq_false (by omega)
    clear c2
    have H' := Aside0.mk H
    clear H
    go_enter Tryd.func12, Tryd.ntmps12
    go_wp2
    go_loopg [10] k (fun kq v10 w' => ∃ (x10_1 : Int), v10 = .int .i64 x10_1 ∧ Aside0 (laws_zzFits1.l0 kq l0 (l0.length : Int) x10_1 = some r) ∧ Aside0 (kq ≤ k) ∧ Aside0 (Below w.heap.size w w'))
    case atStart => exact ⟨(0), (by first | rfl | (simp; done) | (simp [*]; done)), H', ⟨Nat.le_refl _⟩, ⟨by repeat (first | (with_reducible first | exact HB.out | apply below_alloc | apply pw_below_drewN | apply below_drew1) | exact HB.out)⟩⟩
    case round =>
      clear H'
      try clear c1
      try clear c2
      try clear c2b0
      try clear c2b1
      try clear p2
      obtain ⟨x10_1, rfl, HA, HK1, HB⟩ := hrel
      cases gk with
      | zero => exact absurd HA.out (by simp [laws_zzFits1.l0])
      | succ k1 =>
        have H := HA.out
        clear HA
        simp only [laws_zzFits1.l0] at H
        by_cases c3 : x10_1 < (l0.length : Int)
        · rw [if_pos c3] at H
          have c3b0 : decide (x10_1 < (l0.length : Int)) = true := decide_eq_true c3
          clear c3
          by_cases c4 : 0 ≤ x10_1
          · rw [if_pos c4] at H
            have c4b0 : decide (0 ≤ x10_1) = true := decide_eq_true c4
            clear c4
            by_cases c5 : x10_1 < (l0.length : Int)
            · rw [if_pos c5] at H
              have c5b0 : decide (x10_1 < (l0.length : Int)) = true := decide_eq_true c5
              clear c5
              replace H := Option.bind_eq_some_iff.mp H
              obtain ⟨t104, A60, H⟩ := H
              replace H : (if t104 = true then (laws_zzFits1.l0 k1 l0 (l0.length : Int) (wrap64 (x10_1 + 1))) else (some false)) = some r := H
              have A6 := Aside0.mk A60
              clear A60
              by_cases c7 : t104 = true
              · subst c7
                have H1 : (laws_zzFits1.l0 k1 l0 (l0.length : Int) (wrap64 (x10_1 + 1))) = some r := by rw [if_pos rfl] at H; exact H
                clear H
                have H := H1
                clear H1
                have H' := Aside0.mk H
                clear H
                have p102 : 0 ≤ (x10_1 : Int) := of_decide_eq_true (by first | (with_reducible assumption) | assumption)
                have q102 : x10_1 < (l0.length : Int) := of_decide_eq_true (by first | (with_reducible assumption) | assumption)
                obtain ⟨ad102, A102_6, c102_6, e102, hx102_0, hx102_1, hx102_2, hx102_3, hx102_4, hx102_5, hx102_6, hx102_7, hx102_8, hx102_9, hl102_6, hi102_6⟩ := at_T26 HR0.out x10_1 p102 q102
                cases e102
                replace hx102_0 := (HB.out.cell (World.block_lt_of_cell? w _ hx102_0)).trans hx102_0
                replace hx102_1 := (HB.out.cell (World.block_lt_of_cell? w _ hx102_1)).trans hx102_1
                replace hx102_2 := (HB.out.cell (World.block_lt_of_cell? w _ hx102_2)).trans hx102_2
                replace hx102_3 := (HB.out.cell (World.block_lt_of_cell? w _ hx102_3)).trans hx102_3
                replace hx102_4 := (HB.out.cell (World.block_lt_of_cell? w _ hx102_4)).trans hx102_4
                replace hx102_5 := (HB.out.cell (World.block_lt_of_cell? w _ hx102_5)).trans hx102_5
                replace hx102_6 := (HB.out.cell (World.block_lt_of_cell? w _ hx102_6)).trans hx102_6
                replace hx102_7 := (HB.out.cell (World.block_lt_of_cell? w _ hx102_7)).trans hx102_7
                replace hx102_8 := (HB.out.cell (World.block_lt_of_cell? w _ hx102_8)).trans hx102_8
                replace hx102_9 := (HB.out.cell (World.block_lt_of_cell? w _ hx102_9)).trans hx102_9
                have HR102_6 := Aside0.mk hi102_6
                have HC102_6 := Aside0.mk hl102_6
                clear hi102_6 hl102_6
                replace p102 := eq_true p102
                replace q102 := eq_true q102
                go_wp2_with (first | ((with_reducible refine gate_dst (N := 4) rfl ?_); refine box_event ?hg (N := 4) ?hd (cs := #[.int .i64 0, .string (⟨#[]⟩ : ByteArray), .string (⟨#[]⟩ : ByteArray), .int .i64 0, .int .i64 0, .int .i64 0, .slice none 0 0, .int .i64 0, .int .i64 0, .int .i64 0]) (t := 26) ?hr ?_; (case hd => rfl); (case hg => rfl); (case hr => first | (go_simp; done) | (go_simp; rfl)); intro gb103 hg w8 hbox hb; have n0_ := Aside0.mk (below_step (by repeat (first | (with_reducible first | exact HB.out | apply below_alloc | apply pw_below_drewN | apply below_drew1) | exact HB.out)) hb); have n1_ := Aside0.mk (hbox); have n2_ := Aside0.mk ((by rw [hg]; exact (below_size (by repeat (first | (with_reducible first | exact HB.out | apply below_alloc | apply pw_below_drewN | apply below_drew1) | exact HB.out))) : w.heap.size ≤ gb103)); have n3_ := Aside0.mk ((by rw [hg]; exact (below_size (by repeat (first | (with_reducible first | exact HB.out | apply below_alloc | apply pw_below_drewN | apply below_drew1) | exact HB.out))) : w.heap.size ≤ gb103)); clear HB; have HB := n0_; have BK103 := n1_; have GW103 := n2_; have GE103 := n3_; clear n0_ n1_ n2_ n3_; clear hb hbox hg; have hcz9_0 : w8.cell? ⟨gb103, 0, none⟩ = some (.int .i64 0) := (blk_cell BK103.out 0).trans rfl; have hcz9_1 : w8.cell? ⟨gb103, 1, none⟩ = some (.string (⟨#[]⟩ : ByteArray)) := (blk_cell BK103.out 1).trans rfl; have hcz9_2 : w8.cell? ⟨gb103, 2, none⟩ = some (.string (⟨#[]⟩ : ByteArray)) := (blk_cell BK103.out 2).trans rfl; have hcz9_3 : w8.cell? ⟨gb103, 3, none⟩ = some (.int .i64 0) := (blk_cell BK103.out 3).trans rfl; have hcz9_4 : w8.cell? ⟨gb103, 4, none⟩ = some (.int .i64 0) := (blk_cell BK103.out 4).trans rfl; have hcz9_5 : w8.cell? ⟨gb103, 5, none⟩ = some (.int .i64 0) := (blk_cell BK103.out 5).trans rfl; have hcz9_6 : w8.cell? ⟨gb103, 6, none⟩ = some (.slice none 0 0) := (blk_cell BK103.out 6).trans rfl; have hcz9_7 : w8.cell? ⟨gb103, 7, none⟩ = some (.int .i64 0) := (blk_cell BK103.out 7).trans rfl; have hcz9_8 : w8.cell? ⟨gb103, 8, none⟩ = some (.int .i64 0) := (blk_cell BK103.out 8).trans rfl; have hcz9_9 : w8.cell? ⟨gb103, 9, none⟩ = some (.int .i64 0) := (blk_cell BK103.out 9).trans rfl; have hfz9_0 := blk_frozen BK103.out 0; have hfz9_1 := blk_frozen BK103.out 1; have hfz9_2 := blk_frozen BK103.out 2; have hfz9_3 := blk_frozen BK103.out 3; have hfz9_4 := blk_frozen BK103.out 4; have hfz9_5 := blk_frozen BK103.out 5; have hfz9_6 := blk_frozen BK103.out 6; have hfz9_7 := blk_frozen BK103.out 7; have hfz9_8 := blk_frozen BK103.out 8; have hfz9_9 := blk_frozen BK103.out 9) | ((with_reducible refine gate_callee (f := 23) rfl ?_); refine goesL_ (some 15) rfl rfl Tryd.func23 (by kernel_rfl) rfl #[.agg #[.int .i64 ((rd_T26 l0 x10_1).f0), .string ((rd_T26 l0 x10_1).f1), .string ((rd_T26 l0 x10_1).f2), .int .i64 ((rd_T26 l0 x10_1).f3), .int .i64 ((rd_T26 l0 x10_1).f4), .int .i64 ((rd_T26 l0 x10_1).f5), .slice A102_6 ((rd_T26 l0 x10_1).f6).length c102_6, .int .i64 ((rd_T26 l0 x10_1).f7), .int .i64 ((rd_T26 l0 x10_1).f8), .int .i64 ((rd_T26 l0 x10_1).f9)]] rfl (by (try simp only [List.map_toArray, List.map_cons, List.map_nil]); first | done | rfl | (simp only [List.length_drop, List.length_take]; rfl)) ?_; (with_reducible refine (laws_zzFits2.calls ((rd_T26 l0 x10_1).f0) ((rd_T26 l0 x10_1).f1) ((rd_T26 l0 x10_1).f2) ((rd_T26 l0 x10_1).f3) ((rd_T26 l0 x10_1).f4) ((rd_T26 l0 x10_1).f5) _ _ ((rd_T26 l0 x10_1).f6) ((rd_T26 l0 x10_1).f7) ((rd_T26 l0 x10_1).f8) ((rd_T26 l0 x10_1).f9) true _ ?side1 ?side2 A6.out).mono ?_); (case side1 => exact Kd.C_below HR102_6.out (by repeat (first | (with_reducible first | exact HB.out | apply below_alloc | apply pw_below_drewN | apply below_drew1 | refine below_set ?_ GE103.out) | exact HB.out))); (case side2 => exact HC102_6.out); rintro e w10 ⟨rfl, hb⟩; refine ⟨_, rfl, ?_⟩; have n0_ := Aside0.mk (blk_below (g := gb103) (o := .cells #[.int .i64 ((rd_T26 l0 x10_1).f0), .string ((rd_T26 l0 x10_1).f1), .string ((rd_T26 l0 x10_1).f2), .int .i64 ((rd_T26 l0 x10_1).f3), .int .i64 ((rd_T26 l0 x10_1).f4), .int .i64 ((rd_T26 l0 x10_1).f5), .slice A102_6 ((rd_T26 l0 x10_1).f6).length c102_6, .int .i64 ((rd_T26 l0 x10_1).f7), .int .i64 ((rd_T26 l0 x10_1).f8), .int .i64 ((rd_T26 l0 x10_1).f9)] 26 (0, 0)) (by (with_reducible repeat (first | refine blk_drewN ?_ _ | refine blk_drew ?_ | refine blk_alloc ?_ _)); refine blk_put (cs := #[.int .i64 ((rd_T26 l0 x10_1).f0), .string ((rd_T26 l0 x10_1).f1), .string ((rd_T26 l0 x10_1).f2), .int .i64 ((rd_T26 l0 x10_1).f3), .int .i64 ((rd_T26 l0 x10_1).f4), .int .i64 ((rd_T26 l0 x10_1).f5), .slice A102_6 ((rd_T26 l0 x10_1).f6).length c102_6, .int .i64 ((rd_T26 l0 x10_1).f7), .int .i64 ((rd_T26 l0 x10_1).f8), .int .i64 0]) ?_ 9 _ rfl; (with_reducible repeat (first | refine blk_drewN ?_ _ | refine blk_drew ?_ | refine blk_alloc ?_ _)); refine blk_put (cs := #[.int .i64 ((rd_T26 l0 x10_1).f0), .string ((rd_T26 l0 x10_1).f1), .string ((rd_T26 l0 x10_1).f2), .int .i64 ((rd_T26 l0 x10_1).f3), .int .i64 ((rd_T26 l0 x10_1).f4), .int .i64 ((rd_T26 l0 x10_1).f5), .slice A102_6 ((rd_T26 l0 x10_1).f6).length c102_6, .int .i64 ((rd_T26 l0 x10_1).f7), .int .i64 0, .int .i64 0]) ?_ 8 _ rfl; (with_reducible repeat (first | refine blk_drewN ?_ _ | refine blk_drew ?_ | refine blk_alloc ?_ _)); refine blk_put (cs := #[.int .i64 ((rd_T26 l0 x10_1).f0), .string ((rd_T26 l0 x10_1).f1), .string ((rd_T26 l0 x10_1).f2), .int .i64 ((rd_T26 l0 x10_1).f3), .int .i64 ((rd_T26 l0 x10_1).f4), .int .i64 ((rd_T26 l0 x10_1).f5), .slice A102_6 ((rd_T26 l0 x10_1).f6).length c102_6, .int .i64 0, .int .i64 0, .int .i64 0]) ?_ 7 _ rfl; (with_reducible repeat (first | refine blk_drewN ?_ _ | refine blk_drew ?_ | refine blk_alloc ?_ _)); refine blk_put (cs := #[.int .i64 ((rd_T26 l0 x10_1).f0), .string ((rd_T26 l0 x10_1).f1), .string ((rd_T26 l0 x10_1).f2), .int .i64 ((rd_T26 l0 x10_1).f3), .int .i64 ((rd_T26 l0 x10_1).f4), .int .i64 ((rd_T26 l0 x10_1).f5), .slice none 0 0, .int .i64 0, .int .i64 0, .int .i64 0]) ?_ 6 _ rfl; (with_reducible repeat (first | refine blk_drewN ?_ _ | refine blk_drew ?_ | refine blk_alloc ?_ _)); refine blk_put (cs := #[.int .i64 ((rd_T26 l0 x10_1).f0), .string ((rd_T26 l0 x10_1).f1), .string ((rd_T26 l0 x10_1).f2), .int .i64 ((rd_T26 l0 x10_1).f3), .int .i64 ((rd_T26 l0 x10_1).f4), .int .i64 0, .slice none 0 0, .int .i64 0, .int .i64 0, .int .i64 0]) ?_ 5 _ rfl; (with_reducible repeat (first | refine blk_drewN ?_ _ | refine blk_drew ?_ | refine blk_alloc ?_ _)); refine blk_put (cs := #[.int .i64 ((rd_T26 l0 x10_1).f0), .string ((rd_T26 l0 x10_1).f1), .string ((rd_T26 l0 x10_1).f2), .int .i64 ((rd_T26 l0 x10_1).f3), .int .i64 0, .int .i64 0, .slice none 0 0, .int .i64 0, .int .i64 0, .int .i64 0]) ?_ 4 _ rfl; (with_reducible repeat (first | refine blk_drewN ?_ _ | refine blk_drew ?_ | refine blk_alloc ?_ _)); refine blk_put (cs := #[.int .i64 ((rd_T26 l0 x10_1).f0), .string ((rd_T26 l0 x10_1).f1), .string ((rd_T26 l0 x10_1).f2), .int .i64 0, .int .i64 0, .int .i64 0, .slice none 0 0, .int .i64 0, .int .i64 0, .int .i64 0]) ?_ 3 _ rfl; (with_reducible repeat (first | refine blk_drewN ?_ _ | refine blk_drew ?_ | refine blk_alloc ?_ _)); refine blk_put (cs := #[.int .i64 ((rd_T26 l0 x10_1).f0), .string ((rd_T26 l0 x10_1).f1), .string (⟨#[]⟩ : ByteArray), .int .i64 0, .int .i64 0, .int .i64 0, .slice none 0 0, .int .i64 0, .int .i64 0, .int .i64 0]) ?_ 2 _ rfl; (with_reducible repeat (first | refine blk_drewN ?_ _ | refine blk_drew ?_ | refine blk_alloc ?_ _)); refine blk_put (cs := #[.int .i64 ((rd_T26 l0 x10_1).f0), .string (⟨#[]⟩ : ByteArray), .string (⟨#[]⟩ : ByteArray), .int .i64 0, .int .i64 0, .int .i64 0, .slice none 0 0, .int .i64 0, .int .i64 0, .int .i64 0]) ?_ 1 _ rfl; (with_reducible repeat (first | refine blk_drewN ?_ _ | refine blk_drew ?_ | refine blk_alloc ?_ _)); refine blk_put (cs := #[.int .i64 0, .string (⟨#[]⟩ : ByteArray), .string (⟨#[]⟩ : ByteArray), .int .i64 0, .int .i64 0, .int .i64 0, .slice none 0 0, .int .i64 0, .int .i64 0, .int .i64 0]) ?_ 0 _ rfl; (with_reducible repeat (first | refine blk_drewN ?_ _ | refine blk_drew ?_ | refine blk_alloc ?_ _)); exact BK103.out) hb); have n1_ := Aside0.mk (below_step (by repeat (first | (with_reducible first | exact HB.out | apply below_alloc | apply pw_below_drewN | apply below_drew1 | refine below_set ?_ GE103.out) | exact HB.out)) hb); clear BK103; clear HB; have BK103 := n0_; have HB := n1_; clear n0_ n1_; (try clear hb); (try clear hb2); (try clear hk); (try clear hi)))
                go_roundg k1
                case measure => have := HK1.out; omega
                case rel => exact ⟨(wrap64 (x10_1 + 1)), (by first | rfl | (simp; done) | (simp [*]; done)), H', ⟨by have := HK1.out; omega⟩, ⟨by repeat (first | (with_reducible first | exact HB.out | apply below_alloc | apply pw_below_drewN | apply below_drew1 | refine below_set ?_ GE103.out) | exact HB.out)⟩⟩
              · replace c7 := Bool.eq_false_iff.mpr c7
                subst c7
                have H1 : (some false) = some r := by rw [if_neg (show ¬ (false = true) by decide)] at H; exact H
                clear H
                have H := H1
                clear H1
                obtain rfl := Option.some.inj H
                have p102 : 0 ≤ (x10_1 : Int) := of_decide_eq_true (by first | (with_reducible assumption) | assumption)
                have q102 : x10_1 < (l0.length : Int) := of_decide_eq_true (by first | (with_reducible assumption) | assumption)
                obtain ⟨ad102, A102_6, c102_6, e102, hx102_0, hx102_1, hx102_2, hx102_3, hx102_4, hx102_5, hx102_6, hx102_7, hx102_8, hx102_9, hl102_6, hi102_6⟩ := at_T26 HR0.out x10_1 p102 q102
                cases e102
                replace hx102_0 := (HB.out.cell (World.block_lt_of_cell? w _ hx102_0)).trans hx102_0
                replace hx102_1 := (HB.out.cell (World.block_lt_of_cell? w _ hx102_1)).trans hx102_1
                replace hx102_2 := (HB.out.cell (World.block_lt_of_cell? w _ hx102_2)).trans hx102_2
                replace hx102_3 := (HB.out.cell (World.block_lt_of_cell? w _ hx102_3)).trans hx102_3
                replace hx102_4 := (HB.out.cell (World.block_lt_of_cell? w _ hx102_4)).trans hx102_4
                replace hx102_5 := (HB.out.cell (World.block_lt_of_cell? w _ hx102_5)).trans hx102_5
                replace hx102_6 := (HB.out.cell (World.block_lt_of_cell? w _ hx102_6)).trans hx102_6
                replace hx102_7 := (HB.out.cell (World.block_lt_of_cell? w _ hx102_7)).trans hx102_7
                replace hx102_8 := (HB.out.cell (World.block_lt_of_cell? w _ hx102_8)).trans hx102_8
                replace hx102_9 := (HB.out.cell (World.block_lt_of_cell? w _ hx102_9)).trans hx102_9
                have HR102_6 := Aside0.mk hi102_6
                have HC102_6 := Aside0.mk hl102_6
                clear hi102_6 hl102_6
                replace p102 := eq_true p102
                replace q102 := eq_true q102
                go_wp2_with (first | ((with_reducible refine gate_dst (N := 4) rfl ?_); refine box_event ?hg (N := 4) ?hd (cs := #[.int .i64 0, .string (⟨#[]⟩ : ByteArray), .string (⟨#[]⟩ : ByteArray), .int .i64 0, .int .i64 0, .int .i64 0, .slice none 0 0, .int .i64 0, .int .i64 0, .int .i64 0]) (t := 26) ?hr ?_; (case hd => rfl); (case hg => rfl); (case hr => first | (go_simp; done) | (go_simp; rfl)); intro gb103 hg w11 hbox hb; have n0_ := Aside0.mk (below_step (by repeat (first | (with_reducible first | exact HB.out | apply below_alloc | apply pw_below_drewN | apply below_drew1) | exact HB.out)) hb); have n1_ := Aside0.mk (hbox); have n2_ := Aside0.mk ((by rw [hg]; exact (below_size (by repeat (first | (with_reducible first | exact HB.out | apply below_alloc | apply pw_below_drewN | apply below_drew1) | exact HB.out))) : w.heap.size ≤ gb103)); have n3_ := Aside0.mk ((by rw [hg]; exact (below_size (by repeat (first | (with_reducible first | exact HB.out | apply below_alloc | apply pw_below_drewN | apply below_drew1) | exact HB.out))) : w.heap.size ≤ gb103)); clear HB; have HB := n0_; have BK103 := n1_; have GW103 := n2_; have GE103 := n3_; clear n0_ n1_ n2_ n3_; clear hb hbox hg; have hcz12_0 : w11.cell? ⟨gb103, 0, none⟩ = some (.int .i64 0) := (blk_cell BK103.out 0).trans rfl; have hcz12_1 : w11.cell? ⟨gb103, 1, none⟩ = some (.string (⟨#[]⟩ : ByteArray)) := (blk_cell BK103.out 1).trans rfl; have hcz12_2 : w11.cell? ⟨gb103, 2, none⟩ = some (.string (⟨#[]⟩ : ByteArray)) := (blk_cell BK103.out 2).trans rfl; have hcz12_3 : w11.cell? ⟨gb103, 3, none⟩ = some (.int .i64 0) := (blk_cell BK103.out 3).trans rfl; have hcz12_4 : w11.cell? ⟨gb103, 4, none⟩ = some (.int .i64 0) := (blk_cell BK103.out 4).trans rfl; have hcz12_5 : w11.cell? ⟨gb103, 5, none⟩ = some (.int .i64 0) := (blk_cell BK103.out 5).trans rfl; have hcz12_6 : w11.cell? ⟨gb103, 6, none⟩ = some (.slice none 0 0) := (blk_cell BK103.out 6).trans rfl; have hcz12_7 : w11.cell? ⟨gb103, 7, none⟩ = some (.int .i64 0) := (blk_cell BK103.out 7).trans rfl; have hcz12_8 : w11.cell? ⟨gb103, 8, none⟩ = some (.int .i64 0) := (blk_cell BK103.out 8).trans rfl; have hcz12_9 : w11.cell? ⟨gb103, 9, none⟩ = some (.int .i64 0) := (blk_cell BK103.out 9).trans rfl; have hfz12_0 := blk_frozen BK103.out 0; have hfz12_1 := blk_frozen BK103.out 1; have hfz12_2 := blk_frozen BK103.out 2; have hfz12_3 := blk_frozen BK103.out 3; have hfz12_4 := blk_frozen BK103.out 4; have hfz12_5 := blk_frozen BK103.out 5; have hfz12_6 := blk_frozen BK103.out 6; have hfz12_7 := blk_frozen BK103.out 7; have hfz12_8 := blk_frozen BK103.out 8; have hfz12_9 := blk_frozen BK103.out 9) | ((with_reducible refine gate_callee (f := 23) rfl ?_); refine goesL_ (some 15) rfl rfl Tryd.func23 (by kernel_rfl) rfl #[.agg #[.int .i64 ((rd_T26 l0 x10_1).f0), .string ((rd_T26 l0 x10_1).f1), .string ((rd_T26 l0 x10_1).f2), .int .i64 ((rd_T26 l0 x10_1).f3), .int .i64 ((rd_T26 l0 x10_1).f4), .int .i64 ((rd_T26 l0 x10_1).f5), .slice A102_6 ((rd_T26 l0 x10_1).f6).length c102_6, .int .i64 ((rd_T26 l0 x10_1).f7), .int .i64 ((rd_T26 l0 x10_1).f8), .int .i64 ((rd_T26 l0 x10_1).f9)]] rfl (by (try simp only [List.map_toArray, List.map_cons, List.map_nil]); first | done | rfl | (simp only [List.length_drop, List.length_take]; rfl)) ?_; (with_reducible refine (laws_zzFits2.calls ((rd_T26 l0 x10_1).f0) ((rd_T26 l0 x10_1).f1) ((rd_T26 l0 x10_1).f2) ((rd_T26 l0 x10_1).f3) ((rd_T26 l0 x10_1).f4) ((rd_T26 l0 x10_1).f5) _ _ ((rd_T26 l0 x10_1).f6) ((rd_T26 l0 x10_1).f7) ((rd_T26 l0 x10_1).f8) ((rd_T26 l0 x10_1).f9) false _ ?side1 ?side2 A6.out).mono ?_); (case side1 => exact Kd.C_below HR102_6.out (by repeat (first | (with_reducible first | exact HB.out | apply below_alloc | apply pw_below_drewN | apply below_drew1 | refine below_set ?_ GE103.out) | exact HB.out))); (case side2 => exact HC102_6.out); rintro e w13 ⟨rfl, hb⟩; refine ⟨_, rfl, ?_⟩; have n0_ := Aside0.mk (blk_below (g := gb103) (o := .cells #[.int .i64 ((rd_T26 l0 x10_1).f0), .string ((rd_T26 l0 x10_1).f1), .string ((rd_T26 l0 x10_1).f2), .int .i64 ((rd_T26 l0 x10_1).f3), .int .i64 ((rd_T26 l0 x10_1).f4), .int .i64 ((rd_T26 l0 x10_1).f5), .slice A102_6 ((rd_T26 l0 x10_1).f6).length c102_6, .int .i64 ((rd_T26 l0 x10_1).f7), .int .i64 ((rd_T26 l0 x10_1).f8), .int .i64 ((rd_T26 l0 x10_1).f9)] 26 (0, 0)) (by (with_reducible repeat (first | refine blk_drewN ?_ _ | refine blk_drew ?_ | refine blk_alloc ?_ _)); refine blk_put (cs := #[.int .i64 ((rd_T26 l0 x10_1).f0), .string ((rd_T26 l0 x10_1).f1), .string ((rd_T26 l0 x10_1).f2), .int .i64 ((rd_T26 l0 x10_1).f3), .int .i64 ((rd_T26 l0 x10_1).f4), .int .i64 ((rd_T26 l0 x10_1).f5), .slice A102_6 ((rd_T26 l0 x10_1).f6).length c102_6, .int .i64 ((rd_T26 l0 x10_1).f7), .int .i64 ((rd_T26 l0 x10_1).f8), .int .i64 0]) ?_ 9 _ rfl; (with_reducible repeat (first | refine blk_drewN ?_ _ | refine blk_drew ?_ | refine blk_alloc ?_ _)); refine blk_put (cs := #[.int .i64 ((rd_T26 l0 x10_1).f0), .string ((rd_T26 l0 x10_1).f1), .string ((rd_T26 l0 x10_1).f2), .int .i64 ((rd_T26 l0 x10_1).f3), .int .i64 ((rd_T26 l0 x10_1).f4), .int .i64 ((rd_T26 l0 x10_1).f5), .slice A102_6 ((rd_T26 l0 x10_1).f6).length c102_6, .int .i64 ((rd_T26 l0 x10_1).f7), .int .i64 0, .int .i64 0]) ?_ 8 _ rfl; (with_reducible repeat (first | refine blk_drewN ?_ _ | refine blk_drew ?_ | refine blk_alloc ?_ _)); refine blk_put (cs := #[.int .i64 ((rd_T26 l0 x10_1).f0), .string ((rd_T26 l0 x10_1).f1), .string ((rd_T26 l0 x10_1).f2), .int .i64 ((rd_T26 l0 x10_1).f3), .int .i64 ((rd_T26 l0 x10_1).f4), .int .i64 ((rd_T26 l0 x10_1).f5), .slice A102_6 ((rd_T26 l0 x10_1).f6).length c102_6, .int .i64 0, .int .i64 0, .int .i64 0]) ?_ 7 _ rfl; (with_reducible repeat (first | refine blk_drewN ?_ _ | refine blk_drew ?_ | refine blk_alloc ?_ _)); refine blk_put (cs := #[.int .i64 ((rd_T26 l0 x10_1).f0), .string ((rd_T26 l0 x10_1).f1), .string ((rd_T26 l0 x10_1).f2), .int .i64 ((rd_T26 l0 x10_1).f3), .int .i64 ((rd_T26 l0 x10_1).f4), .int .i64 ((rd_T26 l0 x10_1).f5), .slice none 0 0, .int .i64 0, .int .i64 0, .int .i64 0]) ?_ 6 _ rfl; (with_reducible repeat (first | refine blk_drewN ?_ _ | refine blk_drew ?_ | refine blk_alloc ?_ _)); refine blk_put (cs := #[.int .i64 ((rd_T26 l0 x10_1).f0), .string ((rd_T26 l0 x10_1).f1), .string ((rd_T26 l0 x10_1).f2), .int .i64 ((rd_T26 l0 x10_1).f3), .int .i64 ((rd_T26 l0 x10_1).f4), .int .i64 0, .slice none 0 0, .int .i64 0, .int .i64 0, .int .i64 0]) ?_ 5 _ rfl; (with_reducible repeat (first | refine blk_drewN ?_ _ | refine blk_drew ?_ | refine blk_alloc ?_ _)); refine blk_put (cs := #[.int .i64 ((rd_T26 l0 x10_1).f0), .string ((rd_T26 l0 x10_1).f1), .string ((rd_T26 l0 x10_1).f2), .int .i64 ((rd_T26 l0 x10_1).f3), .int .i64 0, .int .i64 0, .slice none 0 0, .int .i64 0, .int .i64 0, .int .i64 0]) ?_ 4 _ rfl; (with_reducible repeat (first | refine blk_drewN ?_ _ | refine blk_drew ?_ | refine blk_alloc ?_ _)); refine blk_put (cs := #[.int .i64 ((rd_T26 l0 x10_1).f0), .string ((rd_T26 l0 x10_1).f1), .string ((rd_T26 l0 x10_1).f2), .int .i64 0, .int .i64 0, .int .i64 0, .slice none 0 0, .int .i64 0, .int .i64 0, .int .i64 0]) ?_ 3 _ rfl; (with_reducible repeat (first | refine blk_drewN ?_ _ | refine blk_drew ?_ | refine blk_alloc ?_ _)); refine blk_put (cs := #[.int .i64 ((rd_T26 l0 x10_1).f0), .string ((rd_T26 l0 x10_1).f1), .string (⟨#[]⟩ : ByteArray), .int .i64 0, .int .i64 0, .int .i64 0, .slice none 0 0, .int .i64 0, .int .i64 0, .int .i64 0]) ?_ 2 _ rfl; (with_reducible repeat (first | refine blk_drewN ?_ _ | refine blk_drew ?_ | refine blk_alloc ?_ _)); refine blk_put (cs := #[.int .i64 ((rd_T26 l0 x10_1).f0), .string (⟨#[]⟩ : ByteArray), .string (⟨#[]⟩ : ByteArray), .int .i64 0, .int .i64 0, .int .i64 0, .slice none 0 0, .int .i64 0, .int .i64 0, .int .i64 0]) ?_ 1 _ rfl; (with_reducible repeat (first | refine blk_drewN ?_ _ | refine blk_drew ?_ | refine blk_alloc ?_ _)); refine blk_put (cs := #[.int .i64 0, .string (⟨#[]⟩ : ByteArray), .string (⟨#[]⟩ : ByteArray), .int .i64 0, .int .i64 0, .int .i64 0, .slice none 0 0, .int .i64 0, .int .i64 0, .int .i64 0]) ?_ 0 _ rfl; (with_reducible repeat (first | refine blk_drewN ?_ _ | refine blk_drew ?_ | refine blk_alloc ?_ _)); exact BK103.out) hb); have n1_ := Aside0.mk (below_step (by repeat (first | (with_reducible first | exact HB.out | apply below_alloc | apply pw_below_drewN | apply below_drew1 | refine below_set ?_ GE103.out) | exact HB.out)) hb); clear BK103; clear HB; have BK103 := n0_; have HB := n1_; clear n0_ n1_; (try clear hb); (try clear hb2); (try clear hk); (try clear hi)))
                go_ret
                exact ⟨by first | rfl | (simp [errW_none, errW_some] <;> rfl) | (simp [*, errW_none, errW_some] <;> rfl), by repeat (first | (with_reducible first | exact HB.out | apply below_alloc | apply pw_below_drewN | apply below_drew1 | refine below_set ?_ GE103.out) | exact HB.out)⟩
            · rw [if_neg c5] at H
              exact absurd H (by simp)
          · rw [if_neg c4] at H
            exact absurd H (by simp)
        · rw [if_neg c3] at H
          have c3b0 : decide (x10_1 < (l0.length : Int)) = false := decide_eq_false c3
          clear c3
          obtain rfl := Option.some.inj H
          go_wp2
          go_ret
          exact ⟨by first | rfl | (simp [errW_none, errW_some] <;> rfl) | (simp [*, errW_none, errW_some] <;> rfl), by repeat (first | (with_reducible first | exact HB.out | apply below_alloc | apply pw_below_drewN | apply below_drew1) | exact HB.out)⟩

-- NOT PRINTED: function 39 (mem_CreateFile)

-- NOT PRINTED: function 24 (mem_DoorWith)

-- NOT PRINTED: function 25 (mem_NewFileHandle)

-- NOT PRINTED: function 26 (mem_NewReadOnlyFileHandle)

-- NOT PRINTED: function 40 (mem_File_Read)

-- NOT PRINTED: function 41 (mem_File_ReadAt)

-- NOT PRINTED: function 83 (errors_New)

-- NOT PRINTED: function 84 (mem_setModTime)

-- NOT PRINTED: function 42 (mem_File_Write)

-- NOT PRINTED: function 43 (mem_File_WriteAt)

-- NOT PRINTED: function 44 (mem_File_Seek)

-- NOT PRINTED: function 45 (mem_File_Truncate)

-- NOT PRINTED: function 46 (mem_File_Close)

-- NOT PRINTED: function 85 (mem_DirMap_Files)

-- NOT PRINTED: function 47 (mem_File_Readdir)

/-! ### bytealg_LastIndexByteString: function 104 -/
def bytealg_LastIndexByteString.l0 : Nat → ByteArray → Int → Int → Option (Int)
  | 0, _, _, _ => none
  | k + 1, x0, x1, x5 => if x5 ≥ 0 then (if 0 ≤ x5 then (if x5 < (x0.size : Int) then (if (bt x0 x5) = x1 then (some x5) else (bytealg_LastIndexByteString.l0 k x0 x1 (wrap64 (x5 - 1)))) else (none)) else (none)) else (some (-1))
def bytealg_LastIndexByteString.f (k : Nat) (a0 : ByteArray) (a1 : Int) : Option (Int) := bytealg_LastIndexByteString.l0 k a0 a1 (wrap64 ((a0.size : Int) - 1))
theorem bytealg_LastIndexByteString.mono_l : ∀ k, (∀ y0 y1 y2, LeO (bytealg_LastIndexByteString.l0 k y0 y1 y2) (bytealg_LastIndexByteString.l0 (k + 1) y0 y1 y2))
  | 0 => fun _ _ _ r h => by simp [bytealg_LastIndexByteString.l0] at h
  | k + 1 => by
    have ih0 := bytealg_LastIndexByteString.mono_l k
    · intro y0 y1 y2
      unfold bytealg_LastIndexByteString.l0
      repeat' first
      | (with_reducible exact ih0 _ _ _)
      | (with_reducible exact LeO.refl _)
      | (with_reducible exact LeO.none _)
      | (with_reducible refine LeO.ite ?_ ?_)
      | (with_reducible refine LeO.bind ?_ (fun _ => ?_))
      | exact ih0 _ _ _
      | exact LeO.none _
      | refine LeO.ite ?_ ?_
      | refine LeO.bind ?_ (fun _ => ?_)
theorem bytealg_LastIndexByteString.mono : ∀ a0 a1 k, LeO (bytealg_LastIndexByteString.f k a0 a1) (bytealg_LastIndexByteString.f (k + 1) a0 a1) := by
  intro a0 a1 k
  have ih0 := bytealg_LastIndexByteString.mono_l k
  unfold bytealg_LastIndexByteString.f
  repeat' first
      | (with_reducible exact ih0 _ _ _)
      | (with_reducible exact LeO.refl _)
      | (with_reducible exact LeO.none _)
      | (with_reducible refine LeO.ite ?_ ?_)
      | (with_reducible refine LeO.bind ?_ (fun _ => ?_))
      | exact ih0 _ _ _
      | exact LeO.none _
      | refine LeO.ite ?_ ?_
      | refine LeO.bind ?_ (fun _ => ?_)
set_option maxHeartbeats 8000000 in
set_option maxRecDepth 100000 in
theorem bytealg_LastIndexByteString.calls (k : Nat) (a0 : ByteArray) (a1 : Int) (r : Int) (w : World) (h : bytealg_LastIndexByteString.f k a0 a1 = some r) :
    Calls Tryd.prog 104 #[.string a0, .int .u8 a1] w fun e w' => e = .returned (.int .i64 r) ∧ Drawn0 w w' := by
  have H : (bytealg_LastIndexByteString.l0 k a0 a1 (wrap64 ((a0.size : Int) - 1))) = some r := h
  clear h
  have H' := Aside0.mk H
  clear H
  go_enter Tryd.func104, Tryd.ntmps104
  go_wp2
  go_loopg [5] k (fun kq v5 w' => ∃ (x5_1 : Int), v5 = .int .i64 x5_1 ∧ Aside0 (bytealg_LastIndexByteString.l0 kq a0 a1 x5_1 = some r) ∧ Aside0 (kq ≤ k) ∧ Drawn0 w w')
  case atStart => exact ⟨(wrap64 ((a0.size : Int) - 1)), (by first | rfl | (simp; done) | (simp [*]; done)), H', ⟨Nat.le_refl _⟩, by repeat (first | exact Drawn0.refl _ | apply Drawn0.step)⟩
  case round =>
    clear H'
    try clear c1
    try clear p2
    obtain ⟨x5_1, rfl, HA, HK1, ⟨m1, rfl⟩⟩ := hrel
    cases gk with
    | zero => exact absurd HA.out (by simp [bytealg_LastIndexByteString.l0])
    | succ k1 =>
      have H := HA.out
      clear HA
      simp only [bytealg_LastIndexByteString.l0] at H
      by_cases c3 : x5_1 ≥ 0
      · rw [if_pos c3] at H
        have c3b0 : decide (0 ≤ x5_1) = true := decide_eq_true c3
        clear c3
        by_cases c4 : 0 ≤ x5_1
        · rw [if_pos c4] at H
          have c4b0 : decide (0 ≤ x5_1) = true := decide_eq_true c4
          clear c4
          by_cases c5 : x5_1 < (a0.size : Int)
          · rw [if_pos c5] at H
            have c5b0 : decide (x5_1 < (a0.size : Int)) = true := decide_eq_true c5
            clear c5
            by_cases c7 : (bt a0 x5_1) = a1
            · rw [if_pos c7] at H
              have c7b0 : ((bt a0 x5_1) == a1) = true := beq_iff_eq.mpr c7
              have c7b1 : ((bt a0 x5_1) != a1) = false := bne_eq_false_iff_eq.mpr c7
              clear c7
              obtain rfl := Option.some.inj H
              have p6 : 0 ≤ (x5_1 : Int) := of_decide_eq_true (by first | (with_reducible assumption) | assumption)
              have q6 : x5_1 < (a0.size : Int) := of_decide_eq_true (by first | (with_reducible assumption) | assumption)
              have hx6 := bt_at a0 x5_1
              replace p6 := eq_true p6
              replace q6 := eq_true q6
              go_wp2
              go_ret
              exact ⟨by first | rfl | (simp; done) | (simp [*]; done), by repeat (first | exact Drawn0.refl _ | apply Drawn0.step)⟩
            · rw [if_neg c7] at H
              have c7b0 : ((bt a0 x5_1) == a1) = false := beq_eq_false_iff_ne.mpr c7
              have c7b1 : ((bt a0 x5_1) != a1) = true := bne_iff_ne.mpr c7
              have H' := Aside0.mk H
              clear H
              have p6 : 0 ≤ (x5_1 : Int) := of_decide_eq_true (by first | (with_reducible assumption) | assumption)
              have q6 : x5_1 < (a0.size : Int) := of_decide_eq_true (by first | (with_reducible assumption) | assumption)
              have hx6 := bt_at a0 x5_1
              replace p6 := eq_true p6
              replace q6 := eq_true q6
              go_wp2
              go_roundg k1
              case measure => have := HK1.out; omega
              case rel => exact ⟨(wrap64 (x5_1 - 1)), (by first | rfl | (simp; done) | (simp [*]; done)), H', ⟨by have := HK1.out; omega⟩, by repeat (first | exact Drawn0.refl _ | apply Drawn0.step)⟩
          · rw [if_neg c5] at H
            exact absurd H (by simp)
        · rw [if_neg c4] at H
          exact absurd H (by simp)
      · rw [if_neg c3] at H
        have c3b0 : decide (0 ≤ x5_1) = false := decide_eq_false c3
        clear c3
        obtain rfl := Option.some.inj H
        go_wp2
        go_ret
        exact ⟨by first | rfl | (simp; done) | (simp [*]; done), by repeat (first | exact Drawn0.refl _ | apply Drawn0.step)⟩

/-! ### path_Split: function 86 -/
def path_Split.f (k : Nat) (a0 : ByteArray) : Option (ByteArray × ByteArray) := (bytealg_LastIndexByteString.f k a0 47).bind fun t106 => (if 0 ≤ (wrap64 (t106 + 1)) then (if (wrap64 (t106 + 1)) ≤ (a0.size : Int) then (some (a0.extract 0 ((wrap64 (t106 + 1)) : Int).toNat, a0.extract ((wrap64 (t106 + 1)) : Int).toNat a0.size)) else (none)) else (none))
theorem path_Split.mono : ∀ a0 k, LeO (path_Split.f k a0) (path_Split.f (k + 1) a0) := by
  intro a0 k
  unfold path_Split.f
  repeat' first
      | (with_reducible exact bytealg_LastIndexByteString.mono _ _ _)
      | (with_reducible exact LeO.refl _)
      | (with_reducible exact LeO.none _)
      | (with_reducible refine LeO.ite ?_ ?_)
      | (with_reducible refine LeO.bind ?_ (fun _ => ?_))
      | exact bytealg_LastIndexByteString.mono _ _ _
      | exact LeO.none _
      | refine LeO.ite ?_ ?_
      | refine LeO.bind ?_ (fun _ => ?_)
set_option maxHeartbeats 8000000 in
set_option maxRecDepth 100000 in
theorem path_Split.calls (k : Nat) (a0 : ByteArray) (r1 : ByteArray) (r2 : ByteArray) (w : World) (h : path_Split.f k a0 = some (r1, r2)) :
    Calls Tryd.prog 86 #[.string a0] w fun e w' => e = .returned (.tuple #[.string r1, .string r2]) ∧ Drawn0 w w' := by
  have H : ((bytealg_LastIndexByteString.f k a0 47).bind fun t106 => (if 0 ≤ (wrap64 (t106 + 1)) then (if (wrap64 (t106 + 1)) ≤ (a0.size : Int) then (some (a0.extract 0 ((wrap64 (t106 + 1)) : Int).toNat, a0.extract ((wrap64 (t106 + 1)) : Int).toNat a0.size)) else (none)) else (none))) = some (r1, r2) := h
  clear h
  replace H := Option.bind_eq_some_iff.mp H
  obtain ⟨t106, A20, H⟩ := H
  replace H : (if 0 ≤ (wrap64 (t106 + 1)) then (if (wrap64 (t106 + 1)) ≤ (a0.size : Int) then (some (a0.extract 0 ((wrap64 (t106 + 1)) : Int).toNat, a0.extract ((wrap64 (t106 + 1)) : Int).toNat a0.size)) else (none)) else (none)) = some (r1, r2) := H
  have A2 := Aside0.mk A20
  clear A20
  obtain ⟨ji3, hji3⟩ : ∃ j_ : Int, (wrap64 (t106 + 1)) = j_ := ⟨_, rfl⟩
  replace H : (if 0 ≤ (ji3) then (if (ji3) ≤ (a0.size : Int) then (some (a0.extract 0 ((ji3) : Int).toNat, a0.extract ((ji3) : Int).toNat a0.size)) else (none)) else (none)) = some (r1, r2) := by first | (rw [hji3] at H; exact H) | (simp only [hji3] at H ⊢; exact H)
  (try rw [hji3] at A2)
  have hji3w : (IntKind.i64.wrap (t106 + 1)) = ji3 := (i64_w _).trans hji3
  by_cases c4 : 0 ≤ (ji3)
  · rw [if_pos c4] at H
    have c4b0 := eq_true c4
    have c4b1 : decide (0 ≤ (ji3)) = true := decide_eq_true c4
    clear c4
    by_cases c5 : (ji3) ≤ (a0.size : Int)
    · rw [if_pos c5] at H
      have c5b0 := eq_true c5
      have c5b1 : decide ((ji3) ≤ (a0.size : Int)) = true := decide_eq_true c5
      clear c5
      have c6b0 := eq_true (of_decide_eq_true (by first | (with_reducible assumption) | assumption) : 0 ≤ (ji3))
      have c7b0 := eq_true (of_decide_eq_true (by first | (with_reducible assumption) | assumption) : (ji3) ≤ (a0.size : Int))
      simp only [Option.some.injEq, Prod.mk.injEq] at H
      obtain ⟨rfl, rfl⟩ := H
      go_enter Tryd.func86, Tryd.ntmps86
      go_wp2_with (first | (go_at_call 104; (with_reducible refine (bytealg_LastIndexByteString.calls k a0 47 t106 _ A2.out).mono ?_); rintro e w' ⟨rfl, ⟨nd, rfl⟩⟩; (try first | exact ⟨rfl, _, World.drewN_drewN _ _ _⟩ | exact ⟨rfl, _, Eq.trans (World.drewN_drewN _ _ _) (congrArg (World.drewN _) (Nat.add_assoc _ _ _))⟩)))
      repeat (go_quiet (first | (go_at_call 104; (with_reducible refine (bytealg_LastIndexByteString.calls k a0 47 t106 _ A2.out).mono ?_); rintro e w' ⟨rfl, ⟨nd, rfl⟩⟩; (try first | exact ⟨rfl, _, World.drewN_drewN _ _ _⟩ | exact ⟨rfl, _, Eq.trans (World.drewN_drewN _ _ _) (congrArg (World.drewN _) (Nat.add_assoc _ _ _))⟩))); try go_wp2_with (first | (go_at_call 104; (with_reducible refine (bytealg_LastIndexByteString.calls k a0 47 t106 _ A2.out).mono ?_); rintro e w' ⟨rfl, ⟨nd, rfl⟩⟩; (try first | exact ⟨rfl, _, World.drewN_drewN _ _ _⟩ | exact ⟨rfl, _, Eq.trans (World.drewN_drewN _ _ _) (congrArg (World.drewN _) (Nat.add_assoc _ _ _))⟩))))
      go_ret2
      exact ⟨by first | rfl | (simp; done) | (simp only [← hji3] <;> (first | rfl | simp)) | (simp [*]; done), by repeat (first | exact Drawn0.refl _ | apply Drawn0.step)⟩
    · rw [if_neg c5] at H
      exact absurd H (by simp)
  · rw [if_neg c4] at H
    exact absurd H (by simp)

-- NOT PRINTED: function 87 (mem_FileInfo_Name)

-- NOT PRINTED: function 102 (mem_FileInfo_IsDir)

-- NOT PRINTED: function 100 (mem_FileInfo_Size)

-- NOT PRINTED: function 101 (mem_FileInfo_Mode)

-- NOT PRINTED: function 103 (mem_FileInfo_ModTime)

-- NOT PRINTED: function 80 (impl_fromInfo)

-- NOT PRINTED: function 48 (impl_fromInfos)

-- NOT PRINTED: function 49 (mem_File_Readdirnames)

-- NOT PRINTED: function 50 (mem_File_Stat)

-- NOT PRINTED: function 88 (mem_FileData_Name)

-- NOT PRINTED: function 51 (mem_File_Name)

-- NOT PRINTED: function 52 (mem_File_Sync)

-- NOT PRINTED: function 53 (impl_kind)

-- NOT PRINTED: function 27 (impl_on)

-- NOT PRINTED: function 28 (mem_FileData_DoorBytes)

-- NOT PRINTED: function 13 (impl_HandleScript)

end Go.Proofs.YtljcdjggjphedaaDoor.PFnHandleScript
