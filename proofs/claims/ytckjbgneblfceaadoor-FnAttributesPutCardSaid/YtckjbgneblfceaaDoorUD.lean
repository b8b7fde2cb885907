/- A part of the proof that FnAttributesPut answers true for all attributes, sizes and offsets. -/
import Derived.Test.YtckjbgneblfceaaDoorUB
import Derived.Test.YtckjbgneblfceaaDoorUC
import Derived.Lib.LazyBuf
import Derived.Handy
import Derived.Lib.QuoteBits
namespace Go.Proofs.YtckjbgneblfceaaDoor.PFnAttributesPut
open Go.Proofs.YtckjbgneblfceaaDoor.PFnFitFirst Go.RowKit Go.Proofs.YtckjbgneblfceaaDoorW.PrintWords Go.Proofs.YtckjbgneblfceaaDoorW.PrintLast Go.Proofs.YtckjbgneblfceaaDoorW.PrintMore
attribute [local go_sem] max2_int min2_int max_two min_two max_three min_three max_four min_four   -- for this text's walks alone
set_option linter.unusedVariables false
set_option linter.unusedSimpArgs false
theorem info5 : (Tryd.prog.info? 5).map (fun i => (i.zero, i.size, i.bytes)) = some (some (.int .u8 0), 1, 1) := by kernel_rfl
def spec_room.f (k : Nat) (a0_0 : ByteArray) (l0_1 : List Int) : Option (Int) := (spec_Prefixed.f k a0_0).bind fun bt132 => (some (wrap64 ((wrap64 (16 + (wrap64 ((wrap64 (Int.tdiv (wrap64 ((bt132.2.size : Int) + 3)) 4)) * 4)))) + (wrap64 ((wrap64 (Int.tdiv (wrap64 ((l0_1.length : Int) + 3)) 4)) * 4)))))
theorem spec_room.mono : ∀ a0 a1 k, LeO (spec_room.f k a0 a1) (spec_room.f (k + 1) a0 a1) := by
  intro a0 a1 k
  unfold spec_room.f
  repeat' first
      | (with_reducible exact spec_Prefixed.mono _ _)
      | (with_reducible exact LeO.refl _)
      | (with_reducible exact LeO.none _)
      | (with_reducible refine LeO.ite ?_ ?_)
      | (with_reducible refine LeO.bind ?_ (fun _ => ?_))
      | exact spec_Prefixed.mono _ _
      | exact LeO.none _
      | refine LeO.ite ?_ ?_
      | refine LeO.bind ?_ (fun _ => ?_)
set_option maxHeartbeats 8000000 in
set_option maxRecDepth 100000 in
theorem spec_room.calls (k : Nat) (a0_0 : ByteArray) (A0_1 : Option Addr) (c0_1 : Nat) (l0_1 : List Int) (r : Int) (w : World) (hr0_1 : Kd.C (Kd.int .u8) w A0_1 l0_1.length l0_1) (hc0_1 : l0_1.length ≤ c0_1) (h : spec_room.f k a0_0 l0_1 = some r) :
    Calls Tryd.prog 39 #[.agg #[.string a0_0, .slice A0_1 l0_1.length c0_1]] w fun e w' => e = .returned (.int .i64 r) ∧ Below w.heap.size w w' := by
  have hu70 := Tryd.underlying70
  have HR0_1 := Aside0.mk hr0_1
  have HC0_1 := Aside0.mk hc0_1
  clear hr0_1 hc0_1
  have HB := Aside0.mk (Below.refl w.heap.size w)
  have H : ((spec_Prefixed.f k a0_0).bind fun bt132 => (some (wrap64 ((wrap64 (16 + (wrap64 ((wrap64 (Int.tdiv (wrap64 ((bt132.2.size : Int) + 3)) 4)) * 4)))) + (wrap64 ((wrap64 (Int.tdiv (wrap64 ((l0_1.length : Int) + 3)) 4)) * 4)))))) = some r := h
  clear h
  replace H := Option.bind_eq_some_iff.mp H
  obtain ⟨⟨t132, t133⟩, A20, H⟩ := H
  replace H : (some (wrap64 ((wrap64 (16 + (wrap64 ((wrap64 (Int.tdiv (wrap64 ((t133.size : Int) + 3)) 4)) * 4)))) + (wrap64 ((wrap64 (Int.tdiv (wrap64 ((l0_1.length : Int) + 3)) 4)) * 4))))) = some r := H
  have A2 := Aside0.mk A20
  clear A20
  obtain rfl := Option.some.inj H
  go_enter Tryd.func39, Tryd.ntmps39
  go_wp2_with (first | ((with_reducible refine gate_dst (N := 1) rfl ?_); refine box_event ?hg (N := 1) ?hd (cs := #[.string a0_0, .slice A0_1 l0_1.length c0_1]) (t := 70) ?hr ?_; (case hd => rfl); (case hg => rfl); (case hr => first | (go_simp; done) | (go_simp; rfl)); intro gb131 hg w3 hbox hb; have n0_ := Aside0.mk (below_step (by repeat (first | (with_reducible first | exact HB.out | apply below_alloc | apply pw_below_drewN | apply below_drew1) | exact HB.out)) hb); have n1_ := Aside0.mk (hbox); have n2_ := Aside0.mk ((by rw [hg]; exact (below_size (by repeat (first | (with_reducible first | exact HB.out | apply below_alloc | apply pw_below_drewN | apply below_drew1) | exact HB.out))) : w.heap.size ≤ gb131)); have n3_ := Aside0.mk ((by rw [hg]; exact (below_size (by repeat (first | (with_reducible first | exact HB.out | apply below_alloc | apply pw_below_drewN | apply below_drew1) | exact HB.out))) : w.heap.size ≤ gb131)); clear HB; have HB := n0_; have BK131 := n1_; have GW131 := n2_; have GE131 := n3_; clear n0_ n1_ n2_ n3_; clear hb hbox hg; have hcz4_0 : w3.cell? ⟨gb131, 0, none⟩ = some (.string a0_0) := (blk_cell BK131.out 0).trans rfl; have hcz4_1 : w3.cell? ⟨gb131, 1, none⟩ = some (.slice A0_1 l0_1.length c0_1) := (blk_cell BK131.out 1).trans rfl; have hfz4_0 := blk_frozen BK131.out 0; have hfz4_1 := blk_frozen BK131.out 1) | ((with_reducible refine gate_callee (f := 27) rfl ?_); refine goesL_ (some 8) rfl rfl Tryd.func27 (by kernel_rfl) rfl #[.string a0_0] rfl (by (try simp only [List.map_toArray, List.map_cons, List.map_nil]); first | done | rfl | (simp only [List.length_drop, List.length_take]; rfl)) ?_; (with_reducible refine (spec_Prefixed.calls k a0_0 t132 t133 _ A2.out).mono ?_); rintro e w5 ⟨rfl, hb⟩; refine ⟨_, rfl, ?_⟩; have n0_ := Aside0.mk (blk_below (g := gb131) (o := .cells #[.string a0_0, .slice A0_1 l0_1.length c0_1] 70 (0, 0)) (by (with_reducible repeat (first | refine blk_drewN ?_ _ | refine blk_drew ?_ | refine blk_alloc ?_ _)); exact BK131.out) hb); have n1_ := Aside0.mk (below_step (by repeat (first | (with_reducible first | exact HB.out | apply below_alloc | apply pw_below_drewN | apply below_drew1 | refine below_set ?_ GE131.out) | exact HB.out)) hb); clear BK131; clear HB; have BK131 := n0_; have HB := n1_; clear n0_ n1_; (try clear hb); (try clear hb2); (try clear hk); (try clear hi); have hcz6_0 : w5.cell? ⟨gb131, 0, none⟩ = some (.string a0_0) := (blk_cell BK131.out 0).trans rfl; have hcz6_1 : w5.cell? ⟨gb131, 1, none⟩ = some (.slice A0_1 l0_1.length c0_1) := (blk_cell BK131.out 1).trans rfl; have hfz6_0 := blk_frozen BK131.out 0; have hfz6_1 := blk_frozen BK131.out 1))
  go_ret
  exact ⟨by first | rfl | (simp [errW_none, errW_some] <;> rfl) | (simp [*, errW_none, errW_some] <;> rfl), by repeat (first | (with_reducible first | exact HB.out | apply below_alloc | apply pw_below_drewN | apply below_drew1 | refine below_set ?_ GE131.out) | exact HB.out)⟩
def spec_Rooms.l0 : Nat → Int → List (S70) → Int → Int → Option (Int)
  | 0, _, _, _, _ => none
  | k + 1, x3, x6, x7, x8 => if x8 < x7 then (if 0 ≤ x8 then (if x8 < (x6.length : Int) then ((spec_room.f k ((rd_T70 x6 x8).f0) ((rd_T70 x6 x8).f1)).bind fun t136 => (spec_Rooms.l0 k (wrap64 (x3 + t136)) x6 x7 (wrap64 (x8 + 1)))) else (none)) else (none)) else (some x3)
def spec_Rooms.f (k : Nat) (l0 : List (S70)) : Option (Int) := spec_Rooms.l0 k 0 l0 (l0.length : Int) 0
theorem spec_Rooms.mono_l : ∀ k, (∀ y0 y1 y2 y3, LeO (spec_Rooms.l0 k y0 y1 y2 y3) (spec_Rooms.l0 (k + 1) y0 y1 y2 y3))
  | 0 => fun _ _ _ _ r h => by simp [spec_Rooms.l0] at h
  | k + 1 => by
    have ih0 := spec_Rooms.mono_l k
    · intro y0 y1 y2 y3
      unfold spec_Rooms.l0
      repeat' first
      | (with_reducible exact ih0 _ _ _ _)
      | (with_reducible exact spec_room.mono _ _ _)
      | (with_reducible exact LeO.refl _)
      | (with_reducible exact LeO.none _)
      | (with_reducible refine LeO.ite ?_ ?_)
      | (with_reducible refine LeO.bind ?_ (fun _ => ?_))
      | exact ih0 _ _ _ _
      | exact spec_room.mono _ _ _
      | exact LeO.none _
      | refine LeO.ite ?_ ?_
      | refine LeO.bind ?_ (fun _ => ?_)
theorem spec_Rooms.mono : ∀ a0 k, LeO (spec_Rooms.f k a0) (spec_Rooms.f (k + 1) a0) := by
  intro a0 k
  have ih0 := spec_Rooms.mono_l k
  unfold spec_Rooms.f
  repeat' first
      | (with_reducible exact ih0 _ _ _ _)
      | (with_reducible exact spec_room.mono _ _ _)
      | (with_reducible exact LeO.refl _)
      | (with_reducible exact LeO.none _)
      | (with_reducible refine LeO.ite ?_ ?_)
      | (with_reducible refine LeO.bind ?_ (fun _ => ?_))
      | exact ih0 _ _ _ _
      | exact spec_room.mono _ _ _
      | exact LeO.none _
      | refine LeO.ite ?_ ?_
      | refine LeO.bind ?_ (fun _ => ?_)
set_option maxHeartbeats 8000000 in
set_option maxRecDepth 100000 in
theorem spec_Rooms.calls (k : Nat) (A0 : Option Addr) (c0 : Nat) (l0 : List (S70)) (r : Int) (w : World) (hr0 : Kd.C k70 w A0 l0.length l0) (hc0 : l0.length ≤ c0) (h : spec_Rooms.f k l0 = some r) :
    Calls Tryd.prog 18 #[.slice A0 l0.length c0] w fun e w' => e = .returned (.int .i64 r) ∧ Below w.heap.size w w' := by
  have hu70 := Tryd.underlying70
  have HR0 := Aside0.mk hr0
  have HC0 := Aside0.mk hc0
  clear hr0 hc0
  have HB := Aside0.mk (Below.refl w.heap.size w)
  have H : (spec_Rooms.l0 k 0 l0 (l0.length : Int) 0) = some r := h
  clear h
  have H' := Aside0.mk H
  clear H
  go_enter Tryd.func18, Tryd.ntmps18
  go_wp2
  go_loopg [3, 8] k (fun kq v3 v8 w' => ∃ (x3_1 : Int) (x8_1 : Int), v3 = .int .i64 x3_1 ∧ v8 = .int .i64 x8_1 ∧ Aside0 (spec_Rooms.l0 kq x3_1 l0 (l0.length : Int) x8_1 = some r) ∧ Aside0 (kq ≤ k) ∧ Aside0 (Below w.heap.size w w'))
  case atStart => exact ⟨(0), (0), (by first | rfl | (simp; done) | (simp [*]; done)), (by first | rfl | (simp; done) | (simp [*]; done)), H', ⟨Nat.le_refl _⟩, ⟨by repeat (first | (with_reducible first | exact HB.out | apply below_alloc | apply pw_below_drewN | apply below_drew1) | exact HB.out)⟩⟩
  case round =>
    clear H'
    try clear c1
    obtain ⟨x3_1, x8_1, rfl, rfl, HA, HK1, HB⟩ := hrel
    cases gk with
    | zero => exact absurd HA.out (by simp [spec_Rooms.l0])
    | succ k1 =>
      have H := HA.out
      clear HA
      simp only [spec_Rooms.l0] at H
      by_cases c2 : x8_1 < (l0.length : Int)
      · rw [if_pos c2] at H
        have c2b0 : decide (x8_1 < (l0.length : Int)) = true := decide_eq_true c2
        clear c2
        by_cases c3 : 0 ≤ x8_1
        · rw [if_pos c3] at H
          have c3b0 : decide (0 ≤ x8_1) = true := decide_eq_true c3
          clear c3
          by_cases c4 : x8_1 < (l0.length : Int)
          · rw [if_pos c4] at H
            have c4b0 : decide (x8_1 < (l0.length : Int)) = true := decide_eq_true c4
            clear c4
            replace H := Option.bind_eq_some_iff.mp H
            obtain ⟨t136, A50, H⟩ := H
            replace H : (spec_Rooms.l0 k1 (wrap64 (x3_1 + t136)) l0 (l0.length : Int) (wrap64 (x8_1 + 1))) = some r := H
            have A5 := Aside0.mk A50
            clear A50
            have H' := Aside0.mk H
            clear H
            have p134 : 0 ≤ (x8_1 : Int) := of_decide_eq_true (by first | (with_reducible assumption) | assumption)
            have q134 : x8_1 < (l0.length : Int) := of_decide_eq_true (by first | (with_reducible assumption) | assumption)
            obtain ⟨ad134, A134_1, c134_1, e134, hx134_0, hx134_1, hl134_1, hi134_1⟩ := at_T70 HR0.out x8_1 p134 q134
            cases e134
            replace hx134_0 := (HB.out.cell (World.block_lt_of_cell? w _ hx134_0)).trans hx134_0
            replace hx134_1 := (HB.out.cell (World.block_lt_of_cell? w _ hx134_1)).trans hx134_1
            have HR134_1 := Aside0.mk hi134_1
            have HC134_1 := Aside0.mk hl134_1
            clear hi134_1 hl134_1
            replace p134 := eq_true p134
            replace q134 := eq_true q134
            go_wp2_with (first | ((with_reducible refine gate_dst (N := 5) rfl ?_); refine box_event ?hg (N := 5) ?hd (cs := #[.string (⟨#[]⟩ : ByteArray), .slice none 0 0]) (t := 70) ?hr ?_; (case hd => rfl); (case hg => rfl); (case hr => first | (go_simp; done) | (go_simp; rfl)); intro gb135 hg w6 hbox hb; have n0_ := Aside0.mk (below_step (by repeat (first | (with_reducible first | exact HB.out | apply below_alloc | apply pw_below_drewN | apply below_drew1) | exact HB.out)) hb); have n1_ := Aside0.mk (hbox); have n2_ := Aside0.mk ((by rw [hg]; exact (below_size (by repeat (first | (with_reducible first | exact HB.out | apply below_alloc | apply pw_below_drewN | apply below_drew1) | exact HB.out))) : w.heap.size ≤ gb135)); have n3_ := Aside0.mk ((by rw [hg]; exact (below_size (by repeat (first | (with_reducible first | exact HB.out | apply below_alloc | apply pw_below_drewN | apply below_drew1) | exact HB.out))) : w.heap.size ≤ gb135)); clear HB; have HB := n0_; have BK135 := n1_; have GW135 := n2_; have GE135 := n3_; clear n0_ n1_ n2_ n3_; clear hb hbox hg; have hcz7_0 : w6.cell? ⟨gb135, 0, none⟩ = some (.string (⟨#[]⟩ : ByteArray)) := (blk_cell BK135.out 0).trans rfl; have hcz7_1 : w6.cell? ⟨gb135, 1, none⟩ = some (.slice none 0 0) := (blk_cell BK135.out 1).trans rfl; have hfz7_0 := blk_frozen BK135.out 0; have hfz7_1 := blk_frozen BK135.out 1) | ((with_reducible refine gate_callee (f := 39) rfl ?_); refine goesL_ (some 14) rfl rfl Tryd.func39 (by kernel_rfl) rfl #[.agg #[.string ((rd_T70 l0 x8_1).f0), .slice A134_1 ((rd_T70 l0 x8_1).f1).length c134_1]] rfl (by (try simp only [List.map_toArray, List.map_cons, List.map_nil]); first | done | rfl | (simp only [List.length_drop, List.length_take]; rfl)) ?_; (with_reducible refine (spec_room.calls k1 ((rd_T70 l0 x8_1).f0) _ _ ((rd_T70 l0 x8_1).f1) t136 _ ?side1 ?side2 A5.out).mono ?_); (case side1 => exact Kd.C_below HR134_1.out (by repeat (first | (with_reducible first | exact HB.out | apply below_alloc | apply pw_below_drewN | apply below_drew1 | refine below_set ?_ GE135.out) | exact HB.out))); (case side2 => exact HC134_1.out); rintro e w8 ⟨rfl, hb⟩; refine ⟨_, rfl, ?_⟩; have n0_ := Aside0.mk (blk_below (g := gb135) (o := .cells #[.string ((rd_T70 l0 x8_1).f0), .slice A134_1 ((rd_T70 l0 x8_1).f1).length c134_1] 70 (0, 0)) (by (with_reducible repeat (first | refine blk_drewN ?_ _ | refine blk_drew ?_ | refine blk_alloc ?_ _)); refine blk_put (cs := #[.string ((rd_T70 l0 x8_1).f0), .slice none 0 0]) ?_ 1 _ rfl; (with_reducible repeat (first | refine blk_drewN ?_ _ | refine blk_drew ?_ | refine blk_alloc ?_ _)); refine blk_put (cs := #[.string (⟨#[]⟩ : ByteArray), .slice none 0 0]) ?_ 0 _ rfl; (with_reducible repeat (first | refine blk_drewN ?_ _ | refine blk_drew ?_ | refine blk_alloc ?_ _)); exact BK135.out) hb); have n1_ := Aside0.mk (below_step (by repeat (first | (with_reducible first | exact HB.out | apply below_alloc | apply pw_below_drewN | apply below_drew1 | refine below_set ?_ GE135.out) | exact HB.out)) hb); clear BK135; clear HB; have BK135 := n0_; have HB := n1_; clear n0_ n1_; (try clear hb); (try clear hb2); (try clear hk); (try clear hi)))
            go_roundg k1
            case measure => have := HK1.out; omega
            case rel => exact ⟨(wrap64 (x3_1 + t136)), (wrap64 (x8_1 + 1)), (by first | rfl | (simp; done) | (simp [*]; done)), (by first | rfl | (simp; done) | (simp [*]; done)), H', ⟨by have := HK1.out; omega⟩, ⟨by repeat (first | (with_reducible first | exact HB.out | apply below_alloc | apply pw_below_drewN | apply below_drew1 | refine below_set ?_ GE135.out) | exact HB.out)⟩⟩
          · rw [if_neg c4] at H
            exact absurd H (by simp)
        · rw [if_neg c3] at H
          exact absurd H (by simp)
      · rw [if_neg c2] at H
        have c2b0 : decide (x8_1 < (l0.length : Int)) = false := decide_eq_false c2
        clear c2
        obtain rfl := Option.some.inj H
        go_wp2
        go_ret
        exact ⟨by first | rfl | (simp [errW_none, errW_some] <;> rfl) | (simp [*, errW_none, errW_some] <;> rfl), by repeat (first | (with_reducible first | exact HB.out | apply below_alloc | apply pw_below_drewN | apply below_drew1) | exact HB.out)⟩
def compactext4_get32.f (l0 : List Int) : Option (Int) := if 0 < (l0.length : Int) then (if 1 < (l0.length : Int) then (if 2 < (l0.length : Int) then (if 3 < (l0.length : Int) then (some (Go.bits .or .u32 (Go.bits .or .u32 (Go.bits .or .u32 ((rd l0 0) % 4294967296) ((((rd l0 1) % 4294967296) * 256) % 4294967296)) ((((rd l0 2) % 4294967296) * 65536) % 4294967296)) ((((rd l0 3) % 4294967296) * 16777216) % 4294967296))) else (none)) else (none)) else (none)) else (none)
set_option maxHeartbeats 8000000 in
set_option maxRecDepth 100000 in
theorem compactext4_get32.calls (A0 : Option Addr) (c0 : Nat) (l0 : List Int) (r : Int) (w : World) (hr0 : Kd.C (Kd.int .u8) w A0 l0.length l0) (hc0 : l0.length ≤ c0) (h : compactext4_get32.f l0 = some r) :
    Calls Tryd.prog 75 #[.slice A0 l0.length c0] w fun e w' => e = .returned (.int .u32 r) ∧ Drawn0 w w' := by
  have HR0 := Aside0.mk hr0
  have HC0 := Aside0.mk hc0
  clear hr0 hc0
  have H : (if 0 < (l0.length : Int) then (if 1 < (l0.length : Int) then (if 2 < (l0.length : Int) then (if 3 < (l0.length : Int) then (some (Go.bits .or .u32 (Go.bits .or .u32 (Go.bits .or .u32 ((rd l0 0) % 4294967296) ((((rd l0 1) % 4294967296) * 256) % 4294967296)) ((((rd l0 2) % 4294967296) * 65536) % 4294967296)) ((((rd l0 3) % 4294967296) * 16777216) % 4294967296))) else (none)) else (none)) else (none)) else (none)) = some r := h
  clear h
  by_cases c2 : 0 < (l0.length : Int)
  · rw [if_pos c2] at H
    have c2b0 : decide (0 < (l0.length : Int)) = true := decide_eq_true c2
    have c2b1 : decide (0 < l0.length) = true := decide_eq_true (by omega)
    clear c2
    by_cases c3 : 1 < (l0.length : Int)
    · rw [if_pos c3] at H
      have c3b0 : decide (1 < (l0.length : Int)) = true := decide_eq_true c3
      have c3b1 : decide (1 < l0.length) = true := decide_eq_true (by omega)
      clear c3
      by_cases c4 : 2 < (l0.length : Int)
      · rw [if_pos c4] at H
        have c4b0 : decide (2 < (l0.length : Int)) = true := decide_eq_true c4
        have c4b1 : decide (2 < l0.length) = true := decide_eq_true (by omega)
        clear c4
        by_cases c5 : 3 < (l0.length : Int)
        · rw [if_pos c5] at H
          have c5b0 : decide (3 < (l0.length : Int)) = true := decide_eq_true c5
          have c5b1 : decide (3 < l0.length) = true := decide_eq_true (by omega)
          clear c5
          obtain rfl := Option.some.inj H
          have p151 : 0 ≤ (0 : Int) := (by omega)
          have q151 : 0 < (l0.length : Int) := of_decide_eq_true (by first | (with_reducible assumption) | assumption)
          obtain ⟨ad151, e151, hx151_0⟩ := Kd.at_int HR0.out 0 p151 q151
          cases e151
          have qi151 : (0 < l0.length) = True := eq_true (by omega)
          (try rw [show ((0 : Int)).toNat = 0 from rfl] at hx151_0)
          (try rw [Addr.add_zero'] at hx151_0)
          replace p151 := eq_true p151
          replace q151 := eq_true q151
          have p152 : 0 ≤ (1 : Int) := (by omega)
          have q152 : 1 < (l0.length : Int) := of_decide_eq_true (by first | (with_reducible assumption) | assumption)
          obtain ⟨ad152, e152, hx152_0⟩ := Kd.at_int HR0.out 1 p152 q152
          obtain rfl : ad151 = ad152 := (by injection e152)
          (try simp only [show (1 : Int).toNat = 1 from rfl, Nat.reduceMul, Nat.reduceEqDiff, Go.Addr.add, ↓reduceIte] at hx152_0)
          have qi152 : (1 < l0.length) = True := eq_true (by omega)
          (try rw [show ((1 : Int)).toNat = 1 from rfl] at hx152_0)
          replace p152 := eq_true p152
          replace q152 := eq_true q152
          have p153 : 0 ≤ (2 : Int) := (by omega)
          have q153 : 2 < (l0.length : Int) := of_decide_eq_true (by first | (with_reducible assumption) | assumption)
          obtain ⟨ad153, e153, hx153_0⟩ := Kd.at_int HR0.out 2 p153 q153
          obtain rfl : ad151 = ad153 := (by injection e153)
          (try simp only [show (2 : Int).toNat = 2 from rfl, Nat.reduceMul, Nat.reduceEqDiff, Go.Addr.add, ↓reduceIte] at hx153_0)
          have qi153 : (2 < l0.length) = True := eq_true (by omega)
          (try rw [show ((2 : Int)).toNat = 2 from rfl] at hx153_0)
          replace p153 := eq_true p153
          replace q153 := eq_true q153
          have p154 : 0 ≤ (3 : Int) := (by omega)
          have q154 : 3 < (l0.length : Int) := of_decide_eq_true (by first | (with_reducible assumption) | assumption)
          obtain ⟨ad154, e154, hx154_0⟩ := Kd.at_int HR0.out 3 p154 q154
          obtain rfl : ad151 = ad154 := (by injection e154)
          (try simp only [show (3 : Int).toNat = 3 from rfl, Nat.reduceMul, Nat.reduceEqDiff, Go.Addr.add, ↓reduceIte] at hx154_0)
          have qi154 : (3 < l0.length) = True := eq_true (by omega)
          (try rw [show ((3 : Int)).toNat = 3 from rfl] at hx154_0)
          replace p154 := eq_true p154
          replace q154 := eq_true q154
          go_enter Tryd.func75, Tryd.ntmps75
          go_wp2
          repeat (go_quiet (fail); try go_wp2)
          go_ret
          exact ⟨by first | rfl | (simp; done) | (simp [*]; done), by repeat (first | exact Drawn0.refl _ | apply Drawn0.step)⟩
        · rw [if_neg c5] at H
          exact absurd H (by simp)
      · rw [if_neg c4] at H
        exact absurd H (by simp)
    · rw [if_neg c3] at H
      exact absurd H (by simp)
  · rw [if_neg c2] at H
    exact absurd H (by simp)
def laws_dup.f (l0 : List Int) : Option (List Int) := (some (([] : List Int) : List Int)).bind fun y169 => (if y169.length + l0.length < 140737488355328 then (some (y169 ++ l0)) else (none))
set_option maxHeartbeats 8000000 in
set_option maxRecDepth 100000 in
theorem laws_dup.calls (A0 : Option Addr) (c0 : Nat) (l0 : List Int) (r : List Int) (w : World) (hr0 : Kd.C (Kd.int .u8) w A0 l0.length l0) (hc0 : l0.length ≤ c0) (h : laws_dup.f l0 = some r) :
    Calls Tryd.prog 14 #[.slice A0 l0.length c0] w fun e w' => ∃ v0_ : Value, e = .returned (v0_) ∧ Kd.R (Kd.int .u8) 5 w' w.heap.size (fun _ => True) v0_ r ∧ Below w.heap.size w w' := by
  have HR0 := Aside0.mk hr0
  have HC0 := Aside0.mk hc0
  clear hr0 hc0
  have HB := Aside0.mk (Below.refl w.heap.size w)
  have H : ((some (([] : List Int) : List Int)).bind fun y169 => (if y169.length + l0.length < 140737488355328 then (some (y169 ++ l0)) else (none))) = some r := h
  clear h
  obtain ⟨y169, hy169⟩ : ∃ y_ : List Int, y_ = (([] : List Int)) := ⟨_, rfl⟩
  replace H : (if y169.length + l0.length < 140737488355328 then (some (y169 ++ l0)) else (none)) = some r := by first | (rw [hy169]; with_reducible exact H) | (have H2_ := (Option.bind_some _ _).symm.trans H; rw [hy169]; with_reducible exact H2_) | (have H2_ := (Option.bind_some _ _).symm.trans H; with_reducible exact H2_) | with_reducible exact H | (rw [hy169]; exact H) | exact H
  have Ny169 := Aside0.mk hy169
  clear hy169
  by_cases c2 : y169.length + l0.length < 140737488355328
  · rw [if_pos c2] at H
    have LMc2 := Aside0.mk c2
    clear c2
    obtain ⟨y172, hy172⟩ : ∃ y_ : List Int, y_ = (y169 ++ l0) := ⟨_, rfl⟩
    replace H : (some y172) = some r := by first | (rw [hy172]; with_reducible exact H) | (have H2_ := (Option.bind_some _ _).symm.trans H; rw [hy172]; with_reducible exact H2_) | (have H2_ := (Option.bind_some _ _).symm.trans H; with_reducible exact H2_) | with_reducible exact H | (rw [hy172]; exact H) | exact H
    have Ny172 := Aside0.mk hy172
    clear hy172
    obtain rfl := Option.some.inj H
    go_enter Tryd.func14, Tryd.ntmps14
    go_wp2_with (first | ((with_reducible refine gate_dst (N := 3) rfl ?_); refine Kd.R_lit (Kd.int .u8) _ 5 ?hg (N := 3) ?hd (xs := ([] : List Int)) (inner := []) (ok := fun _ => True) (okp := fun _ => True) ?hr ?hp (fun _ hk => hk) trivial (Below.refl _ _) (Nat.le_refl _) (by simp) ?_; (case hd => rfl); (case hg => rfl); (case hr => first | (go_simp; done) | (go_simp; rfl)); (case hp => exact (Reps.none _ _)); intro v170 w3 ho4 hb hg_ hnew_; clear hg_ hnew_; (first | rw [← Ny169.out] at ho4 | (simp only [Int.reduceToNat] at ho4; rw [← Ny169.out] at ho4)); have n0_ := Aside0.mk (Kd.R_lower ho4 (below_size (by repeat (first | (with_reducible first | exact HB.out | apply below_alloc | apply pw_below_drewN | apply below_drew1) | exact HB.out)))); have n1_ := Aside0.mk (below_step (by repeat (first | (with_reducible first | exact HB.out | apply below_alloc | apply pw_below_drewN | apply below_drew1) | exact HB.out)) hb); clear HB; have HO171 := n0_; have HB := n1_; clear n0_ n1_; clear hb ho4) | ((with_reducible refine gate_builtin (b := .append) (xs := #[.tmp 3, .tmp 4]) rfl ?_); at_builtin; refine Kd.R_append_rows (Kd.int .u8) (w0 := w) w.heap.size rfl (.tmp 3) (.tmp 4) 33 5 (.int .u8 0) 1 rfl Tryd.underlying33 info5 rfl (by decide) (by omega) v170 y169 l0 _ _ _ (fun _ => True) (fun _ => False) rfl rfl ?aO ?aR (fun _ _ h => h) (fun _ h => h.elim) ?aF ?aB ?aS ?aL ?_; (case aR => repeat (first | exact (Kd.C_below HR0.out HB.out) | (with_reducible refine Kd.C_alloc ?_ _) | (with_reducible refine Kd.C_drewN ?_ _) | (with_reducible refine Kd.C_drew ?_))); (case aB => exact (by repeat (first | (with_reducible first | exact HB.out | apply below_alloc | apply pw_below_drewN | apply below_drew1) | exact HB.out))); (case aF => exact (fun _ _ => trivial)); (case aO => exact (by (with_reducible repeat (first | apply Kd.R_alloc | apply Kd.R_drewN | apply Kd.R_drew)); exact HO171.out)); (case aS => exact (below_size (by repeat (first | (with_reducible first | exact HB.out | apply below_alloc | apply pw_below_drewN | apply below_drew1) | exact HB.out)))); (case aL => have := LMc2.out; omega); intro v173 w5 ho hb hg hat; rw [← Ny172.out] at ho; have n0_ := Aside0.mk (hb); have n1_ := Aside0.mk (ho); clear HB; clear HO171; have HB := n0_; have HO174 := n1_; clear n0_ n1_; clear ho hb hg hat))
    go_ret
    exact ⟨_, by first | rfl | (simp [errW_none, errW_some] <;> rfl) | (simp [*, errW_none, errW_some] <;> rfl), by (with_reducible repeat (first | apply Kd.R_alloc | apply Kd.R_drewN | apply Kd.R_drew)); exact HO174.out, by repeat (first | (with_reducible first | exact HB.out | apply below_alloc | apply pw_below_drewN | apply below_drew1) | exact HB.out)⟩
  · rw [if_neg c2] at H
    exact absurd H (by simp)
def laws_dupXattrs.l0 : Nat → List (S58) → List (S58) → Int → Int → Option ((List (S58)))
  | 0, _, _, _, _ => none
  | k + 1, x3, x6, x7, x8 => if x8 < x7 then (if 0 ≤ x8 then (if x8 < (x6.length : Int) then ((laws_dup.f ((rd_T58 x6 x8).f1)).bind fun t177 => (if x3.length < 3518437208883 then (laws_dupXattrs.l0 k (x3 ++ [(⟨(rd_T58 x6 x8).f0, t177⟩ : S58)]) x6 x7 (wrap64 (x8 + 1))) else (none))) else (none)) else (none)) else (some x3)
def laws_dupXattrs.f (k : Nat) (l0 : List (S58)) : Option ((List (S58))) := laws_dupXattrs.l0 k ([] : List (S58)) l0 (l0.length : Int) 0
theorem laws_dupXattrs.mono_l : ∀ k, (∀ y0 y1 y2 y3, LeO (laws_dupXattrs.l0 k y0 y1 y2 y3) (laws_dupXattrs.l0 (k + 1) y0 y1 y2 y3))
  | 0 => fun _ _ _ _ r h => by simp [laws_dupXattrs.l0] at h
  | k + 1 => by
    have ih0 := laws_dupXattrs.mono_l k
    · intro y0 y1 y2 y3
      unfold laws_dupXattrs.l0
      repeat' first
      | (with_reducible exact ih0 _ _ _ _)
      | (with_reducible exact LeO.refl _)
      | (with_reducible exact LeO.none _)
      | (with_reducible refine LeO.ite ?_ ?_)
      | (with_reducible refine LeO.bind ?_ (fun _ => ?_))
      | exact ih0 _ _ _ _
      | exact LeO.none _
      | refine LeO.ite ?_ ?_
      | refine LeO.bind ?_ (fun _ => ?_)
theorem laws_dupXattrs.mono : ∀ a0 k, LeO (laws_dupXattrs.f k a0) (laws_dupXattrs.f (k + 1) a0) := by
  intro a0 k
  have ih0 := laws_dupXattrs.mono_l k
  unfold laws_dupXattrs.f
  repeat' first
      | (with_reducible exact ih0 _ _ _ _)
      | (with_reducible exact LeO.refl _)
      | (with_reducible exact LeO.none _)
      | (with_reducible refine LeO.ite ?_ ?_)
      | (with_reducible refine LeO.bind ?_ (fun _ => ?_))
      | exact ih0 _ _ _ _
      | exact LeO.none _
      | refine LeO.ite ?_ ?_
      | refine LeO.bind ?_ (fun _ => ?_)
def laws_dupXattrs.T5 : Bool × List (List Nat × List Nat) := (true, [([], []), ([], []), ([1], [1]), ([], []), ([3], [3]), ([4], [4]), ([2, 5], [2, 5]), ([6], [6]), ([0, 7, 5], [0, 7]), ([8, 8, 0, 1, 2, 3, 4, 5, 6, 7, 8], [0, 8])])
def laws_dupXattrs.B5 : List Nat := [0, 0, 2, 0, 8, 24, 62, 126, 255, 511]
theorem laws_dupXattrs.tab5 : rtab .any (opsOf Tryd.f20 5) = laws_dupXattrs.T5 := by kernel_rfl
theorem laws_dupXattrs.bits5 : waitsOk laws_dupXattrs.T5.2 laws_dupXattrs.B5 = true := by kernel_rfl
set_option maxHeartbeats 8000000 in
set_option maxRecDepth 100000 in
theorem laws_dupXattrs.calls (k : Nat) (A0 : Option Addr) (c0 : Nat) (l0 : List (S58)) (r : List (S58)) (w : World) (hr0 : Kd.C k58 w A0 l0.length l0) (hc0 : l0.length ≤ c0) (h : laws_dupXattrs.f k l0 = some r) :
    Calls Tryd.prog 20 #[.slice A0 l0.length c0] w fun e w' => ∃ v0_ : Value, e = .returned (v0_) ∧ Kd.S k58 58 w' w.heap.size (fun _ => True) v0_ r ∧ Below w.heap.size w w' := by
  have hu58 := Tryd.underlying58
  have HR0 := Aside0.mk hr0
  have HC0 := Aside0.mk hc0
  clear hr0 hc0
  have HB := Aside0.mk (Below.refl w.heap.size w)
  have H : (laws_dupXattrs.l0 k ([] : List (S58)) l0 (l0.length : Int) 0) = some r := h
  clear h
  have H' := Aside0.mk H
  clear H
  go_enter Tryd.func20, Tryd.ntmps20
  go_wp2
  go_loopg [3, 8] k (fun kq v3 v8 w' => ∃ (x3_1 : List (S58)) (x8_1 : Int), v8 = .int .i64 x8_1 ∧ Aside0 (laws_dupXattrs.l0 kq x3_1 l0 (l0.length : Int) x8_1 = some r) ∧ Aside0 (kq ≤ k) ∧ Aside0 (Kd.S k58 58 w' w.heap.size (fun _ => True) v3 x3_1) ∧ Aside0 (Below w.heap.size w w'))
  case atStart => exact ⟨(([] : List (S58))), (0), (by first | rfl | (simp; done) | (simp [*]; done)), H', ⟨Nat.le_refl _⟩, ⟨by first | exact Kd.S_nil _ _ _ _ _ | exact Kd.N_nil _ _ _ _ _ | exact Kd.V_nil _ _ _ _ _ | exact Kd.Q_nil _ _ _ _ _ | exact Kd.R_nil _ _ _ _ _⟩, ⟨by repeat (first | (with_reducible first | exact HB.out | apply below_alloc | apply pw_below_drewN | apply below_drew1) | exact HB.out)⟩⟩
  case round =>
    clear H'
    obtain ⟨x3_1, x8_1, rfl, HA, HK1, HO_3, HB⟩ := hrel
    cases gk with
    | zero => exact absurd HA.out (by simp [laws_dupXattrs.l0])
    | succ k1 =>
      have H := HA.out
      clear HA
      simp only [laws_dupXattrs.l0] at H
      by_cases c2 : x8_1 < (l0.length : Int)
      · rw [if_pos c2] at H
        have c2b0 : decide (x8_1 < (l0.length : Int)) = true := decide_eq_true c2
        clear c2
        by_cases c3 : 0 ≤ x8_1
        · rw [if_pos c3] at H
          have c3b0 : decide (0 ≤ x8_1) = true := decide_eq_true c3
          clear c3
          by_cases c4 : x8_1 < (l0.length : Int)
          · rw [if_pos c4] at H
            have c4b0 : decide (x8_1 < (l0.length : Int)) = true := decide_eq_true c4
            clear c4
            replace H := Option.bind_eq_some_iff.mp H
            obtain ⟨t177, A50, H⟩ := H
            replace H : (if x3_1.length < 3518437208883 then (laws_dupXattrs.l0 k1 (x3_1 ++ [(⟨(rd_T58 l0 x8_1).f0, t177⟩ : S58)]) l0 (l0.length : Int) (wrap64 (x8_1 + 1))) else (none)) = some r := H
            have A5 := Aside0.mk A50
            clear A50
            by_cases c6 : x3_1.length < 3518437208883
            · rw [if_pos c6] at H
              have LMc6 := Aside0.mk c6
              clear c6
              obtain ⟨y180, hy180⟩ : ∃ y_ : List (S58), y_ = (x3_1 ++ [(⟨(rd_T58 l0 x8_1).f0, t177⟩ : S58)]) := ⟨_, rfl⟩
              replace H : (laws_dupXattrs.l0 k1 y180 l0 (l0.length : Int) (wrap64 (x8_1 + 1))) = some r := by first | (rw [hy180]; with_reducible exact H) | (have H2_ := (Option.bind_some _ _).symm.trans H; rw [hy180]; with_reducible exact H2_) | (have H2_ := (Option.bind_some _ _).symm.trans H; with_reducible exact H2_) | with_reducible exact H | (rw [hy180]; exact H) | exact H
              have Ny180 := Aside0.mk hy180
              clear hy180
              have H' := Aside0.mk H
              clear H
              have p175 : 0 ≤ (x8_1 : Int) := of_decide_eq_true (by first | (with_reducible assumption) | assumption)
              have q175 : x8_1 < (l0.length : Int) := of_decide_eq_true (by first | (with_reducible assumption) | assumption)
              obtain ⟨ad175, A175_1, c175_1, e175, hx175_0, hx175_1, hl175_1, hi175_1⟩ := at_T58 HR0.out x8_1 p175 q175
              cases e175
              replace hx175_0 := (HB.out.cell (World.block_lt_of_cell? w _ hx175_0)).trans hx175_0
              replace hx175_1 := (HB.out.cell (World.block_lt_of_cell? w _ hx175_1)).trans hx175_1
              have HR175_1 := Aside0.mk hi175_1
              have HC175_1 := Aside0.mk hl175_1
              clear hi175_1 hl175_1
              replace p175 := eq_true p175
              replace q175 := eq_true q175
              try go_wp2_with (first | ((with_reducible refine gate_dst (N := 5) rfl ?_); refine box_event ?hg (N := 5) ?hd (cs := #[.string (⟨#[]⟩ : ByteArray), .slice none 0 0]) (t := 58) ?hr ?_; (case hd => rfl); (case hg => rfl); (case hr => first | (go_simp; done) | (go_simp; rfl)); intro gb176 hg w7 hbox hb; have n0_ := Aside0.mk (Kd.S_below (Kd.S_elderB (by (with_reducible repeat (first | apply Kd.S_alloc | apply Kd.S_drewN | apply Kd.S_drew)); exact HO_3.out) gb176 (Nat.le_of_eq hg.symm)) hb); have n1_ := Aside0.mk (below_step (by repeat (first | (with_reducible first | exact HB.out | apply below_alloc | apply pw_below_drewN | apply below_drew1) | exact HB.out)) hb); have n2_ := Aside0.mk (hbox); have n3_ := Aside0.mk ((by rw [hg]; exact (below_size (by repeat (first | (with_reducible first | exact HB.out | apply below_alloc | apply pw_below_drewN | apply below_drew1) | exact HB.out))) : w.heap.size ≤ gb176)); have n4_ := Aside0.mk ((by rw [hg]; exact (below_size (by repeat (first | (with_reducible first | exact HB.out | apply below_alloc | apply pw_below_drewN | apply below_drew1) | exact HB.out))) : w.heap.size ≤ gb176)); clear HO_3; clear HB; have HO_3 := n0_; have HB := n1_; have BK176 := n2_; have GW176 := n3_; have GE176 := n4_; clear n0_ n1_ n2_ n3_ n4_; clear hb hbox hg; have hcz8_0 : w7.cell? ⟨gb176, 0, none⟩ = some (.string (⟨#[]⟩ : ByteArray)) := (blk_cell BK176.out 0).trans rfl; have hcz8_1 : w7.cell? ⟨gb176, 1, none⟩ = some (.slice none 0 0) := (blk_cell BK176.out 1).trans rfl; have hfz8_0 := blk_frozen BK176.out 0; have hfz8_1 := blk_frozen BK176.out 1))
              have n0_ : Aside0 (Kd.S k58 58 ((w7.setCell ⟨gb176, 0, none⟩ (.string ((rd_T58 l0 x8_1).f0))).setCell ⟨gb176, 1, none⟩ (.slice A175_1 ((rd_T58 l0 x8_1).f1).length c175_1)) w.heap.size (fun k_ => k_ ≠ gb176) u3 x3_1) := ⟨by (with_reducible repeat (first | apply Kd.S_alloc | apply Kd.S_drewN | apply Kd.S_drew)); exact Kd.S_mono (Kd.S_far (p := ⟨gb176, 1, none⟩) (Kd.S_far (p := ⟨gb176, 0, none⟩) (Kd.S_mono HO_3.out (fun k_ hk => (⟨hk, hk.2⟩ : _ ∧ k_ ≠ gb176))) (fun _ hk => hk.2) (.string ((rd_T58 l0 x8_1).f0))) (fun _ hk => hk.2) (.slice A175_1 ((rd_T58 l0 x8_1).f1).length c175_1)) (fun _ hk => hk.1.2)⟩
              have n1_ : Aside0 (((w7.setCell ⟨gb176, 0, none⟩ (.string ((rd_T58 l0 x8_1).f0))).setCell ⟨gb176, 1, none⟩ (.slice A175_1 ((rd_T58 l0 x8_1).f1).length c175_1)).heap[gb176]? = some (.cells #[.string ((rd_T58 l0 x8_1).f0), .slice A175_1 ((rd_T58 l0 x8_1).f1).length c175_1] 58 (0, 0))) := ⟨by (with_reducible repeat (first | refine blk_drewN ?_ _ | refine blk_drew ?_ | refine blk_alloc ?_ _)); refine blk_put (cs := #[.string ((rd_T58 l0 x8_1).f0), .slice none 0 0]) ?_ 1 _ rfl; (with_reducible repeat (first | refine blk_drewN ?_ _ | refine blk_drew ?_ | refine blk_alloc ?_ _)); refine blk_put (cs := #[.string (⟨#[]⟩ : ByteArray), .slice none 0 0]) ?_ 0 _ rfl; (with_reducible repeat (first | refine blk_drewN ?_ _ | refine blk_drew ?_ | refine blk_alloc ?_ _)); exact BK176.out⟩
              have n2_ : Aside0 (Below w.heap.size w ((w7.setCell ⟨gb176, 0, none⟩ (.string ((rd_T58 l0 x8_1).f0))).setCell ⟨gb176, 1, none⟩ (.slice A175_1 ((rd_T58 l0 x8_1).f1).length c175_1))) := ⟨by repeat (first | (with_reducible first | exact HB.out | apply below_alloc | apply pw_below_drewN | apply below_drew1 | refine below_set ?_ GE176.out) | exact HB.out)⟩
              (try clear HO_3)
              (try clear BK176)
              (try clear HB)
              generalize ((w7.setCell ⟨gb176, 0, none⟩ (.string ((rd_T58 l0 x8_1).f0))).setCell ⟨gb176, 1, none⟩ (.slice A175_1 ((rd_T58 l0 x8_1).f1).length c175_1)) = w9 at n0_ n1_ n2_ ⊢
              have HO_3 := n0_
              have BK176 := n1_
              have HB := n2_
              clear n0_ n1_ n2_
              have n0_ := Aside0.mk (Kd.S_drew HO_3.out)
              have n1_ := Aside0.mk (blk_drew BK176.out)
              have n2_ := Aside0.mk (below_drew1 HB.out)
              clear HO_3
              clear BK176
              clear HB
              have HO_3 := n0_
              have BK176 := n1_
              have HB := n2_
              clear n0_ n1_ n2_
              refine start_ (n := 10) (S := fun w' => w'.cell? ⟨gb176, 0, none⟩ = some (.string ((rd_T58 l0 x8_1).f0)) ∧ w'.cell? ⟨gb176, 1, none⟩ = some (.slice A175_1 ((rd_T58 l0 x8_1).f1).length c175_1)) (ds := []) #[false, false, false, false, false, false, false, false, false, false] (by kernel_rfl) rfl rfl ⟨(blk_cell BK176.out 0).trans rfl, (blk_cell BK176.out 1).trans rfl⟩ (fun hHeld => ?_); refine with_tabW laws_dupXattrs.tab5 laws_dupXattrs.bits5 (fun HT_ HW_ => ?_)
              generalize w9.drew = w10 at HO_3 BK176 HB hHeld ⊢
              refine pure_ (i := 0) (N := some 12) (v := ?_) (a' := ?_) #[true, false, false, false, false, false, false, false, false, false] rfl rfl (any_of HT_.out (by kernel_rfl)) (fun _ _ _ h => h) (Or.inl ⟨by rfl, ?_⟩) ?_ ?_
              rotate_left
              · intro w'
                go_simp
                with_reducible rfl
              rotate_left
              · simp only [Act.put, List.setIfInBounds_toArray, List.set_cons_zero, List.set_cons_succ, i64_w, i32_w]
                rfl
              refine pure_ (i := 1) (N := some 13) (v := ?_) (a' := ?_) #[true, true, false, false, false, false, false, false, false, false] rfl rfl (any_of HT_.out (by kernel_rfl)) (fun _ _ _ h => h) (Or.inl ⟨by rfl, ?_⟩) ?_ ?_
              rotate_left
              · intro w'
                go_simp
                with_reducible rfl
              rotate_left
              · simp only [Act.put, List.setIfInBounds_toArray, List.set_cons_zero, List.set_cons_succ, i64_w, i32_w]
                rfl
              refine pure_ (i := 3) (N := some 15) (v := ?_) (a' := ?_) #[true, true, false, true, false, false, false, false, false, false] rfl rfl (any_of HT_.out (by kernel_rfl)) (fun _ _ _ h => h) (Or.inl ⟨by rfl, ?_⟩) ?_ ?_
              rotate_left
              · intro w'
                go_simp
                with_reducible rfl
              rotate_left
              · simp only [Act.put, List.setIfInBounds_toArray, List.set_cons_zero, List.set_cons_succ, i64_w, i32_w]
                rfl
              refine take_ (i := 2) (N := some 14) (v := ?_) (a' := ?_) #[true, true, true, true, false, false, false, false, false, false] rfl rfl (take_ofW HT_.out HW_.out (by kernel_rfl)) (fun _ _ _ h => h) (Or.inl ⟨by rfl, ?_⟩) hHeld ?_ ?_
              rotate_left
              · rintro w' ⟨s0, s1⟩
                go_simp
                with_reducible rfl
              rotate_left
              · simp only [Act.put, List.setIfInBounds_toArray, List.set_cons_zero, List.set_cons_succ, i64_w, i32_w]
                rfl
              refine take_ (i := 4) (N := some 16) (v := ?_) (a' := ?_) #[true, true, true, true, true, false, false, false, false, false] rfl rfl (take_ofW HT_.out HW_.out (by kernel_rfl)) (fun _ _ _ h => h) (Or.inl ⟨by rfl, ?_⟩) hHeld ?_ ?_
              rotate_left
              · rintro w' ⟨s0, s1⟩
                go_simp
                with_reducible rfl
              rotate_left
              · simp only [Act.put, List.setIfInBounds_toArray, List.set_cons_zero, List.set_cons_succ, i64_w, i32_w]
                rfl
              refine one_ (i := 5) (N := some 17) #[true, true, true, true, true, true, false, false, false, false] rfl rfl (one_of HT_.out (by kernel_rfl)) (by decide) (fun K hK => ?_)
              refine goes_ Tryd.func14 (by kernel_rfl) rfl #[.slice A175_1 ((rd_T58 l0 x8_1).f1).length c175_1] (by rfl) rfl rfl (by (try simp only [List.map_toArray, List.map_cons, List.map_nil]); first | done | rfl | (simp only [List.length_drop, List.length_take]; rfl)) ?_
              with_reducible refine (laws_dup.calls _ _ ((rd_T58 l0 x8_1).f1) t177 _ ?side1 ?side2 A5.out).mono ?_
              (case side1 => repeat (first | exact (Kd.C_below HR175_1.out HB.out) | (with_reducible refine Kd.C_alloc ?_ _) | (with_reducible refine Kd.C_drewN ?_ _) | (with_reducible refine Kd.C_drew ?_)))
              (case side2 => exact HC175_1.out)
              rintro e w11 ⟨v178, rfl, ho0, hb⟩
              refine ⟨_, rfl, ?_⟩
              have n0_ := Aside0.mk (Kd.S_elder' (by (with_reducible repeat (first | apply Kd.S_alloc | apply Kd.S_drewN | apply Kd.S_drew)); exact HO_3.out) (Kd.R_base ho0) hb)
              have n1_ := Aside0.mk (Kd.R_lower ho0 (below_size (by repeat (first | (with_reducible first | exact HB.out | apply below_alloc | apply pw_below_drewN | apply below_drew1 | refine below_set ?_ GE176.out) | exact HB.out))))
              have n2_ := Aside0.mk (blk_below (g := gb176) (o := .cells #[.string ((rd_T58 l0 x8_1).f0), .slice A175_1 ((rd_T58 l0 x8_1).f1).length c175_1] 58 (0, 0)) (by (with_reducible repeat (first | refine blk_drewN ?_ _ | refine blk_drew ?_ | refine blk_alloc ?_ _)); exact BK176.out) hb)
              have n3_ := Aside0.mk (below_step (by repeat (first | (with_reducible first | exact HB.out | apply below_alloc | apply pw_below_drewN | apply below_drew1 | refine below_set ?_ GE176.out) | exact HB.out)) hb)
              clear HO_3
              clear BK176
              clear HB
              have HO_3 := n0_
              have HO179 := n1_
              have BK176 := n2_
              have HB := n3_
              clear n0_ n1_ n2_ n3_
              (try clear hb)
              (try clear hb2)
              (try clear hk)
              (try clear hi)
              (try clear ho0)
              obtain ⟨Ao12, co12, eo12⟩ := Kd.R_slice HO179.out
              (first | subst eo12 | (injection eo12 with f1_ f2_ f3_; have f4_ := f1_.symm; have f5_ := f3_.symm; clear f1_ f2_ f3_; subst f4_; subst f5_))
              refine hK.out _ _ ⟨(blk_cell BK176.out 0).trans rfl, (blk_cell BK176.out 1).trans rfl⟩ (fun hHeld => ?_)
              clear hK K
              refine norm_ (a' := ?_) ?_ ?_
              rotate_left
              · show Act.put _ (some 17) _ = _
                simp only [Act.put, List.setIfInBounds_toArray, List.set_cons_zero, List.set_cons_succ, i64_w, i32_w]
                rfl
              refine pure_ (i := 6) (N := some 18) (v := ?_) (a' := ?_) #[true, true, true, true, true, true, true, false, false, false] rfl rfl (any_of HT_.out (by kernel_rfl)) (fun _ _ _ h => h) (Or.inl ⟨by rfl, ?_⟩) ?_ ?_
              rotate_left
              · intro w'
                go_simp
                with_reducible rfl
              rotate_left
              · simp only [Act.put, List.setIfInBounds_toArray, List.set_cons_zero, List.set_cons_succ, i64_w, i32_w]
                rfl
              refine one_ (i := 7) (N := some 19) #[true, true, true, true, true, true, true, true, false, false] rfl rfl (one_of HT_.out (by kernel_rfl)) (by decide) (fun K hK => ?_)
              refine value_ (w1 := ?_) (v := ?_) (by rfl) rfl ?_ ?_
              rotate_left 2
              · go_simp
                constructor
                · rfl
                · rfl
              refine hK.out _ _ ⟨(blk_cell (blk_alloc BK176.out _) 0).trans rfl, (blk_cell (blk_alloc BK176.out _) 1).trans rfl⟩ (fun hHeld => ?_)
              clear hK K
              refine norm_ (a' := ?_) ?_ ?_
              rotate_left
              · show Act.put _ (some 19) _ = _
                simp only [Act.put, List.setIfInBounds_toArray, List.set_cons_zero, List.set_cons_succ, i64_w, i32_w]
                rfl
              refine one_ (i := 8) (N := some 20) #[true, true, true, true, true, true, true, true, true, false] rfl rfl (one_of HT_.out (by kernel_rfl)) (by decide) (fun K hK => ?_)
              refine Kd.S_append_step k58 (w0 := w) w.heap.size (by rfl) (.tmp 12) (.tmp 19) 22 58 (.agg #[(.string ⟨#[]⟩), (.slice none 0 0)]) 40 rfl Tryd.underlying22 info58 rfl (by decide) (by omega) u3 x3_1 (⟨(rd_T58 l0 x8_1).f0, t177⟩ : S58) [.string ((rd_T58 l0 x8_1).f0), .slice Ao12 t177.length co12] (fun k_ => k_ ≠ gb176) (fun k_ => some k_ = (.slice Ao12 t177.length co12 : Value).ownBlock) rfl rfl ?aP (fun k_ hk_ => ((Kd.R_mono (ok' := fun k_ => ((fun k_ => k_ ≠ gb176)) k_ ∧ some k_ ≠ (u3 : Value).ownBlock) (Kd.R_types (Kd.R_apart' (HO179.out) (Kd.S_typed HO_3.out) (by decide)) BK176.out (by decide)) (fun k_ hk => ⟨hk.2, hk.1.2⟩))).1 k_ hk_.symm) ?aF ?aO ?aB ?aS ?aL ?_
              (case aP => exact k58_mkM _ _ _ (⟨(rd_T58 l0 x8_1).f0, t177⟩ : S58) (Kd.R_mono (Kd.R_tight rfl (Kd.R_mono (ok' := fun k_ => ((fun k_ => k_ ≠ gb176)) k_ ∧ some k_ ≠ (u3 : Value).ownBlock) (Kd.R_types (Kd.R_apart' (HO179.out) (Kd.S_typed HO_3.out) (by decide)) BK176.out (by decide)) (fun k_ hk => ⟨hk.2, hk.1.2⟩))) (fun _ h_ => h_)))
              (case aB => exact (by repeat (first | (with_reducible first | exact HB.out | apply below_alloc | apply pw_below_drewN | apply below_drew1 | refine below_set ?_ GE176.out) | exact HB.out)))
              (case aF => exact (fun k_ hk => Kd.freshB (g := gb176) (o := .cells #[.string ((rd_T58 l0 x8_1).f0), .slice A175_1 ((rd_T58 l0 x8_1).f1).length c175_1] 58 (0, 0)) (by (with_reducible repeat (first | refine blk_drewN ?_ _ | refine blk_drew ?_ | refine blk_alloc ?_ _)); exact BK176.out) k_ hk))
              (case aO => exact (by (with_reducible repeat (first | apply Kd.S_alloc | apply Kd.S_drewN | apply Kd.S_drew)); exact Kd.S_mono HO_3.out (fun k_ hk => ⟨hk.1, fun e_ => hk.2 e_⟩)))
              (case aS => exact (below_size (by repeat (first | (with_reducible first | exact HB.out | apply below_alloc | apply pw_below_drewN | apply below_drew1 | refine below_set ?_ GE176.out) | exact HB.out))))
              (case aL => have := LMc6.out; omega)
              intro v181 w13 ho hb hg hat
              rw [← Ny180.out] at ho
              have n0_ := Aside0.mk (blk_grown (g := gb176) (o := .cells #[.string ((rd_T58 l0 x8_1).f0), .slice A175_1 ((rd_T58 l0 x8_1).f1).length c175_1] 58 (0, 0)) (by (with_reducible repeat (first | refine blk_drewN ?_ _ | refine blk_drew ?_ | refine blk_alloc ?_ _)); exact BK176.out) hg (Kd.S_away HO_3.out (fun _ hk => hk.1)))
              have n1_ := Aside0.mk (hb)
              have n2_ := Aside0.mk (ho)
              clear BK176
              clear HB
              clear HO_3
              clear HO179
              have BK176 := n0_
              have HB := n1_
              have HO182 := n2_
              clear n0_ n1_ n2_
              clear ho hb hg hat
              refine hK.out _ _ ⟨(blk_cell BK176.out 0).trans rfl, (blk_cell BK176.out 1).trans rfl⟩ (fun hHeld => ?_)
              clear hK K
              refine norm_ (a' := ?_) ?_ ?_
              rotate_left
              · show Act.put _ (some 20) _ = _
                simp only [Act.put, List.setIfInBounds_toArray, List.set_cons_zero, List.set_cons_succ, i64_w, i32_w]
                rfl
              refine pure_ (i := 9) (N := some 3) (v := ?_) (a' := ?_) #[true, true, true, true, true, true, true, true, true, true] rfl rfl (any_of HT_.out (by kernel_rfl)) (fun _ _ _ h => h) (Or.inl ⟨by rfl, ?_⟩) ?_ ?_
              rotate_left
              · intro w'
                go_simp
                with_reducible rfl
              rotate_left
              · simp only [Act.put, List.setIfInBounds_toArray, List.set_cons_zero, List.set_cons_succ, i64_w, i32_w]
                rfl
              refine done_ (done_of HT_.out (by kernel_rfl)) ?_
              try go_wp2
              go_roundg k1
              case measure => have := HK1.out; omega
              case rel => exact ⟨(y180), (wrap64 (x8_1 + 1)), (by first | rfl | (simp; done) | (simp [*]; done)), H', ⟨by have := HK1.out; omega⟩, ⟨by (with_reducible repeat (first | apply Kd.S_alloc | apply Kd.S_drewN | apply Kd.S_drew)); exact Kd.S_mono HO182.out (fun _ hk => trivial)⟩, ⟨by repeat (first | (with_reducible first | exact HB.out | apply below_alloc | apply pw_below_drewN | apply below_drew1 | refine below_set ?_ GE176.out) | exact HB.out)⟩⟩
            · rw [if_neg c6] at H
              exact absurd H (by simp)
          · rw [if_neg c4] at H
            exact absurd H (by simp)
        · rw [if_neg c3] at H
          exact absurd H (by simp)
      · rw [if_neg c2] at H
        have c2b0 : decide (x8_1 < (l0.length : Int)) = false := decide_eq_false c2
        clear c2
        obtain rfl := Option.some.inj H
        go_wp2
        go_ret
        exact ⟨_, by first | rfl | (simp [errW_none, errW_some] <;> rfl) | (simp [*, errW_none, errW_some] <;> rfl), by (with_reducible repeat (first | apply Kd.S_alloc | apply Kd.S_drewN | apply Kd.S_drew)); exact HO_3.out, by repeat (first | (with_reducible first | exact HB.out | apply below_alloc | apply pw_below_drewN | apply below_drew1) | exact HB.out)⟩
def spec_up4.f (a0 : Int) : Option (Int) := some (wrap64 ((wrap64 (Int.tdiv (wrap64 (a0 + 3)) 4)) * 4))
set_option maxHeartbeats 8000000 in
set_option maxRecDepth 100000 in
theorem spec_up4.calls (a0 : Int) (r : Int) (w : World) (h : spec_up4.f a0 = some r) :
    Calls Tryd.prog 43 #[.int .i64 a0] w fun e w' => e = .returned (.int .i64 r) ∧ Drawn0 w w' := by
  have H : (some (wrap64 ((wrap64 (Int.tdiv (wrap64 (a0 + 3)) 4)) * 4))) = some r := h
  clear h
  obtain rfl := Option.some.inj H
  go_enter Tryd.func43, Tryd.ntmps43
  go_wp2
  go_ret
  exact ⟨by first | rfl | (simp; done) | (simp [*]; done), by repeat (first | exact Drawn0.refl _ | apply Drawn0.step)⟩
def spec_le.l0 : Nat → List Int → Int → Int → Int → Option (Int)
  | 0, _, _, _, _ => none
  | k + 1, x0, x1, x7, x8 => if x8 > 0 then (if (IntKind.u64.wrap ((IntKind.u64.wrap (x1 + x8)) - 1)) ≥ x1 then (if (IntKind.u64.wrap ((IntKind.u64.wrap (x1 + x8)) - 1)) < (IntKind.u64.wrap ((x0.length : Int))) then (if 0 ≤ (IntKind.u64.wrap ((IntKind.u64.wrap (x1 + x8)) - 1)) then (if (IntKind.u64.wrap ((IntKind.u64.wrap (x1 + x8)) - 1)) < (x0.length : Int) then (spec_le.l0 k x0 x1 (Go.bits .or .u64 (IntKind.u64.wrap (x7 * 256)) (IntKind.u64.wrap (rd x0 (IntKind.u64.wrap ((IntKind.u64.wrap (x1 + x8)) - 1))))) (IntKind.u64.wrap (x8 - 1))) else (none)) else (none)) else (spec_le.l0 k x0 x1 (IntKind.u64.wrap (x7 * 256)) (IntKind.u64.wrap (x8 - 1)))) else (spec_le.l0 k x0 x1 (IntKind.u64.wrap (x7 * 256)) (IntKind.u64.wrap (x8 - 1)))) else (some x7)
def spec_le.f (k : Nat) (l0 : List Int) (a1 : Int) (a2 : Int) : Option (Int) := spec_le.l0 k l0 a1 0 a2
theorem spec_le.mono_l : ∀ k, (∀ y0 y1 y2 y3, LeO (spec_le.l0 k y0 y1 y2 y3) (spec_le.l0 (k + 1) y0 y1 y2 y3))
  | 0 => fun _ _ _ _ r h => by simp [spec_le.l0] at h
  | k + 1 => by
    have ih0 := spec_le.mono_l k
    · intro y0 y1 y2 y3
      unfold spec_le.l0
      repeat' first
      | (with_reducible exact ih0 _ _ _ _)
      | (with_reducible exact LeO.refl _)
      | (with_reducible exact LeO.none _)
      | (with_reducible refine LeO.ite ?_ ?_)
      | (with_reducible refine LeO.bind ?_ (fun _ => ?_))
      | exact ih0 _ _ _ _
      | exact LeO.none _
      | refine LeO.ite ?_ ?_
      | refine LeO.bind ?_ (fun _ => ?_)
theorem spec_le.mono : ∀ a0 a1 a2 k, LeO (spec_le.f k a0 a1 a2) (spec_le.f (k + 1) a0 a1 a2) := by
  intro a0 a1 a2 k
  have ih0 := spec_le.mono_l k
  unfold spec_le.f
  repeat' first
      | (with_reducible exact ih0 _ _ _ _)
      | (with_reducible exact LeO.refl _)
      | (with_reducible exact LeO.none _)
      | (with_reducible refine LeO.ite ?_ ?_)
      | (with_reducible refine LeO.bind ?_ (fun _ => ?_))
      | exact ih0 _ _ _ _
      | exact LeO.none _
      | refine LeO.ite ?_ ?_
      | refine LeO.bind ?_ (fun _ => ?_)
set_option maxHeartbeats 8000000 in
set_option maxRecDepth 100000 in
theorem spec_le.calls (k : Nat) (A0 : Option Addr) (c0 : Nat) (l0 : List Int) (a1 : Int) (a2 : Int) (r : Int) (w : World) (hr0 : Kd.C (Kd.int .u8) w A0 l0.length l0) (hc0 : l0.length ≤ c0) (h : spec_le.f k l0 a1 a2 = some r) :
    Calls Tryd.prog 33 #[.slice A0 l0.length c0, .int .u64 a1, .int .u64 a2] w fun e w' => e = .returned (.int .u64 r) ∧ Drawn0 w w' := by
  have HR0 := Aside0.mk hr0
  have HC0 := Aside0.mk hc0
  clear hr0 hc0
  have H : (spec_le.l0 k l0 a1 0 a2) = some r := h
  clear h
  have H' := Aside0.mk H
  clear H
  go_enter Tryd.func33, Tryd.ntmps33
  go_wp2
  go_loopg [7, 8] k (fun kq v7 v8 w' => ∃ (x7_1 : Int) (x8_1 : Int), v7 = .int .u64 x7_1 ∧ v8 = .int .u64 x8_1 ∧ Aside0 (spec_le.l0 kq l0 a1 x7_1 x8_1 = some r) ∧ Aside0 (kq ≤ k) ∧ Drawn0 w w')
  case atStart => exact ⟨(0), (a2), (by first | rfl | (simp; done) | (simp [*]; done)), (by first | rfl | (simp; done) | (simp [*]; done)), H', ⟨Nat.le_refl _⟩, by repeat (first | exact Drawn0.refl _ | apply Drawn0.step)⟩
  case round =>
    clear H'
    try clear p2
    try clear c3
    obtain ⟨x7_1, x8_1, rfl, rfl, HA, HK1, ⟨m1, rfl⟩⟩ := hrel
    cases gk with
    | zero => exact absurd HA.out (by simp [spec_le.l0])
    | succ k1 =>
      have H := HA.out
      clear HA
      simp only [spec_le.l0] at H
      by_cases c4 : x8_1 > 0
      · rw [if_pos c4] at H
        have c4b0 : decide (0 < x8_1) = true := decide_eq_true c4
        clear c4
        by_cases c5 : (IntKind.u64.wrap ((IntKind.u64.wrap (a1 + x8_1)) - 1)) ≥ a1
        · rw [if_pos c5] at H
          have c5b0 : decide (a1 ≤ (IntKind.u64.wrap ((IntKind.u64.wrap (a1 + x8_1)) - 1))) = true := decide_eq_true c5
          clear c5
          by_cases c6 : (IntKind.u64.wrap ((IntKind.u64.wrap (a1 + x8_1)) - 1)) < (IntKind.u64.wrap ((l0.length : Int)))
          · rw [if_pos c6] at H
            have c6b0 : decide ((IntKind.u64.wrap ((IntKind.u64.wrap (a1 + x8_1)) - 1)) < (IntKind.u64.wrap ((l0.length : Int)))) = true := decide_eq_true c6
            clear c6
            obtain ⟨ji7, hji7⟩ : ∃ j_ : Int, (IntKind.u64.wrap ((IntKind.u64.wrap (a1 + x8_1)) - 1)) = j_ := ⟨_, rfl⟩
            replace H : (if 0 ≤ (ji7) then (if (ji7) < (l0.length : Int) then (spec_le.l0 k1 l0 a1 (Go.bits .or .u64 (IntKind.u64.wrap (x7_1 * 256)) (IntKind.u64.wrap (rd l0 (ji7)))) (IntKind.u64.wrap (x8_1 - 1))) else (none)) else (none)) = some r := by first | (rw [hji7] at H; exact H) | (simp only [hji7] at H ⊢; exact H)
            (try rw [hji7] at c5b0)
            (try rw [hji7] at c6b0)
            by_cases c8 : 0 ≤ (ji7)
            · rw [if_pos c8] at H
              have c8b0 : decide (0 ≤ (ji7)) = true := decide_eq_true c8
              clear c8
              by_cases c9 : (ji7) < (l0.length : Int)
              · rw [if_pos c9] at H
                have c9b0 : decide ((ji7) < (l0.length : Int)) = true := decide_eq_true c9
                clear c9
                have H' := Aside0.mk H
                clear H
                have p188 : 0 ≤ ((ji7) : Int) := of_decide_eq_true (by first | (with_reducible assumption) | assumption)
                have q188 : (ji7) < (l0.length : Int) := of_decide_eq_true (by first | (with_reducible assumption) | assumption)
                obtain ⟨ad188, e188, hx188_0⟩ := Kd.at_int HR0.out (ji7) p188 q188
                cases e188
                replace p188 := eq_true p188
                replace q188 := eq_true q188
                go_wp2
                go_roundg k1
                case measure => have := HK1.out; omega
                case rel => exact ⟨(Go.bits .or .u64 (IntKind.u64.wrap (x7_1 * 256)) (IntKind.u64.wrap (rd l0 (ji7)))), (IntKind.u64.wrap (x8_1 - 1)), (by first | rfl | (simp; done) | (simp only [← hji7] <;> (first | rfl | simp)) | (simp [*]; done)), (by first | rfl | (simp; done) | (simp [*]; done)), H', ⟨by have := HK1.out; omega⟩, by repeat (first | exact Drawn0.refl _ | apply Drawn0.step)⟩
              · rw [if_neg c9] at H
                exact absurd H (by simp)
            · rw [if_neg c8] at H
              exact absurd H (by simp)
          · rw [if_neg c6] at H
            have c6b0 : decide ((IntKind.u64.wrap ((IntKind.u64.wrap (a1 + x8_1)) - 1)) < (IntKind.u64.wrap ((l0.length : Int)))) = false := decide_eq_false c6
            clear c6
            have H' := Aside0.mk H
            clear H
            go_wp2
            go_roundg k1
            case measure => have := HK1.out; omega
            case rel => exact ⟨(IntKind.u64.wrap (x7_1 * 256)), (IntKind.u64.wrap (x8_1 - 1)), (by first | rfl | (simp; done) | (simp [*]; done)), (by first | rfl | (simp; done) | (simp [*]; done)), H', ⟨by have := HK1.out; omega⟩, by repeat (first | exact Drawn0.refl _ | apply Drawn0.step)⟩
        · rw [if_neg c5] at H
          have c5b0 : decide (a1 ≤ (IntKind.u64.wrap ((IntKind.u64.wrap (a1 + x8_1)) - 1))) = false := decide_eq_false c5
          clear c5
          have H' := Aside0.mk H
          clear H
          go_wp2
          go_roundg k1
          case measure => have := HK1.out; omega
          case rel => exact ⟨(IntKind.u64.wrap (x7_1 * 256)), (IntKind.u64.wrap (x8_1 - 1)), (by first | rfl | (simp; done) | (simp [*]; done)), (by first | rfl | (simp; done) | (simp [*]; done)), H', ⟨by have := HK1.out; omega⟩, by repeat (first | exact Drawn0.refl _ | apply Drawn0.step)⟩
      · rw [if_neg c4] at H
        have c4b0 : decide (0 < x8_1) = false := decide_eq_false c4
        clear c4
        obtain rfl := Option.some.inj H
        go_wp2
        go_ret
        exact ⟨by first | rfl | (simp; done) | (simp [*]; done), by repeat (first | exact Drawn0.refl _ | apply Drawn0.step)⟩
mutual
def spec_attributeHash.l0 : Nat → List Int → Int → List Int → Int → Int → Option (Int)
  | 0, _, _, _, _, _ => none
  | k + 1, x1, x5, x9, x10, x11 => if x11 < x10 then (if 0 ≤ x11 then (if x11 < (x9.length : Int) then (spec_attributeHash.l0 k x1 (Go.bits .xor .u32 (Go.bits .xor .u32 ((x5 * 32) % 4294967296) (x5 / 134217728)) ((rd x9 x11) % 4294967296)) x9 x10 (wrap64 (x11 + 1))) else (none)) else (none)) else (spec_attributeHash.l1 k x1 x5 0)
def spec_attributeHash.l1 : Nat → List Int → Int → Int → Option (Int)
  | 0, _, _, _ => none
  | k + 1, x1, x5, x8 => if x8 < (x1.length : Int) then ((spec_le.f k x1 (IntKind.u64.wrap (x8)) 4).bind fun t190 => (spec_attributeHash.l1 k x1 (Go.bits .xor .u32 (Go.bits .xor .u32 ((x5 * 65536) % 4294967296) (x5 / 65536)) ((t190) % 4294967296)) (wrap64 (x8 + 4)))) else (some x5)
end
def spec_attributeHash.f (k : Nat) (l0 : List Int) (l1 : List Int) : Option (Int) := spec_attributeHash.l0 k l1 0 l0 (l0.length : Int) 0
theorem spec_attributeHash.mono_l : ∀ k, (∀ y0 y1 y2 y3 y4, LeO (spec_attributeHash.l0 k y0 y1 y2 y3 y4) (spec_attributeHash.l0 (k + 1) y0 y1 y2 y3 y4)) ∧ (∀ y0 y1 y2, LeO (spec_attributeHash.l1 k y0 y1 y2) (spec_attributeHash.l1 (k + 1) y0 y1 y2))
  | 0 => ⟨fun _ _ _ _ _ r h => by simp [spec_attributeHash.l0] at h, fun _ _ _ r h => by simp [spec_attributeHash.l1] at h⟩
  | k + 1 => by
    obtain ⟨ih0, ih1⟩ := spec_attributeHash.mono_l k
    refine ⟨?_, ?_⟩
    · intro y0 y1 y2 y3 y4
      unfold spec_attributeHash.l0
      repeat' first
      | (with_reducible exact ih0 _ _ _ _ _)
      | (with_reducible exact ih1 _ _ _)
      | (with_reducible exact spec_le.mono _ _ _ _)
      | (with_reducible exact LeO.refl _)
      | (with_reducible exact LeO.none _)
      | (with_reducible refine LeO.ite ?_ ?_)
      | (with_reducible refine LeO.bind ?_ (fun _ => ?_))
      | exact ih0 _ _ _ _ _
      | exact ih1 _ _ _
      | exact spec_le.mono _ _ _ _
      | exact LeO.none _
      | refine LeO.ite ?_ ?_
      | refine LeO.bind ?_ (fun _ => ?_)
    · intro y0 y1 y2
      unfold spec_attributeHash.l1
      repeat' first
      | (with_reducible exact ih0 _ _ _ _ _)
      | (with_reducible exact ih1 _ _ _)
      | (with_reducible exact spec_le.mono _ _ _ _)
      | (with_reducible exact LeO.refl _)
      | (with_reducible exact LeO.none _)
      | (with_reducible refine LeO.ite ?_ ?_)
      | (with_reducible refine LeO.bind ?_ (fun _ => ?_))
      | exact ih0 _ _ _ _ _
      | exact ih1 _ _ _
      | exact spec_le.mono _ _ _ _
      | exact LeO.none _
      | refine LeO.ite ?_ ?_
      | refine LeO.bind ?_ (fun _ => ?_)
theorem spec_attributeHash.mono : ∀ a0 a1 k, LeO (spec_attributeHash.f k a0 a1) (spec_attributeHash.f (k + 1) a0 a1) := by
  intro a0 a1 k
  obtain ⟨ih0, ih1⟩ := spec_attributeHash.mono_l k
  unfold spec_attributeHash.f
  repeat' first
      | (with_reducible exact ih0 _ _ _ _ _)
      | (with_reducible exact ih1 _ _ _)
      | (with_reducible exact spec_le.mono _ _ _ _)
      | (with_reducible exact LeO.refl _)
      | (with_reducible exact LeO.none _)
      | (with_reducible refine LeO.ite ?_ ?_)
      | (with_reducible refine LeO.bind ?_ (fun _ => ?_))
      | exact ih0 _ _ _ _ _
      | exact ih1 _ _ _
      | exact spec_le.mono _ _ _ _
      | exact LeO.none _
      | refine LeO.ite ?_ ?_
      | refine LeO.bind ?_ (fun _ => ?_)
set_option maxHeartbeats 8000000 in
set_option maxRecDepth 100000 in
theorem spec_attributeHash.calls (k : Nat) (A0 : Option Addr) (c0 : Nat) (l0 : List Int) (A1 : Option Addr) (c1 : Nat) (l1 : List Int) (r : Int) (w : World) (hr0 : Kd.C (Kd.int .u8) w A0 l0.length l0) (hc0 : l0.length ≤ c0) (hr1 : Kd.C (Kd.int .u8) w A1 l1.length l1) (hc1 : l1.length ≤ c1) (h : spec_attributeHash.f k l0 l1 = some r) :
    Calls Tryd.prog 63 #[.slice A0 l0.length c0, .slice A1 l1.length c1] w fun e w' => e = .returned (.int .u32 r) ∧ Drawn0 w w' := by
  have HR0 := Aside0.mk hr0
  have HC0 := Aside0.mk hc0
  clear hr0 hc0
  have HR1 := Aside0.mk hr1
  have HC1 := Aside0.mk hc1
  clear hr1 hc1
  have H : (spec_attributeHash.l0 k l1 0 l0 (l0.length : Int) 0) = some r := h
  clear h
  have H' := Aside0.mk H
  clear H
  go_enter Tryd.func63, Tryd.ntmps63
  go_wp2
  go_loopg [5, 11] k (fun kq v5 v11 w' => ∃ (x5_1 : Int) (x11_1 : Int), v5 = .int .u32 x5_1 ∧ v11 = .int .i64 x11_1 ∧ Aside0 (spec_attributeHash.l0 kq l1 x5_1 l0 (l0.length : Int) x11_1 = some r) ∧ Aside0 (kq ≤ k) ∧ Drawn0 w w')
  case atStart => exact ⟨(0), (0), (by first | rfl | (simp; done) | (simp [*]; done)), (by first | rfl | (simp; done) | (simp [*]; done)), H', ⟨Nat.le_refl _⟩, by repeat (first | exact Drawn0.refl _ | apply Drawn0.step)⟩
  case round =>
    clear H'
    try clear c1
    try clear p2
    obtain ⟨x5_1, x11_1, rfl, rfl, HA, HK1, ⟨m1, rfl⟩⟩ := hrel
    cases gk with
    | zero => exact absurd HA.out (by simp [spec_attributeHash.l0])
    | succ k1 =>
      have H := HA.out
      clear HA
      simp only [spec_attributeHash.l0] at H
      by_cases c3 : x11_1 < (l0.length : Int)
      · rw [if_pos c3] at H
        have c3b0 : decide (x11_1 < (l0.length : Int)) = true := decide_eq_true c3
        clear c3
        by_cases c4 : 0 ≤ x11_1
        · rw [if_pos c4] at H
          have c4b0 : decide (0 ≤ x11_1) = true := decide_eq_true c4
          clear c4
          by_cases c5 : x11_1 < (l0.length : Int)
          · rw [if_pos c5] at H
            have c5b0 : decide (x11_1 < (l0.length : Int)) = true := decide_eq_true c5
            clear c5
            have H' := Aside0.mk H
            clear H
            have p189 : 0 ≤ (x11_1 : Int) := of_decide_eq_true (by first | (with_reducible assumption) | assumption)
            have q189 : x11_1 < (l0.length : Int) := of_decide_eq_true (by first | (with_reducible assumption) | assumption)
            obtain ⟨ad189, e189, hx189_0⟩ := Kd.at_int HR0.out x11_1 p189 q189
            cases e189
            replace p189 := eq_true p189
            replace q189 := eq_true q189
            go_wp2
            go_roundg k1
            case measure => have := HK1.out; omega
            case rel => exact ⟨(Go.bits .xor .u32 (Go.bits .xor .u32 ((x5_1 * 32) % 4294967296) (x5_1 / 134217728)) ((rd l0 x11_1) % 4294967296)), (wrap64 (x11_1 + 1)), (by first | rfl | (simp; done) | (simp [*]; done)), (by first | rfl | (simp; done) | (simp [*]; done)), H', ⟨by have := HK1.out; omega⟩, by repeat (first | exact Drawn0.refl _ | apply Drawn0.step)⟩
          · rw [if_neg c5] at H
            exact absurd H (by simp)
        · rw [if_neg c4] at H
          exact absurd H (by simp)
      · rw [if_neg c3] at H
        have c3b0 : decide (x11_1 < (l0.length : Int)) = false := decide_eq_false c3
        clear c3
        have H' := Aside0.mk H
        clear H
        go_wp2
        go_loopg [5, 8] k1 (fun kq v5 v8 w' => ∃ (x5_2 : Int) (x8_2 : Int), v5 = .int .u32 x5_2 ∧ v8 = .int .i64 x8_2 ∧ Aside0 (spec_attributeHash.l1 kq l1 x5_2 x8_2 = some r) ∧ Aside0 (kq ≤ k1) ∧ Drawn0 w w')
        case atStart => exact ⟨(x5_1), (0), (by first | rfl | (simp; done) | (simp [*]; done)), (by first | rfl | (simp; done) | (simp [*]; done)), H', ⟨Nat.le_refl _⟩, by repeat (first | exact Drawn0.refl _ | apply Drawn0.step)⟩
        case round =>
          clear H'
          try clear c1
          try clear p1
          try clear q1
          try clear hx1
          try clear p2
          try clear c3
          try clear c3b0
          try clear c4
          try clear c4b0
          try clear c5
          try clear c5b0
          try clear hx189_0
          try clear p189
          try clear p2
          try clear q189
          obtain ⟨x5_2, x8_2, rfl, rfl, HA, HK2, ⟨m2, rfl⟩⟩ := hrel
          cases gk with
          | zero => exact absurd HA.out (by simp [spec_attributeHash.l1])
          | succ k2 =>
            have H := HA.out
            clear HA
            simp only [spec_attributeHash.l1] at H
            by_cases c6 : x8_2 < (l1.length : Int)
            · rw [if_pos c6] at H
              have c6b0 : decide (x8_2 < (l1.length : Int)) = true := decide_eq_true c6
              clear c6
              replace H := Option.bind_eq_some_iff.mp H
              obtain ⟨t190, A70, H⟩ := H
              replace H : (spec_attributeHash.l1 k2 l1 (Go.bits .xor .u32 (Go.bits .xor .u32 ((x5_2 * 65536) % 4294967296) (x5_2 / 65536)) ((t190) % 4294967296)) (wrap64 (x8_2 + 4))) = some r := H
              have A7 := Aside0.mk A70
              clear A70
              have H' := Aside0.mk H
              clear H
              go_wp2_with (first | ((with_reducible refine gate_callee (f := 33) rfl ?_); refine goesL_ (some 38) rfl rfl Tryd.func33 (by kernel_rfl) rfl #[.slice A1 l1.length c1, .int .u64 (IntKind.u64.wrap (x8_2)), .int .u64 4] rfl (by (try simp only [List.map_toArray, List.map_cons, List.map_nil]); first | done | rfl | (simp only [List.length_drop, List.length_take]; rfl)) ?_; (with_reducible refine (spec_le.calls k2 _ _ l1 (IntKind.u64.wrap (x8_2)) 4 t190 _ ?side1 ?side2 A7.out).mono ?_); (case side1 => repeat (first | exact HR1.out | (with_reducible refine Kd.C_alloc ?_ _) | (with_reducible refine Kd.C_drewN ?_ _) | (with_reducible refine Kd.C_drew ?_))); (case side2 => exact HC1.out); rintro e w' ⟨rfl, ⟨nd, rfl⟩⟩; refine ⟨_, rfl, ?_⟩))
              go_roundg k2
              case measure => have := HK1.out; have := HK2.out; omega
              case rel => exact ⟨(Go.bits .xor .u32 (Go.bits .xor .u32 ((x5_2 * 65536) % 4294967296) (x5_2 / 65536)) ((t190) % 4294967296)), (wrap64 (x8_2 + 4)), (by first | rfl | (simp; done) | (simp [*]; done)), (by first | rfl | (simp; done) | (simp [*]; done)), H', ⟨by have := HK1.out; have := HK2.out; omega⟩, by repeat (first | exact Drawn0.refl _ | apply Drawn0.step)⟩
            · rw [if_neg c6] at H
              have c6b0 : decide (x8_2 < (l1.length : Int)) = false := decide_eq_false c6
              clear c6
              obtain rfl := Option.some.inj H
              go_wp2
              go_ret
              exact ⟨by first | rfl | (simp; done) | (simp [*]; done), by repeat (first | exact Drawn0.refl _ | apply Drawn0.step)⟩
def spec_LongName.l0 : Nat → List (S70) → Int → Int → Option (Bool)
  | 0, _, _, _ => none
  | k + 1, x7, x8, x9 => if x9 < x8 then (if 0 ≤ x9 then (if x9 < (x7.length : Int) then ((spec_Prefixed.f k ((rd_T70 x7 x9).f0)).bind fun bt205 => (if (bt205.2.size : Int) ≥ 240 then (some true) else (spec_LongName.l0 k x7 x8 (wrap64 (x9 + 1))))) else (none)) else (none)) else (some false)
def spec_LongName.f (k : Nat) (l0 : List (S70)) : Option (Bool) := spec_LongName.l0 k l0 (l0.length : Int) 0
theorem spec_LongName.mono_l : ∀ k, (∀ y0 y1 y2, LeO (spec_LongName.l0 k y0 y1 y2) (spec_LongName.l0 (k + 1) y0 y1 y2))
  | 0 => fun _ _ _ r h => by simp [spec_LongName.l0] at h
  | k + 1 => by
    have ih0 := spec_LongName.mono_l k
    · intro y0 y1 y2
      unfold spec_LongName.l0
      repeat' first
      | (with_reducible exact ih0 _ _ _)
      | (with_reducible exact spec_Prefixed.mono _ _)
      | (with_reducible exact LeO.refl _)
      | (with_reducible exact LeO.none _)
      | (with_reducible refine LeO.ite ?_ ?_)
      | (with_reducible refine LeO.bind ?_ (fun _ => ?_))
      | exact ih0 _ _ _
      | exact spec_Prefixed.mono _ _
      | exact LeO.none _
      | refine LeO.ite ?_ ?_
      | refine LeO.bind ?_ (fun _ => ?_)
theorem spec_LongName.mono : ∀ a0 k, LeO (spec_LongName.f k a0) (spec_LongName.f (k + 1) a0) := by
  intro a0 k
  have ih0 := spec_LongName.mono_l k
  unfold spec_LongName.f
  repeat' first
      | (with_reducible exact ih0 _ _ _)
      | (with_reducible exact spec_Prefixed.mono _ _)
      | (with_reducible exact LeO.refl _)
      | (with_reducible exact LeO.none _)
      | (with_reducible refine LeO.ite ?_ ?_)
      | (with_reducible refine LeO.bind ?_ (fun _ => ?_))
      | exact ih0 _ _ _
      | exact spec_Prefixed.mono _ _
      | exact LeO.none _
      | refine LeO.ite ?_ ?_
      | refine LeO.bind ?_ (fun _ => ?_)
set_option maxHeartbeats 8000000 in
set_option maxRecDepth 100000 in
theorem spec_LongName.calls (k : Nat) (A0 : Option Addr) (c0 : Nat) (l0 : List (S70)) (r : Bool) (w : World) (hr0 : Kd.C k70 w A0 l0.length l0) (hc0 : l0.length ≤ c0) (h : spec_LongName.f k l0 = some r) :
    Calls Tryd.prog 23 #[.slice A0 l0.length c0] w fun e w' => e = .returned (.bool r) ∧ Below w.heap.size w w' := by
  have hu70 := Tryd.underlying70
  have HR0 := Aside0.mk hr0
  have HC0 := Aside0.mk hc0
  clear hr0 hc0
  have HB := Aside0.mk (Below.refl w.heap.size w)
  have H : (spec_LongName.l0 k l0 (l0.length : Int) 0) = some r := h
  clear h
  have H' := Aside0.mk H
  clear H
  go_enter Tryd.func23, Tryd.ntmps23
  go_wp2
  go_loopg [9] k (fun kq v9 w' => ∃ (x9_1 : Int), v9 = .int .i64 x9_1 ∧ Aside0 (spec_LongName.l0 kq l0 (l0.length : Int) x9_1 = some r) ∧ Aside0 (kq ≤ k) ∧ Aside0 (Below w.heap.size w w'))
  case atStart => exact ⟨(0), (by first | rfl | (simp; done) | (simp [*]; done)), H', ⟨Nat.le_refl _⟩, ⟨by repeat (first | (with_reducible first | exact HB.out | apply below_alloc | apply pw_below_drewN | apply below_drew1) | exact HB.out)⟩⟩
  case round =>
    clear H'
    obtain ⟨x9_1, rfl, HA, HK1, HB⟩ := hrel
    cases gk with
    | zero => exact absurd HA.out (by simp [spec_LongName.l0])
    | succ k1 =>
      have H := HA.out
      clear HA
      simp only [spec_LongName.l0] at H
      by_cases c2 : x9_1 < (l0.length : Int)
      · rw [if_pos c2] at H
        have c2b0 : decide (x9_1 < (l0.length : Int)) = true := decide_eq_true c2
        clear c2
        by_cases c3 : 0 ≤ x9_1
        · rw [if_pos c3] at H
          have c3b0 : decide (0 ≤ x9_1) = true := decide_eq_true c3
          clear c3
          by_cases c4 : x9_1 < (l0.length : Int)
          · rw [if_pos c4] at H
            have c4b0 : decide (x9_1 < (l0.length : Int)) = true := decide_eq_true c4
            clear c4
            replace H := Option.bind_eq_some_iff.mp H
            obtain ⟨⟨t205, t206⟩, A50, H⟩ := H
            replace H : (if (t206.size : Int) ≥ 240 then (some true) else (spec_LongName.l0 k1 l0 (l0.length : Int) (wrap64 (x9_1 + 1)))) = some r := H
            have A5 := Aside0.mk A50
            clear A50
            by_cases c6 : (t206.size : Int) ≥ 240
            · rw [if_pos c6] at H
              have c6b0 : decide (240 ≤ (t206.size : Int)) = true := decide_eq_true c6
              have c6b1 : decide (240 ≤ t206.size) = true := decide_eq_true (by omega)
              clear c6
              obtain rfl := Option.some.inj H
              have p203 : 0 ≤ (x9_1 : Int) := of_decide_eq_true (by first | (with_reducible assumption) | assumption)
              have q203 : x9_1 < (l0.length : Int) := of_decide_eq_true (by first | (with_reducible assumption) | assumption)
              obtain ⟨ad203, A203_1, c203_1, e203, hx203_0, hx203_1, hl203_1, hi203_1⟩ := at_T70 HR0.out x9_1 p203 q203
              cases e203
              replace hx203_0 := (HB.out.cell (World.block_lt_of_cell? w _ hx203_0)).trans hx203_0
              replace hx203_1 := (HB.out.cell (World.block_lt_of_cell? w _ hx203_1)).trans hx203_1
              have HR203_1 := Aside0.mk hi203_1
              have HC203_1 := Aside0.mk hl203_1
              clear hi203_1 hl203_1
              replace p203 := eq_true p203
              replace q203 := eq_true q203
              go_wp2_with (first | ((with_reducible refine gate_dst (N := 4) rfl ?_); refine box_event ?hg (N := 4) ?hd (cs := #[.string (⟨#[]⟩ : ByteArray), .slice none 0 0]) (t := 70) ?hr ?_; (case hd => rfl); (case hg => rfl); (case hr => first | (go_simp; done) | (go_simp; rfl)); intro gb204 hg w7 hbox hb; have n0_ := Aside0.mk (below_step (by repeat (first | (with_reducible first | exact HB.out | apply below_alloc | apply pw_below_drewN | apply below_drew1) | exact HB.out)) hb); have n1_ := Aside0.mk (hbox); have n2_ := Aside0.mk ((by rw [hg]; exact (below_size (by repeat (first | (with_reducible first | exact HB.out | apply below_alloc | apply pw_below_drewN | apply below_drew1) | exact HB.out))) : w.heap.size ≤ gb204)); have n3_ := Aside0.mk ((by rw [hg]; exact (below_size (by repeat (first | (with_reducible first | exact HB.out | apply below_alloc | apply pw_below_drewN | apply below_drew1) | exact HB.out))) : w.heap.size ≤ gb204)); clear HB; have HB := n0_; have BK204 := n1_; have GW204 := n2_; have GE204 := n3_; clear n0_ n1_ n2_ n3_; clear hb hbox hg; have hcz8_0 : w7.cell? ⟨gb204, 0, none⟩ = some (.string (⟨#[]⟩ : ByteArray)) := (blk_cell BK204.out 0).trans rfl; have hcz8_1 : w7.cell? ⟨gb204, 1, none⟩ = some (.slice none 0 0) := (blk_cell BK204.out 1).trans rfl; have hfz8_0 := blk_frozen BK204.out 0; have hfz8_1 := blk_frozen BK204.out 1) | ((with_reducible refine gate_callee (f := 27) rfl ?_); refine goesL_ (some 16) rfl rfl Tryd.func27 (by kernel_rfl) rfl #[.string ((rd_T70 l0 x9_1).f0)] rfl (by (try simp only [List.map_toArray, List.map_cons, List.map_nil]); first | done | rfl | (simp only [List.length_drop, List.length_take]; rfl)) ?_; (with_reducible refine (spec_Prefixed.calls k1 ((rd_T70 l0 x9_1).f0) t205 t206 _ A5.out).mono ?_); rintro e w9 ⟨rfl, hb⟩; refine ⟨_, rfl, ?_⟩; have n0_ := Aside0.mk (blk_below (g := gb204) (o := .cells #[.string ((rd_T70 l0 x9_1).f0), .slice A203_1 ((rd_T70 l0 x9_1).f1).length c203_1] 70 (0, 0)) (by (with_reducible repeat (first | refine blk_drewN ?_ _ | refine blk_drew ?_ | refine blk_alloc ?_ _)); refine blk_put (cs := #[.string ((rd_T70 l0 x9_1).f0), .slice none 0 0]) ?_ 1 _ rfl; (with_reducible repeat (first | refine blk_drewN ?_ _ | refine blk_drew ?_ | refine blk_alloc ?_ _)); refine blk_put (cs := #[.string (⟨#[]⟩ : ByteArray), .slice none 0 0]) ?_ 0 _ rfl; (with_reducible repeat (first | refine blk_drewN ?_ _ | refine blk_drew ?_ | refine blk_alloc ?_ _)); exact BK204.out) hb); have n1_ := Aside0.mk (below_step (by repeat (first | (with_reducible first | exact HB.out | apply below_alloc | apply pw_below_drewN | apply below_drew1 | refine below_set ?_ GE204.out) | exact HB.out)) hb); clear BK204; clear HB; have BK204 := n0_; have HB := n1_; clear n0_ n1_; (try clear hb); (try clear hb2); (try clear hk); (try clear hi)))
              go_ret
              exact ⟨by first | rfl | (simp [errW_none, errW_some] <;> rfl) | (simp [*, errW_none, errW_some] <;> rfl), by repeat (first | (with_reducible first | exact HB.out | apply below_alloc | apply pw_below_drewN | apply below_drew1 | refine below_set ?_ GE204.out) | exact HB.out)⟩
            · rw [if_neg c6] at H
              have c6b0 : decide (240 ≤ (t206.size : Int)) = false := decide_eq_false c6
              have c6b1 : decide (240 ≤ t206.size) = false := decide_eq_false (by omega)
              clear c6
              have H' := Aside0.mk H
              clear H
              have p203 : 0 ≤ (x9_1 : Int) := of_decide_eq_true (by first | (with_reducible assumption) | assumption)
              have q203 : x9_1 < (l0.length : Int) := of_decide_eq_true (by first | (with_reducible assumption) | assumption)
              obtain ⟨ad203, A203_1, c203_1, e203, hx203_0, hx203_1, hl203_1, hi203_1⟩ := at_T70 HR0.out x9_1 p203 q203
              cases e203
              replace hx203_0 := (HB.out.cell (World.block_lt_of_cell? w _ hx203_0)).trans hx203_0
              replace hx203_1 := (HB.out.cell (World.block_lt_of_cell? w _ hx203_1)).trans hx203_1
              have HR203_1 := Aside0.mk hi203_1
              have HC203_1 := Aside0.mk hl203_1
              clear hi203_1 hl203_1
              replace p203 := eq_true p203
              replace q203 := eq_true q203
              go_wp2_with (first | ((with_reducible refine gate_dst (N := 4) rfl ?_); refine box_event ?hg (N := 4) ?hd (cs := #[.string (⟨#[]⟩ : ByteArray), .slice none 0 0]) (t := 70) ?hr ?_; (case hd => rfl); (case hg => rfl); (case hr => first | (go_simp; done) | (go_simp; rfl)); intro gb204 hg w10 hbox hb; have n0_ := Aside0.mk (below_step (by repeat (first | (with_reducible first | exact HB.out | apply below_alloc | apply pw_below_drewN | apply below_drew1) | exact HB.out)) hb); have n1_ := Aside0.mk (hbox); have n2_ := Aside0.mk ((by rw [hg]; exact (below_size (by repeat (first | (with_reducible first | exact HB.out | apply below_alloc | apply pw_below_drewN | apply below_drew1) | exact HB.out))) : w.heap.size ≤ gb204)); have n3_ := Aside0.mk ((by rw [hg]; exact (below_size (by repeat (first | (with_reducible first | exact HB.out | apply below_alloc | apply pw_below_drewN | apply below_drew1) | exact HB.out))) : w.heap.size ≤ gb204)); clear HB; have HB := n0_; have BK204 := n1_; have GW204 := n2_; have GE204 := n3_; clear n0_ n1_ n2_ n3_; clear hb hbox hg; have hcz11_0 : w10.cell? ⟨gb204, 0, none⟩ = some (.string (⟨#[]⟩ : ByteArray)) := (blk_cell BK204.out 0).trans rfl; have hcz11_1 : w10.cell? ⟨gb204, 1, none⟩ = some (.slice none 0 0) := (blk_cell BK204.out 1).trans rfl; have hfz11_0 := blk_frozen BK204.out 0; have hfz11_1 := blk_frozen BK204.out 1) | ((with_reducible refine gate_callee (f := 27) rfl ?_); refine goesL_ (some 16) rfl rfl Tryd.func27 (by kernel_rfl) rfl #[.string ((rd_T70 l0 x9_1).f0)] rfl (by (try simp only [List.map_toArray, List.map_cons, List.map_nil]); first | done | rfl | (simp only [List.length_drop, List.length_take]; rfl)) ?_; (with_reducible refine (spec_Prefixed.calls k1 ((rd_T70 l0 x9_1).f0) t205 t206 _ A5.out).mono ?_); rintro e w12 ⟨rfl, hb⟩; refine ⟨_, rfl, ?_⟩; have n0_ := Aside0.mk (blk_below (g := gb204) (o := .cells #[.string ((rd_T70 l0 x9_1).f0), .slice A203_1 ((rd_T70 l0 x9_1).f1).length c203_1] 70 (0, 0)) (by (with_reducible repeat (first | refine blk_drewN ?_ _ | refine blk_drew ?_ | refine blk_alloc ?_ _)); refine blk_put (cs := #[.string ((rd_T70 l0 x9_1).f0), .slice none 0 0]) ?_ 1 _ rfl; (with_reducible repeat (first | refine blk_drewN ?_ _ | refine blk_drew ?_ | refine blk_alloc ?_ _)); refine blk_put (cs := #[.string (⟨#[]⟩ : ByteArray), .slice none 0 0]) ?_ 0 _ rfl; (with_reducible repeat (first | refine blk_drewN ?_ _ | refine blk_drew ?_ | refine blk_alloc ?_ _)); exact BK204.out) hb); have n1_ := Aside0.mk (below_step (by repeat (first | (with_reducible first | exact HB.out | apply below_alloc | apply pw_below_drewN | apply below_drew1 | refine below_set ?_ GE204.out) | exact HB.out)) hb); clear BK204; clear HB; have BK204 := n0_; have HB := n1_; clear n0_ n1_; (try clear hb); (try clear hb2); (try clear hk); (try clear hi)))
              go_roundg k1
              case measure => have := HK1.out; omega
              case rel => exact ⟨(wrap64 (x9_1 + 1)), (by first | rfl | (simp; done) | (simp [*]; done)), H', ⟨by have := HK1.out; omega⟩, ⟨by repeat (first | (with_reducible first | exact HB.out | apply below_alloc | apply pw_below_drewN | apply below_drew1 | refine below_set ?_ GE204.out) | exact HB.out)⟩⟩
          · rw [if_neg c4] at H
            exact absurd H (by simp)
        · rw [if_neg c3] at H
          exact absurd H (by simp)
      · rw [if_neg c2] at H
        have c2b0 : decide (x9_1 < (l0.length : Int)) = false := decide_eq_false c2
        clear c2
        obtain rfl := Option.some.inj H
        go_wp2
        go_ret
        exact ⟨by first | rfl | (simp [errW_none, errW_some] <;> rfl) | (simp [*, errW_none, errW_some] <;> rfl), by repeat (first | (with_reducible first | exact HB.out | apply below_alloc | apply pw_below_drewN | apply below_drew1) | exact HB.out)⟩
def compactext4_get16.f (l0 : List Int) : Option (Int) := if 0 < (l0.length : Int) then (if 1 < (l0.length : Int) then (some (Go.bits .or .u16 (IntKind.u16.wrap (rd l0 0)) (IntKind.u16.wrap ((IntKind.u16.wrap (rd l0 1)) * 256)))) else (none)) else (none)
set_option maxHeartbeats 8000000 in
set_option maxRecDepth 100000 in
theorem compactext4_get16.calls (A0 : Option Addr) (c0 : Nat) (l0 : List Int) (r : Int) (w : World) (hr0 : Kd.C (Kd.int .u8) w A0 l0.length l0) (hc0 : l0.length ≤ c0) (h : compactext4_get16.f l0 = some r) :
    Calls Tryd.prog 74 #[.slice A0 l0.length c0] w fun e w' => e = .returned (.int .u16 r) ∧ Drawn0 w w' := by
  have HR0 := Aside0.mk hr0
  have HC0 := Aside0.mk hc0
  clear hr0 hc0
  have H : (if 0 < (l0.length : Int) then (if 1 < (l0.length : Int) then (some (Go.bits .or .u16 (IntKind.u16.wrap (rd l0 0)) (IntKind.u16.wrap ((IntKind.u16.wrap (rd l0 1)) * 256)))) else (none)) else (none)) = some r := h
  clear h
  by_cases c2 : 0 < (l0.length : Int)
  · rw [if_pos c2] at H
    have c2b0 : decide (0 < (l0.length : Int)) = true := decide_eq_true c2
    have c2b1 : decide (0 < l0.length) = true := decide_eq_true (by omega)
    clear c2
    by_cases c3 : 1 < (l0.length : Int)
    · rw [if_pos c3] at H
      have c3b0 : decide (1 < (l0.length : Int)) = true := decide_eq_true c3
      have c3b1 : decide (1 < l0.length) = true := decide_eq_true (by omega)
      clear c3
      obtain rfl := Option.some.inj H
      have p207 : 0 ≤ (0 : Int) := (by omega)
      have q207 : 0 < (l0.length : Int) := of_decide_eq_true (by first | (with_reducible assumption) | assumption)
      obtain ⟨ad207, e207, hx207_0⟩ := Kd.at_int HR0.out 0 p207 q207
      cases e207
      have qi207 : (0 < l0.length) = True := eq_true (by omega)
      (try rw [show ((0 : Int)).toNat = 0 from rfl] at hx207_0)
      (try rw [Addr.add_zero'] at hx207_0)
      replace p207 := eq_true p207
      replace q207 := eq_true q207
      have p208 : 0 ≤ (1 : Int) := (by omega)
      have q208 : 1 < (l0.length : Int) := of_decide_eq_true (by first | (with_reducible assumption) | assumption)
      obtain ⟨ad208, e208, hx208_0⟩ := Kd.at_int HR0.out 1 p208 q208
      obtain rfl : ad207 = ad208 := (by injection e208)
      (try simp only [show (1 : Int).toNat = 1 from rfl, Nat.reduceMul, Nat.reduceEqDiff, Go.Addr.add, ↓reduceIte] at hx208_0)
      have qi208 : (1 < l0.length) = True := eq_true (by omega)
      (try rw [show ((1 : Int)).toNat = 1 from rfl] at hx208_0)
      replace p208 := eq_true p208
      replace q208 := eq_true q208
      go_enter Tryd.func74, Tryd.ntmps74
      go_wp2
      repeat (go_quiet (fail); try go_wp2)
      go_ret
      exact ⟨by first | rfl | (simp; done) | (simp [*]; done), by repeat (first | exact Drawn0.refl _ | apply Drawn0.step)⟩
    · rw [if_neg c3] at H
      exact absurd H (by simp)
  · rw [if_neg c2] at H
    exact absurd H (by simp)
end Go.Proofs.YtckjbgneblfceaaDoor.PFnAttributesPut
namespace Go.Proofs.YtckjbgneblfceaaDoor.At
open Go.RowKit Go.Maps Go.Proofs.YtckjbgneblfceaaDoorW.PrintWords Go.Proofs.YtckjbgneblfceaaDoorW.PrintLast Go.Proofs.YtckjbgneblfceaaDoorW.PrintMore
open Go.Proofs.YtckjbgneblfceaaDoor.Da Go.Proofs.YtckjbgneblfceaaDoor.Fa Go.Proofs.YtckjbgneblfceaaDoor.Fm
set_option linter.unusedVariables false
set_option linter.unusedSimpArgs false
def nb (s : ByteArray) : List Int := s.data.toList.map fun x => (x.toNat : Int)
theorem nb_len (s : ByteArray) : (nb s).length = s.size := by unfold nb; rw [List.length_map, Array.length_toList]; rfl
theorem nb_at (s : ByteArray) (i : Nat) (h : i < s.size) : (nb s)[i]? = some ((s[i]'h).toNat : Int) := by
  unfold nb
  rw [List.getElem?_map, List.getElem?_eq_getElem (by rw [Array.length_toList]; exact h)]
  rfl
/-- Bytes laid over others, from a place on. -/
def laidL (f : List Int) (o : Nat) (ys : List Int) : List Int := f.take o ++ ys ++ f.drop (o + ys.length)
theorem laidL_len (f : List Int) (o : Nat) (ys : List Int) (h : o + ys.length ≤ f.length) : (laidL f o ys).length = f.length := by
  unfold laidL
  rw [List.length_append, List.length_append, List.length_take, List.length_drop]
  omega
theorem laidL_nil (f : List Int) (o : Nat) : laidL f o [] = f := by simp [laidL]
theorem laidL_mid (A B C ys : List Int) (o : Nat) (ho : A.length = o) (hl : B.length = ys.length) : laidL (A ++ (B ++ C)) o ys = A ++ (ys ++ C) := by
  subst ho
  unfold laidL
  rw [List.take_left, ← hl, List.drop_append, List.drop_of_length_le (by omega), Nat.add_sub_cancel_left, List.drop_left, List.nil_append, List.append_assoc]
theorem laidL_get (f : List Int) (o : Nat) (ys : List Int) (h : o + ys.length ≤ f.length) (j : Nat) : (laidL f o ys)[j]? = if o ≤ j ∧ j < o + ys.length then ys[j - o]? else f[j]? := by
  unfold laidL
  by_cases h1 : j < o
  · rw [if_neg (by omega), List.append_assoc, List.getElem?_append_left (by rw [List.length_take]; omega), List.getElem?_take_of_lt h1]
  · by_cases h2 : j < o + ys.length
    · rw [if_pos ⟨by omega, h2⟩, List.getElem?_append_left (by rw [List.length_append, List.length_take]; omega), List.getElem?_append_right (by rw [List.length_take]; omega), List.length_take]
      congr 1; omega
    · rw [if_neg (by omega), List.getElem?_append_right (by rw [List.length_append, List.length_take]; omega), List.getElem?_drop, List.length_append, List.length_take]
      congr 1; omega
structure Bst (g : Nat) (w0 : World) (f : List Int) (W : World) : Prop where
  sb : ∀ j x, f[j]? = some x → W.cell? ⟨g, j, none⟩ = some (.int .u8 x) ∧ W.frozen? ⟨g, j, none⟩ = false
  lt : g < W.heap.size
  mv : Moves (fun k => k = g) w0 W
section
variable {g : Nat} {w0 W V : World} {f : List Int}
theorem Bst.below (h : Bst g w0 f W) (hb : Below W.heap.size W V) : Bst g w0 f V :=
  ⟨fun j x hj => ⟨cell_later hb (h.sb j x hj).1, (hb.frozen (p := ⟨g, j, none⟩) h.lt).trans (h.sb j x hj).2⟩, Nat.lt_of_lt_of_le h.lt hb.size, h.mv.below hb⟩
theorem Bst.drew (h : Bst g w0 f W) : Bst g w0 f W.drew := h.below (below_drew (Below.refl _ _))
theorem Bst.drewN (h : Bst g w0 f W) (n : Nat) : Bst g w0 f (W.drewN n) := h.below (pw_below_drewN (Below.refl _ _) n)
theorem Bst.alloc (h : Bst g w0 f W) (o : Obj) : Bst g w0 f (W.alloc o) := h.below (below_alloc (Below.refl _ _) o)
theorem Bst.laid (h : Bst g w0 f W) (o : Nat) (ys : List Int) (ho : o + ys.length ≤ f.length) : Bst g w0 (laidL f o ys) (W.setCells g o (encs (Value.int .u8) ys)) := by
  have hc : ∀ j, j < f.length → ∃ x, W.cell? ⟨g, j, none⟩ = some (.int .u8 x) ∧ W.frozen? ⟨g, j, none⟩ = false := fun j hj => ⟨_, h.sb j _ (List.getElem?_eq_getElem hj)⟩
  refine ⟨fun j x hx => ?_, by rw [(setCells_same g _ o W).2.2.2]; exact h.lt, Moves.setCells h.mv rfl o _⟩
  rw [laidL_get _ _ _ ho] at hx
  refine ⟨?_, ?_⟩
  · by_cases hin : o ≤ j ∧ j < o + ys.length
    · rw [if_pos hin] at hx
      obtain ⟨i, rfl⟩ : ∃ i, j = o + i := ⟨j - o, by omega⟩
      have hil : i < (encs (Value.int .u8) ys).length := by rw [encs_length]; omega
      rw [World.cell?_setCells_in g _ o W (fun q hq => by rw [encs_length] at hq; obtain ⟨x, hx, _⟩ := hc (o + q) (by omega); rw [hx]; rfl) i hil]
      rw [Nat.add_sub_cancel_left] at hx
      congr 1
      have h2 := encs_get (enc := Value.int .u8) (d := (0 : Int)) ys i (by omega)
      rw [List.getElem?_eq_getElem hil, List.getD_eq_getElem?_getD, hx] at h2
      exact Option.some.inj h2
    · rw [if_neg hin] at hx
      rw [World.cell?_setCells_out g _ o W _ (fun _ _ => by rw [encs_length]; show j < o ∨ o + ys.length ≤ j; omega)]
      exact (h.sb j x hx).1
  · rw [World.frozen?_setCells]
    by_cases hin : o ≤ j ∧ j < o + ys.length
    · obtain ⟨_, _, hz⟩ := hc j (by omega); exact hz
    · rw [if_neg hin] at hx; exact (h.sb j x hx).2
theorem Bst.lies (h : Bst g w0 f W) : Lies g 0 f W := fun k x hk => by rw [Nat.zero_add]; exact (h.sb k x hk).1
theorem Bst.at (h : Bst g w0 f W) (i : Nat) (hi : i < f.length) : ∃ x, W.cell? ⟨g, i, none⟩ = some (.int .u8 x) ∧ W.frozen? ⟨g, i, none⟩ = false := ⟨_, h.sb i _ (List.getElem?_eq_getElem hi)⟩
variable {ops : Array Oper} {rest : List Oper} {o : Oper} {a : Act} {Q : Exit → Act → World → Prop} {Kc : Act → World → Prop}
/-- copy of bytes of another block into the block. -/
theorem copy_bst (hw : Region.wanted o (yielded ops a.tmps) = true) (s x : Operand) (ho : o.op = .call { callee := .builtin .copy, args := #[s, x], argTypes := #[33, 33] })
    (p l cc m c : Nat) (A : Option Addr) (b : List Int) (hs : a.eval s = .slice (some ⟨g, p, none⟩) l cc) (hx : a.eval x = .slice A m c) (h : Bst g w0 f W) (hC : (Kd.int .u8).C W A m b) (hp : p + l ≤ f.length)
    (hk : ∀ w1, Bst g w0 (laidL f p (b.take l)) w1 → Kc (a.put o.dst (.int .i64 (min m l : Nat))) w1) :
    if Region.wanted o (yielded ops a.tmps) = true then Oper.wp Tryd.prog o a W Kc Q else Kc (a.put o.dst undef) W := by
  have hbl : b.length = m := Kd.C_len hC
  have hlen : (b.take l).length = min m l := by rw [List.length_take, hbl, Nat.min_comm]
  by_cases h0 : min m l = 0
  · have h2 := h
    have e0 : b.take l = [] := List.length_eq_zero_iff.1 (by rw [hlen]; exact h0)
    refine event_step hw ?_ (hk W (by rw [e0, laidL_nil]; exact h2))
    have hr := run_copy_none (P := Tryd.prog) W 33 33 o.type 5 (some ⟨g, p, none⟩) A l cc m c Tryd.underlying33 (by kernel_rfl) h0
    unfold execOp
    simp only [ho, resolve, invoke, builtin, Sem.run_bind, Sem.run_pure, Result.andThen_ok, List.map_toArray, List.map_cons, List.map_nil, hs, hx, hr]
    rw [h0]; rfl
  · obtain ⟨gs, i, rfl, hL⟩ := lies_of_C hC (by omega)
    have h2 := h.laid p (b.take l) (by rw [hlen]; omega)
    refine event_step hw ?_ (hk _ h2)
    have hr := run_copy_cells (P := Tryd.prog) W 33 33 o.type 5 g p l cc ⟨gs, i, none⟩ m c (encs (Value.int .u8) (b.take l)) Tryd.underlying33 (by kernel_rfl) (by rw [encs_length, hlen])
      (fun j v hj => by
        have hjl : j < min m l := by have := (List.getElem?_eq_some_iff.1 hj).1; rw [encs_length, hlen] at this; exact this
        rw [encs_get (d := (0 : Int)) _ j (by omega)] at hj
        obtain rfl := Option.some.inj hj
        have e : (⟨gs, i, none⟩ : Addr).add j = ⟨gs, i + j, none⟩ := by simp [Addr.add]
        rw [e]
        exact hL j _ (by rw [List.getD_eq_getElem?_getD, List.getElem?_take_of_lt (by omega), List.getElem?_eq_getElem (by omega)]; rfl))
      (fun j hj => by rw [encs_length, hlen] at hj; obtain ⟨x, hx, _⟩ := h.at (p + j) (by omega); rw [hx]; rfl) (fun j hj => by rw [encs_length, hlen] at hj; obtain ⟨x, _, hz⟩ := h.at (p + j) (by omega); exact hz) (by intro u hu; simp only [encs, List.mem_map] at hu; obtain ⟨q, _, rfl⟩ := hu; rfl)
    rw [encs_length, hlen] at hr
    unfold execOp
    simp only [ho, resolve, invoke, builtin, Sem.run_bind, Sem.run_pure, Result.andThen_ok, List.map_toArray, List.map_cons, List.map_nil, hs, hx, hr]
    rfl
/-- copy of a string into the block. -/
theorem copy_str (hw : Region.wanted o (yielded ops a.tmps) = true) (s x : Operand) (ho : o.op = .call { callee := .builtin .copy, args := #[s, x], argTypes := #[33, 9] })
    (p l cc : Nat) (t : ByteArray) (hs : a.eval s = .slice (some ⟨g, p, none⟩) l cc) (hx : a.eval x = .string t) (h : Bst g w0 f W) (hle : t.size ≤ l) (hp : p + t.size ≤ f.length)
    (hk : ∀ w1, Bst g w0 (laidL f p (nb t)) w1 → Kc (a.put o.dst (.int .i64 (t.size : Nat))) w1) :
    if Region.wanted o (yielded ops a.tmps) = true then Oper.wp Tryd.prog o a W Kc Q else Kc (a.put o.dst undef) W := by
  have hr := run_copy_string (P := Tryd.prog) W 33 9 o.type 5 g p l cc t Tryd.underlying33 (fun w => by kernel_rfl) hle
    (fun j hj => by obtain ⟨x, hx, _⟩ := h.at (p + j) (by omega); rw [hx]; rfl) (fun j hj => by obtain ⟨x, _, hz⟩ := h.at (p + j) (by omega); exact hz)
  have e : (t.data.toList.map fun x => Value.int .u8 (x.toNat : Int)) = encs (Value.int .u8) (nb t) := by
    unfold encs nb; rw [List.map_map]; rfl
  rw [e] at hr
  refine event_step hw ?_ (hk _ (h.laid p (nb t) (by rw [nb_len]; exact hp)))
  unfold execOp
  simp only [ho, resolve, invoke, builtin, Sem.run_bind, Sem.run_pure, Result.andThen_ok, List.map_toArray, List.map_cons, List.map_nil, hs, hx, hr]
  rfl
end
theorem Bst.set {g : Nat} {w0 W : World} {f : List Int} (h : Bst g w0 f W) (i : Nat) (hi : i < f.length) (x : Int) : Bst g w0 (laidL f i [x]) (W.setCell ⟨g, i, none⟩ (.int .u8 x)) := h.laid i [x] (by simp; omega)
theorem laidL_two (f : List Int) (o : Nat) (xs ys : List Int) (h : o + xs.length + ys.length ≤ f.length) : laidL (laidL f o xs) (o + xs.length) ys = laidL f o (xs ++ ys) := by
  have h1 := laidL_len f o xs (by omega)
  apply List.ext_getElem?
  intro j
  rw [laidL_get _ _ _ (by rw [h1]; omega), laidL_get _ _ _ (by omega), laidL_get _ _ _ (by rw [List.length_append]; omega), List.length_append]
  by_cases a1 : o + xs.length ≤ j ∧ j < o + xs.length + ys.length
  · rw [if_pos a1, if_pos (by omega), List.getElem?_append_right (by omega)]
    congr 1; omega
  · rw [if_neg a1]
    by_cases a2 : o ≤ j ∧ j < o + xs.length
    · rw [if_pos a2, if_pos (by omega), List.getElem?_append_left (by omega)]
    · rw [if_neg a2, if_neg (by omega)]
theorem Bst.fresh {w0 W : World} (hb : Below w0.heap.size w0 W) (f : List Int) (cs : Array Value) (t : TypeId) (hcs : cs = (encs (Value.int .u8) f).toArray) : Bst W.heap.size w0 f (W.alloc (.cells cs t)) := by
  have hN := blk_new W (.cells cs t)
  refine ⟨fun j x hj => ?_, by simp, Moves.of_below (below_alloc hb _) _⟩
  refine cell_blk hN j _ ?_
  rw [hcs]
  have hl : j < f.length := (List.getElem?_eq_some_iff.1 hj).1
  have h2 := encs_get (enc := Value.int .u8) (d := (0 : Int)) f j hl
  rw [List.getD_eq_getElem?_getD, hj] at h2
  simpa using h2
theorem Bst.base {g : Nat} {w0 W : World} {f : List Int} (h : Bst g w0 f W) : Bst g W f W := ⟨h.sb, h.lt, Moves.refl _ _⟩
theorem Bst.trans {g : Nat} {w0 w1 W : World} {f0 f : List Int} (h1 : Bst g w0 f0 w1) (h2 : Bst g w1 f W) : Bst g w0 f W := ⟨h2.sb, h2.lt, h1.mv.then_ h2.mv (fun i hi => .inl hi)⟩
theorem Bst.toBelow {g : Nat} {w0 W : World} {f : List Int} (h : Bst g w0 f W) (hg : w0.heap.size ≤ g) : Below w0.heap.size w0 W :=
  h.mv.toBelow (Below.refl _ _) (Nat.le_refl _) (fun k hk => by rw [hk]; exact hg)
set_option maxHeartbeats 4000000 in
set_option maxRecDepth 100000 in
theorem put71 (g o m c : Nat) (x : Int) (w0 W : World) (f : List Int) (hB : Bst g w0 f W) (hm : 2 ≤ m) (ho : o + 2 ≤ f.length) (h0 : 0 ≤ x) (h1 : x < 65536) :
    Calls Tryd.prog 71 #[.slice (some ⟨g, o, none⟩) m c, .int .u16 x] W fun e w' => e = .returned (.tuple #[]) ∧ Bst g w0 (laidL f o [x % 256, x / 256 % 256]) w' := by
  have HB := Lib.hid hB
  obtain ⟨x0, c0, z0⟩ := hB.at o (by omega)
  obtain ⟨x1, c1, z1⟩ := hB.at (o + 1) (by omega)
  clear hB
  have m0 : ((0 : Int) < (m : Int)) = True := eq_true (by omega)
  have m1 : ((1 : Int) < (m : Int)) = True := eq_true (by omega)
  go_enter Tryd.func71, Tryd.ntmps71
  go_wp2
  go_returns
  refine ⟨rfl, ?_⟩
  have h2 := (HB.out.set o (by omega) (x % 256)).set (o + 1) (by rw [laidL_len _ _ _ (by simp; omega)]; omega) (x / 256)
  have e2 := laidL_two f o [x % 256] [x / 256] (by simp; omega)
  simp only [List.length_singleton, List.cons_append, List.nil_append] at e2
  rw [e2] at h2
  rw [show x / 256 % 256 = x / 256 from by omega]
  exact h2
set_option maxHeartbeats 4000000 in
set_option maxRecDepth 100000 in
theorem put72 (g o m c : Nat) (x : Int) (w0 W : World) (f : List Int) (hB : Bst g w0 f W) (hm : 4 ≤ m) (ho : o + 4 ≤ f.length) (h0 : 0 ≤ x) (h1 : x < 4294967296) :
    Calls Tryd.prog 72 #[.slice (some ⟨g, o, none⟩) m c, .int .u32 x] W fun e w' => e = .returned (.tuple #[]) ∧ Bst g w0 (laidL f o [x % 256, x / 256 % 256, x / 65536 % 256, x / 16777216 % 256]) w' := by
  have HB := Lib.hid hB
  obtain ⟨x0, c0, z0⟩ := hB.at o (by omega)
  obtain ⟨x1, c1, z1⟩ := hB.at (o + 1) (by omega)
  obtain ⟨x2, c2, z2⟩ := hB.at (o + 2) (by omega)
  obtain ⟨x3, c3, z3⟩ := hB.at (o + 3) (by omega)
  clear hB
  have m0 : ((0 : Int) < (m : Int)) = True := eq_true (by omega)
  have m1 : ((1 : Int) < (m : Int)) = True := eq_true (by omega)
  have m2 : ((2 : Int) < (m : Int)) = True := eq_true (by omega)
  have m3 : ((3 : Int) < (m : Int)) = True := eq_true (by omega)
  go_enter Tryd.func72, Tryd.ntmps72
  go_wp2
  go_returns
  refine ⟨rfl, ?_⟩
  have h2 := (((HB.out.set o (by omega) (x % 256)).set (o + 1) (by rw [laidL_len _ _ _ (by simp; omega)]; omega) (x / 256 % 256)).set (o + 2) (by rw [laidL_len _ _ _ (by rw [laidL_len _ _ _ (by simp; omega)]; simp; omega), laidL_len _ _ _ (by simp; omega)]; omega) (x / 65536 % 256)).set (o + 3) (by rw [laidL_len _ _ _ (by rw [laidL_len _ _ _ (by rw [laidL_len _ _ _ (by simp; omega)]; simp; omega), laidL_len _ _ _ (by simp; omega)]; simp; omega), laidL_len _ _ _ (by rw [laidL_len _ _ _ (by simp; omega)]; simp; omega), laidL_len _ _ _ (by simp; omega)]; omega) (x / 16777216)
  have e1 := laidL_two f o [x % 256] [x / 256 % 256] (by simp; omega)
  have e2 := laidL_two f o [x % 256, x / 256 % 256] [x / 65536 % 256] (by simp; omega)
  have e3 := laidL_two f o [x % 256, x / 256 % 256, x / 65536 % 256] [x / 16777216] (by simp; omega)
  simp only [List.length_singleton, List.length_cons, List.length_nil, List.cons_append, List.nil_append, Nat.reduceAdd, Nat.zero_add] at e1 e2 e3
  rw [e1, e2, e3] at h2
  rw [show x / 16777216 % 256 = x / 16777216 from by omega]
  exact h2
end Go.Proofs.YtckjbgneblfceaaDoor.At
namespace Go.Proofs.YtckjbgneblfceaaDoor.At
open Go.RowKit Go.Maps Go.Proofs.YtckjbgneblfceaaDoorW.PrintWords Go.Proofs.YtckjbgneblfceaaDoorW.PrintLast Go.Proofs.YtckjbgneblfceaaDoorW.PrintMore
open Go.Proofs.YtckjbgneblfceaaDoor.Da Go.Proofs.YtckjbgneblfceaaDoor.Fa Go.Proofs.YtckjbgneblfceaaDoor.Fm
set_option linter.unusedVariables false
set_option linter.unusedSimpArgs false
/-- One byte of the name, four bytes of the value, into the hash. -/
def h5 (h c : Int) : Int := bits .xor .u32 (bits .xor .u32 (h * 32 % 4294967296) (h / 134217728)) (c % 4294967296)
def h16 (h v : Int) : Int := bits .xor .u32 (bits .xor .u32 (h * 65536 % 4294967296) (h / 65536)) (v % 4294967296)
def nameH (l : List Int) : Int := l.foldl h5 0
def valH (b : List Int) (h : Int) : Nat → Int
  | 0 => h
  | j + 1 => h16 (valH b h j) (leF b (4 * j) 4)
theorem nameH_snoc (l : List Int) (c : Int) : nameH (l ++ [c]) = h5 (nameH l) c := by simp [nameH]
theorem andNot3 (i : Nat) (h : i < 9223372036854775807) : bits .andNot .i64 (i : Int) 3 = ((i / 4 * 4 : Nat) : Int) := by
  show IntKind.i64.wrap ((BitVec.ofInt 64 (i : Int) &&& ~~~BitVec.ofInt 64 ((3 : Nat) : Int)).toNat : Int) = _
  rw [BitVec.toNat_and, BitVec.toNat_not, ofInt_u64 i (by omega), ofInt_u64 3 (by omega)]
  have e : 2 ^ 64 - 1 - 3 = 18446744073709551612 := by decide
  rw [e, nat_hi64_2, Nat.mod_eq_of_lt (by omega)]
  exact Lib.wrap_i64_small _ (by omega)
theorem tail_leF (b : List Int) (k m : Nat) (f : List Int) (hb : b.length = k + m) (hm : m < 4) (hi : InBytes b) (hf : f = laidL [0, 0, 0, 0] 0 (List.take 4 (List.drop k b))) : f.length = 4 ∧ InBytes f ∧ leF f 0 4 = leF b k 4 := by
  have hl : (List.take 4 (List.drop k b)).length = m := by rw [List.length_take, List.length_drop]; omega
  have hg : ∀ i, i < 4 → f.getD i 0 = b.getD (k + i) 0 := by
    intro i h4
    rw [List.getD_eq_getElem?_getD, List.getD_eq_getElem?_getD, hf, laidL_get _ _ _ (by rw [hl]; simp; omega), hl]
    by_cases h : i < m
    · rw [if_pos (by omega), Nat.sub_zero, List.getElem?_take_of_lt h4, List.getElem?_drop]
    · rw [if_neg (by omega), List.getElem?_eq_none (l := b) (by omega)]
      rcases (show i = 0 ∨ i = 1 ∨ i = 2 ∨ i = 3 by omega) with rfl | rfl | rfl | rfl <;> rfl
  have hfl : f.length = 4 := by rw [hf, laidL_len _ _ _ (by rw [hl]; simp; omega)]; rfl
  refine ⟨hfl, ?_, ?_⟩
  · intro x hx
    obtain ⟨i, hi1, hi2⟩ := List.getElem_of_mem hx
    have := hg i (by omega)
    rw [List.getD_eq_getElem?_getD, List.getElem?_eq_getElem hi1, hi2] at this
    have h2 := hi.at (k + i)
    rw [← this] at h2
    exact h2
  · simp only [leF, Nat.zero_add, Nat.reduceAdd]
    rw [hg 0 (by decide), hg 1 (by decide), hg 2 (by decide), hg 3 (by decide)]
    rfl
theorem get32c_law (b : List Int) (h : InBytes b) (hl : 4 ≤ b.length) : PFnAttributesPut.compactext4_get32.f b = some (leF b 0 4) := by
  have b0 := h.at 0
  have b1 := h.at 1
  have b2 := h.at 2
  have b3 := h.at 3
  have r : ∀ i : Nat, rd b (i : Int) = b.getD i 0 := fun i => by unfold rd; rw [Int.toNat_natCast]
  have r0 : rd b 0 = b.getD 0 0 := r 0
  have r1 : rd b 1 = b.getD 1 0 := r 1
  have r2 : rd b 2 = b.getD 2 0 := r 2
  have r3 : rd b 3 = b.getD 3 0 := r 3
  unfold PFnAttributesPut.compactext4_get32.f
  rw [if_pos (by omega), if_pos (by omega), if_pos (by omega), if_pos (by omega), r0, r1, r2, r3]
  simp only [leF, Nat.zero_add, Nat.reduceAdd]
  generalize b.getD 0 0 = x0 at *
  generalize b.getD 1 0 = x1 at *
  generalize b.getD 2 0 = x2 at *
  generalize b.getD 3 0 = x3 at *
  have e1 : Go.bits .or .u32 (x0 % 4294967296) (((x1 % 4294967296) * 256) % 4294967296) = x0 + 256 * x1 := by
    rw [bor_comm, bits_join .u32 32 (by decide) w32 8 _ _ (by omega) (by omega) (by omega) (by omega) (by omega) (by omega)]; omega
  rw [e1]
  have e2 : Go.bits .or .u32 (x0 + 256 * x1) (((x2 % 4294967296) * 65536) % 4294967296) = x0 + 256 * x1 + 65536 * x2 := by
    rw [bor_comm, bits_join .u32 32 (by decide) w32 16 _ _ (by omega) (by omega) (by omega) (by omega) (by omega) (by omega)]; omega
  rw [e2]
  have e3 : Go.bits .or .u32 (x0 + 256 * x1 + 65536 * x2) (((x3 % 4294967296) * 16777216) % 4294967296) = x0 + 256 * x1 + 65536 * x2 + 16777216 * x3 := by
    rw [bor_comm, bits_join .u32 32 (by decide) w32 24 _ _ (by omega) (by omega) (by omega) (by omega) (by omega) (by omega)]; omega
  rw [e3]
  congr 1
  omega
theorem get32c_at (g o n c : Nat) (b : List Int) (w : World) (hb : b.length = n) (hn : n ≤ 10000000) (hnc : n ≤ c) (h4 : 4 ≤ n) (hi : InBytes b) (hl : Lies g o b w) :
    Calls Tryd.prog 75 #[.slice (some ⟨g, o, none⟩) n c] w fun e w' => e = .returned (.int .u32 (leF b 0 4)) ∧ Drawn0 w w' := by
  subst hb
  exact PFnAttributesPut.compactext4_get32.calls _ c b _ w (C_of_lies hl hn) hnc (get32c_law b hi h4)
set_option maxHeartbeats 4000000 in
set_option maxRecDepth 100000 in
theorem hash73 (s : ByteArray) (hs : s.size ≤ 100000) (A : Option Addr) (n c : Nat) (b : List Int) (w : World) (hC : (Kd.int .u8).C w A n b) (hnc : n ≤ c) (hn : n ≤ 100000) (hi : InBytes b) :
    Calls Tryd.prog 73 #[.string s, .slice A n c] w fun e w' => e = .returned (.int .u32 (valH b (nameH (nb s)) ((n + 3) / 4))) ∧ Below w.heap.size w w' := by
  have HC := Lib.hid hC
  have HL := Lib.hid (show b.length = n from Kd.C_len hC)
  have HI := Lib.hid hi
  clear hC hi
  go_enter Tryd.func73, Tryd.ntmps73
  go_upto_block 0 with (fail)
  go_cut [5, 6] (fun v5 v6 wc => wc = w ∧ v5 = .int .u32 (nameH (nb s)))
  case first =>
    go_wp2
    go_loopw [5, 6] (fun v5 v6 wr => ∃ (i : Nat), v6 = .int .i64 i ∧ i ≤ s.size ∧ v5 = .int .u32 (nameH ((nb s).take i)) ∧ wr = w) (fun _ v6 _ => s.size - (intOf v6).toNat)
    case atStart => exact ⟨0, rfl, Nat.zero_le _, rfl, rfl⟩
    case round =>
      obtain ⟨i, rfl, hin, rfl, rfl⟩ := hrel
      by_cases hlt : i < s.size
      · have j1 : decide ((i : Int) < (s.size : Int)) = true := decide_eq_true (by omega)
        have j2 : (0 ≤ (i : Int)) = True := eq_true (by omega)
        have j3 : ((i : Int) < (s.size : Int)) = True := eq_true (by omega)
        have j4 : IntKind.i64.wrap ((i : Int) + 1) = (i : Int) + 1 := IntWalk.i64_in _ (by omega)
        have T := Lib.hid (show nameH ((nb s).take (i + 1)) = h5 (nameH ((nb s).take i)) ((s[i]'hlt).toNat : Int) from by rw [List.take_add_one, nb_at s i hlt, Option.toList_some, nameH_snoc])
        obtain ⟨h, hh⟩ : ∃ h, h = nameH ((nb s).take i) := ⟨_, rfl⟩
        rw [← hh] at T ⊢
        clear hh
        go_wp2
        go_roundw
        case rel => exact ⟨i + 1, by push_cast; rfl, hlt, by rw [T.out]; rfl, trivial⟩
        case measure => simp only [intOf]; omega
      · obtain rfl : i = s.size := by omega
        have j1 : decide ((s.size : Int) < (s.size : Int)) = false := decide_eq_false (by omega)
        have e1 : (nb s).take s.size = nb s := List.take_of_length_le (by rw [nb_len]; exact Nat.le_refl _)
        rw [e1]
        go_wp2
        go_meet
        case rel => exact ⟨rfl, rfl⟩
  case rest =>
    obtain ⟨rfl, rfl⟩ := hcut
    obtain ⟨h0, hh0⟩ : ∃ h0, h0 = nameH (nb s) := ⟨_, rfl⟩
    rw [← hh0]
    have HH := Lib.hid hh0
    clear hh0
    go_upto_block 2 with (fail)
    go_cut [5, 7] (fun v5 v7 wd => v5 = .int .u32 (valH b h0 (n / 4)) ∧ Hid (Below wc.heap.size wc wd))
    case first =>
      go_wp2
      go_loopw [5, 7] (fun v5 v7 wr => ∃ (p j : Nat), v7 = .int .i64 p ∧ Hid (p = 4 * j) ∧ p ≤ n ∧ v5 = .int .u32 (valH b h0 j) ∧ Hid (Below wc.heap.size wc wr)) (fun _ v7 _ => n - (intOf v7).toNat)
      case atStart => exact ⟨0, 0, rfl, Lib.hid rfl, Nat.zero_le _, rfl, Lib.hid (Below.refl _ _)⟩
      case round =>
        obtain ⟨p, j, rfl, HP, hin, rfl, B1⟩ := hrel
        have j0 : IntKind.i64.wrap ((p : Int) + 3) = (p : Int) + 3 := IntWalk.i64_in _ (by omega)
        by_cases hlt : p + 3 < n
        · have j1 : decide ((p : Int) + 3 < (n : Int)) = true := decide_eq_true (by omega)
          have j2 : (0 ≤ (p : Int)) = True := eq_true (by omega)
          have j3 : ((p : Int) ≤ (p : Int) + 4) = True := eq_true (by omega)
          have j4 : IntKind.i64.wrap ((p : Int) + 4) = (p : Int) + 4 := IntWalk.i64_in _ (by omega)
          have j5 : ((p : Int) + 4 ≤ (c : Int)) = True := eq_true (by omega)
          have j6 : (c = p) = False := eq_false (by omega)
          have j7 : p + 4 - p = 4 := by omega
          obtain ⟨g, o, rfl, hL⟩ := lies_of_C HC.out (by omega)
          have LP := Lib.hid ((hL.later B1.out).part p 4)
          have LB := Lib.hid (show ((b.drop p).take 4).length = 4 from by rw [List.length_take, List.length_drop, HL.out]; omega)
          have E := Lib.hid (show leF ((b.drop p).take 4) 0 4 = leF b (4 * j) 4 from by rw [leF_take _ _ _ _ (by omega), leF_drop, Nat.add_zero, HP.out])
          clear hL
          go_wp2_with (first | (go_at_call 75; (try rw [j7]); (with_reducible refine (get32c_at g (o + p) 4 (c - p) ((b.drop p).take 4) _ LB.out (by decide) (by omega) (by decide) ((HI.out.drop p).take 4) LP.out).mono ?_); rw [E.out]; rintro e w2 ⟨rfl, hd⟩; have B2 := Lib.hid (below_then B1.out B1.out.size hd.below); clear hd))
          go_roundw
          case rel =>
            have hr := leF_range HI.out 4 (4 * j)
            refine ⟨p + 4, j + 1, by push_cast; rfl, Lib.hid (by rw [HP.out]; omega), by omega, ?_, B2⟩
            rw [show valH b h0 (j + 1) = h16 (valH b h0 j) (leF b (4 * j) 4) from rfl]
            unfold h16
            have e := Int.emod_eq_of_lt (a := leF b (4 * j) 4) (b := 4294967296) (by omega) (by omega)
            rw [e]
          case measure => simp only [intOf]; omega
        · have j1 : decide ((p : Int) + 3 < (n : Int)) = false := decide_eq_false (by omega)
          have E := Lib.hid (show j = n / 4 from by have := HP.out; omega)
          go_wp2
          go_meet
          case rel => exact ⟨by rw [E.out], B1⟩
    case rest =>
      obtain ⟨rfl, B1⟩ := hcut
      rename World => wd
      have r1 : IntKind.i64.wrap ((n : Int) % 4) = (n : Int) % 4 := IntWalk.i64_in _ (by omega)
      by_cases h4 : n % 4 = 0
      · have q1 : decide (¬ Int.tmod (n : Int) 4 = 0) = false := decide_eq_false (by rw [Int.tmod_eq_emod_of_nonneg (by omega)]; omega)
        go_wp2
        go_returns
        refine ⟨?_, B1.out⟩
        rw [show (n + 3) / 4 = n / 4 from by omega, ← HH.out]; rfl
      · have a3 := andNot3 n (by omega)
        obtain ⟨gs, os, rfl, hL⟩ := lies_of_C HC.out (by omega)
        obtain ⟨k, hk⟩ : ∃ k, k = n / 4 * 4 := ⟨_, rfl⟩
        obtain ⟨m, hm⟩ : ∃ m, m = n - k := ⟨_, rfl⟩
        rw [← hk] at a3
        have m1 : m < 4 := by omega
        have m3 : 0 < m := by omega
        have HK := Lib.hid hk
        clear hk
        have HP := Lib.hid (C_of_lies ((hL.later B1.out).tail k) (by rw [List.length_drop, HL.out]; omega))
        have e1 : (b.drop k).length = m := by rw [List.length_drop, HL.out]; omega
        rw [e1] at HP
        clear hL e1
        have k1 : ((k : Int) ≤ (n : Int)) = True := eq_true (by omega)
        have k5 : (0 : Int) ≤ (k : Int) := by omega
        have k6 : (k : Int) ≤ (n : Int) := by omega
        have k7 : (n : Int) ≤ (c : Int) := by omega
        have k8 : (k : Int) ≤ (c : Int) := by omega
        have k3 : (0 ≤ (k : Int)) = True := eq_true (by omega)
        have k4 : ((n : Int) ≤ (c : Int)) = True := eq_true (by omega)
        have k2 : (c = k) = False := eq_false (by omega)
        have P0 := Lib.hid (Bst.fresh (w0 := wc) B1.out [0, 0, 0, 0] #[.int .u8 0, .int .u8 0, .int .u8 0, .int .u8 0] 155 rfl)
        have HP2 := Lib.hid (Kd.C_below HP.out (below_alloc (Below.refl _ _) (.cells #[.int .u8 0, .int .u8 0, .int .u8 0, .int .u8 0] 155)))
        have hnk : n - k = m := hm.symm
        have HM := Lib.hid (show n = k + m from by omega)
        clear hm
        have SZ := Lib.hid B1.out.size
        go_wp2
        obtain ⟨wx, hwx⟩ : ∃ wx, wx = wd.alloc (.cells #[.int .u8 0, .int .u8 0, .int .u8 0, .int .u8 0] 155) := ⟨_, rfl⟩
        rw [← hwx] at P0 HP2 ⊢
        clear hwx
        go_region_held3 (fun _ => True) (trivial)
          ((refine copy_bst (g := wd.heap.size) (w0 := wc) (f := [0, 0, 0, 0]) (by rfl) _ _ (by rfl) 0 4 4 m (c - k) (some ⟨gs, os + k, none⟩) (b.drop k) (by rfl) (by rfl) P0.out.drew (Kd.C_below HP2.out (below_drew (Below.refl _ _))) (by decide) ?_; intro w5 hr; have P5 := Lib.hid hr; clear hr))
        obtain ⟨f, hf⟩ : ∃ f, f = laidL [0, 0, 0, 0] 0 (List.take 4 (List.drop k b)) := ⟨_, rfl⟩
        obtain ⟨f1, f2, f3⟩ := tail_leF b k m f (by rw [HL.out]; exact HM.out) m1 HI.out hf
        rw [← hf] at P5
        have F1 := Lib.hid f1
        have F2 := Lib.hid f2
        have F3 := Lib.hid f3
        clear hf f1 f2 f3
        go_wp2_with (first | (go_at_call 75; (with_reducible refine (get32c_at wd.heap.size 0 4 4 f _ F1.out (by decide) (by omega) (by decide) F2.out P5.out.lies).mono ?_); rw [F3.out]; rintro e w6 ⟨rfl, hd⟩; have B6 := Lib.hid (P5.out.below hd.below); clear hd))
        go_returns
        have hr := leF_range HI.out 4 k
        refine ⟨?_, B6.out.toBelow SZ.out⟩
        rw [show (n + 3) / 4 = n / 4 + 1 from by have := HM.out; have := HK.out; omega, ← HH.out, show valH b h0 (n / 4 + 1) = h16 (valH b h0 (n / 4)) (leF b (4 * (n / 4)) 4) from rfl]
        unfold h16
        rw [show 4 * (n / 4) = k from by rw [HK.out]; omega]
        have e := Int.emod_eq_of_lt (a := leF b k 4) (b := 4294967296) (by omega) (by omega)
        rw [e]
        rfl
end Go.Proofs.YtckjbgneblfceaaDoor.At
namespace Go.Proofs.YtckjbgneblfceaaDoor.Al
open Go.RowKit Go.Maps Go.Proofs.YtckjbgneblfceaaDoorW.PrintWords Go.Proofs.YtckjbgneblfceaaDoorW.PrintLast Go.Proofs.YtckjbgneblfceaaDoorW.PrintMore
open Go.Proofs.YtckjbgneblfceaaDoor.PFnFitFirst Go.Proofs.YtckjbgneblfceaaDoor.Fa Go.Proofs.YtckjbgneblfceaaDoor.Fm
set_option linter.unusedVariables false
set_option linter.unusedSimpArgs false
def up4 (n : Nat) : Nat := (n + 3) / 4 * 4
def room (x : S58) : Nat := 16 + up4 (comp x.f0).2.size + up4 x.f1.length
def roomL (l : List S58) : Nat := (l.map room).sum
theorem roomL_snoc (l : List S58) (x : S58) : roomL (l ++ [x]) = roomL l + room x := by simp [roomL]
theorem room_le {x : S58} (h1 : (comp x.f0).2.size ≤ 255) (h2 : x.f1.length ≤ 4096) : room x ≤ 4400 := by unfold room up4; omega
theorem roomL_le : ∀ (l : List S58), (∀ x ∈ l, room x ≤ 4400) → roomL l ≤ 4400 * l.length
  | [], _ => by simp [roomL]
  | x :: l, h => by
    have ih := roomL_le l (fun y hy => h y (List.mem_cons_of_mem _ hy))
    have h1 := h x (List.mem_cons_self ..)
    have : roomL (x :: l) = room x + roomL l := by simp [roomL]
    rw [this, List.length_cons]; omega
theorem door59 (w : World) (s : ByteArray) (hs : s.size ≤ 2147483647) (t : TypeId) (fr : Nat × Nat) (hg : w.heap[4]? = some (.cells cells14 t fr)) :
    Calls Tryd.prog 59 #[.string s] w fun e w' => e = .returned (.tuple #[.int .u8 (comp s).1, .string (comp s).2]) ∧ Below w.heap.size w w' := by
  have H := Lib.hid (comp_calls w s hs t fr hg)
  clear hg
  go_enter Tryd.func59, Tryd.ntmps59
  go_wp2_with (first | (go_at_call 60; (with_reducible refine (H.out).mono ?_); rintro e w2 ⟨rfl, hb⟩; have B := Lib.hid hb; clear hb))
  go_returns
  exact ⟨rfl, B.out⟩
theorem cell_of2 {W : World} {g : Nat} {cs : Array Value} {t : TypeId} (h : W.heap[g]? = some (.cells cs t (0, 0))) (i : Nat) (v : Value) (hv : cs[i]? = some v) : W.cell? ⟨g, i, none⟩ = some v := by
  unfold World.cell?
  simp only [h]
  rw [hv]; rfl
set_option maxHeartbeats 4000000 in
set_option maxRecDepth 100000 in
theorem laid40 (A : Option Addr) (n c : Nat) (l : List S58) (size : Nat) (w : World) (t : TypeId) (fr : Nat × Nat) (hg : w.heap[4]? = some (.cells cells14 t fr)) (hC : Kd.C k58 w A n l) (hnc : n ≤ c) (hn : n ≤ 40) (hsz : size ≤ 4096)
    (hf : ∀ x ∈ l, x.f0.size ≤ 2147483647 ∧ (comp x.f0).2.size ≤ 255 ∧ x.f1.length ≤ 4096) :
    Calls Tryd.prog 40 #[.slice A n c, .int .i64 size] w fun e w' => e = .returned (.bool (decide (4 + roomL l ≤ size))) ∧ Below w.heap.size w w' := by
  have HC := Lib.hid hC
  have HG := Lib.hid hg
  have HL := Lib.hid (show l.length = n from Kd.C_len hC)
  have HF := Lib.hid hf
  clear hC hg hf
  go_enter Tryd.func40, Tryd.ntmps40
  go_wp2
  go_loopw [5, 12] (fun v5 v12 wr => ∃ (i : Nat) (s : Nat), v12 = .int .i64 i ∧ i ≤ n ∧ v5 = .int .i64 s ∧ Hid (s = 4 + roomL (l.take i)) ∧ Hid (Below w.heap.size w wr)) (fun _ v12 _ => n - (intOf v12).toNat)
  case atStart => exact ⟨0, 4, rfl, Nat.zero_le _, rfl, Lib.hid (by simp [roomL]), Lib.hid (Below.refl _ _)⟩
  case round =>
    obtain ⟨i, s, rfl, hin, rfl, S1, B1⟩ := hrel
    by_cases hlt : i < n
    · have hlt' : (i : Int) < (n : Int) := by omega
      have j1 : decide ((i : Int) < (n : Int)) = true := decide_eq_true hlt'
      have j2 : (0 ≤ (i : Int)) = True := eq_true (by omega)
      have j3 : ((i : Int) < (n : Int)) = True := eq_true hlt'
      have j4 : IntKind.i64.wrap ((i : Int) + 1) = (i : Int) + 1 := IntWalk.i64_in _ (by omega)
      obtain ⟨ad, A1, c1, eA, k0, k1, _, _⟩ := at_T58 HC.out (i : Int) (by omega) hlt'
      have k0 := cellb0 k0 B1.out
      have k1 := cellb0 k1 B1.out
      obtain ⟨x, hx⟩ : ∃ x, x = rd_T58 l (i : Int) := ⟨_, rfl⟩
      have hxl : l[i]? = some x := by
        rw [hx]; unfold rd_T58
        rw [Int.toNat_natCast, List.getD_eq_getElem?_getD, List.getElem?_eq_getElem (by rw [HL.out]; exact hlt)]; rfl
      rw [← hx] at k0 k1
      rw [Int.toNat_natCast] at k0 k1
      subst eA
      obtain ⟨q1, q2, q3⟩ := HF.out x (List.mem_of_getElem? hxl)
      have T := Lib.hid (show l.take (i + 1) = l.take i ++ [x] from by rw [List.take_add_one, hxl]; rfl)
      have hs : s ≤ 200000 := by
        rw [S1.out]
        have h1 := roomL_le (l.take i) (fun y hy => by obtain ⟨_, a2, a3⟩ := HF.out y (List.mem_of_mem_take hy); exact room_le a2 a3)
        rw [List.length_take] at h1
        omega
      obtain ⟨n3, hn3⟩ : ∃ n3, n3 = x.f1.length := ⟨_, rfl⟩
      have E := Lib.hid (show room x = 16 + up4 (comp x.f0).2.size + up4 n3 from by rw [hn3]; rfl)
      have hvl : n3 ≤ 4096 := by rw [hn3]; exact q3
      rw [← hn3] at k1
      have m1 : decide ((255 : Int) < ((comp x.f0).2.size : Int)) = false := decide_eq_false (by omega)
      have m2 : decide ((4096 : Int) < (n3 : Int)) = false := decide_eq_false (by omega)
      have B5 := Lib.hid (below_alloc B1.out (.cells #[.string x.f0, .slice A1 n3 c1] 58))
      have G5 := Lib.hid (show (wr.alloc (.cells #[.string x.f0, .slice A1 n3 c1] 58)).heap[4]? = _ from (B5.out.block 4 (blk_lt HG.out)).trans HG.out)
      have N5 := Lib.hid (blk_new wr (.cells #[.string x.f0, .slice A1 n3 c1] 58))
      have w1 : ∀ k : Nat, k ≤ 1000000 → IntKind.i64.wrap (k : Int) = k := fun k hk => IntWalk.i64_in _ (by omega)
      clear hx hxl hn3 q3 w1
      go_wp2_with (first | (go_at_call 59; (with_reducible refine (door59 _ x.f0 q1 t fr G5.out).mono ?_); rintro e w2 ⟨rfl, hb⟩; have B2 := Lib.hid (below_then B5.out (by have := B5.out.size; omega) hb); have cc := cell_of2 ((hb.block _ (blk_lt N5.out)).trans N5.out) 1 _ rfl; clear hb))
      go_roundw
      case rel => exact ⟨i + 1, s + room x, by push_cast; rfl, hlt, by rw [show ((s + room x : Nat) : Int) = (s : Int) + (16 + (((comp x.f0).2.size : Int) + 3) / 4 * 4 + ((n3 : Int) + 3) / 4 * 4) from by rw [E.out]; unfold up4; push_cast; omega], Lib.hid (by rw [T.out, roomL_snoc, S1.out]; omega), B2⟩
      case measure => simp only [intOf]; omega
    · obtain rfl : i = n := by omega
      have j1 : decide ((i : Int) < (i : Int)) = false := decide_eq_false (by omega)
      have e1 : l.take i = l := List.take_of_length_le (by rw [HL.out]; exact Nat.le_refl _)
      have e2 := S1.out
      rw [e1] at e2
      have HE := Lib.hid e2
      clear e2
      go_wp2
      go_returns
      refine ⟨?_, B1.out⟩
      rw [← HE.out]; rfl
end Go.Proofs.YtckjbgneblfceaaDoor.Al
namespace Go.Proofs.YtckjbgneblfceaaDoor.At
open Go.RowKit Go.Maps Go.Proofs.YtckjbgneblfceaaDoorW.PrintWords Go.Proofs.YtckjbgneblfceaaDoorW.PrintLast Go.Proofs.YtckjbgneblfceaaDoorW.PrintMore
open Go.Proofs.YtckjbgneblfceaaDoor.Da Go.Proofs.YtckjbgneblfceaaDoor.Fa Go.Proofs.YtckjbgneblfceaaDoor.Fm Go.Proofs.YtckjbgneblfceaaDoor.PFnFitFirst
open Go.Proofs.YtckjbgneblfceaaDoor.Al (up4)
set_option linter.unusedVariables false
set_option linter.unusedSimpArgs false
theorem le_up4 (n : Nat) : n ≤ up4 n := by unfold up4; omega
theorem snoc_ind {α : Type} {P : List α → Prop} (l : List α) (nil : P []) (snoc : ∀ l x, P l → P (l ++ [x])) : P l := by
  rw [← List.reverse_reverse l]
  induction l.reverse with
  | nil => exact nil
  | cons x l ih => rw [List.reverse_cons]; exact snoc _ _ ih
/-- Four bytes of a number, the lowest first. -/
def le4 (x : Int) : List Int := [x % 256, x / 256 % 256, x / 65536 % 256, x / 16777216 % 256]
def hashX (x : S133) : Int := valH x.f2 (nameH (nb x.f0)) ((x.f2.length + 3) / 4)
def zs (n : Nat) : List Int := List.replicate n 0
theorem zs_len (n : Nat) : (zs n).length = n := List.length_replicate
theorem zs_add (a b : Nat) : zs (a + b) = zs a ++ zs b := (List.replicate_append_replicate).symm
/-- An entry whose value begins at off. -/
def ent (x : S133) (off : Int) : List Int := [(x.f0.size : Int), x.f1] ++ ([off % 256, off / 256 % 256] ++ (zs 4 ++ (le4 x.f2.length ++ (le4 (hashX x) ++ (nb x.f0 ++ zs (up4 x.f0.size - x.f0.size))))))
def vpad (v : List Int) : List Int := v ++ zs (up4 v.length - v.length)
theorem vpad_len (v : List Int) : (vpad v).length = up4 v.length := by unfold vpad; rw [List.length_append, zs_len]; have := le_up4 v.length; omega
theorem ent_len (x : S133) (off : Int) : (ent x off).length = 16 + up4 x.f0.size := by
  unfold ent le4
  simp only [List.length_append, zs_len, nb_len, List.length_cons, List.length_nil]
  have := le_up4 x.f0.size
  omega
abbrev Lst := List Int × List Int
def layS (size : Nat) (delta : Int) (s : Lst) (x : S133) : Lst := (s.1 ++ ent x ((size - s.2.length - up4 x.f2.length : Nat) + delta), vpad x.f2 ++ s.2)
def lay (size : Nat) (delta : Int) (l : List S133) : Lst := l.foldl (layS size delta) ([], [])
theorem lay_snoc (size : Nat) (delta : Int) (l : List S133) (x : S133) : lay size delta (l ++ [x]) = layS size delta (lay size delta l) x := by simp [lay]
def rm (x : S133) : Nat := 16 + up4 x.f0.size + up4 x.f2.length
def rmL (l : List S133) : Nat := (l.map rm).sum
theorem rmL_snoc (l : List S133) (x : S133) : rmL (l ++ [x]) = rmL l + rm x := by simp [rmL]
theorem lay_len (size : Nat) (delta : Int) (l : List S133) : (lay size delta l).1.length + (lay size delta l).2.length = rmL l := by
  induction l using snoc_ind with
  | nil => rfl
  | snoc l x ih =>
    rw [lay_snoc, rmL_snoc]
    unfold layS rm
    simp only [List.length_append, ent_len, vpad_len]
    omega
theorem rmL_append (a b : List S133) : rmL (a ++ b) = rmL a + rmL b := by simp [rmL]
theorem rmL_take (l : List S133) (i : Nat) : rmL (l.take i) ≤ rmL l := by
  have h := congrArg rmL (List.take_append_drop i l)
  rw [rmL_append] at h
  omega
def bytesOf (size : Nat) (s : Lst) : List Int := s.1 ++ (zs (size - s.1.length - s.2.length) ++ s.2)
theorem bytesOf_len (size : Nat) (s : Lst) (h : s.1.length + s.2.length ≤ size) : (bytesOf size s).length = size := by
  unfold bytesOf
  simp only [List.length_append, zs_len]
  omega
theorem lay_one (size : Nat) (delta : Int) (s : Lst) (x : S133) (at_ en m : Nat) (off : Int) (ha : s.1.length = at_) (he : en + up4 x.f2.length + s.2.length = size) (hr : at_ + rm x + s.2.length ≤ size) (hoff : off = (en : Int) + delta) :
    laidL (laidL (laidL (laidL (laidL (laidL (laidL (bytesOf size s) at_ [(x.f0.size : Int)]) (at_ + 1) [x.f1]) (at_ + 2) [off % 256, off / 256 % 256]) (at_ + 8) (le4 x.f2.length)) (at_ + 12) (le4 (hashX x))) (at_ + 16) (nb x.f0)) en x.f2 = bytesOf size (layS size delta s x) := by
  obtain ⟨F, D⟩ := s
  simp only at ha he hr
  subst ha
  have u1 := le_up4 x.f0.size
  have u2 := le_up4 x.f2.length
  unfold rm at hr
  obtain ⟨M, hM⟩ : ∃ M, size = F.length + (16 + up4 x.f0.size) + M + up4 x.f2.length + D.length := ⟨size - D.length - up4 x.f2.length - (F.length + (16 + up4 x.f0.size)), by omega⟩
  have hen : en = F.length + (16 + up4 x.f0.size + M) := by omega
  obtain ⟨p, hp⟩ : ∃ p, up4 x.f0.size = x.f0.size + p := ⟨up4 x.f0.size - x.f0.size, by omega⟩
  obtain ⟨q, hq⟩ : ∃ q, up4 x.f2.length = x.f2.length + q := ⟨up4 x.f2.length - x.f2.length, by omega⟩
  have hb : bytesOf size (F, D) = F ++ (zs 1 ++ (zs 1 ++ (zs 2 ++ (zs 4 ++ (zs 4 ++ (zs 4 ++ (zs x.f0.size ++ (zs (p + M) ++ (zs x.f2.length ++ (zs q ++ D)))))))))) := by
    unfold bytesOf
    simp only
    rw [show size - F.length - D.length = 1 + (1 + (2 + (4 + (4 + (4 + (x.f0.size + (p + M + (x.f2.length + q)))))))) from by omega]
    simp only [zs_add, List.append_assoc]
  have hn : bytesOf size (layS size delta (F, D) x) = F ++ ([(x.f0.size : Int)] ++ ([x.f1] ++ ([off % 256, off / 256 % 256] ++ (zs 4 ++ (le4 x.f2.length ++ (le4 (hashX x) ++ (nb x.f0 ++ (zs (p + M) ++ (x.f2 ++ (zs q ++ D)))))))))) := by
    have e1 : (size - D.length - up4 x.f2.length : Nat) = en := by omega
    unfold bytesOf layS
    simp only
    rw [e1, ← hoff, List.length_append, List.length_append, ent_len, vpad_len, show size - (F.length + (16 + up4 x.f0.size)) - (up4 x.f2.length + D.length) = M from by omega]
    unfold ent vpad
    rw [show up4 x.f0.size - x.f0.size = p from by omega, show up4 x.f2.length - x.f2.length = q from by omega, zs_add]
    simp only [List.append_assoc, List.cons_append, List.nil_append]
  rw [hb, hn, hen]
  have l1 : (nb x.f0).length = x.f0.size := nb_len _
  have l4 : ∀ y, (le4 y).length = 4 := fun _ => rfl
  have hz := zs_len
  -- each in its place
  rw [laidL_mid F (zs 1) _ [(x.f0.size : Int)] _ rfl (zs_len 1)]
  rw [← List.append_assoc F, laidL_mid (F ++ _) (zs 1) _ [x.f1] _ (by simp) (zs_len 1)]
  rw [← List.append_assoc (F ++ _), laidL_mid (F ++ _ ++ _) (zs 2) _ [off % 256, off / 256 % 256] _ (by simp) (zs_len 2)]
  rw [← List.append_assoc (F ++ _ ++ _), ← List.append_assoc (F ++ _ ++ _ ++ _), laidL_mid _ (zs 4) _ (le4 x.f2.length) (F.length + 8) (by simp [hz]) (by rw [l4]; exact zs_len 4)]
  rw [← List.append_assoc (F ++ _ ++ _ ++ _ ++ _), laidL_mid _ (zs 4) _ (le4 (hashX x)) (F.length + 12) (by simp [hz, l4]) (by rw [l4]; exact zs_len 4)]
  rw [← List.append_assoc (F ++ _ ++ _ ++ _ ++ _ ++ _), laidL_mid _ (zs x.f0.size) _ (nb x.f0) (F.length + 16) (by simp [hz, l4]) (by rw [l1]; exact zs_len _)]
  rw [← List.append_assoc (F ++ _ ++ _ ++ _ ++ _ ++ _ ++ _), ← List.append_assoc (F ++ _ ++ _ ++ _ ++ _ ++ _ ++ _ ++ _), laidL_mid _ (zs x.f2.length) _ x.f2 _ (by simp [hz, l4, l1]; omega) (zs_len _)]
  simp only [List.append_assoc]
theorem bits_u32 (op : BinOp) (a b : Int) : 0 ≤ bits .xor .u32 a b ∧ bits .xor .u32 a b < 4294967296 := by
  show 0 ≤ IntKind.u32.wrap _ ∧ IntKind.u32.wrap _ < _
  unfold IntKind.wrap
  simp only [IntKind.signed, IntKind.bits]
  have := Int.emod_nonneg (((BitVec.ofInt 32 a ^^^ BitVec.ofInt 32 b).toNat : Int)) (show (4294967296 : Int) ≠ 0 by decide)
  have := Int.emod_lt_of_pos (((BitVec.ofInt 32 a ^^^ BitVec.ofInt 32 b).toNat : Int)) (show (0 : Int) < 4294967296 by decide)
  exact ⟨by simpa using by omega, by simpa using by omega⟩
theorem nameH_range (l : List Int) : 0 ≤ nameH l ∧ nameH l < 4294967296 := by
  induction l using snoc_ind with
  | nil => exact ⟨by decide, by decide⟩
  | snoc l x ih => rw [nameH_snoc]; exact bits_u32 .xor _ _
theorem valH_range (b : List Int) (h : Int) (h0 : 0 ≤ h ∧ h < 4294967296) : ∀ j, 0 ≤ valH b h j ∧ valH b h j < 4294967296
  | 0 => h0
  | j + 1 => bits_u32 .xor _ _
theorem hashX_range (x : S133) : 0 ≤ hashX x ∧ hashX x < 4294967296 := valH_range _ _ (nameH_range _) _
theorem vLen_up4 (m : Nat) (h : m ≤ 2147483647) : vLen m = (up4 m : Nat) := by
  unfold vLen
  exact andNot3 (m + 3) (by omega)
theorem eLen_up4 (m : Nat) (h : m ≤ 2147483647) : eLen m = (16 + up4 m : Nat) := by
  unfold eLen
  have := vLen_up4 m h
  unfold vLen at this
  rw [this]
  unfold wrap64
  have : up4 m ≤ 2147483650 := by unfold up4; omega
  omega
theorem moves_cell {g : Nat} {w W : World} {p : Addr} {v : Value} (h : Moves (fun k => k = g) w W) (hc : w.cell? p = some v) (hp : p.block ≠ g) : W.cell? p = some v := by
  have hb := h.block p.block (World.block_lt_of_cell? _ _ hc) hp
  rw [← hc]
  unfold World.cell?
  rw [hb]
end Go.Proofs.YtckjbgneblfceaaDoor.At
namespace Go.Proofs.YtckjbgneblfceaaDoor.At
open Go.RowKit Go.Maps Go.Proofs.YtckjbgneblfceaaDoorW.PrintWords Go.Proofs.YtckjbgneblfceaaDoorW.PrintLast Go.Proofs.YtckjbgneblfceaaDoorW.PrintMore
open Go.Proofs.YtckjbgneblfceaaDoor.Da Go.Proofs.YtckjbgneblfceaaDoor.Fa Go.Proofs.YtckjbgneblfceaaDoor.Fm Go.Proofs.YtckjbgneblfceaaDoor.PFnFitFirst
open Go.Proofs.YtckjbgneblfceaaDoor.Al (up4)
set_option linter.unusedVariables false
set_option linter.unusedSimpArgs false
/-- What the rows of attributes are, for putXattrs. -/
def Rows61 (A : Option Addr) (n g : Nat) (l : List S133) (wS w : World) : Prop := ∀ i : Nat, i < n → ∃ ad A2 c2, A = some ad ∧ (ad.add (i * 3)).block ≠ g ∧ w.cell? (ad.add (i * 3)) = some (.string (rd_T133 l i).f0) ∧ w.cell? ⟨(ad.add (i * 3)).block, (ad.add (i * 3)).off + 1, none⟩ = some (.int .u8 (rd_T133 l i).f1) ∧ w.cell? ⟨(ad.add (i * 3)).block, (ad.add (i * 3)).off + 2, none⟩ = some (.slice A2 (rd_T133 l i).f2.length c2) ∧ (rd_T133 l i).f2.length ≤ c2 ∧ (Kd.int .u8).C wS A2 (rd_T133 l i).f2.length (rd_T133 l i).f2
set_option maxHeartbeats 8000000 in
set_option maxRecDepth 100000 in
theorem put61 (A : Option Addr) (n c : Nat) (l : List S133) (g cb size d : Nat) (wS w : World) (hl : l.length = n) (hn : n ≤ 40) (hcb : size ≤ cb) (hsz : size ≤ 4096) (hds : d + size ≤ 65535)
    (hB : Bst g w (zs size) w) (hrow : Rows61 A n g l wS w) (hS : Below wS.heap.size wS w) (hSg : wS.heap.size ≤ g) (hfit : rmL l + 4 ≤ size) (hnc : n ≤ c)
    (hi : ∀ x ∈ l, InBytes x.f2 ∧ x.f0.size ≤ 255 ∧ x.f2.length ≤ 4096) :
    Calls Tryd.prog 61 #[.slice A n c, .slice (some ⟨g, 0, none⟩) size cb, .int .u16 (d : Int)] w fun e w' => e = .returned (.tuple #[]) ∧ Bst g w (bytesOf size (lay size d l)) w' := by
  have HR := Lib.hid hrow
  have HB := Lib.hid hB
  have HS := Lib.hid hS
  have HI := Lib.hid hi
  have HF := Lib.hid hfit
  have HL := Lib.hid hl
  have HG := Lib.hid hSg
  clear hrow hB hS hi hfit hl hSg
  have s1 : (size : Int) % 65536 = size := by omega
  have s2 : ((size : Int) + d) % 65536 = (size : Int) + d := by omega
  go_enter Tryd.func61, Tryd.ntmps61
  go_wp2
  go_loopw [6, 7, 8, 21] (fun v6 v7 v8 v21 wr => ∃ (i at_ nd off : Nat), v21 = .int .i64 i ∧ i ≤ n ∧ v6 = .int .u16 off ∧ v7 = .slice (some ⟨g, at_, none⟩) (size - at_) (cb - at_) ∧ v8 = .slice (some ⟨g, 0, none⟩) nd cb ∧ Hid (off = nd + d) ∧ Hid (at_ = (lay size d (l.take i)).1.length) ∧ Hid (nd + (lay size d (l.take i)).2.length = size) ∧ Hid (Bst g w (bytesOf size (lay size d (l.take i))) wr)) (fun _ _ _ v21 _ => n - (intOf v21).toNat)
  case atStart => exact ⟨0, 0, size, size + d, rfl, Nat.zero_le _, by push_cast; rfl, rfl, rfl, Lib.hid rfl, Lib.hid rfl, Lib.hid rfl, Lib.hid (by have := HB.out; simpa [bytesOf, lay] using this)⟩
  case round =>
    obtain ⟨i, at_, nd, off, rfl, hin, rfl, rfl, rfl, OF, HA, HD, B1⟩ := hrel
    by_cases hlt : i < n
    · have hlt' : (i : Int) < (n : Int) := by omega
      have j1 : decide ((i : Int) < (n : Int)) = true := decide_eq_true hlt'
      have j2 : (0 ≤ (i : Int)) = True := eq_true (by omega)
      have j3 : ((i : Int) < (n : Int)) = True := eq_true hlt'
      have j4 : IntKind.i64.wrap ((i : Int) + 1) = (i : Int) + 1 := IntWalk.i64_in _ (by omega)
      obtain ⟨ad, A2, c2, rfl, hne, k0', k1', k2', hv, hC⟩ := HR.out i hlt
      obtain ⟨x, hx⟩ : ∃ x, x = rd_T133 l i := ⟨_, rfl⟩
      have hxl : l[i]? = some x := by
        rw [hx]; unfold rd_T133
        rw [Int.toNat_natCast, List.getD_eq_getElem?_getD, List.getElem?_eq_getElem (by rw [HL.out]; exact hlt)]; rfl
      rw [← hx] at k0' k1' k2' hv hC
      have k0 := moves_cell B1.out.mv k0' hne
      have k1 := moves_cell B1.out.mv k1' hne
      have k2 := moves_cell B1.out.mv k2' hne
      obtain ⟨q1, q2, q3⟩ := HI.out x (List.mem_of_getElem? hxl)
      have T := Lib.hid (show l.take (i + 1) = l.take i ++ [x] from by rw [List.take_add_one, hxl]; rfl)
      have hfit : rmL (l.take i) + rm x + 4 ≤ size := by
        have h1 := rmL_take l (i + 1)
        rw [T.out, rmL_snoc] at h1
        have := HF.out
        omega
      have hll := lay_len size d (l.take i)
      have hrm : rm x = 16 + up4 x.f0.size + up4 x.f2.length := rfl
      have lu := le_up4 x.f0.size
      have lv := le_up4 x.f2.length
      obtain ⟨f, hf⟩ : ∃ f, f = bytesOf size (lay size d (l.take i)) := ⟨_, rfl⟩
      have hfl : f.length = size := by rw [hf]; exact bytesOf_len _ _ (by omega)
      have HA' := HA.out
      have HD' := HD.out
      obtain ⟨en, hen⟩ : ∃ en, en = nd - up4 x.f2.length := ⟨_, rfl⟩
      obtain ⟨m2, hm2⟩ : ∃ m2, m2 = x.f2.length := ⟨_, rfl⟩
      obtain ⟨m4, hm4⟩ : ∃ m4, m4 = up4 x.f2.length := ⟨_, rfl⟩
      obtain ⟨e4, he4⟩ : ∃ e4, e4 = 16 + up4 x.f0.size := ⟨_, rfl⟩
      have b1 : at_ + e4 + 4 ≤ size := by omega
      have b2 : m4 ≤ nd := by omega
      have b3 : nd ≤ size := by omega
      have b4 : e4 ≥ 16 + x.f0.size := by omega
      have b5 : m2 ≤ m4 := by omega
      have b6 : at_ + e4 ≤ en := by omega
      have b7 : en ≤ nd := by omega
      have EN := Lib.hid (show en + m4 = nd from by omega)
      have OF2 := Lib.hid OF.out
      rw [← hf] at B1
      have L1 := Lib.hid (lay_one size d (lay size d (l.take i)) x at_ en e4 ((en : Int) + d) HA.out.symm (by omega) (by omega) rfl)
      rw [← hf, ← lay_snoc, ← T.out] at L1
      have NX := Lib.hid (show (lay size d (l.take (i + 1))).1.length = at_ + e4 ∧ (lay size d (l.take (i + 1))).2.length = size - en from by
        rw [T.out, lay_snoc]
        unfold layS
        simp only [List.length_append, ent_len, vpad_len]
        omega)
      have E4 := Lib.hid (show vLen m2 = (m4 : Int) from by rw [vLen_up4 _ (by omega), hm4, hm2])
      have FL := Lib.hid hfl
      have HC := Lib.hid hC
      have HI2 := Lib.hid q1
      have HM2 := Lib.hid hm2
      have HE4 := Lib.hid he4
      rw [← hm2] at k2 hv
      have u1 : (m4 : Int) % 65536 = m4 := by omega
      have u2 : IntKind.u16.wrap ((off : Int) - m4) = (en : Int) + d := by have := OF.out; have := EN.out; unfold IntKind.wrap; simp only [IntKind.signed, IntKind.bits]; simp; omega
      have u3 : (x.f0.size : Int) % 256 = x.f0.size := by omega
      have u4 : (m2 : Int) % 4294967296 = m2 := by omega
      have ng : wr.heap.size ≠ g := Nat.ne_of_gt B1.out.lt
      clear hx hxl hfit hll hrm lu lv hf hfl HA' HD' hen hm4 q1 q3 hC hm2 he4 k0' k1' k2'
      have B5 := Lib.hid (B1.out.alloc (.cells #[.string x.f0, .int .u8 x.f1, .slice A2 m2 c2] 133))
      have N5 := Lib.hid (blk_new wr (.cells #[.string x.f0, .int .u8 x.f1, .slice A2 m2 c2] 133))
      obtain ⟨x0, c0, z0⟩ := B5.out.at at_ (by rw [FL.out]; omega)
      obtain ⟨x1, c1, z1⟩ := B5.out.at (at_ + 1) (by rw [FL.out]; omega)
      have m0 : ((0 : Int) < ((size - at_ : Nat) : Int)) = True := eq_true (by omega)
      have m1 : ((1 : Int) < ((size - at_ : Nat) : Int)) = True := eq_true (by omega)
      have m2' : ((2 : Int) ≤ ((size - at_ : Nat) : Int)) = True := eq_true (by omega)
      have P2 := Lib.hid ((B5.out.base.set at_ (by rw [FL.out]; omega) (x.f0.size : Int)).set (at_ + 1) (by rw [laidL_len _ _ _ (by rw [FL.out]; simp; omega), FL.out]; omega) x.f1)
      have F1 := Lib.hid (show (laidL f at_ [(x.f0.size : Int)]).length = size from by rw [laidL_len _ _ _ (by rw [FL.out]; simp; omega), FL.out])
      have F2 := Lib.hid (show (laidL (laidL f at_ [(x.f0.size : Int)]) (at_ + 1) [x.f1]).length = size from by rw [laidL_len _ _ _ (by rw [F1.out]; simp; omega), F1.out])
      obtain ⟨f2, hf2⟩ : ∃ f2, f2 = laidL (laidL f at_ [(x.f0.size : Int)]) (at_ + 1) [x.f1] := ⟨_, rfl⟩
      rw [← hf2] at P2 F2 L1
      clear hf2
      obtain ⟨w1, hw1⟩ : ∃ w1, w1 = wr.alloc (.cells #[.string x.f0, .int .u8 x.f1, .slice A2 m2 c2] 133) := ⟨_, rfl⟩
      go_wp2_with (first | (go_at_call 66; (with_reducible refine (value_len _ _ x.f0 x.f1 A2 m2 c2 N5.out (by omega)).mono ?_); rw [E4.out]; rintro e w2 ⟨rfl, rfl⟩) | (go_at_call 71; (try rw [u2]); (with_reducible refine (put71 g (at_ + 2) _ _ ((en : Int) + d) _ _ f2 P2.out (by omega) (by rw [F2.out]; omega) (by omega) (by omega)).mono ?_); rintro e w3 ⟨rfl, hb⟩; have P3 := Lib.hid hb; clear hb))
      rw [← hw1] at P3 N5 B5
      clear c0 z0 c1 z1 m0 m1 m2'
      obtain ⟨f3, hf3⟩ : ∃ f3, f3 = laidL f2 (at_ + 2) [((en : Int) + d) % 256, ((en : Int) + d) / 256 % 256] := ⟨_, rfl⟩
      have F3 := Lib.hid (show f3.length = size from by rw [hf3, laidL_len _ _ _ (by rw [F2.out]; simp; omega), F2.out])
      rw [← hf3] at P3 L1
      clear hf3
      obtain ⟨f4, hf4⟩ : ∃ f4, f4 = laidL f3 (at_ + 8) (le4 (m2 : Int)) := ⟨_, rfl⟩
      have F4 := Lib.hid (show f4.length = size from by rw [hf4, laidL_len _ _ _ (by rw [F3.out]; unfold le4; simp; omega), F3.out])
      rw [← HM2.out, ← hf4] at L1
      have FF4 := Lib.hid hf4
      clear hf4
      obtain ⟨f5, hf5⟩ : ∃ f5, f5 = laidL f4 (at_ + 12) (le4 (hashX x)) := ⟨_, rfl⟩
      have F5 := Lib.hid (show f5.length = size from by rw [hf5, laidL_len _ _ _ (by rw [F4.out]; unfold le4; simp; omega), F4.out])
      rw [← hf5] at L1
      have FF5 := Lib.hid hf5
      clear hf5
      obtain ⟨f6, hf6⟩ : ∃ f6, f6 = laidL f5 (at_ + 16) (nb x.f0) := ⟨_, rfl⟩
      have F6 := Lib.hid (show f6.length = size from by rw [hf6, laidL_len _ _ _ (by rw [F5.out, nb_len]; omega), F5.out])
      rw [← hf6] at L1
      have FF6 := Lib.hid hf6
      clear hf6
      have D : ∀ {f' : List Int} {W : World}, Bst g w1 f' W → W.cell? ⟨wr.heap.size, 0, none⟩ = some (.string x.f0) ∧ W.cell? ⟨wr.heap.size, 2, none⟩ = some (.slice A2 m2 c2) := by
        intro f' W h
        have bk := h.mv.blk N5.out ng
        have d0 := blk_cell bk 0
        have d2 := blk_cell bk 2
        simp only [List.getElem?_toArray, List.getElem?_cons_zero, List.getElem?_cons_succ] at d0 d2
        exact ⟨d0, d2⟩
      have D := Lib.hid (show ∀ (f' : List Int) (W : World), Bst g w1 f' W → W.cell? ⟨wr.heap.size, 0, none⟩ = some (.string x.f0) ∧ W.cell? ⟨wr.heap.size, 2, none⟩ = some (.slice A2 m2 c2) from fun f' W h => D h)
      have VC := Lib.hid (show ∀ (f' : List Int) (W : World), Bst g w1 f' W → (Kd.int .u8).C W A2 m2 x.f2 from by
        intro f' W h
        rw [HM2.out]
        exact Kd.C_below HC.out ((B5.out.trans h).mv.toBelow HS.out HS.out.size (fun k hk => by rw [hk]; exact HG.out)))
      obtain ⟨d0, d2⟩ := D.out _ _ P3.out
      have m8 : ((8 : Int) ≤ ((size - at_ : Nat) : Int)) = True := eq_true (by omega)
      have m12 : ((12 : Int) ≤ ((size - at_ : Nat) : Int)) = True := eq_true (by omega)
      have m16 : ((16 : Int) ≤ ((size - at_ : Nat) : Int)) = True := eq_true (by omega)
      have q8 : (cb - at_ = 8) = False := eq_false (by omega)
      have q12 : (cb - at_ = 12) = False := eq_false (by omega)
      have q16 : (cb - at_ = 16) = False := eq_false (by omega)
      have u5 : IntKind.u32.wrap (m2 : Int) = m2 := u4
      go_region_held3 (fun w' => w'.cell? ⟨wr.heap.size, 2, none⟩ = some (.slice A2 m2 c2)) (go_keep) (first | (go_at_call 72; (with_reducible refine (put72 g (at_ + 8) (size - at_ - 8) (cb - at_ - 8) (m2 : Int) w1 _ f3 P3.out.drew (by omega) (by rw [F3.out]; omega) (by omega) (by omega)).mono ?_); rintro e w4 ⟨rfl, hb⟩; have P4 := Lib.hid hb; obtain ⟨d0, d2⟩ := D.out _ _ hb; clear hb))
      change Hid (Bst g w1 (laidL f3 (at_ + 8) (le4 m2)) w4) at P4
      rw [← FF4.out] at P4
      go_wp2
      have H4 := Lib.hid (show hashX x = valH x.f2 (nameH (nb x.f0)) ((m2 + 3) / 4) from by rw [HM2.out]; rfl)
      go_region_held3 (fun w' => w'.cell? ⟨wr.heap.size, 0, none⟩ = some (.string x.f0) ∧ w'.cell? ⟨wr.heap.size, 2, none⟩ = some (.slice A2 m2 c2)) (go_keep) (first | (go_at_call 73; (with_reducible refine (hash73 x.f0 (by omega) A2 m2 c2 x.f2 _ (VC.out _ _ P4.out.drew) hv (by omega) (HI2.out)).mono ?_); rw [← H4.out]; rintro e w5 ⟨rfl, hb⟩; have P5 := Lib.hid (P4.out.drew.below hb); obtain ⟨d0, d2⟩ := D.out _ _ P5.out; clear hb) | (go_at_call 72; (with_reducible refine (put72 g (at_ + 12) (size - at_ - 12) (cb - at_ - 12) (hashX x) w1 _ f4 P5.out (by omega) (by rw [F4.out]; omega) (hashX_range x).1 (hashX_range x).2).mono ?_); rintro e w6 ⟨rfl, hb⟩; have P6 := Lib.hid hb; obtain ⟨d0, d2⟩ := D.out _ _ hb; clear hb))
      change Hid (Bst g w1 (laidL f4 (at_ + 12) (le4 (hashX x))) w6) at P6
      rw [← FF5.out] at P6
      go_wp2
      go_region_held3 (fun w' => w'.cell? ⟨wr.heap.size, 0, none⟩ = some (.string x.f0)) (go_keep) (first | (refine copy_str (g := g) (w0 := w1) (f := f5) (by rfl) _ _ (by rfl) (at_ + 16) (size - at_ - 16) (cb - at_ - 16) x.f0 (by rfl) (by rfl) P6.out.drew (by omega) (by rw [F5.out]; omega) ?_; intro w7 hr; have P7 := Lib.hid hr; obtain ⟨d0, d2⟩ := D.out _ _ hr; clear hr))
      rw [← FF6.out] at P7
      have N7 := Lib.hid (P7.out.mv.blk N5.out ng)
      have E5 := Lib.hid (show eLen x.f0.size = (e4 : Int) from by rw [eLen_up4 _ (by omega), HE4.out])
      have k1 : (0 ≤ (e4 : Int)) = True := eq_true (by omega)
      have k2 : ((e4 : Int) ≤ ((size - at_ : Nat) : Int)) = True := eq_true (by omega)
      have k3 : (((size - at_ : Nat) : Int) ≤ ((cb - at_ : Nat) : Int)) = True := eq_true (by omega)
      have k4 : (cb - at_ = e4) = False := eq_false (by omega)
      go_wp2_with (first | (go_at_call 65; (with_reducible refine (entry_len _ _ x.f0 x.f1 (.slice A2 m2 c2) N7.out (by omega)).mono ?_); rw [E5.out]; rintro e w2 ⟨rfl, rfl⟩))
      have r1 : IntKind.i64.wrap ((nd : Int) - m4) = (en : Int) := by have := EN.out; rw [IntWalk.i64_in _ (by omega)]; omega
      have r2 : (0 ≤ (en : Int)) = True := eq_true (by omega)
      have r3 : ((en : Int) ≤ (nd : Int)) = True := eq_true (by omega)
      have r4 : ((nd : Int) ≤ (cb : Int)) = True := eq_true (by omega)
      have r5 : ((en : Int) ≤ (cb : Int)) = True := eq_true (by omega)
      obtain ⟨o2, ho2⟩ : ∃ o2, o2 = if cb = en then 0 else en := ⟨_, rfl⟩
      have O2 := Lib.hid (show (if cb = en then some (⟨g, 0, none⟩ : Addr) else some ⟨g, en, none⟩) = some ⟨g, o2, none⟩ from by rw [ho2]; split <;> rfl)
      have O3 := Lib.hid (show o2 + (nd - en) ≤ f6.length ∧ laidL f6 o2 (x.f2.take (nd - en)) = laidL f6 en x.f2 from by
        have h1 := EN.out
        have h2 := HM2.out
        rw [F6.out, List.take_of_length_le (by omega)]
        by_cases hce : cb = en
        · rw [if_pos hce] at ho2
          have : x.f2 = [] := List.length_eq_zero_iff.1 (by omega)
          rw [this, laidL_nil, laidL_nil]
          exact ⟨by omega, rfl⟩
        · rw [if_neg hce] at ho2
          subst ho2
          exact ⟨by omega, rfl⟩)
      clear ho2
      go_region_held3 (fun w' => w'.cell? ⟨wr.heap.size, 2, none⟩ = some (.slice A2 m2 c2)) (go_keep) (first | (refine copy_bst (g := g) (w0 := w1) (f := f6) (by rfl) (.tmp 72) (.tmp 74) (by rfl) o2 (nd - en) (cb - en) m2 c2 A2 x.f2 (congrArg (fun z => Value.slice z (nd - en) (cb - en)) O2.out) (by rfl) P7.out.drew (VC.out _ _ P7.out.drew) O3.out.1 ?_; intro w8 hr; have P8 := Lib.hid hr; obtain ⟨d0, d2⟩ := D.out _ _ hr; clear hr))
      rw [O3.out.2, L1.out] at P8
      go_wp2
      go_roundw
      case rel => exact ⟨i + 1, at_ + e4, en, en + d, by push_cast; rfl, hlt, by push_cast; rfl, by rw [Nat.sub_sub, Nat.sub_sub], rfl, Lib.hid rfl, Lib.hid NX.out.1.symm, Lib.hid (by have := NX.out.2; omega), Lib.hid (B5.out.trans P8.out)⟩
      case measure => simp only [intOf]; omega
    · obtain rfl : i = n := by omega
      have j1 : decide ((i : Int) < (i : Int)) = false := decide_eq_false (by omega)
      have e1 : l.take i = l := List.take_of_length_le (by rw [HL.out]; exact Nat.le_refl _)
      rw [e1] at B1
      go_wp2
      go_returns
      exact ⟨rfl, B1.out⟩
end Go.Proofs.YtckjbgneblfceaaDoor.At
namespace Go.Proofs.YtckjbgneblfceaaDoor.At
open Go.RowKit Go.Maps Go.Proofs.YtckjbgneblfceaaDoorW.PrintWords Go.Proofs.YtckjbgneblfceaaDoorW.PrintLast Go.Proofs.YtckjbgneblfceaaDoorW.PrintMore
open Go.Proofs.YtckjbgneblfceaaDoor.Da Go.Proofs.YtckjbgneblfceaaDoor.Fa Go.Proofs.YtckjbgneblfceaaDoor.Fm Go.Proofs.YtckjbgneblfceaaDoor.PFnFitFirst
open Go.Proofs.YtckjbgneblfceaaDoor.Fb Go.Proofs.YtckjbgneblfceaaDoor.Fc Go.Proofs.YtckjbgneblfceaaDoor.Fe
open Go.Proofs.YtckjbgneblfceaaDoor.Al (up4 roomL room)
set_option linter.unusedVariables false
set_option linter.unusedSimpArgs false
def kB : Kd (List Int) := Kd.slice 5 (Kd.int .u8)
section
variable {ops : Array Oper} {rest : List Oper} {o : Oper} {a : Act} {Q : Exit → Act → World → Prop}
theorem app_row1 {W wb : World} (base : Nat) (hgd : o.guard = none) (s x : Operand) (ho : o.op = .call { callee := .builtin .append, args := #[s, x], argTypes := #[42, 42] })
    (v : Value) (xs : List (List Int)) (p : List Int) (A : Option Addr) (c : Nat) (hs : a.eval s = v) {g : Nat} (hx : a.eval x = .slice (some ⟨g, 0, none⟩) 1 1) (hgs : W.heap.size = g)
    (HP : (Kd.int .u8).R 5 W base (fun _ => True) (.slice A p.length c) p)
    (HO : kB.R 33 W base (fun _ => True) v xs) (HB : Below base wb W) (hbase : base ≤ W.heap.size) (hl : xs.length ≤ 1000)
    (h : ∀ A1 c1 w1, kB.R 33 w1 base (fun _ => True) (.slice A1 (xs ++ [p]).length c1) (xs ++ [p]) → Below base wb w1 → W.grownBy w1 v.ownBlock → wpList Tryd.prog ops Q rest (a.put o.dst (.slice A1 (xs ++ [p]).length c1)) w1) :
    wpList Tryd.prog ops Q (o :: rest) a (W.alloc (.cells #[.slice A p.length c] 33)) := by
  subst hgs
  have HP2 := Kd.R_apartR HP HO (by decide)
  refine Kd.R_append kB (w0 := wb) base hgd s x 42 33 _ 24 ho Tryd.underlying42 info33 rfl (by decide) (by decide) v xs p [.slice A p.length c] (fun _ => True) (fun k => True ∧ some k ≠ v.ownBlock) hs hx ⟨_, rfl, HP2⟩ (fun _ hk => hk) (fun _ _ => trivial) HO HB hbase (by omega) ?_
  intro v1 w1 h1 hb h2 _
  obtain ⟨A1, c1, e1, _, _⟩ := Kd.R_reads h1
  subst e1
  exact h A1 c1 w1 h1 hb h2
end
set_option maxHeartbeats 4000000 in
set_option maxRecDepth 100000 in
theorem split_full (W : World) (l : List S58) (A : Option Addr) (c : Nat) (hC : k58.C W A l.length l) (hl : l.length ≤ 1000) (hv : ∀ i : Nat, i < l.length → (rd_T58 l i).f1.length ≤ 2147483647) :
    Calls Tryd.prog 28 #[.slice A l.length c] W fun e w' => ∃ A1 c1 A2 c2, e = .returned (.tuple #[.slice A1 l.length c1, .slice A2 l.length c2]) ∧ l.length ≤ c1 ∧ l.length ≤ c2 ∧ Kd.string.C w' A1 l.length (l.map (fun x => x.f0)) ∧ kB.C w' A2 l.length (l.map (fun x => x.f1)) ∧ Below W.heap.size W w' := by
  have HC := Lib.hid hC
  have HV := Lib.hid hv
  obtain ⟨n, hn⟩ : ∃ n, n = l.length := ⟨_, rfl⟩
  rw [← hn] at hl HC ⊢
  have HN := Lib.hid hn
  clear hC hv hn
  go_enter Tryd.func28, Tryd.ntmps28
  go_wp2_with fail
  go_loopw [10, 4, 5] (fun v10 v4 v5 wr => ∃ i : Nat, v10 = .int .i64 i ∧ i ≤ n ∧ Hid (Kd.string.R 9 wr W.heap.size (fun _ => True) v4 ((l.map (fun x => x.f0)).take i)) ∧ Hid (kB.R 33 wr W.heap.size (fun _ => True) v5 ((l.map (fun x => x.f1)).take i)) ∧ Hid (Below W.heap.size W wr)) (fun v10 _ _ _ => n - (intOf v10).toNat)
  case atStart => exact ⟨0, rfl, Nat.zero_le _, Lib.hid (Kd.R_nil _ _ _ _ _), Lib.hid (Kd.R_nil _ _ _ _ _), Lib.hid (Below.refl _ _)⟩
  case round =>
    obtain ⟨i, rfl, hi, R1, R2, BI⟩ := hrel
    by_cases hlt : i < n
    · have hlt' : (i : Int) < (n : Int) := by omega
      have T1 := Lib.hid (take_succ (fun x : S58 => x.f0) l i z58 (by rw [← HN.out]; exact hlt))
      have T2 := Lib.hid (take_succ (fun x : S58 => x.f1) l i z58 (by rw [← HN.out]; exact hlt))
      obtain ⟨ad, B1, d1, eA, k0, k1, m1, g1⟩ := at_T58 HC.out (i : Int) (by omega) hlt'
      have k0 := cellb0 k0 BI.out
      have k1 := cellb0 k1 BI.out
      have hv1 := HV.out i (by rw [← HN.out]; exact hlt)
      obtain ⟨x, hx⟩ : ∃ x, x = rd_T58 l (i : Int) := ⟨_, rfl⟩
      have hx2 : l.getD i z58 = x := by rw [hx]; unfold rd_T58; rw [Int.toNat_natCast]
      rw [hx2] at T1 T2
      rw [← hx] at k0 k1 m1 g1 hv1
      rw [Int.toNat_natCast] at k0 k1
      subst eA
      have G1 := Lib.hid g1
      have hsz := BI.out.size
      have hle1 : ((l.map (fun x => x.f0)).take i).length ≤ i := List.length_take_le _ _
      have hle2 : ((l.map (fun x => x.f1)).take i).length ≤ i := List.length_take_le _ _
      clear hx hx2 g1
      have BA := Lib.hid (below_then BI.out hsz (below_alloc (Below.refl _ _) (.cells #[.string x.f0, .slice B1 x.f1.length d1] 58)))
      have NB := Lib.hid (blk_new wr (.cells #[.string x.f0, .slice B1 x.f1.length d1] 58))
      have R1a := Lib.hid (Kd.R_below R1.out (below_alloc (Below.refl _ _) (.cells #[.string x.f0, .slice B1 x.f1.length d1] 58)))
      have R2a := Lib.hid (Kd.R_below R2.out (below_alloc (Below.refl _ _) (.cells #[.string x.f0, .slice B1 x.f1.length d1] 58)))
      have SA : W.heap.size ≤ (wr.alloc (.cells #[.string x.f0, .slice B1 x.f1.length d1] 58)).heap.size := by simp; omega
      go_upto_region 7 with (first
        | ((with_reducible refine gate_builtin (b := .append) (xs := #[.tmp 14, .tmp 17]) rfl ?_); at_builtin; refine app_str1 (W := wr.alloc (.cells #[.string x.f0, .slice B1 x.f1.length d1] 58)) (wb := W) W.heap.size rfl (.tmp 14) (.tmp 17) rfl u4 _ x.f0 rfl rfl (by simp) R1a.out BA.out SA (by omega) ?_; intro A3 c3 w3 hr hb hg; have R3 := Lib.hid hr; have B3 := Lib.hid hb; have HG3 := Lib.hid hg; clear hr hb hg))
      have cx1 := blk_cell (blk_grown NB.out HG3.out (Kd.R_ne R1a.out NB.out (by decide))) 1
      simp at cx1
      have R2b := Lib.hid (Kd.R_drop (Kd.R_grown (Kd.R_apartR R2a.out R1a.out (by decide)) HG3.out (fun k hk => hk.2)))
      have S3 := B3.out.size
      clear k0 k1
      go_upto_region 8 with (first
        | ((with_reducible refine gate_builtin (b := .append) (xs := #[.const (.slice none 0 0), .tmp 21]) rfl ?_); at_builtin; refine copy_bytes (wb := w3) w3.heap.size rfl (.const (.slice none 0 0)) (.tmp 21) rfl x.f1 B1 x.f1.length d1 rfl rfl (Kd.C_below G1.out B3.out) (Below.refl _ _) (Nat.le_refl _) hv1 ?_; intro A4 c4 w4 hr hb hg; have B4 := Lib.hid (below_then B3.out B3.out.size hb); have V4 := Lib.hid (Kd.R_lower hr B3.out.size); have R2c := Lib.hid (Kd.R_below R2b.out hb); have R3c := Lib.hid (Kd.R_below R3.out hb); clear hr hb hg)
        | ((with_reducible refine gate_builtin (b := .append) (xs := #[.tmp 19, .tmp 23]) rfl ?_); at_builtin; refine app_row1 (W := w4) (wb := W) W.heap.size rfl (.tmp 19) (.tmp 23) rfl u5 _ x.f1 A4 c4 rfl rfl (by simp) V4.out R2c.out B4.out B4.out.size (by omega) ?_; intro A5 c5 w5 hr hb hg; have R5 := Lib.hid hr; have B5 := Lib.hid hb; have R3d := Lib.hid (Kd.R_drop (Kd.R_grown (Kd.R_apartR R3c.out R2c.out (by decide)) hg (fun k hk => hk.2))); clear hr hb hg))
      go_wp2_with fail
      go_roundw
      case rel => exact ⟨i + 1, by push_cast; rfl, hlt, Lib.hid (by rw [T1.out]; have h := R3d.out; simp only [List.length_append, List.length_take, List.length_map, List.length_singleton] at h; exact h), Lib.hid (by rw [T2.out]; have h := R5.out; simp only [List.length_append, List.length_take, List.length_map, List.length_singleton] at h; exact h), B5⟩
      case measure => simp only [intOf]; omega
    · obtain rfl : i = n := by omega
      have e1 : (l.map (fun x => x.f0)).take i = l.map (fun x => x.f0) := List.take_of_length_le (by rw [List.length_map, ← HN.out]; exact Nat.le_refl _)
      have e2 : (l.map (fun x => x.f1)).take i = l.map (fun x => x.f1) := List.take_of_length_le (by rw [List.length_map, ← HN.out]; exact Nat.le_refl _)
      have r1 := R1.out
      have r2 := R2.out
      rw [e1] at r1
      rw [e2] at r2
      obtain ⟨A7, c7, h7, l7, g7⟩ := Kd.R_reads r1
      obtain ⟨A8, c8, h8, l8, g8⟩ := Kd.R_reads r2
      rw [List.length_map, ← HN.out] at h7 g7 h8 g8 l7 l8
      subst h7 h8
      have G7 := Lib.hid g7
      have G8 := Lib.hid g8
      have L7 := Lib.hid l7
      have L8 := Lib.hid l8
      clear r1 r2 g7 g8 R1 R2 e1 e2 l7 l8
      go_wp2_with fail
      go_ret2
      exact ⟨A7, c7, A8, c8, rfl, L7.out, L8.out, G7.out, G8.out, BI.out⟩
end Go.Proofs.YtckjbgneblfceaaDoor.At
namespace Go.Proofs.YtckjbgneblfceaaDoor.At
open Go.RowKit Go.Maps Go.Proofs.YtckjbgneblfceaaDoorW.PrintWords Go.Proofs.YtckjbgneblfceaaDoorW.PrintLast Go.Proofs.YtckjbgneblfceaaDoorW.PrintMore
open Go.Proofs.YtckjbgneblfceaaDoor.Da Go.Proofs.YtckjbgneblfceaaDoor.Fa Go.Proofs.YtckjbgneblfceaaDoor.Fm Go.Proofs.YtckjbgneblfceaaDoor.PFnFitFirst
open Go.Proofs.YtckjbgneblfceaaDoor.Fb Go.Proofs.YtckjbgneblfceaaDoor.Fc Go.Proofs.YtckjbgneblfceaaDoor.Fe
open Go.Proofs.YtckjbgneblfceaaDoor.Al (up4 roomL room)
set_option linter.unusedVariables false
set_option linter.unusedSimpArgs false
theorem app133 {ops : Array Oper} {rest : List Oper} {o : Oper} {a : Act} {Q : Exit → Act → World → Prop} {W w0 wb : World} (base : Nat) (hgd : o.guard = none) (s x : Operand) (ho : o.op = .call { callee := .builtin .append, args := #[s, x], argTypes := #[105, 105] })
    (v : Value) (xs : List S133) (p : S133) (A1 : Option Addr) (c1 : Nat) (hs : a.eval s = v) {g : Nat} (hx : a.eval x = .slice (some ⟨g, 0, none⟩) 1 1) (hgs : W.heap.size = g) (l1 : p.f2.length ≤ c1) (g1 : (Kd.int .u8).C w0 A1 p.f2.length p.f2)
    (HO : (Kf k133 w0).R 133 W base (fun _ => True) v xs) (HB : Below base wb W) (hbase : base ≤ W.heap.size) (hl : xs.length ≤ 1000)
    (h : ∀ v1 w1, (Kf k133 w0).R 133 w1 base (fun _ => True) v1 (xs ++ [p]) → Below base wb w1 → wpList Tryd.prog ops Q rest (a.put o.dst v1) w1) :
    wpList Tryd.prog ops Q (o :: rest) a (W.alloc (.cells #[.string p.f0, .int .u8 p.f1, .slice A1 p.f2.length c1] 133)) := by
  subst hgs
  refine Kd.R_append (Kf k133 w0) (w0 := wb) base hgd s x 105 133 _ 48 ho Tryd.underlying105 info133 rfl (by show 0 < 3; decide) (by decide) v xs p [.string p.f0, .int .u8 p.f1, .slice A1 p.f2.length c1] (fun _ => True) (fun _ => False) hs hx (k133_mk w0 p l1 g1) (fun _ hk => hk.elim) (fun _ _ => trivial) HO HB hbase (by omega) ?_
  intro v1 w1 h1 hb _ _
  exact h v1 w1 h1 hb
def to133 (x : S58) : S133 := ⟨(comp x.f0).2, (comp x.f0).1, x.f1⟩
/-- What a list of rows gives putXattrs. -/
theorem rows61 {wS w : World} {base g : Nat} {v : Value} {l : List S133} (h : (Kf k133 wS).R 133 w base (fun _ => True) v l) (hg : g < base) : ∃ A c, v = .slice A l.length c ∧ l.length ≤ c ∧ Rows61 A l.length g l wS w := by
  obtain ⟨A, c, rfl, hlc, hC⟩ := Kd.R_reads h
  refine ⟨A, c, rfl, hlc, fun i hi => ?_⟩
  obtain ⟨ad, cs, rfl, _, hK, hc0⟩ := Kd.C_get hC z133 (i : Int) (by omega) (by omega)
  rw [Int.toNat_natCast] at hK hc0
  obtain ⟨A2, c2, rfl, l2, g2⟩ := k133_open (w := wS) hK
  have hc : ∀ j u, ([.string (l.getD i z133).f0, .int .u8 (l.getD i z133).f1, .slice A2 (l.getD i z133).f2.length c2] : List Value)[j]? = some u → w.cell? (ad.add (i * 3 + j)) = some u := hc0
  have hr : rd_T133 l (i : Int) = l.getD i z133 := by unfold rd_T133; rw [Int.toNat_natCast]
  obtain ⟨_, inner, ho, _⟩ := h
  have hb := own_base ho ad.block (by simp [Value.ownBlock])
  refine ⟨ad, A2, c2, rfl, ?_, ?_, ?_, ?_, ?_, ?_⟩
  · have : (ad.add (i * 3)).block = ad.block := by unfold Addr.add; split <;> rfl
    rw [this]; omega
  · rw [hr]; exact hc 0 _ rfl
  · rw [hr, ← add_field _ _ 1 (by omega)]; exact hc 1 _ rfl
  · rw [hr, ← add_field _ _ 2 (by omega)]; exact hc 2 _ rfl
  · rw [hr]; exact l2
  · rw [hr]; exact g2
set_option maxHeartbeats 4000000 in
set_option maxRecDepth 100000 in
theorem door41 (l : List S58) (An Av : Option Addr) (n cn cv g cb size d : Nat) (wS w : World) (t : TypeId) (fr : Nat × Nat) (hn : l.length = n) (hg4 : w.heap[4]? = some (.cells cells14 t fr)) (hl : n ≤ 40) (hcn : n ≤ cn) (hcv : n ≤ cv)
    (hN : Kd.string.C wS An n (l.map fun x => x.f0)) (hV : kB.C wS Av n (l.map fun x => x.f1)) (hB : Bst g w (zs size) w) (hS : Below wS.heap.size wS w) (hSg : wS.heap.size ≤ g) (hfit : rmL (l.map to133) + 4 ≤ size)
    (hcb : size ≤ cb) (hsz : size ≤ 4096) (hds : d + size ≤ 65535) (hi : ∀ x ∈ l, InBytes x.f1 ∧ x.f0.size ≤ 2147483647 ∧ (comp x.f0).2.size ≤ 255 ∧ x.f1.length ≤ 4096) :
    Calls Tryd.prog 41 #[.slice An n cn, .slice Av n cv, .slice (some ⟨g, 0, none⟩) size cb, .int .u16 (d : Int)] w fun e w' => e = .returned (.tuple #[]) ∧ Bst g w (bytesOf size (lay size d (l.map to133))) w' := by
  have HN := Lib.hid hN
  have HV := Lib.hid hV
  have HB := Lib.hid hB
  have HS := Lib.hid hS
  have HI := Lib.hid hi
  have HF := Lib.hid hfit
  have HL := Lib.hid hn
  have HG := Lib.hid hSg
  have H4 := Lib.hid hg4
  clear hN hV hB hS hi hfit hn hSg hg4
  go_enter Tryd.func41, Tryd.ntmps41
  go_upto_block 0 with (fail)
  go_cut [8] (fun v8 wc => Hid ((Kf k133 wS).R 133 wc w.heap.size (fun _ => True) v8 (l.map to133)) ∧ Hid (Below w.heap.size w wc))
  case first =>
    go_wp2
    go_loopw [8, 15] (fun v8 v15 wr => ∃ i : Nat, v15 = .int .i64 i ∧ i ≤ n ∧ Hid ((Kf k133 wS).R 133 wr w.heap.size (fun _ => True) v8 ((l.map to133).take i)) ∧ Hid (Below w.heap.size w wr)) (fun _ v15 _ => n - (intOf v15).toNat)
    case atStart => exact ⟨0, rfl, Nat.zero_le _, Lib.hid (Kd.R_nil _ _ _ _ _), Lib.hid (Below.refl _ _)⟩
    case round =>
      obtain ⟨i, rfl, hin, R1, B1⟩ := hrel
      by_cases hlt : i < n
      · have hlt' : (i : Int) < (n : Int) := by omega
        have j1 : decide ((i : Int) < (n : Int)) = true := decide_eq_true hlt'
        have j2 : (0 ≤ (i : Int)) = True := eq_true (by omega)
        have j3 : ((i : Int) < (n : Int)) = True := eq_true hlt'
        have j4 : IntKind.i64.wrap ((i : Int) + 1) = (i : Int) + 1 := IntWalk.i64_in _ (by omega)
        have T1 := Lib.hid (take_succ to133 l i z58 (by rw [HL.out]; exact hlt))
        obtain ⟨an, rfl, k0⟩ := Fd.at_str HN.out i hlt
        obtain ⟨av, cs2, rfl, _, hK2, hc2⟩ := Kd.C_get HV.out ([] : List Int) (i : Int) (by omega) hlt'
        rw [Int.toNat_natCast] at hK2 hc2
        obtain ⟨A2, c2, rfl, l2, g2⟩ := hK2
        have k1 := hc2 0 _ rfl
        have e1 : kB.sz = 1 := rfl
        rw [e1, Nat.mul_one, Nat.add_zero] at k1
        obtain ⟨x, hx⟩ : ∃ x, x = l.getD i z58 := ⟨_, rfl⟩
        have hgx : l[i]? = some x := by rw [hx, List.getD_eq_getElem?_getD, List.getElem?_eq_getElem (by rw [HL.out]; exact hlt)]; rfl
        have m0 : (l.map fun x => x.f0).getD i ⟨#[]⟩ = x.f0 := by rw [List.getD_eq_getElem?_getD, List.getElem?_map, hgx]; rfl
        have m1 : (l.map fun x => x.f1).getD i [] = x.f1 := by rw [List.getD_eq_getElem?_getD, List.getElem?_map, hgx]; rfl
        rw [m0] at k0
        rw [m1] at k1 l2 g2
        rw [← hx] at T1
        have S1 := below_then HS.out HS.out.size B1.out
        have k0 := cellb0 k0 S1
        have k1 := cellb0 k1 S1
        obtain ⟨a1, a2, a3, a4⟩ := HI.out x (List.mem_of_getElem? hgx)
        have G4 := Lib.hid ((B1.out.block 4 (Da.blk_lt H4.out)).trans H4.out)
        have hle : ((l.map to133).take i).length ≤ i := List.length_take_le _ _
        have G2 := Lib.hid g2
        have hsz2 := B1.out.size
        clear hx hgx m0 m1 S1 a1 a3 a4 hc2 g2
        go_upto_region 5 with (first | (go_at_call 60; (with_reducible refine (comp_calls _ x.f0 a2 t fr G4.out).mono ?_); rintro e w2 ⟨rfl, hb⟩; have B2 := Lib.hid (below_then B1.out B1.out.size hb); have R2 := Lib.hid (Kd.R_below R1.out hb); have k2 := cellb0 k1 hb; clear hb))
        have SA := B2.out.size
        go_wp2_with (first | ((with_reducible refine gate_builtin (b := .append) (xs := #[.tmp 25, .tmp 33]) rfl ?_); at_builtin; refine app133 (W := w2) (w0 := wS) (wb := w) w.heap.size rfl (.tmp 25) (.tmp 33) rfl u8 _ (to133 x) A2 c2 rfl rfl (by simp) l2 G2.out R2.out B2.out SA (by omega) ?_; intro v4 w4 hr hb; have R4 := Lib.hid hr; have B4 := Lib.hid hb; clear hr hb))
        go_roundw
        case rel => exact ⟨i + 1, by push_cast; rfl, hlt, Lib.hid (by rw [T1.out]; exact R4.out), B4⟩
        case measure => simp only [intOf]; omega
      · obtain rfl : i = n := by omega
        have j1 : decide ((i : Int) < (i : Int)) = false := decide_eq_false (by omega)
        have e1 : (l.map to133).take i = l.map to133 := List.take_of_length_le (by rw [List.length_map, HL.out]; exact Nat.le_refl _)
        rw [e1] at R1
        go_wp2
        go_meet
        case rel => exact ⟨R1, B1⟩
  case rest =>
    obtain ⟨R1, B1⟩ := hcut
    rename World => wc
    have hgl := HB.out.lt
    obtain ⟨A, c, rfl, hlc, hR⟩ := rows61 R1.out hgl
    rw [List.length_map, HL.out] at hlc hR ⊢
    have RR := Lib.hid hR
    have B2 := Lib.hid (HB.out.below B1.out)
    have S2 := Lib.hid (below_then HS.out HS.out.size B1.out)
    clear hR
    have HI3 := Lib.hid (show ∀ x ∈ l.map to133, InBytes x.f2 ∧ x.f0.size ≤ 255 ∧ x.f2.length ≤ 4096 from by intro x hx; obtain ⟨y, hy, rfl⟩ := List.mem_map.1 hx; obtain ⟨a1, a2, a3, a4⟩ := HI.out y hy; exact ⟨a1, a3, a4⟩)
    have HL3 := Lib.hid (show (l.map to133).length = n from by rw [List.length_map]; exact HL.out)
    go_wp2_with (first | (go_at_call 61; (with_reducible refine (put61 A n c (l.map to133) g cb size d wS wc HL3.out hl hcb hsz hds B2.out.base RR.out S2.out HG.out HF.out hlc HI3.out).mono ?_); rintro e w2 ⟨rfl, hb⟩; have P := Lib.hid (B2.out.trans hb); clear hb))
    go_returns
    exact ⟨rfl, P.out⟩
end Go.Proofs.YtckjbgneblfceaaDoor.At
namespace Go.Proofs.YtckjbgneblfceaaDoor.At
open Go.RowKit Go.Maps Go.Proofs.YtckjbgneblfceaaDoorW.PrintWords Go.Proofs.YtckjbgneblfceaaDoorW.PrintLast Go.Proofs.YtckjbgneblfceaaDoorW.PrintMore
open Go.Proofs.YtckjbgneblfceaaDoor.Da Go.Proofs.YtckjbgneblfceaaDoor.Fa Go.Proofs.YtckjbgneblfceaaDoor.Fm Go.Proofs.YtckjbgneblfceaaDoor.PFnFitFirst
open Go.Proofs.YtckjbgneblfceaaDoor.Fb Go.Proofs.YtckjbgneblfceaaDoor.Fc Go.Proofs.YtckjbgneblfceaaDoor.Fe
open Go.Proofs.YtckjbgneblfceaaDoor.Al (up4 roomL room laid40)
set_option linter.unusedVariables false
set_option linter.unusedSimpArgs false
theorem bst_of_R {W : World} {base g n c : Nat} {ok : Nat → Prop} {xs : List Int} (h : (Kd.int .u8).R 5 W base ok (.slice (some ⟨g, 0, none⟩) n c) xs) : Bst g W xs W ∧ base ≤ g := by
  obtain ⟨rfl, _, hC⟩ := Kd.R_reads' h
  obtain ⟨inner, ho⟩ := Kd.R_own h
  have hk : (Value.slice (some ⟨g, 0, none⟩) xs.length c).ownBlock = some g := rfl
  obtain ⟨cells, hc⟩ := own_typed ho g hk
  refine ⟨⟨fun j x hj => ⟨?_, blk_frozen hc j⟩, Da.blk_lt hc, Moves.refl _ _⟩, own_base ho g hk⟩
  have hjl := (List.getElem?_eq_some_iff.1 hj).1
  obtain ⟨g2, o2, he, hL⟩ := lies_of_C hC (by omega)
  obtain ⟨rfl, rfl, _⟩ := Addr.mk.inj (Option.some.inj he)
  have := hL j x hj
  rwa [Nat.zero_add] at this
theorem roomL_rmL (l : List S58) : rmL (l.map to133) = roomL l := by
  unfold rmL roomL
  rw [List.map_map]; rfl
/-- What is asked of the attributes. -/
abbrev Fine (l : List S58) : Prop := ∀ x ∈ l, InBytes x.f1 ∧ x.f0.size ≤ 2147483647 ∧ (comp x.f0).2.size ≤ 255 ∧ x.f1.length ≤ 4096
set_option maxHeartbeats 4000000 in
set_option maxRecDepth 100000 in
theorem put19 (l : List S58) (A : Option Addr) (n c size d : Nat) (w : World) (t : TypeId) (fr : Nat × Nat) (hn : l.length = n) (hg4 : w.heap[4]? = some (.cells cells14 t fr)) (hl : n ≤ 40) (hnc : n ≤ c) (hC : k58.C w A n l)
    (hsz : size ≤ 4096) (hds : d + size ≤ 65535) (hi : Fine l) :
    Calls Tryd.prog 19 #[.slice A n c, .int .i64 (size : Int), .int .u16 (d : Int)] w fun e w' => Below w.heap.size w w' ∧
      ((roomL l + 4 ≤ size ∧ ∃ g cb, e = .returned (.tuple #[.slice (some ⟨g, 0, none⟩) size cb, .bool true]) ∧ size ≤ cb ∧ Lies g 0 (bytesOf size (lay size d (l.map to133))) w') ∨
       (¬ (roomL l + 4 ≤ size) ∧ e = .returned (.tuple #[.slice none 0 0, .bool false]))) := by
  have HC := Lib.hid hC
  have HI := Lib.hid hi
  have HL := Lib.hid hn
  have H4 := Lib.hid hg4
  have LA := Lib.hid (laid40 A n c l size w t fr hg4 hC hnc hl hsz (fun x hx => ⟨(hi x hx).2.1, (hi x hx).2.2.1, (hi x hx).2.2.2⟩))
  have s0 : decide ((size : Int) < 0) = false := decide_eq_false (by omega)
  have s1 : decide ((4096 : Int) < (size : Int)) = false := decide_eq_false (by omega)
  have HV := Lib.hid (show ∀ i : Nat, i < l.length → (rd_T58 l i).f1.length ≤ 2147483647 from fun i hi2 => by
    have hm : rd_T58 l i ∈ l := by
      unfold rd_T58
      rw [Int.toNat_natCast, List.getD_eq_getElem?_getD, List.getElem?_eq_getElem hi2]
      exact List.getElem_mem hi2
    have := (hi _ hm).2.2.2
    omega)
  have SP := Lib.hid (show ∀ W, Below w.heap.size w W → Calls Tryd.prog 28 #[.slice A n c] W fun e w' => ∃ A1 c1 A2 c2, e = .returned (.tuple #[.slice A1 n c1, .slice A2 n c2]) ∧ n ≤ c1 ∧ n ≤ c2 ∧ Kd.string.C w' A1 n (l.map (fun x => x.f0)) ∧ kB.C w' A2 n (l.map (fun x => x.f1)) ∧ Below W.heap.size W w' from by
    intro W hW
    subst hn
    exact split_full W l A c (Kd.C_below hC hW) (by omega) HV.out)
  clear hC hi hn hg4
  by_cases hf : roomL l + 4 ≤ size
  · have E1 := Lib.hid (show decide (4 + roomL l ≤ size) = true from decide_eq_true (by omega))
    have HF := Lib.hid hf
    have hs0 : 0 < size := by omega
    have D1 := Lib.hid (show rmL (l.map to133) + 4 ≤ size from by rw [roomL_rmL]; exact hf)
    clear hf
    go_enter Tryd.func19, Tryd.ntmps19
    go_wp2_with (first | (go_at_call 40; (with_reducible refine (LA.out).mono ?_); rw [E1.out]; rintro e w2 ⟨rfl, hb⟩; have B2 := Lib.hid hb; clear hb) | (go_at_call 28; (with_reducible refine (SP.out _ B2.out).mono ?_); rintro e w3 ⟨A1, c1, A2, c2, rfl, m1, m2, hN, hV, hb⟩; have HN := Lib.hid hN; have HV2 := Lib.hid hV; have B3 := Lib.hid (below_then B2.out B2.out.size hb); clear hN hV hb) | ((with_reducible refine gate_dst (N := 29) rfl ?_); refine Cd.make_bytes rfl rfl (.tmp 28) (.tmp 28) rfl size rfl rfl hs0 (by omega) ?_; intro g cb w4 hr hcb hb; have R4 := Lib.hid (show Bst g w4 (zs size) w4 ∧ w3.heap.size ≤ g from bst_of_R hr); have hcb := hcb; have B4 := Lib.hid hb; have G4 := Lib.hid (((below_then B3.out B3.out.size hb).block 4 (Da.blk_lt H4.out)).trans H4.out); clear hr hb) | (go_at_call 41; (with_reducible refine (door41 l A1 A2 n c1 c2 g cb size d w3 w4 t fr HL.out G4.out hl m1 m2 HN.out HV2.out R4.out.1 B4.out R4.out.2 D1.out hcb hsz hds HI.out).mono ?_); rintro e w5 ⟨rfl, hb⟩; have P := Lib.hid hb; clear hb))
    go_ret2
    have F := below_then B3.out B3.out.size (P.out.mv.toBelow B4.out B4.out.size (fun k hk => by rw [hk]; exact R4.out.2))
    exact ⟨F, .inl ⟨HF.out, g, cb, rfl, hcb, P.out.lies⟩⟩
  · have E1 := Lib.hid (show decide (4 + roomL l ≤ size) = false from decide_eq_false (by omega))
    have HF := Lib.hid hf
    clear hf
    go_enter Tryd.func19, Tryd.ntmps19
    go_wp2_with (first | (go_at_call 40; (with_reducible refine (LA.out).mono ?_); rw [E1.out]; rintro e w2 ⟨rfl, hb⟩; have B2 := Lib.hid hb; clear hb))
    go_ret2
    exact ⟨B2.out, .inr ⟨HF.out, rfl⟩⟩
end Go.Proofs.YtckjbgneblfceaaDoor.At
