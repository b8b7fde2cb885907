/- A part of the proof that FnAttributesPut answers true for all attributes, sizes and offsets. -/
import Derived.Test.YtckjbgneblfceaaDoorProg
import Derived.Below
import Derived.Deep.Draws
import Derived.Deep.AppendLies
import Derived.Maps.AppendAt
import Derived.OwnWalk
import Derived.Laws.BytesArg
import Derived.Laws.MakeOwn
import Derived.Laws.OwnMore
import Derived.Deep.OwnRows
import Derived.Tactics
import Derived.Lib.ConvBytes
import Derived.Laws.Slices
import Derived.WalkKit
import Derived.KernelRfl
import Derived.RowKit3
import Derived.Deep.LoopGhost
import Derived.Deep.QuietTactic
import Derived.BigQuiet
import Derived.WideLaws
import Derived.Deep.DeepCutAuto
import Derived.Deep.CutBlock
import Derived.Deep.RegionHeld3
import Derived.Laws.Rows
import Derived.Lib.AppendStr
import Derived.ArgAppend
import Derived.Laws.IdiomCopy
import Derived.OrdersHeld
import Derived.Laws.BitsLemmas
import Derived.RowKit
import Derived.Test.YtckjbgneblfceaaDoorUA
import Derived.StillTailTactics
import Derived.Lib.QuoteBits
import Derived.Lib.Hide
import Derived.WalkLawsBesides
import Derived.Handy
import Derived.IntWalk
import Derived.Deep.RegionHeld
import Derived.LaidLaws
import Derived.LaidEql
import Derived.Stop.IfaceNil
import Derived.Stop.LaidErr
namespace Go.Proofs.YtckjbgneblfceaaDoor.PFnFitFirst
open Go.RowKit Go.Proofs.YtckjbgneblfceaaDoorW.PrintWords Go.Proofs.YtckjbgneblfceaaDoorW.PrintLast Go.Proofs.YtckjbgneblfceaaDoorW.PrintMore
attribute [local go_sem] max2_int min2_int max_two min_two max_three min_three max_four min_four   -- for this text's walks alone
set_option linter.unusedVariables false
set_option linter.unusedSimpArgs false
def errW : Option Int → Value
  | none => .nilIface
  | some c => .iface 0 (.int .i64 c)
theorem errW_none : errW none = .nilIface := rfl
theorem errW_some (c : Int) : errW (some c) = .iface 0 (.int .i64 c) := rfl
theorem info58 : (Tryd.prog.info? 58).map (fun i => (i.zero, i.size, i.bytes)) = some (some (.agg #[(.string ⟨#[]⟩), (.slice none 0 0)]), 2, 40) := by kernel_rfl
theorem info70 : (Tryd.prog.info? 70).map (fun i => (i.zero, i.size, i.bytes)) = some (some (.agg #[(.string ⟨#[]⟩), (.slice none 0 0)]), 2, 40) := by kernel_rfl
def rd_L2 (xs : List (List Int)) (i : Int) : (List Int) := xs.getD i.toNat ([] : List Int)
theorem at_L2 {w : World} {A : Option Addr} {n : Nat} {xs : List (List Int)} (h : Kd.C (Kd.slice 5 (Kd.int .u8)) w A n xs) (i : Int) (h0 : 0 ≤ i) (h1 : i < n) : ∃ ad A0 c0, A = some ad ∧ w.cell? (ad.add i.toNat) = some (.slice A0 (rd_L2 xs i).length c0) ∧ (rd_L2 xs i).length ≤ c0 ∧ (Kd.int .u8).C w A0 (rd_L2 xs i).length (rd_L2 xs i) := by
  obtain ⟨ad, c, e, _, hK, hc0⟩ := Kd.C_get h ([] : List Int) i h0 h1
  have hc : ∀ j u, c[j]? = some u → w.cell? (ad.add (i.toNat * 1 + j)) = some u := hc0
  obtain ⟨A0, c0, rfl, l0, g0⟩ := hK
  exact ⟨ad, A0, c0, e, by have hq := hc 0 _ rfl; rwa [Nat.mul_one, Nat.add_zero] at hq, l0, g0⟩
structure S58 where
  f0 : ByteArray
  f1 : (List Int)
def z58 : S58 := ⟨(⟨#[]⟩ : ByteArray), ([] : List Int)⟩
def k58 : Kd S58 := Kd.iso (Kd.pair Kd.string (Kd.slice 5 (Kd.int .u8))) (fun x : S58 => (x.f0, x.f1))
theorem k58_open {w : World} {x : S58} {cs : List Value} (h : k58.K w x cs) : ∃ A1 c1, cs = [.string x.f0, .slice A1 x.f1.length c1] ∧ x.f1.length ≤ c1 ∧ (Kd.int .u8).C w A1 x.f1.length x.f1 := by
  obtain ⟨_, _, rfl, rfl, ⟨A1, c1, rfl, l1, g1⟩⟩ := h
  exact ⟨A1, c1, rfl, l1, g1⟩
theorem k58_openM {w : World} {base : Nat} {ok : Nat → Prop} {x : S58} {cs : List Value} (h : k58.M w base ok x cs) : ∃ v1, cs = [.string x.f0, v1] ∧ (Kd.int .u8).R 5 w base ok v1 x.f1 := by
  obtain ⟨_, _, rfl, rfl, ⟨v1, rfl, g1⟩⟩ := h
  exact ⟨v1, rfl, g1⟩
theorem k58_mk (w : World) (x : S58) {A1 : Option Addr} {c1 : Nat} (l1 : x.f1.length ≤ c1) (g1 : (Kd.int .u8).C w A1 x.f1.length x.f1) : k58.K w x [.string x.f0, .slice A1 x.f1.length c1] := ⟨[.string x.f0], [.slice A1 x.f1.length c1], rfl, rfl, ⟨A1, c1, rfl, l1, g1⟩⟩
theorem k58_mkM (w : World) (base : Nat) (ok : Nat → Prop) (x : S58) {v1 : Value} (g1 : (Kd.int .u8).R 5 w base ok v1 x.f1) : k58.M w base ok x [.string x.f0, v1] := ⟨[.string x.f0], [v1], rfl, rfl, ⟨v1, rfl, g1⟩⟩
def rd_T58 (xs : List S58) (i : Int) : S58 := xs.getD i.toNat z58
theorem at_T58 {w : World} {A : Option Addr} {n : Nat} {xs : List S58} (h : Kd.C k58 w A n xs) (i : Int) (h0 : 0 ≤ i) (h1 : i < n) : ∃ ad A1 c1, A = some ad ∧ w.cell? (ad.add (i.toNat * 2)) = some (.string (rd_T58 xs i).f0) ∧ w.cell? ⟨(ad.add (i.toNat * 2)).block, (ad.add (i.toNat * 2)).off + 1, none⟩ = some (.slice A1 (rd_T58 xs i).f1.length c1) ∧ (rd_T58 xs i).f1.length ≤ c1 ∧ (Kd.int .u8).C w A1 (rd_T58 xs i).f1.length (rd_T58 xs i).f1 := by
  obtain ⟨ad, c, e, _, hK, hc0⟩ := Kd.C_get h z58 i h0 h1
  have hc : ∀ j u, c[j]? = some u → w.cell? (ad.add (i.toNat * 2 + j)) = some u := hc0
  obtain ⟨A1, c1, rfl, l1, g1⟩ := k58_open hK
  exact ⟨ad, A1, c1, e, hc 0 _ rfl, by rw [← add_field _ _ 1 (by omega)]; exact hc 1 _ rfl, l1, g1⟩
structure S133 where
  f0 : ByteArray
  f1 : Int
  f2 : (List Int)
def z133 : S133 := ⟨(⟨#[]⟩ : ByteArray), (0 : Int), ([] : List Int)⟩
def k133 : Kd S133 := Kd.iso (Kd.pair Kd.string (Kd.pair (Kd.int .u8) (Kd.slice 5 (Kd.int .u8)))) (fun x : S133 => (x.f0, x.f1, x.f2))
theorem k133_open {w : World} {x : S133} {cs : List Value} (h : k133.K w x cs) : ∃ A2 c2, cs = [.string x.f0, .int .u8 x.f1, .slice A2 x.f2.length c2] ∧ x.f2.length ≤ c2 ∧ (Kd.int .u8).C w A2 x.f2.length x.f2 := by
  obtain ⟨_, _, rfl, rfl, ⟨_, _, rfl, rfl, ⟨A2, c2, rfl, l2, g2⟩⟩⟩ := h
  exact ⟨A2, c2, rfl, l2, g2⟩
theorem k133_mk (w : World) (x : S133) {A2 : Option Addr} {c2 : Nat} (l2 : x.f2.length ≤ c2) (g2 : (Kd.int .u8).C w A2 x.f2.length x.f2) : k133.K w x [.string x.f0, .int .u8 x.f1, .slice A2 x.f2.length c2] := ⟨[.string x.f0], [.int .u8 x.f1, .slice A2 x.f2.length c2], rfl, rfl, ⟨[.int .u8 x.f1], [.slice A2 x.f2.length c2], rfl, rfl, ⟨A2, c2, rfl, l2, g2⟩⟩⟩
def rd_T133 (xs : List S133) (i : Int) : S133 := xs.getD i.toNat z133
structure S70 where
  f0 : ByteArray
  f1 : (List Int)
def z70 : S70 := ⟨(⟨#[]⟩ : ByteArray), ([] : List Int)⟩
def k70 : Kd S70 := Kd.iso (Kd.pair Kd.string (Kd.slice 5 (Kd.int .u8))) (fun x : S70 => (x.f0, x.f1))
theorem k70_open {w : World} {x : S70} {cs : List Value} (h : k70.K w x cs) : ∃ A1 c1, cs = [.string x.f0, .slice A1 x.f1.length c1] ∧ x.f1.length ≤ c1 ∧ (Kd.int .u8).C w A1 x.f1.length x.f1 := by
  obtain ⟨_, _, rfl, rfl, ⟨A1, c1, rfl, l1, g1⟩⟩ := h
  exact ⟨A1, c1, rfl, l1, g1⟩
theorem k70_mk (w : World) (x : S70) {A1 : Option Addr} {c1 : Nat} (l1 : x.f1.length ≤ c1) (g1 : (Kd.int .u8).C w A1 x.f1.length x.f1) : k70.K w x [.string x.f0, .slice A1 x.f1.length c1] := ⟨[.string x.f0], [.slice A1 x.f1.length c1], rfl, rfl, ⟨A1, c1, rfl, l1, g1⟩⟩
def rd_T70 (xs : List S70) (i : Int) : S70 := xs.getD i.toNat z70
theorem at_T70 {w : World} {A : Option Addr} {n : Nat} {xs : List S70} (h : Kd.C k70 w A n xs) (i : Int) (h0 : 0 ≤ i) (h1 : i < n) : ∃ ad A1 c1, A = some ad ∧ w.cell? (ad.add (i.toNat * 2)) = some (.string (rd_T70 xs i).f0) ∧ w.cell? ⟨(ad.add (i.toNat * 2)).block, (ad.add (i.toNat * 2)).off + 1, none⟩ = some (.slice A1 (rd_T70 xs i).f1.length c1) ∧ (rd_T70 xs i).f1.length ≤ c1 ∧ (Kd.int .u8).C w A1 (rd_T70 xs i).f1.length (rd_T70 xs i).f1 := by
  obtain ⟨ad, c, e, _, hK, hc0⟩ := Kd.C_get h z70 i h0 h1
  have hc : ∀ j u, c[j]? = some u → w.cell? (ad.add (i.toNat * 2 + j)) = some u := hc0
  obtain ⟨A1, c1, rfl, l1, g1⟩ := k70_open hK
  exact ⟨ad, A1, c1, e, hc 0 _ rfl, by rw [← add_field _ _ 1 (by omega)]; exact hc 1 _ rfl, l1, g1⟩
end Go.Proofs.YtckjbgneblfceaaDoor.PFnFitFirst
namespace Go.Proofs.YtckjbgneblfceaaDoor.PFnFitFirst
open Go.RowKit Go.Proofs.YtckjbgneblfceaaDoorW.PrintWords Go.Proofs.YtckjbgneblfceaaDoorW.PrintLast Go.Proofs.YtckjbgneblfceaaDoorW.PrintMore
attribute [local go_sem] max2_int min2_int max_two min_two max_three min_three max_four min_four   -- for this text's walks alone
set_option linter.unusedVariables false
set_option linter.unusedSimpArgs false
def laws_zzFits8.f (a0_0 : ByteArray) (l0_1 : List Int) : Option (Bool) := if (a0_0.size : Int) > 2147483647 then (some false) else (if (l0_1.length : Int) > 2147483647 then (some false) else (some true))
set_option maxHeartbeats 8000000 in
set_option maxRecDepth 100000 in
theorem laws_zzFits8.calls (a0_0 : ByteArray) (A0_1 : Option Addr) (c0_1 : Nat) (l0_1 : List Int) (r : Bool) (w : World) (hr0_1 : Kd.C (Kd.int .u8) w A0_1 l0_1.length l0_1) (hc0_1 : l0_1.length ≤ c0_1) (h : laws_zzFits8.f a0_0 l0_1 = some r) :
    Calls Tryd.prog 26 #[.agg #[.string a0_0, .slice A0_1 l0_1.length c0_1]] w fun e w' => e = .returned (.bool r) ∧ Below w.heap.size w w' := by
  have hu58 := Tryd.underlying58
  have HR0_1 := Aside0.mk hr0_1
  have HC0_1 := Aside0.mk hc0_1
  clear hr0_1 hc0_1
  have HB := Aside0.mk (Below.refl w.heap.size w)
  have H : (if (a0_0.size : Int) > 2147483647 then (some false) else (if (l0_1.length : Int) > 2147483647 then (some false) else (some true))) = some r := h
  clear h
  by_cases c2 : (a0_0.size : Int) > 2147483647
  · rw [if_pos c2] at H
    have c2b0 : decide (2147483647 < (a0_0.size : Int)) = true := decide_eq_true c2
    have c2b1 : decide (2147483647 < a0_0.size) = true := decide_eq_true (by omega)
    clear c2
    obtain rfl := Option.some.inj H
    go_enter Tryd.func26, Tryd.ntmps26
    go_wp2_with (first | ((with_reducible refine gate_dst (N := 1) rfl ?_); refine box_event ?hg (N := 1) ?hd (cs := #[.string a0_0, .slice A0_1 l0_1.length c0_1]) (t := 58) ?hr ?_; (case hd => rfl); (case hg => rfl); (case hr => first | (go_simp; done) | (go_simp; rfl)); intro gb101 hg w3 hbox hb; have n0_ := Aside0.mk (below_step (by repeat (first | (with_reducible first | exact HB.out | apply below_alloc | apply pw_below_drewN | apply below_drew1) | exact HB.out)) hb); have n1_ := Aside0.mk (hbox); have n2_ := Aside0.mk ((by rw [hg]; exact (below_size (by repeat (first | (with_reducible first | exact HB.out | apply below_alloc | apply pw_below_drewN | apply below_drew1) | exact HB.out))) : w.heap.size ≤ gb101)); have n3_ := Aside0.mk ((by rw [hg]; exact (below_size (by repeat (first | (with_reducible first | exact HB.out | apply below_alloc | apply pw_below_drewN | apply below_drew1) | exact HB.out))) : w.heap.size ≤ gb101)); clear HB; have HB := n0_; have BK101 := n1_; have GW101 := n2_; have GE101 := n3_; clear n0_ n1_ n2_ n3_; clear hb hbox hg; have hcz4_0 : w3.cell? ⟨gb101, 0, none⟩ = some (.string a0_0) := (blk_cell BK101.out 0).trans rfl; have hcz4_1 : w3.cell? ⟨gb101, 1, none⟩ = some (.slice A0_1 l0_1.length c0_1) := (blk_cell BK101.out 1).trans rfl; have hfz4_0 := blk_frozen BK101.out 0; have hfz4_1 := blk_frozen BK101.out 1))
    go_ret
    exact ⟨by first | rfl | (simp [errW_none, errW_some] <;> rfl) | (simp [*, errW_none, errW_some] <;> rfl), by repeat (first | (with_reducible first | exact HB.out | apply below_alloc | apply pw_below_drewN | apply below_drew1 | refine below_set ?_ GE101.out) | exact HB.out)⟩
  · rw [if_neg c2] at H
    have c2b0 : decide (2147483647 < (a0_0.size : Int)) = false := decide_eq_false c2
    have c2b1 : decide (2147483647 < a0_0.size) = false := decide_eq_false (by omega)
    clear c2
    by_cases c5 : (l0_1.length : Int) > 2147483647
    · rw [if_pos c5] at H
      have c5b0 : decide (2147483647 < (l0_1.length : Int)) = true := decide_eq_true c5
      have c5b1 : decide (2147483647 < l0_1.length) = true := decide_eq_true (by omega)
      clear c5
      obtain rfl := Option.some.inj H
      go_enter Tryd.func26, Tryd.ntmps26
      go_wp2_with (first | ((with_reducible refine gate_dst (N := 1) rfl ?_); refine box_event ?hg (N := 1) ?hd (cs := #[.string a0_0, .slice A0_1 l0_1.length c0_1]) (t := 58) ?hr ?_; (case hd => rfl); (case hg => rfl); (case hr => first | (go_simp; done) | (go_simp; rfl)); intro gb101 hg w6 hbox hb; have n0_ := Aside0.mk (below_step (by repeat (first | (with_reducible first | exact HB.out | apply below_alloc | apply pw_below_drewN | apply below_drew1) | exact HB.out)) hb); have n1_ := Aside0.mk (hbox); have n2_ := Aside0.mk ((by rw [hg]; exact (below_size (by repeat (first | (with_reducible first | exact HB.out | apply below_alloc | apply pw_below_drewN | apply below_drew1) | exact HB.out))) : w.heap.size ≤ gb101)); have n3_ := Aside0.mk ((by rw [hg]; exact (below_size (by repeat (first | (with_reducible first | exact HB.out | apply below_alloc | apply pw_below_drewN | apply below_drew1) | exact HB.out))) : w.heap.size ≤ gb101)); clear HB; have HB := n0_; have BK101 := n1_; have GW101 := n2_; have GE101 := n3_; clear n0_ n1_ n2_ n3_; clear hb hbox hg; have hcz7_0 : w6.cell? ⟨gb101, 0, none⟩ = some (.string a0_0) := (blk_cell BK101.out 0).trans rfl; have hcz7_1 : w6.cell? ⟨gb101, 1, none⟩ = some (.slice A0_1 l0_1.length c0_1) := (blk_cell BK101.out 1).trans rfl; have hfz7_0 := blk_frozen BK101.out 0; have hfz7_1 := blk_frozen BK101.out 1))
      go_ret
      exact ⟨by first | rfl | (simp [errW_none, errW_some] <;> rfl) | (simp [*, errW_none, errW_some] <;> rfl), by repeat (first | (with_reducible first | exact HB.out | apply below_alloc | apply pw_below_drewN | apply below_drew1 | refine below_set ?_ GE101.out) | exact HB.out)⟩
    · rw [if_neg c5] at H
      have c5b0 : decide (2147483647 < (l0_1.length : Int)) = false := decide_eq_false c5
      have c5b1 : decide (2147483647 < l0_1.length) = false := decide_eq_false (by omega)
      clear c5
      obtain rfl := Option.some.inj H
      go_enter Tryd.func26, Tryd.ntmps26
      go_wp2_with (first | ((with_reducible refine gate_dst (N := 1) rfl ?_); refine box_event ?hg (N := 1) ?hd (cs := #[.string a0_0, .slice A0_1 l0_1.length c0_1]) (t := 58) ?hr ?_; (case hd => rfl); (case hg => rfl); (case hr => first | (go_simp; done) | (go_simp; rfl)); intro gb101 hg w8 hbox hb; have n0_ := Aside0.mk (below_step (by repeat (first | (with_reducible first | exact HB.out | apply below_alloc | apply pw_below_drewN | apply below_drew1) | exact HB.out)) hb); have n1_ := Aside0.mk (hbox); have n2_ := Aside0.mk ((by rw [hg]; exact (below_size (by repeat (first | (with_reducible first | exact HB.out | apply below_alloc | apply pw_below_drewN | apply below_drew1) | exact HB.out))) : w.heap.size ≤ gb101)); have n3_ := Aside0.mk ((by rw [hg]; exact (below_size (by repeat (first | (with_reducible first | exact HB.out | apply below_alloc | apply pw_below_drewN | apply below_drew1) | exact HB.out))) : w.heap.size ≤ gb101)); clear HB; have HB := n0_; have BK101 := n1_; have GW101 := n2_; have GE101 := n3_; clear n0_ n1_ n2_ n3_; clear hb hbox hg; have hcz9_0 : w8.cell? ⟨gb101, 0, none⟩ = some (.string a0_0) := (blk_cell BK101.out 0).trans rfl; have hcz9_1 : w8.cell? ⟨gb101, 1, none⟩ = some (.slice A0_1 l0_1.length c0_1) := (blk_cell BK101.out 1).trans rfl; have hfz9_0 := blk_frozen BK101.out 0; have hfz9_1 := blk_frozen BK101.out 1))
      go_ret
      exact ⟨by first | rfl | (simp [errW_none, errW_some] <;> rfl) | (simp [*, errW_none, errW_some] <;> rfl), by repeat (first | (with_reducible first | exact HB.out | apply below_alloc | apply pw_below_drewN | apply below_drew1 | refine below_set ?_ GE101.out) | exact HB.out)⟩
def laws_zzFits7.l0 : Nat → List (S58) → Int → Int → Option (Bool)
  | 0, _, _, _ => none
  | k + 1, x8, x9, x10 => if x10 < x9 then (if 0 ≤ x10 then (if x10 < (x8.length : Int) then ((laws_zzFits8.f ((rd_T58 x8 x10).f0) ((rd_T58 x8 x10).f1)).bind fun t104 => (if t104 = true then (laws_zzFits7.l0 k x8 x9 (wrap64 (x10 + 1))) else (some false))) else (none)) else (none)) else (some true)
def laws_zzFits7.f (k : Nat) (l0 : List (S58)) : Option (Bool) := if (l0.length : Int) > 2147483647 then (some false) else (laws_zzFits7.l0 k l0 (l0.length : Int) 0)
theorem laws_zzFits7.mono_l : ∀ k, (∀ y0 y1 y2, LeO (laws_zzFits7.l0 k y0 y1 y2) (laws_zzFits7.l0 (k + 1) y0 y1 y2))
  | 0 => fun _ _ _ r h => by simp [laws_zzFits7.l0] at h
  | k + 1 => by
    have ih0 := laws_zzFits7.mono_l k
    · intro y0 y1 y2
      unfold laws_zzFits7.l0
      repeat' first
      | (with_reducible exact ih0 _ _ _)
      | (with_reducible exact LeO.refl _)
      | (with_reducible exact LeO.none _)
      | (with_reducible refine LeO.ite ?_ ?_)
      | (with_reducible refine LeO.bind ?_ (fun _ => ?_))
      | exact ih0 _ _ _
      | exact LeO.none _
      | refine LeO.ite ?_ ?_
      | refine LeO.bind ?_ (fun _ => ?_)
theorem laws_zzFits7.mono : ∀ a0 k, LeO (laws_zzFits7.f k a0) (laws_zzFits7.f (k + 1) a0) := by
  intro a0 k
  have ih0 := laws_zzFits7.mono_l k
  unfold laws_zzFits7.f
  repeat' first
      | (with_reducible exact ih0 _ _ _)
      | (with_reducible exact LeO.refl _)
      | (with_reducible exact LeO.none _)
      | (with_reducible refine LeO.ite ?_ ?_)
      | (with_reducible refine LeO.bind ?_ (fun _ => ?_))
      | exact ih0 _ _ _
      | exact LeO.none _
      | refine LeO.ite ?_ ?_
      | refine LeO.bind ?_ (fun _ => ?_)
set_option maxHeartbeats 8000000 in
set_option maxRecDepth 100000 in
theorem laws_zzFits7.calls (k : Nat) (A0 : Option Addr) (c0 : Nat) (l0 : List (S58)) (r : Bool) (w : World) (hr0 : Kd.C k58 w A0 l0.length l0) (hc0 : l0.length ≤ c0) (h : laws_zzFits7.f k l0 = some r) :
    Calls Tryd.prog 7 #[.slice A0 l0.length c0] w fun e w' => e = .returned (.bool r) ∧ Below w.heap.size w w' := by
  have hu58 := Tryd.underlying58
  have HR0 := Aside0.mk hr0
  have HC0 := Aside0.mk hc0
  clear hr0 hc0
  have HB := Aside0.mk (Below.refl w.heap.size w)
  have H : (if (l0.length : Int) > 2147483647 then (some false) else (laws_zzFits7.l0 k l0 (l0.length : Int) 0)) = some r := h
  clear h
  by_cases c2 : (l0.length : Int) > 2147483647
  · rw [if_pos c2] at H
    have c2b0 : decide (2147483647 < (l0.length : Int)) = true := decide_eq_true c2
    have c2b1 : decide (2147483647 < l0.length) = true := decide_eq_true (by omega)
    clear c2
    obtain rfl := Option.some.inj H
    go_enter Tryd.func7, Tryd.ntmps7
    go_wp2
    go_ret
    exact ⟨by first | rfl | (simp [errW_none, errW_some] <;> rfl) | (simp [*, errW_none, errW_some] <;> rfl), by repeat (first | (with_reducible first | exact HB.out | apply below_alloc | apply pw_below_drewN | apply below_drew1) | exact HB.out)⟩
  · rw [if_neg c2] at H
    have c2b0 : decide (2147483647 < (l0.length : Int)) = false := decide_eq_false c2
    have c2b1 : decide (2147483647 < l0.length) = false := decide_eq_false (by omega)
    clear c2
    have H' := Aside0.mk H
    clear H
    go_enter Tryd.func7, Tryd.ntmps7
    go_wp2
    go_loopg [10] k (fun kq v10 w' => ∃ (x10_1 : Int), v10 = .int .i64 x10_1 ∧ Aside0 (laws_zzFits7.l0 kq l0 (l0.length : Int) x10_1 = some r) ∧ Aside0 (kq ≤ k) ∧ Aside0 (Below w.heap.size w w'))
    case atStart => exact ⟨(0), (by first | rfl | (simp; done) | (simp [*]; done)), H', ⟨Nat.le_refl _⟩, ⟨by repeat (first | (with_reducible first | exact HB.out | apply below_alloc | apply pw_below_drewN | apply below_drew1) | exact HB.out)⟩⟩
    case round =>
      clear H'
      try clear c2
      try clear c2b0
      try clear c2b1
      try clear p2
      obtain ⟨x10_1, rfl, HA, HK1, HB⟩ := hrel
      cases gk with
      | zero => exact absurd HA.out (by simp [laws_zzFits7.l0])
      | succ k1 =>
        have H := HA.out
        clear HA
        simp only [laws_zzFits7.l0] at H
        by_cases c3 : x10_1 < (l0.length : Int)
        · rw [if_pos c3] at H
          have c3b0 : decide (x10_1 < (l0.length : Int)) = true := decide_eq_true c3
          clear c3
          by_cases c4 : 0 ≤ x10_1
          · rw [if_pos c4] at H
            have c4b0 : decide (0 ≤ x10_1) = true := decide_eq_true c4
            clear c4
            by_cases c5 : x10_1 < (l0.length : Int)
            · rw [if_pos c5] at H
              have c5b0 : decide (x10_1 < (l0.length : Int)) = true := decide_eq_true c5
              clear c5
              replace H := Option.bind_eq_some_iff.mp H
              obtain ⟨t104, A60, H⟩ := H
              replace H : (if t104 = true then (laws_zzFits7.l0 k1 l0 (l0.length : Int) (wrap64 (x10_1 + 1))) else (some false)) = some r := H
              have A6 := Aside0.mk A60
              clear A60
              by_cases c7 : t104 = true
              · subst c7
                have H1 : (laws_zzFits7.l0 k1 l0 (l0.length : Int) (wrap64 (x10_1 + 1))) = some r := by rw [if_pos rfl] at H; exact H
                clear H
                have H := H1
                clear H1
                have H' := Aside0.mk H
                clear H
                have p102 : 0 ≤ (x10_1 : Int) := of_decide_eq_true (by first | (with_reducible assumption) | assumption)
                have q102 : x10_1 < (l0.length : Int) := of_decide_eq_true (by first | (with_reducible assumption) | assumption)
                obtain ⟨ad102, A102_1, c102_1, e102, hx102_0, hx102_1, hl102_1, hi102_1⟩ := at_T58 HR0.out x10_1 p102 q102
                cases e102
                replace hx102_0 := (HB.out.cell (World.block_lt_of_cell? w _ hx102_0)).trans hx102_0
                replace hx102_1 := (HB.out.cell (World.block_lt_of_cell? w _ hx102_1)).trans hx102_1
                have HR102_1 := Aside0.mk hi102_1
                have HC102_1 := Aside0.mk hl102_1
                clear hi102_1 hl102_1
                replace p102 := eq_true p102
                replace q102 := eq_true q102
                go_wp2_with (first | ((with_reducible refine gate_dst (N := 4) rfl ?_); refine box_event ?hg (N := 4) ?hd (cs := #[.string (⟨#[]⟩ : ByteArray), .slice none 0 0]) (t := 58) ?hr ?_; (case hd => rfl); (case hg => rfl); (case hr => first | (go_simp; done) | (go_simp; rfl)); intro gb103 hg w8 hbox hb; have n0_ := Aside0.mk (below_step (by repeat (first | (with_reducible first | exact HB.out | apply below_alloc | apply pw_below_drewN | apply below_drew1) | exact HB.out)) hb); have n1_ := Aside0.mk (hbox); have n2_ := Aside0.mk ((by rw [hg]; exact (below_size (by repeat (first | (with_reducible first | exact HB.out | apply below_alloc | apply pw_below_drewN | apply below_drew1) | exact HB.out))) : w.heap.size ≤ gb103)); have n3_ := Aside0.mk ((by rw [hg]; exact (below_size (by repeat (first | (with_reducible first | exact HB.out | apply below_alloc | apply pw_below_drewN | apply below_drew1) | exact HB.out))) : w.heap.size ≤ gb103)); clear HB; have HB := n0_; have BK103 := n1_; have GW103 := n2_; have GE103 := n3_; clear n0_ n1_ n2_ n3_; clear hb hbox hg; have hcz9_0 : w8.cell? ⟨gb103, 0, none⟩ = some (.string (⟨#[]⟩ : ByteArray)) := (blk_cell BK103.out 0).trans rfl; have hcz9_1 : w8.cell? ⟨gb103, 1, none⟩ = some (.slice none 0 0) := (blk_cell BK103.out 1).trans rfl; have hfz9_0 := blk_frozen BK103.out 0; have hfz9_1 := blk_frozen BK103.out 1) | ((with_reducible refine gate_callee (f := 26) rfl ?_); refine goesL_ (some 15) rfl rfl Tryd.func26 (by kernel_rfl) rfl #[.agg #[.string ((rd_T58 l0 x10_1).f0), .slice A102_1 ((rd_T58 l0 x10_1).f1).length c102_1]] rfl (by (try simp only [List.map_toArray, List.map_cons, List.map_nil]); first | done | rfl | (simp only [List.length_drop, List.length_take]; rfl)) ?_; (with_reducible refine (laws_zzFits8.calls ((rd_T58 l0 x10_1).f0) _ _ ((rd_T58 l0 x10_1).f1) true _ ?side1 ?side2 A6.out).mono ?_); (case side1 => exact Kd.C_below HR102_1.out (by repeat (first | (with_reducible first | exact HB.out | apply below_alloc | apply pw_below_drewN | apply below_drew1 | refine below_set ?_ GE103.out) | exact HB.out))); (case side2 => exact HC102_1.out); rintro e w10 ⟨rfl, hb⟩; refine ⟨_, rfl, ?_⟩; have n0_ := Aside0.mk (blk_below (g := gb103) (o := .cells #[.string ((rd_T58 l0 x10_1).f0), .slice A102_1 ((rd_T58 l0 x10_1).f1).length c102_1] 58 (0, 0)) (by (with_reducible repeat (first | refine blk_drewN ?_ _ | refine blk_drew ?_ | refine blk_alloc ?_ _)); refine blk_put (cs := #[.string ((rd_T58 l0 x10_1).f0), .slice none 0 0]) ?_ 1 _ rfl; (with_reducible repeat (first | refine blk_drewN ?_ _ | refine blk_drew ?_ | refine blk_alloc ?_ _)); refine blk_put (cs := #[.string (⟨#[]⟩ : ByteArray), .slice none 0 0]) ?_ 0 _ rfl; (with_reducible repeat (first | refine blk_drewN ?_ _ | refine blk_drew ?_ | refine blk_alloc ?_ _)); exact BK103.out) hb); have n1_ := Aside0.mk (below_step (by repeat (first | (with_reducible first | exact HB.out | apply below_alloc | apply pw_below_drewN | apply below_drew1 | refine below_set ?_ GE103.out) | exact HB.out)) hb); clear BK103; clear HB; have BK103 := n0_; have HB := n1_; clear n0_ n1_; (try clear hb); (try clear hb2); (try clear hk); (try clear hi)))
                go_roundg k1
                case measure => have := HK1.out; omega
                case rel => exact ⟨(wrap64 (x10_1 + 1)), (by first | rfl | (simp; done) | (simp [*]; done)), H', ⟨by have := HK1.out; omega⟩, ⟨by repeat (first | (with_reducible first | exact HB.out | apply below_alloc | apply pw_below_drewN | apply below_drew1 | refine below_set ?_ GE103.out) | exact HB.out)⟩⟩
              · replace c7 := Bool.eq_false_iff.mpr c7
                subst c7
                have H1 : (some false) = some r := by rw [if_neg (show ¬ (false = true) by decide)] at H; exact H
                clear H
                have H := H1
                clear H1
                obtain rfl := Option.some.inj H
                have p102 : 0 ≤ (x10_1 : Int) := of_decide_eq_true (by first | (with_reducible assumption) | assumption)
                have q102 : x10_1 < (l0.length : Int) := of_decide_eq_true (by first | (with_reducible assumption) | assumption)
                obtain ⟨ad102, A102_1, c102_1, e102, hx102_0, hx102_1, hl102_1, hi102_1⟩ := at_T58 HR0.out x10_1 p102 q102
                cases e102
                replace hx102_0 := (HB.out.cell (World.block_lt_of_cell? w _ hx102_0)).trans hx102_0
                replace hx102_1 := (HB.out.cell (World.block_lt_of_cell? w _ hx102_1)).trans hx102_1
                have HR102_1 := Aside0.mk hi102_1
                have HC102_1 := Aside0.mk hl102_1
                clear hi102_1 hl102_1
                replace p102 := eq_true p102
                replace q102 := eq_true q102
                go_wp2_with (first | ((with_reducible refine gate_dst (N := 4) rfl ?_); refine box_event ?hg (N := 4) ?hd (cs := #[.string (⟨#[]⟩ : ByteArray), .slice none 0 0]) (t := 58) ?hr ?_; (case hd => rfl); (case hg => rfl); (case hr => first | (go_simp; done) | (go_simp; rfl)); intro gb103 hg w11 hbox hb; have n0_ := Aside0.mk (below_step (by repeat (first | (with_reducible first | exact HB.out | apply below_alloc | apply pw_below_drewN | apply below_drew1) | exact HB.out)) hb); have n1_ := Aside0.mk (hbox); have n2_ := Aside0.mk ((by rw [hg]; exact (below_size (by repeat (first | (with_reducible first | exact HB.out | apply below_alloc | apply pw_below_drewN | apply below_drew1) | exact HB.out))) : w.heap.size ≤ gb103)); have n3_ := Aside0.mk ((by rw [hg]; exact (below_size (by repeat (first | (with_reducible first | exact HB.out | apply below_alloc | apply pw_below_drewN | apply below_drew1) | exact HB.out))) : w.heap.size ≤ gb103)); clear HB; have HB := n0_; have BK103 := n1_; have GW103 := n2_; have GE103 := n3_; clear n0_ n1_ n2_ n3_; clear hb hbox hg; have hcz12_0 : w11.cell? ⟨gb103, 0, none⟩ = some (.string (⟨#[]⟩ : ByteArray)) := (blk_cell BK103.out 0).trans rfl; have hcz12_1 : w11.cell? ⟨gb103, 1, none⟩ = some (.slice none 0 0) := (blk_cell BK103.out 1).trans rfl; have hfz12_0 := blk_frozen BK103.out 0; have hfz12_1 := blk_frozen BK103.out 1) | ((with_reducible refine gate_callee (f := 26) rfl ?_); refine goesL_ (some 15) rfl rfl Tryd.func26 (by kernel_rfl) rfl #[.agg #[.string ((rd_T58 l0 x10_1).f0), .slice A102_1 ((rd_T58 l0 x10_1).f1).length c102_1]] rfl (by (try simp only [List.map_toArray, List.map_cons, List.map_nil]); first | done | rfl | (simp only [List.length_drop, List.length_take]; rfl)) ?_; (with_reducible refine (laws_zzFits8.calls ((rd_T58 l0 x10_1).f0) _ _ ((rd_T58 l0 x10_1).f1) false _ ?side1 ?side2 A6.out).mono ?_); (case side1 => exact Kd.C_below HR102_1.out (by repeat (first | (with_reducible first | exact HB.out | apply below_alloc | apply pw_below_drewN | apply below_drew1 | refine below_set ?_ GE103.out) | exact HB.out))); (case side2 => exact HC102_1.out); rintro e w13 ⟨rfl, hb⟩; refine ⟨_, rfl, ?_⟩; have n0_ := Aside0.mk (blk_below (g := gb103) (o := .cells #[.string ((rd_T58 l0 x10_1).f0), .slice A102_1 ((rd_T58 l0 x10_1).f1).length c102_1] 58 (0, 0)) (by (with_reducible repeat (first | refine blk_drewN ?_ _ | refine blk_drew ?_ | refine blk_alloc ?_ _)); refine blk_put (cs := #[.string ((rd_T58 l0 x10_1).f0), .slice none 0 0]) ?_ 1 _ rfl; (with_reducible repeat (first | refine blk_drewN ?_ _ | refine blk_drew ?_ | refine blk_alloc ?_ _)); refine blk_put (cs := #[.string (⟨#[]⟩ : ByteArray), .slice none 0 0]) ?_ 0 _ rfl; (with_reducible repeat (first | refine blk_drewN ?_ _ | refine blk_drew ?_ | refine blk_alloc ?_ _)); exact BK103.out) hb); have n1_ := Aside0.mk (below_step (by repeat (first | (with_reducible first | exact HB.out | apply below_alloc | apply pw_below_drewN | apply below_drew1 | refine below_set ?_ GE103.out) | exact HB.out)) hb); clear BK103; clear HB; have BK103 := n0_; have HB := n1_; clear n0_ n1_; (try clear hb); (try clear hb2); (try clear hk); (try clear hi)))
                go_ret
                exact ⟨by first | rfl | (simp [errW_none, errW_some] <;> rfl) | (simp [*, errW_none, errW_some] <;> rfl), by repeat (first | (with_reducible first | exact HB.out | apply below_alloc | apply pw_below_drewN | apply below_drew1 | refine below_set ?_ GE103.out) | exact HB.out)⟩
            · rw [if_neg c5] at H
              exact absurd H (by simp)
          · rw [if_neg c4] at H
            exact absurd H (by simp)
        · rw [if_neg c3] at H
          have c3b0 : decide (x10_1 < (l0.length : Int)) = false := decide_eq_false c3
          clear c3
          obtain rfl := Option.some.inj H
          go_wp2
          go_ret
          exact ⟨by first | rfl | (simp [errW_none, errW_some] <;> rfl) | (simp [*, errW_none, errW_some] <;> rfl), by repeat (first | (with_reducible first | exact HB.out | apply below_alloc | apply pw_below_drewN | apply below_drew1) | exact HB.out)⟩
def spec_prefix.f (a0 : Int) : Option (ByteArray × Bool) := if a0 = 0 then (some ((⟨#[]⟩ : ByteArray), true)) else (if a0 = 1 then (some ((⟨#[117, 115, 101, 114, 46]⟩ : ByteArray), true)) else (if a0 = 2 then (some ((⟨#[115, 121, 115, 116, 101, 109, 46, 112, 111, 115, 105, 120, 95, 97, 99, 108, 95, 97, 99, 99, 101, 115, 115]⟩ : ByteArray), true)) else (if a0 = 3 then (some ((⟨#[115, 121, 115, 116, 101, 109, 46, 112, 111, 115, 105, 120, 95, 97, 99, 108, 95, 100, 101, 102, 97, 117, 108, 116]⟩ : ByteArray), true)) else (if a0 = 4 then (some ((⟨#[116, 114, 117, 115, 116, 101, 100, 46]⟩ : ByteArray), true)) else (if a0 = 6 then (some ((⟨#[115, 101, 99, 117, 114, 105, 116, 121, 46]⟩ : ByteArray), true)) else (if a0 = 7 then (some ((⟨#[115, 121, 115, 116, 101, 109, 46]⟩ : ByteArray), true)) else (if a0 = 8 then (some ((⟨#[115, 121, 115, 116, 101, 109, 46, 114, 105, 99, 104, 97, 99, 108]⟩ : ByteArray), true)) else (some ((⟨#[]⟩ : ByteArray), false)))))))))
set_option maxHeartbeats 8000000 in
set_option maxRecDepth 100000 in
theorem spec_prefix.calls (a0 : Int) (r1 : ByteArray) (r2 : Bool) (w : World) (h : spec_prefix.f a0 = some (r1, r2)) :
    Calls Tryd.prog 48 #[.int .u64 a0] w fun e w' => e = .returned (.tuple #[.string r1, .bool r2]) ∧ Drawn0 w w' := by
  have H : (if a0 = 0 then (some ((⟨#[]⟩ : ByteArray), true)) else (if a0 = 1 then (some ((⟨#[117, 115, 101, 114, 46]⟩ : ByteArray), true)) else (if a0 = 2 then (some ((⟨#[115, 121, 115, 116, 101, 109, 46, 112, 111, 115, 105, 120, 95, 97, 99, 108, 95, 97, 99, 99, 101, 115, 115]⟩ : ByteArray), true)) else (if a0 = 3 then (some ((⟨#[115, 121, 115, 116, 101, 109, 46, 112, 111, 115, 105, 120, 95, 97, 99, 108, 95, 100, 101, 102, 97, 117, 108, 116]⟩ : ByteArray), true)) else (if a0 = 4 then (some ((⟨#[116, 114, 117, 115, 116, 101, 100, 46]⟩ : ByteArray), true)) else (if a0 = 6 then (some ((⟨#[115, 101, 99, 117, 114, 105, 116, 121, 46]⟩ : ByteArray), true)) else (if a0 = 7 then (some ((⟨#[115, 121, 115, 116, 101, 109, 46]⟩ : ByteArray), true)) else (if a0 = 8 then (some ((⟨#[115, 121, 115, 116, 101, 109, 46, 114, 105, 99, 104, 97, 99, 108]⟩ : ByteArray), true)) else (some ((⟨#[]⟩ : ByteArray), false)))))))))) = some (r1, r2) := h
  clear h
  by_cases c2 : a0 = 0
  · rw [if_pos c2] at H
    have c2b0 : (a0 == 0) = true := beq_iff_eq.mpr c2
    have c2b1 : (a0 != 0) = false := bne_eq_false_iff_eq.mpr c2
    clear c2
    simp only [Option.some.injEq, Prod.mk.injEq] at H
    obtain ⟨rfl, rfl⟩ := H
    go_enter Tryd.func48, Tryd.ntmps48
    go_wp2
    go_ret2
    exact ⟨by first | rfl | (simp; done) | (simp [*]; done), by repeat (first | exact Drawn0.refl _ | apply Drawn0.step)⟩
  · rw [if_neg c2] at H
    have c2b0 : (a0 == 0) = false := beq_eq_false_iff_ne.mpr c2
    have c2b1 : (a0 != 0) = true := bne_iff_ne.mpr c2
    by_cases c3 : a0 = 1
    · rw [if_pos c3] at H
      have c3b0 : (a0 == 1) = true := beq_iff_eq.mpr c3
      have c3b1 : (a0 != 1) = false := bne_eq_false_iff_eq.mpr c3
      clear c3
      simp only [Option.some.injEq, Prod.mk.injEq] at H
      obtain ⟨rfl, rfl⟩ := H
      go_enter Tryd.func48, Tryd.ntmps48
      go_wp2
      go_ret2
      exact ⟨by first | rfl | (simp; done) | (simp [*]; done), by repeat (first | exact Drawn0.refl _ | apply Drawn0.step)⟩
    · rw [if_neg c3] at H
      have c3b0 : (a0 == 1) = false := beq_eq_false_iff_ne.mpr c3
      have c3b1 : (a0 != 1) = true := bne_iff_ne.mpr c3
      by_cases c4 : a0 = 2
      · rw [if_pos c4] at H
        have c4b0 : (a0 == 2) = true := beq_iff_eq.mpr c4
        have c4b1 : (a0 != 2) = false := bne_eq_false_iff_eq.mpr c4
        clear c4
        simp only [Option.some.injEq, Prod.mk.injEq] at H
        obtain ⟨rfl, rfl⟩ := H
        go_enter Tryd.func48, Tryd.ntmps48
        go_wp2
        go_ret2
        exact ⟨by first | rfl | (simp; done) | (simp [*]; done), by repeat (first | exact Drawn0.refl _ | apply Drawn0.step)⟩
      · rw [if_neg c4] at H
        have c4b0 : (a0 == 2) = false := beq_eq_false_iff_ne.mpr c4
        have c4b1 : (a0 != 2) = true := bne_iff_ne.mpr c4
        by_cases c5 : a0 = 3
        · rw [if_pos c5] at H
          have c5b0 : (a0 == 3) = true := beq_iff_eq.mpr c5
          have c5b1 : (a0 != 3) = false := bne_eq_false_iff_eq.mpr c5
          clear c5
          simp only [Option.some.injEq, Prod.mk.injEq] at H
          obtain ⟨rfl, rfl⟩ := H
          go_enter Tryd.func48, Tryd.ntmps48
          go_wp2
          go_ret2
          exact ⟨by first | rfl | (simp; done) | (simp [*]; done), by repeat (first | exact Drawn0.refl _ | apply Drawn0.step)⟩
        · rw [if_neg c5] at H
          have c5b0 : (a0 == 3) = false := beq_eq_false_iff_ne.mpr c5
          have c5b1 : (a0 != 3) = true := bne_iff_ne.mpr c5
          by_cases c6 : a0 = 4
          · rw [if_pos c6] at H
            have c6b0 : (a0 == 4) = true := beq_iff_eq.mpr c6
            have c6b1 : (a0 != 4) = false := bne_eq_false_iff_eq.mpr c6
            clear c6
            simp only [Option.some.injEq, Prod.mk.injEq] at H
            obtain ⟨rfl, rfl⟩ := H
            go_enter Tryd.func48, Tryd.ntmps48
            go_wp2
            go_ret2
            exact ⟨by first | rfl | (simp; done) | (simp [*]; done), by repeat (first | exact Drawn0.refl _ | apply Drawn0.step)⟩
          · rw [if_neg c6] at H
            have c6b0 : (a0 == 4) = false := beq_eq_false_iff_ne.mpr c6
            have c6b1 : (a0 != 4) = true := bne_iff_ne.mpr c6
            by_cases c7 : a0 = 6
            · rw [if_pos c7] at H
              have c7b0 : (a0 == 6) = true := beq_iff_eq.mpr c7
              have c7b1 : (a0 != 6) = false := bne_eq_false_iff_eq.mpr c7
              clear c7
              simp only [Option.some.injEq, Prod.mk.injEq] at H
              obtain ⟨rfl, rfl⟩ := H
              go_enter Tryd.func48, Tryd.ntmps48
              go_wp2
              go_ret2
              exact ⟨by first | rfl | (simp; done) | (simp [*]; done), by repeat (first | exact Drawn0.refl _ | apply Drawn0.step)⟩
            · rw [if_neg c7] at H
              have c7b0 : (a0 == 6) = false := beq_eq_false_iff_ne.mpr c7
              have c7b1 : (a0 != 6) = true := bne_iff_ne.mpr c7
              by_cases c8 : a0 = 7
              · rw [if_pos c8] at H
                have c8b0 : (a0 == 7) = true := beq_iff_eq.mpr c8
                have c8b1 : (a0 != 7) = false := bne_eq_false_iff_eq.mpr c8
                clear c8
                simp only [Option.some.injEq, Prod.mk.injEq] at H
                obtain ⟨rfl, rfl⟩ := H
                go_enter Tryd.func48, Tryd.ntmps48
                go_wp2
                go_ret2
                exact ⟨by first | rfl | (simp; done) | (simp [*]; done), by repeat (first | exact Drawn0.refl _ | apply Drawn0.step)⟩
              · rw [if_neg c8] at H
                have c8b0 : (a0 == 7) = false := beq_eq_false_iff_ne.mpr c8
                have c8b1 : (a0 != 7) = true := bne_iff_ne.mpr c8
                by_cases c9 : a0 = 8
                · rw [if_pos c9] at H
                  have c9b0 : (a0 == 8) = true := beq_iff_eq.mpr c9
                  have c9b1 : (a0 != 8) = false := bne_eq_false_iff_eq.mpr c9
                  clear c9
                  simp only [Option.some.injEq, Prod.mk.injEq] at H
                  obtain ⟨rfl, rfl⟩ := H
                  go_enter Tryd.func48, Tryd.ntmps48
                  go_wp2
                  go_ret2
                  exact ⟨by first | rfl | (simp; done) | (simp [*]; done), by repeat (first | exact Drawn0.refl _ | apply Drawn0.step)⟩
                · rw [if_neg c9] at H
                  have c9b0 : (a0 == 8) = false := beq_eq_false_iff_ne.mpr c9
                  have c9b1 : (a0 != 8) = true := bne_iff_ne.mpr c9
                  simp only [Option.some.injEq, Prod.mk.injEq] at H
                  obtain ⟨rfl, rfl⟩ := H
                  go_enter Tryd.func48, Tryd.ntmps48
                  go_wp2
                  go_ret2
                  exact ⟨by first | rfl | (simp; done) | (simp [*]; done), by repeat (first | exact Drawn0.refl _ | apply Drawn0.step)⟩
def spec_Begins.f (a0 : ByteArray) (a1 : ByteArray) : Option (Bool) := if (a0.size : Int) ≥ (a1.size : Int) then (if 0 ≤ (a1.size : Int) then (if (a1.size : Int) ≤ (a0.size : Int) then (some ((a0.extract 0 ((a1.size : Int) : Int).toNat).toList == a1.toList)) else (none)) else (none)) else (some false)
set_option maxHeartbeats 8000000 in
set_option maxRecDepth 100000 in
theorem spec_Begins.calls (a0 : ByteArray) (a1 : ByteArray) (r : Bool) (w : World) (h : spec_Begins.f a0 a1 = some r) :
    Calls Tryd.prog 49 #[.string a0, .string a1] w fun e w' => e = .returned (.bool r) ∧ Drawn0 w w' := by
  have H : (if (a0.size : Int) ≥ (a1.size : Int) then (if 0 ≤ (a1.size : Int) then (if (a1.size : Int) ≤ (a0.size : Int) then (some ((a0.extract 0 ((a1.size : Int) : Int).toNat).toList == a1.toList)) else (none)) else (none)) else (some false)) = some r := h
  clear h
  by_cases c3 : (a0.size : Int) ≥ (a1.size : Int)
  · rw [if_pos c3] at H
    have c3b0 : decide ((a1.size : Int) ≤ (a0.size : Int)) = true := decide_eq_true c3
    have c3b1 : decide (a1.size ≤ a0.size) = true := decide_eq_true (Int.ofNat_le.mp c3)
    clear c3
    by_cases c4 : 0 ≤ (a1.size : Int)
    · rw [if_pos c4] at H
      have c4b0 := eq_true c4
      have c4b1 : decide (0 ≤ (a1.size : Int)) = true := decide_eq_true c4
      clear c4
      by_cases c5 : (a1.size : Int) ≤ (a0.size : Int)
      · rw [if_pos c5] at H
        have c5b0 := eq_true c5
        have c5b1 : decide ((a1.size : Int) ≤ (a0.size : Int)) = true := decide_eq_true c5
        clear c5
        obtain rfl := Option.some.inj H
        go_enter Tryd.func49, Tryd.ntmps49
        go_wp2
        go_ret
        exact ⟨by first | rfl | (simp; done) | (simp [*]; done), by repeat (first | exact Drawn0.refl _ | apply Drawn0.step)⟩
      · rw [if_neg c5] at H
        exact absurd H (by simp)
    · rw [if_neg c4] at H
      exact absurd H (by simp)
  · rw [if_neg c3] at H
    have c3b0 : decide ((a1.size : Int) ≤ (a0.size : Int)) = false := decide_eq_false c3
    have c3b1 : decide (a1.size ≤ a0.size) = false := decide_eq_false (fun h => c3 (Int.ofNat_le.mpr h))
    clear c3
    obtain rfl := Option.some.inj H
    go_enter Tryd.func49, Tryd.ntmps49
    go_wp2
    go_ret
    exact ⟨by first | rfl | (simp; done) | (simp [*]; done), by repeat (first | exact Drawn0.refl _ | apply Drawn0.step)⟩
def spec_Prefixed.l0 : Nat → ByteArray → List Int → Int → Int → Option (Int × ByteArray)
  | 0, _, _, _, _ => none
  | k + 1, x0, x8, x9, x10 => if x10 < x9 then (if 0 ≤ x10 then (if x10 < (x8.length : Int) then ((spec_prefix.f (rd x8 x10)).bind fun bt109 => ((spec_Begins.f x0 bt109.1).bind fun t111 => (if t111 = true then (if 0 ≤ (bt109.1.size : Int) then (if (bt109.1.size : Int) ≤ (x0.size : Int) then (some (rd x8 x10, x0.extract ((bt109.1.size : Int) : Int).toNat x0.size)) else (none)) else (none)) else (spec_Prefixed.l0 k x0 x8 x9 (wrap64 (x10 + 1)))))) else (none)) else (none)) else (some (0, x0))
def spec_Prefixed.f (k : Nat) (a0 : ByteArray) : Option (Int × ByteArray) := (some (([2, 3, 8, 7, 1, 4, 6] : List Int) : List Int)).bind fun y105 => (spec_Prefixed.l0 k a0 y105 (y105.length : Int) 0)
theorem spec_Prefixed.mono_l : ∀ k, (∀ y0 y1 y2 y3, LeO (spec_Prefixed.l0 k y0 y1 y2 y3) (spec_Prefixed.l0 (k + 1) y0 y1 y2 y3))
  | 0 => fun _ _ _ _ r h => by simp [spec_Prefixed.l0] at h
  | k + 1 => by
    have ih0 := spec_Prefixed.mono_l k
    · intro y0 y1 y2 y3
      unfold spec_Prefixed.l0
      repeat' first
      | (with_reducible exact ih0 _ _ _ _)
      | (with_reducible exact LeO.refl _)
      | (with_reducible exact LeO.none _)
      | (with_reducible refine LeO.ite ?_ ?_)
      | (with_reducible refine LeO.bind ?_ (fun _ => ?_))
      | exact ih0 _ _ _ _
      | exact LeO.none _
      | refine LeO.ite ?_ ?_
      | refine LeO.bind ?_ (fun _ => ?_)
theorem spec_Prefixed.mono : ∀ a0 k, LeO (spec_Prefixed.f k a0) (spec_Prefixed.f (k + 1) a0) := by
  intro a0 k
  have ih0 := spec_Prefixed.mono_l k
  unfold spec_Prefixed.f
  repeat' first
      | (with_reducible exact ih0 _ _ _ _)
      | (with_reducible exact LeO.refl _)
      | (with_reducible exact LeO.none _)
      | (with_reducible refine LeO.ite ?_ ?_)
      | (with_reducible refine LeO.bind ?_ (fun _ => ?_))
      | exact ih0 _ _ _ _
      | exact LeO.none _
      | refine LeO.ite ?_ ?_
      | refine LeO.bind ?_ (fun _ => ?_)
set_option maxHeartbeats 8000000 in
set_option maxRecDepth 100000 in
theorem spec_Prefixed.calls (k : Nat) (a0 : ByteArray) (r1 : Int) (r2 : ByteArray) (w : World) (h : spec_Prefixed.f k a0 = some (r1, r2)) :
    Calls Tryd.prog 27 #[.string a0] w fun e w' => e = .returned (.tuple #[.int .u64 r1, .string r2]) ∧ Below w.heap.size w w' := by
  have HB := Aside0.mk (Below.refl w.heap.size w)
  have H : ((some (([2, 3, 8, 7, 1, 4, 6] : List Int) : List Int)).bind fun y105 => (spec_Prefixed.l0 k a0 y105 (y105.length : Int) 0)) = some (r1, r2) := h
  clear h
  obtain ⟨y105, hy105⟩ : ∃ y_ : List Int, y_ = (([2, 3, 8, 7, 1, 4, 6] : List Int)) := ⟨_, rfl⟩
  replace H : (spec_Prefixed.l0 k a0 y105 (y105.length : Int) 0) = some (r1, r2) := by first | (rw [hy105]; with_reducible exact H) | (have H2_ := (Option.bind_some _ _).symm.trans H; rw [hy105]; with_reducible exact H2_) | (have H2_ := (Option.bind_some _ _).symm.trans H; with_reducible exact H2_) | with_reducible exact H | (rw [hy105]; exact H) | exact H
  have Ny105 := Aside0.mk hy105
  clear hy105
  have H' := Aside0.mk H
  clear H
  go_enter Tryd.func27, Tryd.ntmps27
  go_wp2_with (first | ((with_reducible refine gate_dst (N := 8) rfl ?_); refine Kd.R_lit (Kd.int .u64) _ 30 ?hg (N := 8) ?hd (xs := ([2, 3, 8, 7, 1, 4, 6] : List Int)) (inner := [.int .u64 2, .int .u64 3, .int .u64 8, .int .u64 7, .int .u64 1, .int .u64 4, .int .u64 6]) (ok := fun _ => True) (okp := fun _ => True) ?hr ?hp (fun _ hk => hk) trivial (Below.refl _ _) (Nat.le_refl _) (by simp) ?_; (case hd => rfl); (case hg => rfl); (case hr => first | (go_simp; done) | (go_simp; rfl)); (case hp => exact (Reps.one (show Kd.M (Kd.int .u64) _ _ _ 2 [.int .u64 2] from rfl) (Reps.one (show Kd.M (Kd.int .u64) _ _ _ 3 [.int .u64 3] from rfl) (Reps.one (show Kd.M (Kd.int .u64) _ _ _ 8 [.int .u64 8] from rfl) (Reps.one (show Kd.M (Kd.int .u64) _ _ _ 7 [.int .u64 7] from rfl) (Reps.one (show Kd.M (Kd.int .u64) _ _ _ 1 [.int .u64 1] from rfl) (Reps.one (show Kd.M (Kd.int .u64) _ _ _ 4 [.int .u64 4] from rfl) (Reps.one (show Kd.M (Kd.int .u64) _ _ _ 6 [.int .u64 6] from rfl) (Reps.none _ _))))))))); intro v106 w2 ho3 hb hg_ hnew_; clear hg_ hnew_; (first | rw [← Ny105.out] at ho3 | (simp only [Int.reduceToNat] at ho3; rw [← Ny105.out] at ho3)); have n0_ := Aside0.mk (Kd.R_lower ho3 (below_size (by repeat (first | (with_reducible first | exact HB.out | apply below_alloc | apply pw_below_drewN | apply below_drew1) | exact HB.out)))); have n1_ := Aside0.mk (below_step (by repeat (first | (with_reducible first | exact HB.out | apply below_alloc | apply pw_below_drewN | apply below_drew1) | exact HB.out)) hb); clear HB; have HO107 := n0_; have HB := n1_; clear n0_ n1_; clear hb ho3; obtain ⟨Ao4, co4, eo4⟩ := Kd.R_slice HO107.out; subst eo4))
  repeat (go_quiet (first | ((with_reducible refine gate_dst (N := 8) rfl ?_); refine Kd.R_lit (Kd.int .u64) _ 30 ?hg (N := 8) ?hd (xs := ([2, 3, 8, 7, 1, 4, 6] : List Int)) (inner := [.int .u64 2, .int .u64 3, .int .u64 8, .int .u64 7, .int .u64 1, .int .u64 4, .int .u64 6]) (ok := fun _ => True) (okp := fun _ => True) ?hr ?hp (fun _ hk => hk) trivial (Below.refl _ _) (Nat.le_refl _) (by simp) ?_; (case hd => rfl); (case hg => rfl); (case hr => first | (go_simp; done) | (go_simp; rfl)); (case hp => exact (Reps.one (show Kd.M (Kd.int .u64) _ _ _ 2 [.int .u64 2] from rfl) (Reps.one (show Kd.M (Kd.int .u64) _ _ _ 3 [.int .u64 3] from rfl) (Reps.one (show Kd.M (Kd.int .u64) _ _ _ 8 [.int .u64 8] from rfl) (Reps.one (show Kd.M (Kd.int .u64) _ _ _ 7 [.int .u64 7] from rfl) (Reps.one (show Kd.M (Kd.int .u64) _ _ _ 1 [.int .u64 1] from rfl) (Reps.one (show Kd.M (Kd.int .u64) _ _ _ 4 [.int .u64 4] from rfl) (Reps.one (show Kd.M (Kd.int .u64) _ _ _ 6 [.int .u64 6] from rfl) (Reps.none _ _))))))))); intro v106 w2 ho3 hb hg_ hnew_; clear hg_ hnew_; (first | rw [← Ny105.out] at ho3 | (simp only [Int.reduceToNat] at ho3; rw [← Ny105.out] at ho3)); have n0_ := Aside0.mk (Kd.R_lower ho3 (below_size (by repeat (first | (with_reducible first | exact HB.out | apply below_alloc | apply pw_below_drewN | apply below_drew1) | exact HB.out)))); have n1_ := Aside0.mk (below_step (by repeat (first | (with_reducible first | exact HB.out | apply below_alloc | apply pw_below_drewN | apply below_drew1) | exact HB.out)) hb); clear HB; have HO107 := n0_; have HB := n1_; clear n0_ n1_; clear hb ho3; obtain ⟨Ao4, co4, eo4⟩ := Kd.R_slice HO107.out; subst eo4)); try go_wp2_with (first | ((with_reducible refine gate_dst (N := 8) rfl ?_); refine Kd.R_lit (Kd.int .u64) _ 30 ?hg (N := 8) ?hd (xs := ([2, 3, 8, 7, 1, 4, 6] : List Int)) (inner := [.int .u64 2, .int .u64 3, .int .u64 8, .int .u64 7, .int .u64 1, .int .u64 4, .int .u64 6]) (ok := fun _ => True) (okp := fun _ => True) ?hr ?hp (fun _ hk => hk) trivial (Below.refl _ _) (Nat.le_refl _) (by simp) ?_; (case hd => rfl); (case hg => rfl); (case hr => first | (go_simp; done) | (go_simp; rfl)); (case hp => exact (Reps.one (show Kd.M (Kd.int .u64) _ _ _ 2 [.int .u64 2] from rfl) (Reps.one (show Kd.M (Kd.int .u64) _ _ _ 3 [.int .u64 3] from rfl) (Reps.one (show Kd.M (Kd.int .u64) _ _ _ 8 [.int .u64 8] from rfl) (Reps.one (show Kd.M (Kd.int .u64) _ _ _ 7 [.int .u64 7] from rfl) (Reps.one (show Kd.M (Kd.int .u64) _ _ _ 1 [.int .u64 1] from rfl) (Reps.one (show Kd.M (Kd.int .u64) _ _ _ 4 [.int .u64 4] from rfl) (Reps.one (show Kd.M (Kd.int .u64) _ _ _ 6 [.int .u64 6] from rfl) (Reps.none _ _))))))))); intro v106 w2 ho3 hb hg_ hnew_; clear hg_ hnew_; (first | rw [← Ny105.out] at ho3 | (simp only [Int.reduceToNat] at ho3; rw [← Ny105.out] at ho3)); have n0_ := Aside0.mk (Kd.R_lower ho3 (below_size (by repeat (first | (with_reducible first | exact HB.out | apply below_alloc | apply pw_below_drewN | apply below_drew1) | exact HB.out)))); have n1_ := Aside0.mk (below_step (by repeat (first | (with_reducible first | exact HB.out | apply below_alloc | apply pw_below_drewN | apply below_drew1) | exact HB.out)) hb); clear HB; have HO107 := n0_; have HB := n1_; clear n0_ n1_; clear hb ho3; obtain ⟨Ao4, co4, eo4⟩ := Kd.R_slice HO107.out; subst eo4)))
  go_loopg [10] k (fun kq v10 w' => ∃ (x10_1 : Int), v10 = .int .i64 x10_1 ∧ Aside0 (spec_Prefixed.l0 kq a0 y105 (y105.length : Int) x10_1 = some (r1, r2)) ∧ Aside0 (kq ≤ k) ∧ Aside0 (Kd.R (Kd.int .u64) 30 w' w.heap.size (fun _ => True) (.slice Ao4 y105.length co4) y105) ∧ Aside0 (Below w.heap.size w w'))
  case atStart => exact ⟨(0), (by first | rfl | (simp; done) | (simp [*]; done)), H', ⟨Nat.le_refl _⟩, ⟨by (with_reducible repeat (first | apply Kd.R_alloc | apply Kd.R_drewN | apply Kd.R_drew)); exact HO107.out⟩, ⟨by repeat (first | (with_reducible first | exact HB.out | apply below_alloc | apply pw_below_drewN | apply below_drew1) | exact HB.out)⟩⟩
  case round =>
    clear H'
    try clear c2
    try clear p2
    obtain ⟨x10_1, rfl, HA, HK1, HO_8, HB⟩ := hrel
    cases gk with
    | zero => exact absurd HA.out (by simp [spec_Prefixed.l0])
    | succ k1 =>
      have H := HA.out
      clear HA
      simp only [spec_Prefixed.l0] at H
      by_cases c5 : x10_1 < (y105.length : Int)
      · rw [if_pos c5] at H
        have c5b0 : decide (x10_1 < (y105.length : Int)) = true := decide_eq_true c5
        clear c5
        by_cases c6 : 0 ≤ x10_1
        · rw [if_pos c6] at H
          have c6b0 : decide (0 ≤ x10_1) = true := decide_eq_true c6
          clear c6
          by_cases c7 : x10_1 < (y105.length : Int)
          · rw [if_pos c7] at H
            have c7b0 : decide (x10_1 < (y105.length : Int)) = true := decide_eq_true c7
            clear c7
            replace H := Option.bind_eq_some_iff.mp H
            obtain ⟨⟨t109, t110⟩, A80, H⟩ := H
            replace H : ((spec_Begins.f a0 t109).bind fun t111 => (if t111 = true then (if 0 ≤ (t109.size : Int) then (if (t109.size : Int) ≤ (a0.size : Int) then (some (rd y105 x10_1, a0.extract ((t109.size : Int) : Int).toNat a0.size)) else (none)) else (none)) else (spec_Prefixed.l0 k1 a0 y105 (y105.length : Int) (wrap64 (x10_1 + 1))))) = some (r1, r2) := H
            have A8 := Aside0.mk A80
            clear A80
            replace H := Option.bind_eq_some_iff.mp H
            obtain ⟨t111, A90, H⟩ := H
            replace H : (if t111 = true then (if 0 ≤ (t109.size : Int) then (if (t109.size : Int) ≤ (a0.size : Int) then (some (rd y105 x10_1, a0.extract ((t109.size : Int) : Int).toNat a0.size)) else (none)) else (none)) else (spec_Prefixed.l0 k1 a0 y105 (y105.length : Int) (wrap64 (x10_1 + 1)))) = some (r1, r2) := H
            have A9 := Aside0.mk A90
            clear A90
            by_cases c10 : t111 = true
            · subst c10
              have H1 : (if 0 ≤ (t109.size : Int) then (if (t109.size : Int) ≤ (a0.size : Int) then (some (rd y105 x10_1, a0.extract ((t109.size : Int) : Int).toNat a0.size)) else (none)) else (none)) = some (r1, r2) := by rw [if_pos rfl] at H; exact H
              clear H
              have H := H1
              clear H1
              by_cases c11 : 0 ≤ (t109.size : Int)
              · rw [if_pos c11] at H
                have c11b0 := eq_true c11
                have c11b1 : decide (0 ≤ (t109.size : Int)) = true := decide_eq_true c11
                clear c11
                by_cases c12 : (t109.size : Int) ≤ (a0.size : Int)
                · rw [if_pos c12] at H
                  have c12b0 := eq_true c12
                  have c12b1 : decide ((t109.size : Int) ≤ (a0.size : Int)) = true := decide_eq_true c12
                  clear c12
                  simp only [Option.some.injEq, Prod.mk.injEq] at H
                  obtain ⟨rfl, rfl⟩ := H
                  have p108 : 0 ≤ (x10_1 : Int) := of_decide_eq_true (by first | (with_reducible assumption) | assumption)
                  have q108 : x10_1 < (y105.length : Int) := of_decide_eq_true (by first | (with_reducible assumption) | assumption)
                  obtain ⟨ad108, e108, hx108_0⟩ := Kd.at_int (Kd.R_reads' HO_8.out).2.2 x10_1 p108 q108
                  cases e108
                  replace p108 := eq_true p108
                  replace q108 := eq_true q108
                  go_wp2_with (first | (go_at_call 48; (with_reducible refine (spec_prefix.calls (rd y105 x10_1) t109 t110 _ A8.out).mono ?_); rintro e w' ⟨rfl, ⟨nd, rfl⟩⟩; (try first | exact ⟨rfl, _, World.drewN_drewN _ _ _⟩ | exact ⟨rfl, _, Eq.trans (World.drewN_drewN _ _ _) (congrArg (World.drewN _) (Nat.add_assoc _ _ _))⟩)) | (go_at_call 49; (with_reducible refine (spec_Begins.calls a0 t109 true _ A9.out).mono ?_); rintro e w' ⟨rfl, ⟨nd, rfl⟩⟩; (try first | exact ⟨rfl, _, World.drewN_drewN _ _ _⟩ | exact ⟨rfl, _, Eq.trans (World.drewN_drewN _ _ _) (congrArg (World.drewN _) (Nat.add_assoc _ _ _))⟩)))
                  repeat (go_quiet (first | (go_at_call 48; (with_reducible refine (spec_prefix.calls (rd y105 x10_1) t109 t110 _ A8.out).mono ?_); rintro e w' ⟨rfl, ⟨nd, rfl⟩⟩; (try first | exact ⟨rfl, _, World.drewN_drewN _ _ _⟩ | exact ⟨rfl, _, Eq.trans (World.drewN_drewN _ _ _) (congrArg (World.drewN _) (Nat.add_assoc _ _ _))⟩)) | (go_at_call 49; (with_reducible refine (spec_Begins.calls a0 t109 true _ A9.out).mono ?_); rintro e w' ⟨rfl, ⟨nd, rfl⟩⟩; (try first | exact ⟨rfl, _, World.drewN_drewN _ _ _⟩ | exact ⟨rfl, _, Eq.trans (World.drewN_drewN _ _ _) (congrArg (World.drewN _) (Nat.add_assoc _ _ _))⟩))); try go_wp2_with (first | (go_at_call 48; (with_reducible refine (spec_prefix.calls (rd y105 x10_1) t109 t110 _ A8.out).mono ?_); rintro e w' ⟨rfl, ⟨nd, rfl⟩⟩; (try first | exact ⟨rfl, _, World.drewN_drewN _ _ _⟩ | exact ⟨rfl, _, Eq.trans (World.drewN_drewN _ _ _) (congrArg (World.drewN _) (Nat.add_assoc _ _ _))⟩)) | (go_at_call 49; (with_reducible refine (spec_Begins.calls a0 t109 true _ A9.out).mono ?_); rintro e w' ⟨rfl, ⟨nd, rfl⟩⟩; (try first | exact ⟨rfl, _, World.drewN_drewN _ _ _⟩ | exact ⟨rfl, _, Eq.trans (World.drewN_drewN _ _ _) (congrArg (World.drewN _) (Nat.add_assoc _ _ _))⟩))))
                  go_ret2
                  exact ⟨by first | rfl | (simp [errW_none, errW_some] <;> rfl) | (simp [*, errW_none, errW_some] <;> rfl), by repeat (first | (with_reducible first | exact HB.out | apply below_alloc | apply pw_below_drewN | apply below_drew1) | exact HB.out)⟩
                · rw [if_neg c12] at H
                  exact absurd H (by simp)
              · rw [if_neg c11] at H
                exact absurd H (by simp)
            · replace c10 := Bool.eq_false_iff.mpr c10
              subst c10
              have H1 : (spec_Prefixed.l0 k1 a0 y105 (y105.length : Int) (wrap64 (x10_1 + 1))) = some (r1, r2) := by rw [if_neg (show ¬ (false = true) by decide)] at H; exact H
              clear H
              have H := H1
              clear H1
              have H' := Aside0.mk H
              clear H
              have p108 : 0 ≤ (x10_1 : Int) := of_decide_eq_true (by first | (with_reducible assumption) | assumption)
              have q108 : x10_1 < (y105.length : Int) := of_decide_eq_true (by first | (with_reducible assumption) | assumption)
              obtain ⟨ad108, e108, hx108_0⟩ := Kd.at_int (Kd.R_reads' HO_8.out).2.2 x10_1 p108 q108
              cases e108
              replace p108 := eq_true p108
              replace q108 := eq_true q108
              go_wp2_with (first | (go_at_call 48; (with_reducible refine (spec_prefix.calls (rd y105 x10_1) t109 t110 _ A8.out).mono ?_); rintro e w' ⟨rfl, ⟨nd, rfl⟩⟩; (try first | exact ⟨rfl, _, World.drewN_drewN _ _ _⟩ | exact ⟨rfl, _, Eq.trans (World.drewN_drewN _ _ _) (congrArg (World.drewN _) (Nat.add_assoc _ _ _))⟩)) | (go_at_call 49; (with_reducible refine (spec_Begins.calls a0 t109 false _ A9.out).mono ?_); rintro e w' ⟨rfl, ⟨nd, rfl⟩⟩; (try first | exact ⟨rfl, _, World.drewN_drewN _ _ _⟩ | exact ⟨rfl, _, Eq.trans (World.drewN_drewN _ _ _) (congrArg (World.drewN _) (Nat.add_assoc _ _ _))⟩)))
              repeat (go_quiet (first | (go_at_call 48; (with_reducible refine (spec_prefix.calls (rd y105 x10_1) t109 t110 _ A8.out).mono ?_); rintro e w' ⟨rfl, ⟨nd, rfl⟩⟩; (try first | exact ⟨rfl, _, World.drewN_drewN _ _ _⟩ | exact ⟨rfl, _, Eq.trans (World.drewN_drewN _ _ _) (congrArg (World.drewN _) (Nat.add_assoc _ _ _))⟩)) | (go_at_call 49; (with_reducible refine (spec_Begins.calls a0 t109 false _ A9.out).mono ?_); rintro e w' ⟨rfl, ⟨nd, rfl⟩⟩; (try first | exact ⟨rfl, _, World.drewN_drewN _ _ _⟩ | exact ⟨rfl, _, Eq.trans (World.drewN_drewN _ _ _) (congrArg (World.drewN _) (Nat.add_assoc _ _ _))⟩))); try go_wp2_with (first | (go_at_call 48; (with_reducible refine (spec_prefix.calls (rd y105 x10_1) t109 t110 _ A8.out).mono ?_); rintro e w' ⟨rfl, ⟨nd, rfl⟩⟩; (try first | exact ⟨rfl, _, World.drewN_drewN _ _ _⟩ | exact ⟨rfl, _, Eq.trans (World.drewN_drewN _ _ _) (congrArg (World.drewN _) (Nat.add_assoc _ _ _))⟩)) | (go_at_call 49; (with_reducible refine (spec_Begins.calls a0 t109 false _ A9.out).mono ?_); rintro e w' ⟨rfl, ⟨nd, rfl⟩⟩; (try first | exact ⟨rfl, _, World.drewN_drewN _ _ _⟩ | exact ⟨rfl, _, Eq.trans (World.drewN_drewN _ _ _) (congrArg (World.drewN _) (Nat.add_assoc _ _ _))⟩))))
              go_roundg k1
              case measure => have := HK1.out; omega
              case rel => exact ⟨(wrap64 (x10_1 + 1)), (by first | rfl | (simp; done) | (simp [*]; done)), H', ⟨by have := HK1.out; omega⟩, ⟨by (with_reducible repeat (first | apply Kd.R_alloc | apply Kd.R_drewN | apply Kd.R_drew)); exact HO_8.out⟩, ⟨by repeat (first | (with_reducible first | exact HB.out | apply below_alloc | apply pw_below_drewN | apply below_drew1) | exact HB.out)⟩⟩
          · rw [if_neg c7] at H
            exact absurd H (by simp)
        · rw [if_neg c6] at H
          exact absurd H (by simp)
      · rw [if_neg c5] at H
        have c5b0 : decide (x10_1 < (y105.length : Int)) = false := decide_eq_false c5
        clear c5
        simp only [Option.some.injEq, Prod.mk.injEq] at H
        obtain ⟨rfl, rfl⟩ := H
        go_wp2
        repeat (go_quiet (fail); try go_wp2)
        go_ret2
        exact ⟨by first | rfl | (simp [errW_none, errW_some] <;> rfl) | (simp [*, errW_none, errW_some] <;> rfl), by repeat (first | (with_reducible first | exact HB.out | apply below_alloc | apply pw_below_drewN | apply below_drew1) | exact HB.out)⟩
end Go.Proofs.YtckjbgneblfceaaDoor.PFnFitFirst
namespace Go.Proofs.YtckjbgneblfceaaDoor.PFnFitFirst
open Go.RowKit Go.Proofs.YtckjbgneblfceaaDoorW.PrintWords Go.Proofs.YtckjbgneblfceaaDoorW.PrintLast Go.Proofs.YtckjbgneblfceaaDoorW.PrintMore
attribute [local go_sem] max2_int min2_int max_two min_two max_three min_three max_four min_four   -- for this text's walks alone
set_option linter.unusedVariables false
set_option linter.unusedSimpArgs false
mutual
def laws_attributesFair.l0 : Nat → List (S58) → List (S58) → Int → Int → Option (Bool)
  | 0, _, _, _, _ => none
  | k + 1, x0, x12, x13, x14 => if x14 < x13 then (if 0 ≤ x14 then (if x14 < (x12.length : Int) then ((spec_Prefixed.f k ((rd_T58 x12 x14).f0)).bind fun bt114 => (if bt114.2.toList = ([] : List UInt8) then (laws_attributesFair.j1 k x0 x14 x12 x13 x14 true ((rd_T58 x12 x14).f0) ((rd_T58 x12 x14).f1)) else (if (bt114.2.size : Int) > 255 then (laws_attributesFair.j1 k x0 x14 x12 x13 x14 true ((rd_T58 x12 x14).f0) ((rd_T58 x12 x14).f1)) else (laws_attributesFair.j1 k x0 x14 x12 x13 x14 (decide ((((rd_T58 x12 x14).f1).length : Int) > 4096)) ((rd_T58 x12 x14).f0) ((rd_T58 x12 x14).f1))))) else (none)) else (none)) else (some true)
def laws_attributesFair.j1 : Nat → List (S58) → Int → List (S58) → Int → Int → Bool → ByteArray → List Int → Option (Bool)
  | 0, _, _, _, _, _, _, _, _ => none
  | k + 1, x0, x3, x12, x13, x14, x37, x114000, x114001 => if x37 = true then (some false) else (if 0 ≤ x3 then (if x3 ≤ (x0.length : Int) then ((some (x0.take (x3 : Int).toNat : List (S58))).bind fun y116 => (laws_attributesFair.l1 k x0 x12 x13 x14 y116 (y116.length : Int) 0 x114000 x114001)) else (none)) else (none))
def laws_attributesFair.l1 : Nat → List (S58) → List (S58) → Int → Int → List (S58) → Int → Int → ByteArray → List Int → Option (Bool)
  | 0, _, _, _, _, _, _, _, _, _ => none
  | k + 1, x0, x12, x13, x14, x40, x41, x42, x114000, x114001 => if x42 < x41 then (if 0 ≤ x42 then (if x42 < (x40.length : Int) then (if x114000.toList = ((rd_T58 x40 x42).f0).toList then (some false) else (laws_attributesFair.l1 k x0 x12 x13 x14 x40 x41 (wrap64 (x42 + 1)) x114000 x114001)) else (none)) else (none)) else (laws_attributesFair.l0 k x0 x12 x13 (wrap64 (x14 + 1)))
end
def laws_attributesFair.f (k : Nat) (l0 : List (S58)) : Option (Bool) := if (l0.length : Int) > 40 then (some false) else (laws_attributesFair.l0 k l0 l0 (l0.length : Int) 0)
theorem laws_attributesFair.mono_l : ∀ k, (∀ y0 y1 y2 y3, LeO (laws_attributesFair.l0 k y0 y1 y2 y3) (laws_attributesFair.l0 (k + 1) y0 y1 y2 y3)) ∧ (∀ y0 y1 y2 y3 y4 y5 y6 y7, LeO (laws_attributesFair.j1 k y0 y1 y2 y3 y4 y5 y6 y7) (laws_attributesFair.j1 (k + 1) y0 y1 y2 y3 y4 y5 y6 y7)) ∧ (∀ y0 y1 y2 y3 y4 y5 y6 y7 y8, LeO (laws_attributesFair.l1 k y0 y1 y2 y3 y4 y5 y6 y7 y8) (laws_attributesFair.l1 (k + 1) y0 y1 y2 y3 y4 y5 y6 y7 y8))
  | 0 => ⟨fun _ _ _ _ r h => by simp [laws_attributesFair.l0] at h, fun _ _ _ _ _ _ _ _ r h => by simp [laws_attributesFair.j1] at h, fun _ _ _ _ _ _ _ _ _ r h => by simp [laws_attributesFair.l1] at h⟩
  | k + 1 => by
    obtain ⟨ih0, ih1, ih2⟩ := laws_attributesFair.mono_l k
    refine ⟨?_, ?_, ?_⟩
    · intro y0 y1 y2 y3
      unfold laws_attributesFair.l0
      repeat' first
      | (with_reducible exact ih0 _ _ _ _)
      | (with_reducible exact ih1 _ _ _ _ _ _ _ _)
      | (with_reducible exact ih2 _ _ _ _ _ _ _ _ _)
      | (with_reducible exact spec_Prefixed.mono _ _)
      | (with_reducible exact LeO.refl _)
      | (with_reducible exact LeO.none _)
      | (with_reducible refine LeO.ite ?_ ?_)
      | (with_reducible refine LeO.bind ?_ (fun _ => ?_))
      | exact ih0 _ _ _ _
      | exact ih1 _ _ _ _ _ _ _ _
      | exact ih2 _ _ _ _ _ _ _ _ _
      | exact spec_Prefixed.mono _ _
      | exact LeO.none _
      | refine LeO.ite ?_ ?_
      | refine LeO.bind ?_ (fun _ => ?_)
    · intro y0 y1 y2 y3 y4 y5 y6 y7
      unfold laws_attributesFair.j1
      repeat' first
      | (with_reducible exact ih0 _ _ _ _)
      | (with_reducible exact ih1 _ _ _ _ _ _ _ _)
      | (with_reducible exact ih2 _ _ _ _ _ _ _ _ _)
      | (with_reducible exact spec_Prefixed.mono _ _)
      | (with_reducible exact LeO.refl _)
      | (with_reducible exact LeO.none _)
      | (with_reducible refine LeO.ite ?_ ?_)
      | (with_reducible refine LeO.bind ?_ (fun _ => ?_))
      | exact ih0 _ _ _ _
      | exact ih1 _ _ _ _ _ _ _ _
      | exact ih2 _ _ _ _ _ _ _ _ _
      | exact spec_Prefixed.mono _ _
      | exact LeO.none _
      | refine LeO.ite ?_ ?_
      | refine LeO.bind ?_ (fun _ => ?_)
    · intro y0 y1 y2 y3 y4 y5 y6 y7 y8
      unfold laws_attributesFair.l1
      repeat' first
      | (with_reducible exact ih0 _ _ _ _)
      | (with_reducible exact ih1 _ _ _ _ _ _ _ _)
      | (with_reducible exact ih2 _ _ _ _ _ _ _ _ _)
      | (with_reducible exact spec_Prefixed.mono _ _)
      | (with_reducible exact LeO.refl _)
      | (with_reducible exact LeO.none _)
      | (with_reducible refine LeO.ite ?_ ?_)
      | (with_reducible refine LeO.bind ?_ (fun _ => ?_))
      | exact ih0 _ _ _ _
      | exact ih1 _ _ _ _ _ _ _ _
      | exact ih2 _ _ _ _ _ _ _ _ _
      | exact spec_Prefixed.mono _ _
      | exact LeO.none _
      | refine LeO.ite ?_ ?_
      | refine LeO.bind ?_ (fun _ => ?_)
theorem laws_attributesFair.mono : ∀ a0 k, LeO (laws_attributesFair.f k a0) (laws_attributesFair.f (k + 1) a0) := by
  intro a0 k
  obtain ⟨ih0, ih1, ih2⟩ := laws_attributesFair.mono_l k
  unfold laws_attributesFair.f
  repeat' first
      | (with_reducible exact ih0 _ _ _ _)
      | (with_reducible exact ih1 _ _ _ _ _ _ _ _)
      | (with_reducible exact ih2 _ _ _ _ _ _ _ _ _)
      | (with_reducible exact spec_Prefixed.mono _ _)
      | (with_reducible exact LeO.refl _)
      | (with_reducible exact LeO.none _)
      | (with_reducible refine LeO.ite ?_ ?_)
      | (with_reducible refine LeO.bind ?_ (fun _ => ?_))
      | exact ih0 _ _ _ _
      | exact ih1 _ _ _ _ _ _ _ _
      | exact ih2 _ _ _ _ _ _ _ _ _
      | exact spec_Prefixed.mono _ _
      | exact LeO.none _
      | refine LeO.ite ?_ ?_
      | refine LeO.bind ?_ (fun _ => ?_)
set_option maxHeartbeats 8000000 in
set_option maxRecDepth 100000 in
theorem laws_attributesFair.calls (k : Nat) (A0 : Option Addr) (c0 : Nat) (l0 : List (S58)) (r : Bool) (w : World) (hr0 : Kd.C k58 w A0 l0.length l0) (hc0 : l0.length ≤ c0) (h : laws_attributesFair.f k l0 = some r) :
    Calls Tryd.prog 8 #[.slice A0 l0.length c0] w fun e w' => e = .returned (.bool r) ∧ Below w.heap.size w w' := by
  have hu58 := Tryd.underlying58
  have HR0 := Aside0.mk hr0
  have HC0 := Aside0.mk hc0
  clear hr0 hc0
  have HB := Aside0.mk (Below.refl w.heap.size w)
  have H : (if (l0.length : Int) > 40 then (some false) else (laws_attributesFair.l0 k l0 l0 (l0.length : Int) 0)) = some r := h
  clear h
  by_cases c2 : (l0.length : Int) > 40
  · rw [if_pos c2] at H
    have c2b0 : decide (40 < (l0.length : Int)) = true := decide_eq_true c2
    have c2b1 : decide (40 < l0.length) = true := decide_eq_true (by omega)
    clear c2
    obtain rfl := Option.some.inj H
    go_enter Tryd.func8, Tryd.ntmps8
    go_wp2
    go_ret
    exact ⟨by first | rfl | (simp [errW_none, errW_some] <;> rfl) | (simp [*, errW_none, errW_some] <;> rfl), by repeat (first | (with_reducible first | exact HB.out | apply below_alloc | apply pw_below_drewN | apply below_drew1) | exact HB.out)⟩
  · rw [if_neg c2] at H
    have c2b0 : decide (40 < (l0.length : Int)) = false := decide_eq_false c2
    have c2b1 : decide (40 < l0.length) = false := decide_eq_false (by omega)
    clear c2
    have H' := Aside0.mk H
    clear H
    go_enter Tryd.func8, Tryd.ntmps8
    go_wp2
    go_loopg [14] k (fun kq v14 w' => ∃ (x14_1 : Int), v14 = .int .i64 x14_1 ∧ Aside0 (laws_attributesFair.l0 kq l0 l0 (l0.length : Int) x14_1 = some r) ∧ Aside0 (kq ≤ k) ∧ Aside0 (Below w.heap.size w w'))
    case atStart => exact ⟨(0), (by first | rfl | (simp; done) | (simp [*]; done)), H', ⟨Nat.le_refl _⟩, ⟨by repeat (first | (with_reducible first | exact HB.out | apply below_alloc | apply pw_below_drewN | apply below_drew1) | exact HB.out)⟩⟩
    case round =>
      clear H'
      try clear c2
      try clear c2b0
      try clear c2b1
      try clear p2
      obtain ⟨x14_1, rfl, HA, HK1, HB⟩ := hrel
      cases gk with
      | zero => exact absurd HA.out (by simp [laws_attributesFair.l0])
      | succ k1 =>
        have H := HA.out
        clear HA
        simp only [laws_attributesFair.l0] at H
        by_cases c3 : x14_1 < (l0.length : Int)
        · rw [if_pos c3] at H
          have c3b0 : decide (x14_1 < (l0.length : Int)) = true := decide_eq_true c3
          clear c3
          by_cases c4 : 0 ≤ x14_1
          · rw [if_pos c4] at H
            have c4b0 : decide (0 ≤ x14_1) = true := decide_eq_true c4
            clear c4
            by_cases c5 : x14_1 < (l0.length : Int)
            · rw [if_pos c5] at H
              have c5b0 : decide (x14_1 < (l0.length : Int)) = true := decide_eq_true c5
              clear c5
              replace H := Option.bind_eq_some_iff.mp H
              obtain ⟨⟨t114, t115⟩, A60, H⟩ := H
              replace H : (if t115.toList = ([] : List UInt8) then (laws_attributesFair.j1 k1 l0 x14_1 l0 (l0.length : Int) x14_1 true ((rd_T58 l0 x14_1).f0) ((rd_T58 l0 x14_1).f1)) else (if (t115.size : Int) > 255 then (laws_attributesFair.j1 k1 l0 x14_1 l0 (l0.length : Int) x14_1 true ((rd_T58 l0 x14_1).f0) ((rd_T58 l0 x14_1).f1)) else (laws_attributesFair.j1 k1 l0 x14_1 l0 (l0.length : Int) x14_1 (decide ((((rd_T58 l0 x14_1).f1).length : Int) > 4096)) ((rd_T58 l0 x14_1).f0) ((rd_T58 l0 x14_1).f1)))) = some r := H
              have A6 := Aside0.mk A60
              clear A60
              have HC7 := Aside0.mk H
              clear H
              have p112 : 0 ≤ (x14_1 : Int) := of_decide_eq_true (by first | (with_reducible assumption) | assumption)
              have q112 : x14_1 < (l0.length : Int) := of_decide_eq_true (by first | (with_reducible assumption) | assumption)
              obtain ⟨ad112, A112_1, c112_1, e112, hx112_0, hx112_1, hl112_1, hi112_1⟩ := at_T58 HR0.out x14_1 p112 q112
              cases e112
              replace hx112_0 := (HB.out.cell (World.block_lt_of_cell? w _ hx112_0)).trans hx112_0
              replace hx112_1 := (HB.out.cell (World.block_lt_of_cell? w _ hx112_1)).trans hx112_1
              have HR112_1 := Aside0.mk hi112_1
              have HC112_1 := Aside0.mk hl112_1
              clear hi112_1 hl112_1
              replace p112 := eq_true p112
              replace q112 := eq_true q112
              go_upto_region 7 with (first | ((with_reducible refine gate_dst (N := 4) rfl ?_); (try (refine gate_guard (by rfl) ?_; dsimp only)); refine box_event ?hg (N := 4) ?hd (cs := #[.string (⟨#[]⟩ : ByteArray), .slice none 0 0]) (t := 58) ?hr ?_; (case hd => rfl); (case hg => rfl); (case hr => first | (go_simp; done) | (go_simp; rfl)); intro gb113 hg w8 hbox hb; have n0_ := Aside0.mk (below_step (by repeat (first | (with_reducible first | exact HB.out | apply below_alloc | apply pw_below_drewN | apply below_drew1) | exact HB.out)) hb); have n1_ := Aside0.mk (hbox); have n2_ := Aside0.mk ((by rw [hg]; exact (below_size (by repeat (first | (with_reducible first | exact HB.out | apply below_alloc | apply pw_below_drewN | apply below_drew1) | exact HB.out))) : w.heap.size ≤ gb113)); have n3_ := Aside0.mk ((by rw [hg]; exact (below_size (by repeat (first | (with_reducible first | exact HB.out | apply below_alloc | apply pw_below_drewN | apply below_drew1) | exact HB.out))) : w.heap.size ≤ gb113)); clear HB; have HB := n0_; have BK113 := n1_; have GW113 := n2_; have GE113 := n3_; clear n0_ n1_ n2_ n3_; clear hb hbox hg; have hcz9_0 : w8.cell? ⟨gb113, 0, none⟩ = some (.string (⟨#[]⟩ : ByteArray)) := (blk_cell BK113.out 0).trans rfl; have hcz9_1 : w8.cell? ⟨gb113, 1, none⟩ = some (.slice none 0 0) := (blk_cell BK113.out 1).trans rfl; have hfz9_0 := blk_frozen BK113.out 0; have hfz9_1 := blk_frozen BK113.out 1) | ((with_reducible refine gate_callee (f := 27) rfl ?_); refine goesL_ (some 22) rfl rfl Tryd.func27 (by kernel_rfl) rfl #[.string ((rd_T58 l0 x14_1).f0)] rfl (by (try simp only [List.map_toArray, List.map_cons, List.map_nil]); first | done | rfl | (simp only [List.length_drop, List.length_take]; rfl)) ?_; (with_reducible refine (spec_Prefixed.calls k1 ((rd_T58 l0 x14_1).f0) t114 t115 _ A6.out).mono ?_); rintro e w10 ⟨rfl, hb⟩; refine ⟨_, rfl, ?_⟩; have n0_ := Aside0.mk (blk_below (g := gb113) (o := .cells #[.string ((rd_T58 l0 x14_1).f0), .slice A112_1 ((rd_T58 l0 x14_1).f1).length c112_1] 58 (0, 0)) (by (with_reducible repeat (first | refine blk_drewN ?_ _ | refine blk_drew ?_ | refine blk_alloc ?_ _)); refine blk_put (cs := #[.string ((rd_T58 l0 x14_1).f0), .slice none 0 0]) ?_ 1 _ rfl; (with_reducible repeat (first | refine blk_drewN ?_ _ | refine blk_drew ?_ | refine blk_alloc ?_ _)); refine blk_put (cs := #[.string (⟨#[]⟩ : ByteArray), .slice none 0 0]) ?_ 0 _ rfl; (with_reducible repeat (first | refine blk_drewN ?_ _ | refine blk_drew ?_ | refine blk_alloc ?_ _)); exact BK113.out) hb); have n1_ := Aside0.mk (below_step (by repeat (first | (with_reducible first | exact HB.out | apply below_alloc | apply pw_below_drewN | apply below_drew1 | refine below_set ?_ GE113.out) | exact HB.out)) hb); clear BK113; clear HB; have BK113 := n0_; have HB := n1_; clear n0_ n1_; (try clear hb); (try clear hb2); (try clear hk); (try clear hi)))
              (try simp only [Act.put, List.setIfInBounds_toArray, List.set_cons_zero, List.set_cons_succ])
              go_cut [37] (fun v37 wc => ∃ (kq : Nat) (x37_6 : Bool), v37 = .bool x37_6 ∧ Aside0 (laws_attributesFair.j1 kq l0 x14_1 l0 (l0.length : Int) x14_1 x37_6 ((rd_T58 l0 x14_1).f0) ((rd_T58 l0 x14_1).f1) = some r) ∧ Aside0 (kq ≤ k1) ∧ Aside0 (wc.heap[gb113]? = some (.cells #[.string ((rd_T58 l0 x14_1).f0), (.slice A112_1 ((rd_T58 l0 x14_1).f1).length c112_1)] 58 (0, 0))) ∧ Aside0 (Below w.heap.size w wc))
              case first =>
                have H := HC7.out
                clear HC7
                by_cases c11 : t115.toList = ([] : List UInt8)
                · rw [if_pos c11] at H
                  have c11b0 : (t115.toList == ([] : List UInt8)) = true := beq_iff_eq.mpr c11
                  have c11b1 : (t115.toList != ([] : List UInt8)) = false := bne_eq_false_iff_eq.mpr c11
                  clear c11
                  (first | rw [c11b0] | (simp only [i64_w, i32_w]; rw [c11b0]) | skip)
                  have H' := Aside0.mk H
                  clear H
                  go_wp2
                  go_meet
                  case rel => exact ⟨_, (true), (by first | rfl | (simp; done) | (simp [*]; done)), H', ⟨by have := HK1.out; first | omega | exact Nat.le_refl _⟩, ⟨by (with_reducible repeat (first | refine blk_drewN ?_ _ | refine blk_drew ?_ | refine blk_alloc ?_ _)); exact BK113.out⟩, ⟨by repeat (first | (with_reducible first | exact HB.out | apply below_alloc | apply pw_below_drewN | apply below_drew1 | refine below_set ?_ GE113.out) | exact HB.out)⟩⟩
                · rw [if_neg c11] at H
                  have c11b0 : (t115.toList == ([] : List UInt8)) = false := beq_eq_false_iff_ne.mpr c11
                  have c11b1 : (t115.toList != ([] : List UInt8)) = true := bne_iff_ne.mpr c11
                  (first | rw [c11b0] | (simp only [i64_w, i32_w]; rw [c11b0]) | skip)
                  by_cases c12 : (t115.size : Int) > 255
                  · rw [if_pos c12] at H
                    have c12b0 : decide (255 < (t115.size : Int)) = true := decide_eq_true c12
                    have c12b1 : decide (255 < t115.size) = true := decide_eq_true (by omega)
                    clear c12
                    have H' := Aside0.mk H
                    clear H
                    go_wp2
                    go_meet
                    case rel => exact ⟨_, (true), (by first | rfl | (simp; done) | (simp [*]; done)), H', ⟨by have := HK1.out; first | omega | exact Nat.le_refl _⟩, ⟨by (with_reducible repeat (first | refine blk_drewN ?_ _ | refine blk_drew ?_ | refine blk_alloc ?_ _)); exact BK113.out⟩, ⟨by repeat (first | (with_reducible first | exact HB.out | apply below_alloc | apply pw_below_drewN | apply below_drew1 | refine below_set ?_ GE113.out) | exact HB.out)⟩⟩
                  · rw [if_neg c12] at H
                    have c12b0 : decide (255 < (t115.size : Int)) = false := decide_eq_false c12
                    have c12b1 : decide (255 < t115.size) = false := decide_eq_false (by omega)
                    clear c12
                    have H' := Aside0.mk H
                    clear H
                    have hcz13_0 : w10.cell? ⟨gb113, 0, none⟩ = some (.string ((rd_T58 l0 x14_1).f0)) := (blk_cell BK113.out 0).trans rfl
                    have hcz13_1 : w10.cell? ⟨gb113, 1, none⟩ = some (.slice A112_1 ((rd_T58 l0 x14_1).f1).length c112_1) := (blk_cell BK113.out 1).trans rfl
                    have hfz13_0 := blk_frozen BK113.out 0
                    have hfz13_1 := blk_frozen BK113.out 1
                    go_wp2
                    go_meet
                    case rel => exact ⟨_, (decide ((((rd_T58 l0 x14_1).f1).length : Int) > 4096)), (by first | rfl | (simp; done) | (simp [*]; done)), H', ⟨by have := HK1.out; first | omega | exact Nat.le_refl _⟩, ⟨by (with_reducible repeat (first | refine blk_drewN ?_ _ | refine blk_drew ?_ | refine blk_alloc ?_ _)); exact BK113.out⟩, ⟨by repeat (first | (with_reducible first | exact HB.out | apply below_alloc | apply pw_below_drewN | apply below_drew1 | refine below_set ?_ GE113.out) | exact HB.out)⟩⟩
              case rest =>
                clear HC7
                try clear c1
                try clear p1
                try clear q1
                try clear hx1
                try clear c2
                try clear c2b0
                try clear c2b1
                try clear p2
                try clear c3
                try clear c3b0
                try clear c4
                try clear c4b0
                try clear c5
                try clear c5b0
                try clear c8
                try clear c11
                try clear c11b0
                try clear c11b1
                try clear p11
                try clear q11
                try clear hx11
                try clear c12
                try clear c12b0
                try clear c12b1
                try clear hcz13_0
                try clear hcz13_1
                try clear hcz9_0
                try clear hcz9_1
                try clear hfz13_0
                try clear hfz13_1
                try clear hfz9_0
                try clear hfz9_1
                try clear hx112_0
                try clear hx112_1
                try clear p112
                try clear p2
                try clear q112
                obtain ⟨kq, x37_6, rfl, HA, HJ6, BK113, HB⟩ := hcut
                cases kq with
                | zero => exact absurd HA.out (by simp [laws_attributesFair.j1])
                | succ kj6 =>
                  have H := HA.out
                  clear HA
                  simp only [laws_attributesFair.j1] at H
                  by_cases c14 : x37_6 = true
                  · subst c14
                    have H1 : (some false) = some r := by rw [if_pos rfl] at H; exact H
                    clear H
                    have H := H1
                    clear H1
                    obtain rfl := Option.some.inj H
                    go_wp2
                    go_ret
                    exact ⟨by first | rfl | (simp [errW_none, errW_some] <;> rfl) | (simp [*, errW_none, errW_some] <;> rfl), by repeat (first | (with_reducible first | exact HB.out | apply below_alloc | apply pw_below_drewN | apply below_drew1 | refine below_set ?_ GE113.out) | exact HB.out)⟩
                  · replace c14 := Bool.eq_false_iff.mpr c14
                    subst c14
                    have H1 : (if 0 ≤ x14_1 then (if x14_1 ≤ (l0.length : Int) then ((some (l0.take (x14_1 : Int).toNat : List (S58))).bind fun y116 => (laws_attributesFair.l1 kj6 l0 l0 (l0.length : Int) x14_1 y116 (y116.length : Int) 0 ((rd_T58 l0 x14_1).f0) ((rd_T58 l0 x14_1).f1))) else (none)) else (none)) = some r := by rw [if_neg (show ¬ (false = true) by decide)] at H; exact H
                    clear H
                    have H := H1
                    clear H1
                    by_cases c15 : 0 ≤ x14_1
                    · rw [if_pos c15] at H
                      have c15b0 := eq_true c15
                      have c15b1 : decide (0 ≤ x14_1) = true := decide_eq_true c15
                      clear c15
                      by_cases c16 : x14_1 ≤ (l0.length : Int)
                      · rw [if_pos c16] at H
                        have c16b0 := eq_true c16
                        have c16b1 : decide (x14_1 ≤ (l0.length : Int)) = true := decide_eq_true c16
                        clear c16
                        obtain ⟨y116, hy116⟩ : ∃ y_ : List (S58), y_ = (l0.take (x14_1 : Int).toNat) := ⟨_, rfl⟩
                        replace H : (laws_attributesFair.l1 kj6 l0 l0 (l0.length : Int) x14_1 y116 (y116.length : Int) 0 ((rd_T58 l0 x14_1).f0) ((rd_T58 l0 x14_1).f1)) = some r := by first | (rw [hy116]; with_reducible exact H) | (have H2_ := (Option.bind_some _ _).symm.trans H; rw [hy116]; with_reducible exact H2_) | (have H2_ := (Option.bind_some _ _).symm.trans H; with_reducible exact H2_) | with_reducible exact H | (rw [hy116]; exact H) | exact H
                        have Ny116 := Aside0.mk hy116
                        clear hy116
                        have H' := Aside0.mk H
                        clear H
                        have q17 : (x14_1 : Int) ≤ ((l0.length : Int) : Int) := of_decide_eq_true (by first | (with_reducible assumption) | assumption)
                        obtain ⟨i017, hi017, _, hsz17, _⟩ := info_parts info58
                        have hroom17 : l0.length ≤ c0 := HC0.out
                        have hC17 : Kd.C k58 _ (some ad112) l0.length l0 := HR0.out
                        have hcut17 := cut_to (P := Tryd.prog) 22 58 .i64 Tryd.underlying22 hi017 (some ad112) l0.length c0 x14_1 (of_decide_eq_true (by first | (with_reducible assumption) | assumption)) q17 hroom17
                        have hr17 := Kd.C_take (m := (x14_1 : Int).toNat) hC17 (by omega)
                        have hy17 : y116.length = (x14_1 : Int).toNat := (by rw [Ny116.out, List.length_take]; omega)
                        rw [← Ny116.out] at hr17
                        rw [← hy17] at hcut17
                        have HR119 := Aside0.mk hr17
                        have HC119 := Aside0.mk (show y116.length ≤ c0 from by omega)
                        clear hr17 hC17 hroom17 hi017 hsz17
                        have KY17 := Aside0.mk hy17
                        clear hy17
                        replace q17 := eq_true q17
                        go_wp2
                        go_loopg [42] kj6 (fun kq v42 w' => ∃ (x42_3 : Int), v42 = .int .i64 x42_3 ∧ Aside0 (laws_attributesFair.l1 kq l0 l0 (l0.length : Int) x14_1 y116 (y116.length : Int) x42_3 ((rd_T58 l0 x14_1).f0) ((rd_T58 l0 x14_1).f1) = some r) ∧ Aside0 (kq ≤ kj6) ∧ Aside0 (w'.heap[gb113]? = some (.cells #[.string ((rd_T58 l0 x14_1).f0), (.slice A112_1 ((rd_T58 l0 x14_1).f1).length c112_1)] 58 (0, 0))) ∧ Aside0 (Below w.heap.size w w'))
                        case atStart => exact ⟨(0), (by first | rfl | (simp; done) | (simp [*]; done)), H', ⟨Nat.le_refl _⟩, ⟨by (with_reducible repeat (first | refine blk_drewN ?_ _ | refine blk_drew ?_ | refine blk_alloc ?_ _)); exact BK113.out⟩, ⟨by repeat (first | (with_reducible first | exact HB.out | apply below_alloc | apply pw_below_drewN | apply below_drew1 | refine below_set ?_ GE113.out) | exact HB.out)⟩⟩
                        case round =>
                          clear H'
                          try clear c1
                          try clear p1
                          try clear q1
                          try clear hx1
                          try clear c2
                          try clear c2b0
                          try clear c2b1
                          try clear p2
                          try clear c3
                          try clear c3b0
                          try clear c4
                          try clear c4b0
                          try clear c5
                          try clear c5b0
                          try clear c8
                          try clear c11
                          try clear c11b0
                          try clear c11b1
                          try clear p11
                          try clear q11
                          try clear hx11
                          try clear c12
                          try clear c12b0
                          try clear c12b1
                          try clear c14
                          try clear c15
                          try clear c15b0
                          try clear c15b1
                          try clear c16
                          try clear c16b0
                          try clear c16b1
                          try clear q17
                          try clear hcz13_0
                          try clear hcz13_1
                          try clear hcz9_0
                          try clear hcz9_1
                          try clear hfz13_0
                          try clear hfz13_1
                          try clear hfz9_0
                          try clear hfz9_1
                          try clear hx112_0
                          try clear hx112_1
                          try clear p1
                          try clear p11
                          try clear p112
                          try clear p2
                          try clear q1
                          try clear q11
                          try clear q112
                          try clear q17
                          obtain ⟨x42_3, rfl, HA, HK3, BK113, HB⟩ := hrel
                          cases gk with
                          | zero => exact absurd HA.out (by simp [laws_attributesFair.l1])
                          | succ k3 =>
                            have H := HA.out
                            clear HA
                            simp only [laws_attributesFair.l1] at H
                            by_cases c18 : x42_3 < (y116.length : Int)
                            · rw [if_pos c18] at H
                              have c18b0 : decide (x42_3 < (y116.length : Int)) = true := decide_eq_true c18
                              clear c18
                              by_cases c19 : 0 ≤ x42_3
                              · rw [if_pos c19] at H
                                have c19b0 : decide (0 ≤ x42_3) = true := decide_eq_true c19
                                clear c19
                                by_cases c20 : x42_3 < (y116.length : Int)
                                · rw [if_pos c20] at H
                                  have c20b0 : decide (x42_3 < (y116.length : Int)) = true := decide_eq_true c20
                                  clear c20
                                  by_cases c21 : ((rd_T58 l0 x14_1).f0).toList = ((rd_T58 y116 x42_3).f0).toList
                                  · rw [if_pos c21] at H
                                    have c21b0 : (((rd_T58 l0 x14_1).f0).toList == ((rd_T58 y116 x42_3).f0).toList) = true := beq_iff_eq.mpr c21
                                    have c21b1 : (((rd_T58 l0 x14_1).f0).toList != ((rd_T58 y116 x42_3).f0).toList) = false := bne_eq_false_iff_eq.mpr c21
                                    clear c21
                                    obtain rfl := Option.some.inj H
                                    have p120 : 0 ≤ (x42_3 : Int) := of_decide_eq_true (by first | (with_reducible assumption) | assumption)
                                    have q120 : x42_3 < (y116.length : Int) := of_decide_eq_true (by first | (with_reducible assumption) | assumption)
                                    obtain ⟨ad120, A120_1, c120_1, e120, hx120_0, hx120_1, hl120_1, hi120_1⟩ := at_T58 HR119.out x42_3 p120 q120
                                    obtain rfl : ad112 = ad120 := (by injection e120)
                                    replace hx120_0 := (HB.out.cell (World.block_lt_of_cell? w _ hx120_0)).trans hx120_0
                                    replace hx120_1 := (HB.out.cell (World.block_lt_of_cell? w _ hx120_1)).trans hx120_1
                                    have HR120_1 := Aside0.mk hi120_1
                                    have HC120_1 := Aside0.mk hl120_1
                                    clear hi120_1 hl120_1
                                    replace p120 := eq_true p120
                                    replace q120 := eq_true q120
                                    go_wp2_with (first | ((with_reducible refine gate_dst (N := 8) rfl ?_); (try (refine gate_guard (by rfl) ?_; dsimp only)); refine box_event ?hg (N := 8) ?hd (cs := #[.string (⟨#[]⟩ : ByteArray), .slice none 0 0]) (t := 58) ?hr ?_; (case hd => rfl); (case hg => rfl); (case hr => first | (go_simp; done) | (go_simp; rfl)); intro gb121 hg w22 hbox hb; have n0_ := Aside0.mk (blk_below (g := gb113) (o := .cells #[.string ((rd_T58 l0 x14_1).f0), .slice A112_1 ((rd_T58 l0 x14_1).f1).length c112_1] 58 (0, 0)) (by (with_reducible repeat (first | refine blk_drewN ?_ _ | refine blk_drew ?_ | refine blk_alloc ?_ _)); exact BK113.out) hb); have n1_ := Aside0.mk (below_step (by repeat (first | (with_reducible first | exact HB.out | apply below_alloc | apply pw_below_drewN | apply below_drew1 | refine below_set ?_ GE113.out) | exact HB.out)) hb); have n2_ := Aside0.mk (hbox); have n3_ := Aside0.mk ((by rw [hg]; exact (below_size (by repeat (first | (with_reducible first | exact HB.out | apply below_alloc | apply pw_below_drewN | apply below_drew1 | refine below_set ?_ GE113.out) | exact HB.out))) : w.heap.size ≤ gb121)); have n4_ := Aside0.mk ((by rw [hg]; exact (below_size (by repeat (first | (with_reducible first | exact HB.out | apply below_alloc | apply pw_below_drewN | apply below_drew1 | refine below_set ?_ GE113.out) | exact HB.out))) : w.heap.size ≤ gb121)); have n5_ := Aside0.mk ((by rw [hg]; exact Nat.ne_of_lt (blk_lt (g := gb113) (o := .cells #[.string ((rd_T58 l0 x14_1).f0), .slice A112_1 ((rd_T58 l0 x14_1).f1).length c112_1] 58 (0, 0)) (by (with_reducible repeat (first | refine blk_drewN ?_ _ | refine blk_drew ?_ | refine blk_alloc ?_ _)); exact BK113.out)) : gb113 ≠ gb121)); have n6_ := Aside0.mk ((by rw [hg]; exact Nat.ne_of_gt (blk_lt (g := gb113) (o := .cells #[.string ((rd_T58 l0 x14_1).f0), .slice A112_1 ((rd_T58 l0 x14_1).f1).length c112_1] 58 (0, 0)) (by (with_reducible repeat (first | refine blk_drewN ?_ _ | refine blk_drew ?_ | refine blk_alloc ?_ _)); exact BK113.out)) : gb121 ≠ gb113)); clear BK113; clear HB; have BK113 := n0_; have HB := n1_; have BK121 := n2_; have GW121 := n3_; have GE121 := n4_; have NB113_121 := n5_; have NB121_113 := n6_; clear n0_ n1_ n2_ n3_ n4_ n5_ n6_; clear hb hbox hg; have hnb23 := NB121_113.out; have hnc23 := NB113_121.out; have hcz24_0 : w22.cell? ⟨gb121, 0, none⟩ = some (.string (⟨#[]⟩ : ByteArray)) := (blk_cell BK121.out 0).trans rfl; have hcz24_1 : w22.cell? ⟨gb121, 1, none⟩ = some (.slice none 0 0) := (blk_cell BK121.out 1).trans rfl; have hfz24_0 := blk_frozen BK121.out 0; have hfz24_1 := blk_frozen BK121.out 1; have hcz25_0 : w22.cell? ⟨gb113, 0, none⟩ = some (.string ((rd_T58 l0 x14_1).f0)) := (blk_cell BK113.out 0).trans rfl; have hcz25_1 : w22.cell? ⟨gb113, 1, none⟩ = some (.slice A112_1 ((rd_T58 l0 x14_1).f1).length c112_1) := (blk_cell BK113.out 1).trans rfl; have hfz25_0 := blk_frozen BK113.out 0; have hfz25_1 := blk_frozen BK113.out 1))
                                    go_ret
                                    exact ⟨by first | rfl | (simp [errW_none, errW_some] <;> rfl) | (simp [*, errW_none, errW_some] <;> rfl), by repeat (first | (with_reducible first | exact HB.out | apply below_alloc | apply pw_below_drewN | apply below_drew1 | refine below_set ?_ GE113.out | refine below_set ?_ GE121.out) | exact HB.out)⟩
                                  · rw [if_neg c21] at H
                                    have c21b0 : (((rd_T58 l0 x14_1).f0).toList == ((rd_T58 y116 x42_3).f0).toList) = false := beq_eq_false_iff_ne.mpr c21
                                    have c21b1 : (((rd_T58 l0 x14_1).f0).toList != ((rd_T58 y116 x42_3).f0).toList) = true := bne_iff_ne.mpr c21
                                    have H' := Aside0.mk H
                                    clear H
                                    have p120 : 0 ≤ (x42_3 : Int) := of_decide_eq_true (by first | (with_reducible assumption) | assumption)
                                    have q120 : x42_3 < (y116.length : Int) := of_decide_eq_true (by first | (with_reducible assumption) | assumption)
                                    obtain ⟨ad120, A120_1, c120_1, e120, hx120_0, hx120_1, hl120_1, hi120_1⟩ := at_T58 HR119.out x42_3 p120 q120
                                    obtain rfl : ad112 = ad120 := (by injection e120)
                                    replace hx120_0 := (HB.out.cell (World.block_lt_of_cell? w _ hx120_0)).trans hx120_0
                                    replace hx120_1 := (HB.out.cell (World.block_lt_of_cell? w _ hx120_1)).trans hx120_1
                                    have HR120_1 := Aside0.mk hi120_1
                                    have HC120_1 := Aside0.mk hl120_1
                                    clear hi120_1 hl120_1
                                    replace p120 := eq_true p120
                                    replace q120 := eq_true q120
                                    go_wp2_with (first | ((with_reducible refine gate_dst (N := 8) rfl ?_); (try (refine gate_guard (by rfl) ?_; dsimp only)); refine box_event ?hg (N := 8) ?hd (cs := #[.string (⟨#[]⟩ : ByteArray), .slice none 0 0]) (t := 58) ?hr ?_; (case hd => rfl); (case hg => rfl); (case hr => first | (go_simp; done) | (go_simp; rfl)); intro gb121 hg w26 hbox hb; have n0_ := Aside0.mk (blk_below (g := gb113) (o := .cells #[.string ((rd_T58 l0 x14_1).f0), .slice A112_1 ((rd_T58 l0 x14_1).f1).length c112_1] 58 (0, 0)) (by (with_reducible repeat (first | refine blk_drewN ?_ _ | refine blk_drew ?_ | refine blk_alloc ?_ _)); exact BK113.out) hb); have n1_ := Aside0.mk (below_step (by repeat (first | (with_reducible first | exact HB.out | apply below_alloc | apply pw_below_drewN | apply below_drew1 | refine below_set ?_ GE113.out) | exact HB.out)) hb); have n2_ := Aside0.mk (hbox); have n3_ := Aside0.mk ((by rw [hg]; exact (below_size (by repeat (first | (with_reducible first | exact HB.out | apply below_alloc | apply pw_below_drewN | apply below_drew1 | refine below_set ?_ GE113.out) | exact HB.out))) : w.heap.size ≤ gb121)); have n4_ := Aside0.mk ((by rw [hg]; exact (below_size (by repeat (first | (with_reducible first | exact HB.out | apply below_alloc | apply pw_below_drewN | apply below_drew1 | refine below_set ?_ GE113.out) | exact HB.out))) : w.heap.size ≤ gb121)); have n5_ := Aside0.mk ((by rw [hg]; exact Nat.ne_of_lt (blk_lt (g := gb113) (o := .cells #[.string ((rd_T58 l0 x14_1).f0), .slice A112_1 ((rd_T58 l0 x14_1).f1).length c112_1] 58 (0, 0)) (by (with_reducible repeat (first | refine blk_drewN ?_ _ | refine blk_drew ?_ | refine blk_alloc ?_ _)); exact BK113.out)) : gb113 ≠ gb121)); have n6_ := Aside0.mk ((by rw [hg]; exact Nat.ne_of_gt (blk_lt (g := gb113) (o := .cells #[.string ((rd_T58 l0 x14_1).f0), .slice A112_1 ((rd_T58 l0 x14_1).f1).length c112_1] 58 (0, 0)) (by (with_reducible repeat (first | refine blk_drewN ?_ _ | refine blk_drew ?_ | refine blk_alloc ?_ _)); exact BK113.out)) : gb121 ≠ gb113)); clear BK113; clear HB; have BK113 := n0_; have HB := n1_; have BK121 := n2_; have GW121 := n3_; have GE121 := n4_; have NB113_121 := n5_; have NB121_113 := n6_; clear n0_ n1_ n2_ n3_ n4_ n5_ n6_; clear hb hbox hg; have hnb27 := NB121_113.out; have hnc27 := NB113_121.out; have hcz28_0 : w26.cell? ⟨gb121, 0, none⟩ = some (.string (⟨#[]⟩ : ByteArray)) := (blk_cell BK121.out 0).trans rfl; have hcz28_1 : w26.cell? ⟨gb121, 1, none⟩ = some (.slice none 0 0) := (blk_cell BK121.out 1).trans rfl; have hfz28_0 := blk_frozen BK121.out 0; have hfz28_1 := blk_frozen BK121.out 1; have hcz29_0 : w26.cell? ⟨gb113, 0, none⟩ = some (.string ((rd_T58 l0 x14_1).f0)) := (blk_cell BK113.out 0).trans rfl; have hcz29_1 : w26.cell? ⟨gb113, 1, none⟩ = some (.slice A112_1 ((rd_T58 l0 x14_1).f1).length c112_1) := (blk_cell BK113.out 1).trans rfl; have hfz29_0 := blk_frozen BK113.out 0; have hfz29_1 := blk_frozen BK113.out 1))
                                    go_roundg k3
                                    case measure => have := HK1.out; have := HJ6.out; have := HK3.out; omega
                                    case rel => exact ⟨(wrap64 (x42_3 + 1)), (by first | rfl | (simp; done) | (simp [*]; done)), H', ⟨by have := HK1.out; have := HJ6.out; have := HK3.out; omega⟩, ⟨by (with_reducible repeat (first | refine blk_drewN ?_ _ | refine blk_drew ?_ | refine blk_alloc ?_ _)); refine blk_far ?_ NB113_121.out _; (with_reducible repeat (first | refine blk_drewN ?_ _ | refine blk_drew ?_ | refine blk_alloc ?_ _)); refine blk_far ?_ NB113_121.out _; (with_reducible repeat (first | refine blk_drewN ?_ _ | refine blk_drew ?_ | refine blk_alloc ?_ _)); exact BK113.out⟩, ⟨by repeat (first | (with_reducible first | exact HB.out | apply below_alloc | apply pw_below_drewN | apply below_drew1 | refine below_set ?_ GE113.out | refine below_set ?_ GE121.out) | exact HB.out)⟩⟩
                                · rw [if_neg c20] at H
                                  exact absurd H (by simp)
                              · rw [if_neg c19] at H
                                exact absurd H (by simp)
                            · rw [if_neg c18] at H
                              have c18b0 : decide (x42_3 < (y116.length : Int)) = false := decide_eq_false c18
                              clear c18
                              have H' := Aside0.mk H
                              clear H
                              go_wp2
                              go_roundg k3
                              case measure => have := HK1.out; have := HJ6.out; have := HK3.out; omega
                              case rel => exact ⟨(wrap64 (x14_1 + 1)), (by first | rfl | (simp; done) | (simp [*]; done)), H', ⟨by have := HK1.out; have := HJ6.out; have := HK3.out; omega⟩, ⟨by repeat (first | (with_reducible first | exact HB.out | apply below_alloc | apply pw_below_drewN | apply below_drew1 | refine below_set ?_ GE113.out) | exact HB.out)⟩⟩
                      · rw [if_neg c16] at H
                        exact absurd H (by simp)
                    · rw [if_neg c15] at H
                      exact absurd H (by simp)
            · rw [if_neg c5] at H
              exact absurd H (by simp)
          · rw [if_neg c4] at H
            exact absurd H (by simp)
        · rw [if_neg c3] at H
          have c3b0 : decide (x14_1 < (l0.length : Int)) = false := decide_eq_false c3
          clear c3
          obtain rfl := Option.some.inj H
          go_wp2
          go_ret
          exact ⟨by first | rfl | (simp [errW_none, errW_some] <;> rfl) | (simp [*, errW_none, errW_some] <;> rfl), by repeat (first | (with_reducible first | exact HB.out | apply below_alloc | apply pw_below_drewN | apply below_drew1) | exact HB.out)⟩
/-- A state of type 107 at block g of W; what its slices lead to came in by w0. -/
def IsS107 (w0 W : World) (g : Nat) (f0 : List (S133)) (f1 : List (S133)) (f2 : Int) (f3 : Int) : Prop := ∃ A0 c0, ∃ A1 c1, W.heap[g]? = some (.cells #[.slice A0 f0.length c0, .slice A1 f1.length c1, .int .i64 f2, .int .i64 f3] 107 (0, 0)) ∧ w0.heap.size ≤ g ∧ Kd.C k133 w0 A0 f0.length f0 ∧ Kd.C k133 w0 A1 f1.length f1
theorem IsS107.grown {w0 W : World} {g : Nat} {f0 : List (S133)} {f1 : List (S133)} {f2 : Int} {f3 : Int} {W1 : World} {row : Option Nat} (h : IsS107 w0 W g f0 f1 f2 f3) (hw : W.grownBy W1 row) (hne : some g ≠ row) : IsS107 w0 W1 g f0 f1 f2 f3 := by
  obtain ⟨A0, c0, A1, c1, hb, hg, hr0, hr1⟩ := h
  exact ⟨A0, c0, A1, c1, blk_grown hb hw hne, hg, hr0, hr1⟩
theorem IsS107.fresh {w0 W : World} {g : Nat} {f0 : List (S133)} {f1 : List (S133)} {f2 : Int} {f3 : Int} (h : IsS107 w0 W g f0 f1 f2 f3) : ∀ k, W.heap.size ≤ k → k ≠ g := by
  obtain ⟨A0, c0, A1, c1, hb, hg, hr0, hr1⟩ := h
  exact Kd.freshB hb
theorem IsS107.kept {w0 W : World} {g : Nat} {f0 : List (S133)} {f1 : List (S133)} {f2 : Int} {f3 : Int} {W1 : World} {S : Nat → Prop} (h : IsS107 w0 W g f0 f1 f2 f3) (hk : Kept W W1 S) (hne : ¬ S g) : IsS107 w0 W1 g f0 f1 f2 f3 := by
  obtain ⟨A0, c0, A1, c1, hb, hg, hr0, hr1⟩ := h
  exact ⟨A0, c0, A1, c1, blk_kept hb hk hne, hg, hr0, hr1⟩
theorem IsS107.below {w0 W : World} {g : Nat} {f0 : List (S133)} {f1 : List (S133)} {f2 : Int} {f3 : Int} {W1 : World} (h : IsS107 w0 W g f0 f1 f2 f3) (hw : Below W.heap.size W W1) : IsS107 w0 W1 g f0 f1 f2 f3 := h.grown (grown_of_below hw none) (by simp)
theorem IsS107.alloc {w0 W : World} {g : Nat} {f0 : List (S133)} {f1 : List (S133)} {f2 : Int} {f3 : Int} (h : IsS107 w0 W g f0 f1 f2 f3) (o : Obj) : IsS107 w0 (W.alloc o) g f0 f1 f2 f3 := h.below (below_alloc (Below.refl _ _) o)
theorem IsS107.drewN {w0 W : World} {g : Nat} {f0 : List (S133)} {f1 : List (S133)} {f2 : Int} {f3 : Int} (h : IsS107 w0 W g f0 f1 f2 f3) (m : Nat) : IsS107 w0 (W.drewN m) g f0 f1 f2 f3 := h
theorem IsS107.drew {w0 W : World} {g : Nat} {f0 : List (S133)} {f1 : List (S133)} {f2 : Int} {f3 : Int} (h : IsS107 w0 W g f0 f1 f2 f3) : IsS107 w0 W.drew g f0 f1 f2 f3 := h
theorem IsS107.at_ {w0 W : World} {g : Nat} {f0 : List (S133)} {f1 : List (S133)} {f2 : Int} {f3 : Int} {w' : World} {m : Nat} (hq : W.drewN m = w') (h : IsS107 w0 W g f0 f1 f2 f3) : IsS107 w0 w' g f0 f1 f2 f3 := by subst hq; exact IsS107.drewN h m
theorem IsS107.apart {w0 W : World} {g : Nat} {f0 : List (S133)} {f1 : List (S133)} {f2 : Int} {f3 : Int} {α : Type} {d : Kd α} {e : Nat} {base : Nat} {ok : Nat → Prop} {v : Value} {xs : List α} (h : IsS107 w0 W g f0 f1 f2 f3) (ho : d.R e W base ok v xs) (ht : ∀ q, q ∈ e :: d.E → q ≠ 107) : d.R e W base (fun k => ok k ∧ k ≠ g) v xs := by
  obtain ⟨A0, c0, A1, c1, hb, hg, hr0, hr1⟩ := h
  exact Kd.R_types ho hb ht
theorem IsS107.own_ne {w0 W : World} {g : Nat} {f0 : List (S133)} {f1 : List (S133)} {f2 : Int} {f3 : Int} {α : Type} {d : Kd α} {e : Nat} {base : Nat} {ok : Nat → Prop} {v : Value} {xs : List α} (h : IsS107 w0 W g f0 f1 f2 f3) (ho : d.R e W base ok v xs) (ht : e ≠ 107) : some g ≠ v.ownBlock := by
  obtain ⟨A0, c0, A1, c1, hb, hg, hr0, hr1⟩ := h
  exact Kd.R_ne ho hb ht
theorem IsS107.lt {w0 W : World} {g : Nat} {f0 : List (S133)} {f1 : List (S133)} {f2 : Int} {f3 : Int} (h : IsS107 w0 W g f0 f1 f2 f3) : g < W.heap.size := by
  obtain ⟨A0, c0, A1, c1, hb, hg, hr0, hr1⟩ := h
  exact blk_lt hb
theorem IsS107.ge {w0 W : World} {g : Nat} {f0 : List (S133)} {f1 : List (S133)} {f2 : Int} {f3 : Int} (h : IsS107 w0 W g f0 f1 f2 f3) : w0.heap.size ≤ g := by
  obtain ⟨A0, c0, A1, c1, hb, hg, hr0, hr1⟩ := h
  exact hg
theorem IsS107.far {w0 W : World} {g : Nat} {f0 : List (S133)} {f1 : List (S133)} {f2 : Int} {f3 : Int} {p : Addr} (h : IsS107 w0 W g f0 f1 f2 f3) (hne : g ≠ p.block) (u : Value) : IsS107 w0 (W.setCell p u) g f0 f1 f2 f3 := by
  obtain ⟨A0, c0, A1, c1, hb, hg, hr0, hr1⟩ := h
  exact ⟨A0, c0, A1, c1, blk_far hb hne u, hg, hr0, hr1⟩
theorem cellS107_0 {W : World} {g : Nat} {A0 : Option Addr} {c0 : Nat} {A1 : Option Addr} {c1 : Nat} {f0 : List (S133)} {f1 : List (S133)} {f2 : Int} {f3 : Int} (h : W.heap[g]? = some (.cells #[.slice A0 f0.length c0, .slice A1 f1.length c1, .int .i64 f2, .int .i64 f3] 107 (0, 0))) : W.cell? ⟨g, 0, none⟩ = some (.slice A0 f0.length c0) := (blk_cell h 0).trans rfl
theorem cellS107_1 {W : World} {g : Nat} {A0 : Option Addr} {c0 : Nat} {A1 : Option Addr} {c1 : Nat} {f0 : List (S133)} {f1 : List (S133)} {f2 : Int} {f3 : Int} (h : W.heap[g]? = some (.cells #[.slice A0 f0.length c0, .slice A1 f1.length c1, .int .i64 f2, .int .i64 f3] 107 (0, 0))) : W.cell? ⟨g, 1, none⟩ = some (.slice A1 f1.length c1) := (blk_cell h 1).trans rfl
theorem cellS107_2 {W : World} {g : Nat} {A0 : Option Addr} {c0 : Nat} {A1 : Option Addr} {c1 : Nat} {f0 : List (S133)} {f1 : List (S133)} {f2 : Int} {f3 : Int} (h : W.heap[g]? = some (.cells #[.slice A0 f0.length c0, .slice A1 f1.length c1, .int .i64 f2, .int .i64 f3] 107 (0, 0))) : W.cell? ⟨g, 2, none⟩ = some (.int .i64 f2) := (blk_cell h 2).trans rfl
theorem IsS107.set_2 {w0 W : World} {g : Nat} {f0 : List (S133)} {f1 : List (S133)} {f2 : Int} {f3 : Int} (h : IsS107 w0 W g f0 f1 f2 f3) (x : Int) : IsS107 w0 (W.setCell ⟨g, 2, none⟩ (.int .i64 x)) g f0 f1 x f3 := by
  obtain ⟨A0, c0, A1, c1, hb, hg, hr0, hr1⟩ := h
  exact ⟨A0, c0, A1, c1, by simpa using blk_set hb 2 (.int .i64 x), hg, hr0, hr1⟩
theorem cellS107_3 {W : World} {g : Nat} {A0 : Option Addr} {c0 : Nat} {A1 : Option Addr} {c1 : Nat} {f0 : List (S133)} {f1 : List (S133)} {f2 : Int} {f3 : Int} (h : W.heap[g]? = some (.cells #[.slice A0 f0.length c0, .slice A1 f1.length c1, .int .i64 f2, .int .i64 f3] 107 (0, 0))) : W.cell? ⟨g, 3, none⟩ = some (.int .i64 f3) := (blk_cell h 3).trans rfl
theorem IsS107.set_3 {w0 W : World} {g : Nat} {f0 : List (S133)} {f1 : List (S133)} {f2 : Int} {f3 : Int} (h : IsS107 w0 W g f0 f1 f2 f3) (x : Int) : IsS107 w0 (W.setCell ⟨g, 3, none⟩ (.int .i64 x)) g f0 f1 f2 x := by
  obtain ⟨A0, c0, A1, c1, hb, hg, hr0, hr1⟩ := h
  exact ⟨A0, c0, A1, c1, by simpa using blk_set hb 3 (.int .i64 x), hg, hr0, hr1⟩
theorem IsS107.new (w0 W : World) (A0 : Option Addr) (c0 : Nat) (A1 : Option Addr) (c1 : Nat) (f0 : List (S133)) (f1 : List (S133)) (f2 : Int) (f3 : Int) (hB : Below w0.heap.size w0 W) (hr0 : Kd.C k133 w0 A0 f0.length f0) (hr1 : Kd.C k133 w0 A1 f1.length f1) : IsS107 w0 (W.alloc (.cells #[.slice A0 f0.length c0, .slice A1 f1.length c1, .int .i64 f2, .int .i64 f3] 107)) W.heap.size f0 f1 f2 f3 := ⟨A0, c0, A1, c1, by simpa using heap_alloc_new W _, hB.size, hr0, hr1⟩
def compactext4_xattrState_init.f (s0_0 : List (S133)) (s0_1 : List (S133)) (s0_2 : Int) (s0_3 : Int) : Option (Int × Int) := some (96, 4060)
set_option maxHeartbeats 8000000 in
set_option maxRecDepth 100000 in
theorem compactext4_xattrState_init.calls (g : Nat) (s0_0 : List (S133)) (s0_1 : List (S133)) (s0_2 : Int) (s0_3 : Int) (r1 : Int) (r2 : Int) (w0 w : World) (hI : IsS107 w0 w g s0_0 s0_1 s0_2 s0_3) (hB : Below w0.heap.size w0 w) (h : compactext4_xattrState_init.f s0_0 s0_1 s0_2 s0_3 = some (r1, r2)) :
    Calls Tryd.prog 50 #[.pointer (some ⟨g, 0, none⟩)] w fun e w' => e = .returned (.tuple #[]) ∧ IsS107 w0 w' g s0_0 s0_1 r1 r2 ∧ Below w0.heap.size w0 w' ∧ KeepBut w w' g none := by
  have HI0 := Aside0.mk hI
  have HK := Aside0.mk (KeepBut.refl w g none)
  have HL := Aside0.mk hB.size
  clear hI
  have HW0 := Aside0.mk hB.size
  have HB := Aside0.mk hB
  clear hB
  have H : (some (96, 4060)) = some (r1, r2) := h
  clear h
  simp only [Option.some.injEq, Prod.mk.injEq] at H
  obtain ⟨rfl, rfl⟩ := H
  obtain ⟨ASz2_0, cSz2_0, ASz2_1, cSz2_1, HGz2, hgz2, HSz2_0, HSz2_1⟩ := HI0.out
  have hcz2_0 := cellS107_0 HGz2
  have hcz2_1 := cellS107_1 HGz2
  have hcz2_2 := cellS107_2 HGz2
  have hcz2_3 := cellS107_3 HGz2
  have hfz2_2 := blk_frozen HGz2 2
  have hfz2_3 := blk_frozen HGz2 3
  clear HGz2 hgz2
  go_enter Tryd.func50, Tryd.ntmps50
  go_wp2
  first | go_end0 | ((try simp only [Exit.inBlock, Exit.then]); refine bodyPost_ret (results_none rfl _ _ _) rfl ?_)
  exact ⟨by first | rfl | (simp [errW_none, errW_some] <;> rfl) | (simp [*, errW_none, errW_some] <;> rfl), by repeat (first | (with_reducible first | exact HI0.out | apply IsS107.alloc | apply IsS107.drewN | apply IsS107.drew | apply IsS107.set_2 | apply IsS107.set_3) | exact HI0.out), by repeat (first | (with_reducible first | exact HB.out | apply below_alloc | apply pw_below_drewN | apply below_drew1 | refine below_set ?_ (IsS107.ge HI0.out)) | exact HB.out), by repeat (first | (with_reducible first | exact HK.out | apply KeepBut.set_ | apply keep_drewN | apply keep_drew | apply keep_alloc) | exact HK.out)⟩
def stringslite_HasPrefix.f (a0 : ByteArray) (a1 : ByteArray) : Option (Bool) := if (a0.size : Int) ≥ (a1.size : Int) then (if 0 ≤ (a1.size : Int) then (if (a1.size : Int) ≤ (a0.size : Int) then (some ((a0.extract 0 ((a1.size : Int) : Int).toNat).toList == a1.toList)) else (none)) else (none)) else (some false)
set_option maxHeartbeats 8000000 in
set_option maxRecDepth 100000 in
theorem stringslite_HasPrefix.calls (a0 : ByteArray) (a1 : ByteArray) (r : Bool) (w : World) (h : stringslite_HasPrefix.f a0 a1 = some r) :
    Calls Tryd.prog 79 #[.string a0, .string a1] w fun e w' => e = .returned (.bool r) ∧ Drawn0 w w' := by
  have H : (if (a0.size : Int) ≥ (a1.size : Int) then (if 0 ≤ (a1.size : Int) then (if (a1.size : Int) ≤ (a0.size : Int) then (some ((a0.extract 0 ((a1.size : Int) : Int).toNat).toList == a1.toList)) else (none)) else (none)) else (some false)) = some r := h
  clear h
  by_cases c3 : (a0.size : Int) ≥ (a1.size : Int)
  · rw [if_pos c3] at H
    have c3b0 : decide ((a1.size : Int) ≤ (a0.size : Int)) = true := decide_eq_true c3
    have c3b1 : decide (a1.size ≤ a0.size) = true := decide_eq_true (Int.ofNat_le.mp c3)
    clear c3
    by_cases c4 : 0 ≤ (a1.size : Int)
    · rw [if_pos c4] at H
      have c4b0 := eq_true c4
      have c4b1 : decide (0 ≤ (a1.size : Int)) = true := decide_eq_true c4
      clear c4
      by_cases c5 : (a1.size : Int) ≤ (a0.size : Int)
      · rw [if_pos c5] at H
        have c5b0 := eq_true c5
        have c5b1 : decide ((a1.size : Int) ≤ (a0.size : Int)) = true := decide_eq_true c5
        clear c5
        obtain rfl := Option.some.inj H
        go_enter Tryd.func79, Tryd.ntmps79
        go_wp2
        go_ret
        exact ⟨by first | rfl | (simp; done) | (simp [*]; done), by repeat (first | exact Drawn0.refl _ | apply Drawn0.step)⟩
      · rw [if_neg c5] at H
        exact absurd H (by simp)
    · rw [if_neg c4] at H
      exact absurd H (by simp)
  · rw [if_neg c3] at H
    have c3b0 : decide ((a1.size : Int) ≤ (a0.size : Int)) = false := decide_eq_false c3
    have c3b1 : decide (a1.size ≤ a0.size) = false := decide_eq_false (fun h => c3 (Int.ofNat_le.mpr h))
    clear c3
    obtain rfl := Option.some.inj H
    go_enter Tryd.func79, Tryd.ntmps79
    go_wp2
    go_ret
    exact ⟨by first | rfl | (simp; done) | (simp [*]; done), by repeat (first | exact Drawn0.refl _ | apply Drawn0.step)⟩
def strings_HasPrefix.f (a0 : ByteArray) (a1 : ByteArray) : Option (Bool) := (stringslite_HasPrefix.f a0 a1).bind fun t127 => (some t127)
set_option maxHeartbeats 8000000 in
set_option maxRecDepth 100000 in
theorem strings_HasPrefix.calls (a0 : ByteArray) (a1 : ByteArray) (r : Bool) (w : World) (h : strings_HasPrefix.f a0 a1 = some r) :
    Calls Tryd.prog 70 #[.string a0, .string a1] w fun e w' => e = .returned (.bool r) ∧ Drawn0 w w' := by
  have H : ((stringslite_HasPrefix.f a0 a1).bind fun t127 => (some t127)) = some r := h
  clear h
  replace H := Option.bind_eq_some_iff.mp H
  obtain ⟨t127, A30, H⟩ := H
  replace H : (some t127) = some r := H
  have A3 := Aside0.mk A30
  clear A30
  obtain rfl := Option.some.inj H
  go_enter Tryd.func70, Tryd.ntmps70
  go_wp2_with (first | ((with_reducible refine gate_callee (f := 79) rfl ?_); refine goesL_ (some 7) rfl rfl Tryd.func79 (by kernel_rfl) rfl #[.string a0, .string a1] rfl (by (try simp only [List.map_toArray, List.map_cons, List.map_nil]); first | done | rfl | (simp only [List.length_drop, List.length_take]; rfl)) ?_; (with_reducible refine (stringslite_HasPrefix.calls a0 a1 t127 _ A3.out).mono ?_); rintro e w' ⟨rfl, ⟨nd, rfl⟩⟩; refine ⟨_, rfl, ?_⟩))
  go_ret
  exact ⟨by first | rfl | (simp; done) | (simp [*]; done), by repeat (first | exact Drawn0.refl _ | apply Drawn0.step)⟩
/-- A state of type 133 at block g of W; what its slices lead to came in by w0. -/
def IsS133 (w0 W : World) (g : Nat) (f0 : ByteArray) (f1 : Int) (f2 : List Int) : Prop := ∃ A2 c2, W.heap[g]? = some (.cells #[.string f0, .int .u8 f1, .slice A2 f2.length c2] 133 (0, 0)) ∧ w0.heap.size ≤ g ∧ Kd.C (Kd.int .u8) w0 A2 f2.length f2
theorem IsS133.grown {w0 W : World} {g : Nat} {f0 : ByteArray} {f1 : Int} {f2 : List Int} {W1 : World} {row : Option Nat} (h : IsS133 w0 W g f0 f1 f2) (hw : W.grownBy W1 row) (hne : some g ≠ row) : IsS133 w0 W1 g f0 f1 f2 := by
  obtain ⟨A2, c2, hb, hg, hr2⟩ := h
  exact ⟨A2, c2, blk_grown hb hw hne, hg, hr2⟩
theorem IsS133.fresh {w0 W : World} {g : Nat} {f0 : ByteArray} {f1 : Int} {f2 : List Int} (h : IsS133 w0 W g f0 f1 f2) : ∀ k, W.heap.size ≤ k → k ≠ g := by
  obtain ⟨A2, c2, hb, hg, hr2⟩ := h
  exact Kd.freshB hb
theorem IsS133.kept {w0 W : World} {g : Nat} {f0 : ByteArray} {f1 : Int} {f2 : List Int} {W1 : World} {S : Nat → Prop} (h : IsS133 w0 W g f0 f1 f2) (hk : Kept W W1 S) (hne : ¬ S g) : IsS133 w0 W1 g f0 f1 f2 := by
  obtain ⟨A2, c2, hb, hg, hr2⟩ := h
  exact ⟨A2, c2, blk_kept hb hk hne, hg, hr2⟩
theorem IsS133.below {w0 W : World} {g : Nat} {f0 : ByteArray} {f1 : Int} {f2 : List Int} {W1 : World} (h : IsS133 w0 W g f0 f1 f2) (hw : Below W.heap.size W W1) : IsS133 w0 W1 g f0 f1 f2 := h.grown (grown_of_below hw none) (by simp)
theorem IsS133.alloc {w0 W : World} {g : Nat} {f0 : ByteArray} {f1 : Int} {f2 : List Int} (h : IsS133 w0 W g f0 f1 f2) (o : Obj) : IsS133 w0 (W.alloc o) g f0 f1 f2 := h.below (below_alloc (Below.refl _ _) o)
theorem IsS133.drewN {w0 W : World} {g : Nat} {f0 : ByteArray} {f1 : Int} {f2 : List Int} (h : IsS133 w0 W g f0 f1 f2) (m : Nat) : IsS133 w0 (W.drewN m) g f0 f1 f2 := h
theorem IsS133.drew {w0 W : World} {g : Nat} {f0 : ByteArray} {f1 : Int} {f2 : List Int} (h : IsS133 w0 W g f0 f1 f2) : IsS133 w0 W.drew g f0 f1 f2 := h
theorem IsS133.at_ {w0 W : World} {g : Nat} {f0 : ByteArray} {f1 : Int} {f2 : List Int} {w' : World} {m : Nat} (hq : W.drewN m = w') (h : IsS133 w0 W g f0 f1 f2) : IsS133 w0 w' g f0 f1 f2 := by subst hq; exact IsS133.drewN h m
theorem IsS133.apart {w0 W : World} {g : Nat} {f0 : ByteArray} {f1 : Int} {f2 : List Int} {α : Type} {d : Kd α} {e : Nat} {base : Nat} {ok : Nat → Prop} {v : Value} {xs : List α} (h : IsS133 w0 W g f0 f1 f2) (ho : d.R e W base ok v xs) (ht : ∀ q, q ∈ e :: d.E → q ≠ 133) : d.R e W base (fun k => ok k ∧ k ≠ g) v xs := by
  obtain ⟨A2, c2, hb, hg, hr2⟩ := h
  exact Kd.R_types ho hb ht
theorem IsS133.own_ne {w0 W : World} {g : Nat} {f0 : ByteArray} {f1 : Int} {f2 : List Int} {α : Type} {d : Kd α} {e : Nat} {base : Nat} {ok : Nat → Prop} {v : Value} {xs : List α} (h : IsS133 w0 W g f0 f1 f2) (ho : d.R e W base ok v xs) (ht : e ≠ 133) : some g ≠ v.ownBlock := by
  obtain ⟨A2, c2, hb, hg, hr2⟩ := h
  exact Kd.R_ne ho hb ht
theorem IsS133.lt {w0 W : World} {g : Nat} {f0 : ByteArray} {f1 : Int} {f2 : List Int} (h : IsS133 w0 W g f0 f1 f2) : g < W.heap.size := by
  obtain ⟨A2, c2, hb, hg, hr2⟩ := h
  exact blk_lt hb
theorem IsS133.ge {w0 W : World} {g : Nat} {f0 : ByteArray} {f1 : Int} {f2 : List Int} (h : IsS133 w0 W g f0 f1 f2) : w0.heap.size ≤ g := by
  obtain ⟨A2, c2, hb, hg, hr2⟩ := h
  exact hg
theorem IsS133.far {w0 W : World} {g : Nat} {f0 : ByteArray} {f1 : Int} {f2 : List Int} {p : Addr} (h : IsS133 w0 W g f0 f1 f2) (hne : g ≠ p.block) (u : Value) : IsS133 w0 (W.setCell p u) g f0 f1 f2 := by
  obtain ⟨A2, c2, hb, hg, hr2⟩ := h
  exact ⟨A2, c2, blk_far hb hne u, hg, hr2⟩
theorem cellS133_0 {W : World} {g : Nat} {A2 : Option Addr} {c2 : Nat} {f0 : ByteArray} {f1 : Int} {f2 : List Int} (h : W.heap[g]? = some (.cells #[.string f0, .int .u8 f1, .slice A2 f2.length c2] 133 (0, 0))) : W.cell? ⟨g, 0, none⟩ = some (.string f0) := (blk_cell h 0).trans rfl
theorem IsS133.set_0 {w0 W : World} {g : Nat} {f0 : ByteArray} {f1 : Int} {f2 : List Int} (h : IsS133 w0 W g f0 f1 f2) (x : ByteArray) : IsS133 w0 (W.setCell ⟨g, 0, none⟩ (.string x)) g x f1 f2 := by
  obtain ⟨A2, c2, hb, hg, hr2⟩ := h
  exact ⟨A2, c2, by simpa using blk_set hb 0 (.string x), hg, hr2⟩
theorem cellS133_1 {W : World} {g : Nat} {A2 : Option Addr} {c2 : Nat} {f0 : ByteArray} {f1 : Int} {f2 : List Int} (h : W.heap[g]? = some (.cells #[.string f0, .int .u8 f1, .slice A2 f2.length c2] 133 (0, 0))) : W.cell? ⟨g, 1, none⟩ = some (.int .u8 f1) := (blk_cell h 1).trans rfl
theorem IsS133.set_1 {w0 W : World} {g : Nat} {f0 : ByteArray} {f1 : Int} {f2 : List Int} (h : IsS133 w0 W g f0 f1 f2) (x : Int) : IsS133 w0 (W.setCell ⟨g, 1, none⟩ (.int .u8 x)) g f0 x f2 := by
  obtain ⟨A2, c2, hb, hg, hr2⟩ := h
  exact ⟨A2, c2, by simpa using blk_set hb 1 (.int .u8 x), hg, hr2⟩
theorem cellS133_2 {W : World} {g : Nat} {A2 : Option Addr} {c2 : Nat} {f0 : ByteArray} {f1 : Int} {f2 : List Int} (h : W.heap[g]? = some (.cells #[.string f0, .int .u8 f1, .slice A2 f2.length c2] 133 (0, 0))) : W.cell? ⟨g, 2, none⟩ = some (.slice A2 f2.length c2) := (blk_cell h 2).trans rfl
theorem IsS133.new (w0 W : World) (A2 : Option Addr) (c2 : Nat) (f0 : ByteArray) (f1 : Int) (f2 : List Int) (hB : Below w0.heap.size w0 W) (hr2 : Kd.C (Kd.int .u8) w0 A2 f2.length f2) : IsS133 w0 (W.alloc (.cells #[.string f0, .int .u8 f1, .slice A2 f2.length c2] 133)) W.heap.size f0 f1 f2 := ⟨A2, c2, by simpa using heap_alloc_new W _, hB.size, hr2⟩
def compactext4_xattr_EntryLen.f (s0_0 : ByteArray) (s0_1 : Int) (s0_2 : List Int) : Option (Int × ByteArray × Int) := some (wrap64 ((Go.bits .andNot .i64 (wrap64 ((s0_0.size : Int) + 3)) 3) + 16), s0_0, s0_1)
set_option maxHeartbeats 8000000 in
set_option maxRecDepth 100000 in
theorem compactext4_xattr_EntryLen.calls (g : Nat) (s0_0 : ByteArray) (s0_1 : Int) (s0_2 : List Int) (r1 : Int) (r2 : ByteArray) (r3 : Int) (w0 w : World) (hI : IsS133 w0 w g s0_0 s0_1 s0_2) (hB : Below w0.heap.size w0 w) (h : compactext4_xattr_EntryLen.f s0_0 s0_1 s0_2 = some (r1, r2, r3)) :
    Calls Tryd.prog 65 #[.pointer (some ⟨g, 0, none⟩)] w fun e w' => e = .returned (.int .i64 r1) ∧ IsS133 w0 w' g r2 r3 s0_2 ∧ Below w0.heap.size w0 w' ∧ KeepBut w w' g none := by
  have HI0 := Aside0.mk hI
  have HK := Aside0.mk (KeepBut.refl w g none)
  have HL := Aside0.mk hB.size
  clear hI
  have HW0 := Aside0.mk hB.size
  have HB := Aside0.mk hB
  clear hB
  have H : (some (wrap64 ((Go.bits .andNot .i64 (wrap64 ((s0_0.size : Int) + 3)) 3) + 16), s0_0, s0_1)) = some (r1, r2, r3) := h
  clear h
  simp only [Option.some.injEq, Prod.mk.injEq] at H
  obtain ⟨rfl, rfl, rfl⟩ := H
  obtain ⟨ASz2_2, cSz2_2, HGz2, hgz2, HSz2_2⟩ := HI0.out
  have hcz2_0 := cellS133_0 HGz2
  have hcz2_1 := cellS133_1 HGz2
  have hcz2_2 := cellS133_2 HGz2
  have hfz2_0 := blk_frozen HGz2 0
  have hfz2_1 := blk_frozen HGz2 1
  clear HGz2 hgz2
  go_enter Tryd.func65, Tryd.ntmps65
  go_wp2
  go_ret
  exact ⟨by first | rfl | (simp [errW_none, errW_some] <;> rfl) | (simp [*, errW_none, errW_some] <;> rfl), by repeat (first | (with_reducible first | exact HI0.out | apply IsS133.alloc | apply IsS133.drewN | apply IsS133.drew | apply IsS133.set_0 | apply IsS133.set_1) | exact HI0.out), by repeat (first | (with_reducible first | exact HB.out | apply below_alloc | apply pw_below_drewN | apply below_drew1 | refine below_set ?_ (IsS133.ge HI0.out)) | exact HB.out), by repeat (first | (with_reducible first | exact HK.out | apply KeepBut.set_ | apply keep_drewN | apply keep_drew | apply keep_alloc) | exact HK.out)⟩
def compactext4_xattr_ValueLen.f (s0_0 : ByteArray) (s0_1 : Int) (s0_2 : List Int) : Option (Int × ByteArray × Int) := some (Go.bits .andNot .i64 (wrap64 ((s0_2.length : Int) + 3)) 3, s0_0, s0_1)
set_option maxHeartbeats 8000000 in
set_option maxRecDepth 100000 in
theorem compactext4_xattr_ValueLen.calls (g : Nat) (s0_0 : ByteArray) (s0_1 : Int) (s0_2 : List Int) (r1 : Int) (r2 : ByteArray) (r3 : Int) (w0 w : World) (hI : IsS133 w0 w g s0_0 s0_1 s0_2) (hB : Below w0.heap.size w0 w) (h : compactext4_xattr_ValueLen.f s0_0 s0_1 s0_2 = some (r1, r2, r3)) :
    Calls Tryd.prog 66 #[.pointer (some ⟨g, 0, none⟩)] w fun e w' => e = .returned (.int .i64 r1) ∧ IsS133 w0 w' g r2 r3 s0_2 ∧ Below w0.heap.size w0 w' ∧ KeepBut w w' g none := by
  have HI0 := Aside0.mk hI
  have HK := Aside0.mk (KeepBut.refl w g none)
  have HL := Aside0.mk hB.size
  clear hI
  have HW0 := Aside0.mk hB.size
  have HB := Aside0.mk hB
  clear hB
  have H : (some (Go.bits .andNot .i64 (wrap64 ((s0_2.length : Int) + 3)) 3, s0_0, s0_1)) = some (r1, r2, r3) := h
  clear h
  simp only [Option.some.injEq, Prod.mk.injEq] at H
  obtain ⟨rfl, rfl, rfl⟩ := H
  obtain ⟨ASz2_2, cSz2_2, HGz2, hgz2, HSz2_2⟩ := HI0.out
  have hcz2_0 := cellS133_0 HGz2
  have hcz2_1 := cellS133_1 HGz2
  have hcz2_2 := cellS133_2 HGz2
  have hfz2_0 := blk_frozen HGz2 0
  have hfz2_1 := blk_frozen HGz2 1
  clear HGz2 hgz2
  go_enter Tryd.func66, Tryd.ntmps66
  go_wp2
  go_ret
  exact ⟨by first | rfl | (simp [errW_none, errW_some] <;> rfl) | (simp [*, errW_none, errW_some] <;> rfl), by repeat (first | (with_reducible first | exact HI0.out | apply IsS133.alloc | apply IsS133.drewN | apply IsS133.drew | apply IsS133.set_0 | apply IsS133.set_1) | exact HI0.out), by repeat (first | (with_reducible first | exact HB.out | apply below_alloc | apply pw_below_drewN | apply below_drew1 | refine below_set ?_ (IsS133.ge HI0.out)) | exact HB.out), by repeat (first | (with_reducible first | exact HK.out | apply KeepBut.set_ | apply keep_drewN | apply keep_drew | apply keep_alloc) | exact HK.out)⟩
end Go.Proofs.YtckjbgneblfceaaDoor.PFnFitFirst
namespace Go.Proofs.YtckjbgneblfceaaDoor.Fa
open Go.RowKit Go.Maps Go.Proofs.YtckjbgneblfceaaDoorW.PrintWords Go.Proofs.YtckjbgneblfceaaDoorW.PrintLast Go.Proofs.YtckjbgneblfceaaDoorW.PrintMore Go.Proofs.YtckjbgneblfceaaDoor.PFnFitFirst
set_option linter.unusedVariables false
set_option linter.unusedSimpArgs false
def cells14 : Array Value := #[.int .u8 2, .string ⟨#[115, 121, 115, 116, 101, 109, 46, 112, 111, 115, 105, 120, 95, 97, 99, 108, 95, 97, 99, 99, 101, 115, 115]⟩, .int .u8 3, .string ⟨#[115, 121, 115, 116, 101, 109, 46, 112, 111, 115, 105, 120, 95, 97, 99, 108, 95, 100, 101, 102, 97, 117, 108, 116]⟩, .int .u8 8, .string ⟨#[115, 121, 115, 116, 101, 109, 46, 114, 105, 99, 104, 97, 99, 108]⟩, .int .u8 7, .string ⟨#[115, 121, 115, 116, 101, 109, 46]⟩, .int .u8 1, .string ⟨#[117, 115, 101, 114, 46]⟩, .int .u8 4, .string ⟨#[116, 114, 117, 115, 116, 101, 100, 46]⟩, .int .u8 6, .string ⟨#[115, 101, 99, 117, 114, 105, 116, 121, 46]⟩]
theorem idx0 (w : World) : (Instr.index 147 (.agg cells14) (.int .i64 0)).run Tryd.prog w = .ok (.agg #[.int .u8 2, .string ⟨#[115, 121, 115, 116, 101, 109, 46, 112, 111, 115, 105, 120, 95, 97, 99, 108, 95, 97, 99, 99, 101, 115, 115]⟩]) w := by kernel_rfl
theorem idx1 (w : World) : (Instr.index 147 (.agg cells14) (.int .i64 1)).run Tryd.prog w = .ok (.agg #[.int .u8 3, .string ⟨#[115, 121, 115, 116, 101, 109, 46, 112, 111, 115, 105, 120, 95, 97, 99, 108, 95, 100, 101, 102, 97, 117, 108, 116]⟩]) w := by kernel_rfl
theorem idx2 (w : World) : (Instr.index 147 (.agg cells14) (.int .i64 2)).run Tryd.prog w = .ok (.agg #[.int .u8 8, .string ⟨#[115, 121, 115, 116, 101, 109, 46, 114, 105, 99, 104, 97, 99, 108]⟩]) w := by kernel_rfl
theorem idx3 (w : World) : (Instr.index 147 (.agg cells14) (.int .i64 3)).run Tryd.prog w = .ok (.agg #[.int .u8 7, .string ⟨#[115, 121, 115, 116, 101, 109, 46]⟩]) w := by kernel_rfl
theorem idx4 (w : World) : (Instr.index 147 (.agg cells14) (.int .i64 4)).run Tryd.prog w = .ok (.agg #[.int .u8 1, .string ⟨#[117, 115, 101, 114, 46]⟩]) w := by kernel_rfl
theorem idx5 (w : World) : (Instr.index 147 (.agg cells14) (.int .i64 5)).run Tryd.prog w = .ok (.agg #[.int .u8 4, .string ⟨#[116, 114, 117, 115, 116, 101, 100, 46]⟩]) w := by kernel_rfl
theorem idx6 (w : World) : (Instr.index 147 (.agg cells14) (.int .i64 6)).run Tryd.prog w = .ok (.agg #[.int .u8 6, .string ⟨#[115, 101, 99, 117, 114, 105, 116, 121, 46]⟩]) w := by kernel_rfl
def pfx : List (Int × ByteArray) := [(2, ⟨#[115, 121, 115, 116, 101, 109, 46, 112, 111, 115, 105, 120, 95, 97, 99, 108, 95, 97, 99, 99, 101, 115, 115]⟩), (3, ⟨#[115, 121, 115, 116, 101, 109, 46, 112, 111, 115, 105, 120, 95, 97, 99, 108, 95, 100, 101, 102, 97, 117, 108, 116]⟩), (8, ⟨#[115, 121, 115, 116, 101, 109, 46, 114, 105, 99, 104, 97, 99, 108]⟩), (7, ⟨#[115, 121, 115, 116, 101, 109, 46]⟩), (1, ⟨#[117, 115, 101, 114, 46]⟩), (4, ⟨#[116, 114, 117, 115, 116, 101, 100, 46]⟩), (6, ⟨#[115, 101, 99, 117, 114, 105, 116, 121, 46]⟩)]
/-- Whether a name begins so. -/
def beg (s p : ByteArray) : Bool := decide (p.size ≤ s.size) && ((s.extract 0 p.size).toList == p.toList)
def compF : List (Int × ByteArray) → ByteArray → Int × ByteArray
  | [], s => (0, s)
  | q :: r, s => if beg s q.2 = true then (q.1, s.extract q.2.size s.size) else compF r s
def comp (s : ByteArray) : Int × ByteArray := compF pfx s
theorem begins (s p : ByteArray) : strings_HasPrefix.f s p = some (beg s p) := by
  unfold strings_HasPrefix.f stringslite_HasPrefix.f beg
  by_cases h : p.size ≤ s.size
  · rw [if_pos (by omega), if_pos (by omega), if_pos (by omega)]
    simp [h]
  · rw [if_neg (by omega)]
    simp [h]
theorem beg_le {s p : ByteArray} (h : beg s p = true) : p.size ≤ s.size := by
  unfold beg at h
  simp at h
  exact h.1
theorem compF_idx (s : ByteArray) : ∀ l : List (Int × ByteArray), (∀ q ∈ l, 0 ≤ q.1 ∧ q.1 ≤ 255) → 0 ≤ (compF l s).1 ∧ (compF l s).1 ≤ 255
  | [], _ => ⟨by show (0 : Int) ≤ 0; decide, by show (0 : Int) ≤ 255; decide⟩
  | q :: r, h => by
    unfold compF
    split
    · exact h q (List.mem_cons_self ..)
    · exact compF_idx s r (fun q hq => h q (List.mem_cons_of_mem _ hq))
theorem cellb0 {W W1 : World} {a : Addr} {v : Value} (h : W.cell? a = some v) (hb : Below W.heap.size W W1) : W1.cell? a = some v := by
  have hlt : a.block < W.heap.size := by
    rcases Nat.lt_or_ge a.block W.heap.size with hc | hc
    · exact hc
    · have hn : W.heap[a.block]? = none := Array.getElem?_eq_none hc
      simp [World.cell?, hn] at h
  rw [World.cell?_of_block (a := a) (hb.block a.block hlt)]
  exact h
set_option maxHeartbeats 4000000 in
set_option maxRecDepth 100000 in
theorem comp_calls (w : World) (s : ByteArray) (hs : s.size ≤ 2147483647) (t : TypeId) (fr : Nat × Nat) (hg : w.heap[4]? = some (.cells cells14 t fr)) :
    Calls Tryd.prog 60 #[.string s] w fun e w' => e = .returned (.tuple #[.int .u8 (comp s).1, .string (comp s).2]) ∧ Below w.heap.size w w' := by
  go_enter Tryd.func60, Tryd.ntmps60
  go_wp2_with (refine wpList_load_row rfl 147 _ rfl 4 rfl t _ fr _ hg Tryd.underlying147 rfl (by kernel_rfl) ?_)
  clear hg
  go_loopw [7] (fun v7 wr => ∃ i : Nat, v7 = .int .i64 i ∧ i ≤ 7 ∧ Hid (compF (pfx.drop i) s = comp s) ∧ Hid (Below w.heap.size w wr)) (fun v7 _ => 7 - (intOf v7).toNat)
  case atStart => exact ⟨0, rfl, by decide, Lib.hid rfl, Lib.hid (Below.refl _ _)⟩
  case round =>
    obtain ⟨i, rfl, hi, hc, BI⟩ := hrel
    rcases (show i = 0 ∨ i = 1 ∨ i = 2 ∨ i = 3 ∨ i = 4 ∨ i = 5 ∨ i = 6 ∨ i = 7 by omega) with rfl | rfl | rfl | rfl | rfl | rfl | rfl | rfl
    · have i0 := fun w => idx0 w
      cases hb : beg s ⟨#[115, 121, 115, 116, 101, 109, 46, 112, 111, 115, 105, 120, 95, 97, 99, 108, 95, 97, 99, 99, 101, 115, 115]⟩ with
      | true =>
        have HB := Lib.hid hb
        have hl : ((⟨#[115, 121, 115, 116, 101, 109, 46, 112, 111, 115, 105, 120, 95, 97, 99, 108, 95, 97, 99, 99, 101, 115, 115]⟩ : ByteArray).size : Int) ≤ (s.size : Int) := by have := beg_le hb; omega
        have hl2 : (23 : Int) ≤ (s.size : Int) := hl
        clear hb hl
        go_wp2_with (go_at_call 70; (refine (strings_HasPrefix.calls s ⟨#[115, 121, 115, 116, 101, 109, 46, 112, 111, 115, 105, 120, 95, 97, 99, 108, 95, 97, 99, 99, 101, 115, 115]⟩ true _ (by rw [begins, HB.out])).mono ?_); rintro e w1 ⟨rfl, hd1⟩; have hb1 := hd1.below; have B1 := Lib.hid (below_then BI.out BI.out.size (below_then (below_alloc (Below.refl _ _) _) (by simp) hb1)); have HB1 := Lib.hid hb1; have cl0 := cellb0 (blk_cell (blk_new wr (.cells #[.int .u8 2, .string ⟨#[115, 121, 115, 116, 101, 109, 46, 112, 111, 115, 105, 120, 95, 97, 99, 108, 95, 97, 99, 99, 101, 115, 115]⟩] 146)) 0) hb1; have cl1 := cellb0 (blk_cell (blk_new wr (.cells #[.int .u8 2, .string ⟨#[115, 121, 115, 116, 101, 109, 46, 112, 111, 115, 105, 120, 95, 97, 99, 108, 95, 97, 99, 99, 101, 115, 115]⟩] 146)) 1) hb1; clear hb1 hd1)
        repeat (go_quiet (fail); try go_wp2)
        go_ret2
        refine ⟨?_, by first | exact B1.out | exact pw_below_drewN B1.out _⟩
        have hcc := hc.out
        rw [← hcc]
        show _ = Ending.returned (.tuple #[.int .u8 (compF ((2, ⟨#[115, 121, 115, 116, 101, 109, 46, 112, 111, 115, 105, 120, 95, 97, 99, 108, 95, 97, 99, 99, 101, 115, 115]⟩) :: pfx.drop 1) s).1, .string (compF ((2, ⟨#[115, 121, 115, 116, 101, 109, 46, 112, 111, 115, 105, 120, 95, 97, 99, 108, 95, 97, 99, 99, 101, 115, 115]⟩) :: pfx.drop 1) s).2])
        unfold compF
        rw [if_pos HB.out]
        rfl
      | false =>
        have HB := Lib.hid hb
        clear hb
        go_wp2_with (go_at_call 70; (refine (strings_HasPrefix.calls s ⟨#[115, 121, 115, 116, 101, 109, 46, 112, 111, 115, 105, 120, 95, 97, 99, 108, 95, 97, 99, 99, 101, 115, 115]⟩ false _ (by rw [begins, HB.out])).mono ?_); rintro e w1 ⟨rfl, hd1⟩; have hb1 := hd1.below; have B1 := Lib.hid (below_then BI.out BI.out.size (below_then (below_alloc (Below.refl _ _) _) (by simp) hb1)); clear hb1 hd1)
        go_roundw
        case rel => exact ⟨1, by first | rfl | (push_cast; rfl), by decide, Lib.hid (by
          have hcc := hc.out
          rw [← hcc]
          show _ = compF ((2, ⟨#[115, 121, 115, 116, 101, 109, 46, 112, 111, 115, 105, 120, 95, 97, 99, 108, 95, 97, 99, 99, 101, 115, 115]⟩) :: pfx.drop 1) s
          conv => rhs; unfold compF
          rw [if_neg (by rw [HB.out]; decide)]), B1⟩
        case measure => simp only [intOf]; omega
    · have i0 := fun w => idx1 w
      cases hb : beg s ⟨#[115, 121, 115, 116, 101, 109, 46, 112, 111, 115, 105, 120, 95, 97, 99, 108, 95, 100, 101, 102, 97, 117, 108, 116]⟩ with
      | true =>
        have HB := Lib.hid hb
        have hl : ((⟨#[115, 121, 115, 116, 101, 109, 46, 112, 111, 115, 105, 120, 95, 97, 99, 108, 95, 100, 101, 102, 97, 117, 108, 116]⟩ : ByteArray).size : Int) ≤ (s.size : Int) := by have := beg_le hb; omega
        have hl2 : (24 : Int) ≤ (s.size : Int) := hl
        clear hb hl
        go_wp2_with (go_at_call 70; (refine (strings_HasPrefix.calls s ⟨#[115, 121, 115, 116, 101, 109, 46, 112, 111, 115, 105, 120, 95, 97, 99, 108, 95, 100, 101, 102, 97, 117, 108, 116]⟩ true _ (by rw [begins, HB.out])).mono ?_); rintro e w1 ⟨rfl, hd1⟩; have hb1 := hd1.below; have B1 := Lib.hid (below_then BI.out BI.out.size (below_then (below_alloc (Below.refl _ _) _) (by simp) hb1)); have HB1 := Lib.hid hb1; have cl0 := cellb0 (blk_cell (blk_new wr (.cells #[.int .u8 3, .string ⟨#[115, 121, 115, 116, 101, 109, 46, 112, 111, 115, 105, 120, 95, 97, 99, 108, 95, 100, 101, 102, 97, 117, 108, 116]⟩] 146)) 0) hb1; have cl1 := cellb0 (blk_cell (blk_new wr (.cells #[.int .u8 3, .string ⟨#[115, 121, 115, 116, 101, 109, 46, 112, 111, 115, 105, 120, 95, 97, 99, 108, 95, 100, 101, 102, 97, 117, 108, 116]⟩] 146)) 1) hb1; clear hb1 hd1)
        repeat (go_quiet (fail); try go_wp2)
        go_ret2
        refine ⟨?_, by first | exact B1.out | exact pw_below_drewN B1.out _⟩
        have hcc := hc.out
        rw [← hcc]
        show _ = Ending.returned (.tuple #[.int .u8 (compF ((3, ⟨#[115, 121, 115, 116, 101, 109, 46, 112, 111, 115, 105, 120, 95, 97, 99, 108, 95, 100, 101, 102, 97, 117, 108, 116]⟩) :: pfx.drop 2) s).1, .string (compF ((3, ⟨#[115, 121, 115, 116, 101, 109, 46, 112, 111, 115, 105, 120, 95, 97, 99, 108, 95, 100, 101, 102, 97, 117, 108, 116]⟩) :: pfx.drop 2) s).2])
        unfold compF
        rw [if_pos HB.out]
        rfl
      | false =>
        have HB := Lib.hid hb
        clear hb
        go_wp2_with (go_at_call 70; (refine (strings_HasPrefix.calls s ⟨#[115, 121, 115, 116, 101, 109, 46, 112, 111, 115, 105, 120, 95, 97, 99, 108, 95, 100, 101, 102, 97, 117, 108, 116]⟩ false _ (by rw [begins, HB.out])).mono ?_); rintro e w1 ⟨rfl, hd1⟩; have hb1 := hd1.below; have B1 := Lib.hid (below_then BI.out BI.out.size (below_then (below_alloc (Below.refl _ _) _) (by simp) hb1)); clear hb1 hd1)
        go_roundw
        case rel => exact ⟨2, by first | rfl | (push_cast; rfl), by decide, Lib.hid (by
          have hcc := hc.out
          rw [← hcc]
          show _ = compF ((3, ⟨#[115, 121, 115, 116, 101, 109, 46, 112, 111, 115, 105, 120, 95, 97, 99, 108, 95, 100, 101, 102, 97, 117, 108, 116]⟩) :: pfx.drop 2) s
          conv => rhs; unfold compF
          rw [if_neg (by rw [HB.out]; decide)]), B1⟩
        case measure => simp only [intOf]; omega
    · have i0 := fun w => idx2 w
      cases hb : beg s ⟨#[115, 121, 115, 116, 101, 109, 46, 114, 105, 99, 104, 97, 99, 108]⟩ with
      | true =>
        have HB := Lib.hid hb
        have hl : ((⟨#[115, 121, 115, 116, 101, 109, 46, 114, 105, 99, 104, 97, 99, 108]⟩ : ByteArray).size : Int) ≤ (s.size : Int) := by have := beg_le hb; omega
        have hl2 : (14 : Int) ≤ (s.size : Int) := hl
        clear hb hl
        go_wp2_with (go_at_call 70; (refine (strings_HasPrefix.calls s ⟨#[115, 121, 115, 116, 101, 109, 46, 114, 105, 99, 104, 97, 99, 108]⟩ true _ (by rw [begins, HB.out])).mono ?_); rintro e w1 ⟨rfl, hd1⟩; have hb1 := hd1.below; have B1 := Lib.hid (below_then BI.out BI.out.size (below_then (below_alloc (Below.refl _ _) _) (by simp) hb1)); have HB1 := Lib.hid hb1; have cl0 := cellb0 (blk_cell (blk_new wr (.cells #[.int .u8 8, .string ⟨#[115, 121, 115, 116, 101, 109, 46, 114, 105, 99, 104, 97, 99, 108]⟩] 146)) 0) hb1; have cl1 := cellb0 (blk_cell (blk_new wr (.cells #[.int .u8 8, .string ⟨#[115, 121, 115, 116, 101, 109, 46, 114, 105, 99, 104, 97, 99, 108]⟩] 146)) 1) hb1; clear hb1 hd1)
        repeat (go_quiet (fail); try go_wp2)
        go_ret2
        refine ⟨?_, by first | exact B1.out | exact pw_below_drewN B1.out _⟩
        have hcc := hc.out
        rw [← hcc]
        show _ = Ending.returned (.tuple #[.int .u8 (compF ((8, ⟨#[115, 121, 115, 116, 101, 109, 46, 114, 105, 99, 104, 97, 99, 108]⟩) :: pfx.drop 3) s).1, .string (compF ((8, ⟨#[115, 121, 115, 116, 101, 109, 46, 114, 105, 99, 104, 97, 99, 108]⟩) :: pfx.drop 3) s).2])
        unfold compF
        rw [if_pos HB.out]
        rfl
      | false =>
        have HB := Lib.hid hb
        clear hb
        go_wp2_with (go_at_call 70; (refine (strings_HasPrefix.calls s ⟨#[115, 121, 115, 116, 101, 109, 46, 114, 105, 99, 104, 97, 99, 108]⟩ false _ (by rw [begins, HB.out])).mono ?_); rintro e w1 ⟨rfl, hd1⟩; have hb1 := hd1.below; have B1 := Lib.hid (below_then BI.out BI.out.size (below_then (below_alloc (Below.refl _ _) _) (by simp) hb1)); clear hb1 hd1)
        go_roundw
        case rel => exact ⟨3, by first | rfl | (push_cast; rfl), by decide, Lib.hid (by
          have hcc := hc.out
          rw [← hcc]
          show _ = compF ((8, ⟨#[115, 121, 115, 116, 101, 109, 46, 114, 105, 99, 104, 97, 99, 108]⟩) :: pfx.drop 3) s
          conv => rhs; unfold compF
          rw [if_neg (by rw [HB.out]; decide)]), B1⟩
        case measure => simp only [intOf]; omega
    · have i0 := fun w => idx3 w
      cases hb : beg s ⟨#[115, 121, 115, 116, 101, 109, 46]⟩ with
      | true =>
        have HB := Lib.hid hb
        have hl : ((⟨#[115, 121, 115, 116, 101, 109, 46]⟩ : ByteArray).size : Int) ≤ (s.size : Int) := by have := beg_le hb; omega
        have hl2 : (7 : Int) ≤ (s.size : Int) := hl
        clear hb hl
        go_wp2_with (go_at_call 70; (refine (strings_HasPrefix.calls s ⟨#[115, 121, 115, 116, 101, 109, 46]⟩ true _ (by rw [begins, HB.out])).mono ?_); rintro e w1 ⟨rfl, hd1⟩; have hb1 := hd1.below; have B1 := Lib.hid (below_then BI.out BI.out.size (below_then (below_alloc (Below.refl _ _) _) (by simp) hb1)); have HB1 := Lib.hid hb1; have cl0 := cellb0 (blk_cell (blk_new wr (.cells #[.int .u8 7, .string ⟨#[115, 121, 115, 116, 101, 109, 46]⟩] 146)) 0) hb1; have cl1 := cellb0 (blk_cell (blk_new wr (.cells #[.int .u8 7, .string ⟨#[115, 121, 115, 116, 101, 109, 46]⟩] 146)) 1) hb1; clear hb1 hd1)
        repeat (go_quiet (fail); try go_wp2)
        go_ret2
        refine ⟨?_, by first | exact B1.out | exact pw_below_drewN B1.out _⟩
        have hcc := hc.out
        rw [← hcc]
        show _ = Ending.returned (.tuple #[.int .u8 (compF ((7, ⟨#[115, 121, 115, 116, 101, 109, 46]⟩) :: pfx.drop 4) s).1, .string (compF ((7, ⟨#[115, 121, 115, 116, 101, 109, 46]⟩) :: pfx.drop 4) s).2])
        unfold compF
        rw [if_pos HB.out]
        rfl
      | false =>
        have HB := Lib.hid hb
        clear hb
        go_wp2_with (go_at_call 70; (refine (strings_HasPrefix.calls s ⟨#[115, 121, 115, 116, 101, 109, 46]⟩ false _ (by rw [begins, HB.out])).mono ?_); rintro e w1 ⟨rfl, hd1⟩; have hb1 := hd1.below; have B1 := Lib.hid (below_then BI.out BI.out.size (below_then (below_alloc (Below.refl _ _) _) (by simp) hb1)); clear hb1 hd1)
        go_roundw
        case rel => exact ⟨4, by first | rfl | (push_cast; rfl), by decide, Lib.hid (by
          have hcc := hc.out
          rw [← hcc]
          show _ = compF ((7, ⟨#[115, 121, 115, 116, 101, 109, 46]⟩) :: pfx.drop 4) s
          conv => rhs; unfold compF
          rw [if_neg (by rw [HB.out]; decide)]), B1⟩
        case measure => simp only [intOf]; omega
    · have i0 := fun w => idx4 w
      cases hb : beg s ⟨#[117, 115, 101, 114, 46]⟩ with
      | true =>
        have HB := Lib.hid hb
        have hl : ((⟨#[117, 115, 101, 114, 46]⟩ : ByteArray).size : Int) ≤ (s.size : Int) := by have := beg_le hb; omega
        have hl2 : (5 : Int) ≤ (s.size : Int) := hl
        clear hb hl
        go_wp2_with (go_at_call 70; (refine (strings_HasPrefix.calls s ⟨#[117, 115, 101, 114, 46]⟩ true _ (by rw [begins, HB.out])).mono ?_); rintro e w1 ⟨rfl, hd1⟩; have hb1 := hd1.below; have B1 := Lib.hid (below_then BI.out BI.out.size (below_then (below_alloc (Below.refl _ _) _) (by simp) hb1)); have HB1 := Lib.hid hb1; have cl0 := cellb0 (blk_cell (blk_new wr (.cells #[.int .u8 1, .string ⟨#[117, 115, 101, 114, 46]⟩] 146)) 0) hb1; have cl1 := cellb0 (blk_cell (blk_new wr (.cells #[.int .u8 1, .string ⟨#[117, 115, 101, 114, 46]⟩] 146)) 1) hb1; clear hb1 hd1)
        repeat (go_quiet (fail); try go_wp2)
        go_ret2
        refine ⟨?_, by first | exact B1.out | exact pw_below_drewN B1.out _⟩
        have hcc := hc.out
        rw [← hcc]
        show _ = Ending.returned (.tuple #[.int .u8 (compF ((1, ⟨#[117, 115, 101, 114, 46]⟩) :: pfx.drop 5) s).1, .string (compF ((1, ⟨#[117, 115, 101, 114, 46]⟩) :: pfx.drop 5) s).2])
        unfold compF
        rw [if_pos HB.out]
        rfl
      | false =>
        have HB := Lib.hid hb
        clear hb
        go_wp2_with (go_at_call 70; (refine (strings_HasPrefix.calls s ⟨#[117, 115, 101, 114, 46]⟩ false _ (by rw [begins, HB.out])).mono ?_); rintro e w1 ⟨rfl, hd1⟩; have hb1 := hd1.below; have B1 := Lib.hid (below_then BI.out BI.out.size (below_then (below_alloc (Below.refl _ _) _) (by simp) hb1)); clear hb1 hd1)
        go_roundw
        case rel => exact ⟨5, by first | rfl | (push_cast; rfl), by decide, Lib.hid (by
          have hcc := hc.out
          rw [← hcc]
          show _ = compF ((1, ⟨#[117, 115, 101, 114, 46]⟩) :: pfx.drop 5) s
          conv => rhs; unfold compF
          rw [if_neg (by rw [HB.out]; decide)]), B1⟩
        case measure => simp only [intOf]; omega
    · have i0 := fun w => idx5 w
      cases hb : beg s ⟨#[116, 114, 117, 115, 116, 101, 100, 46]⟩ with
      | true =>
        have HB := Lib.hid hb
        have hl : ((⟨#[116, 114, 117, 115, 116, 101, 100, 46]⟩ : ByteArray).size : Int) ≤ (s.size : Int) := by have := beg_le hb; omega
        have hl2 : (8 : Int) ≤ (s.size : Int) := hl
        clear hb hl
        go_wp2_with (go_at_call 70; (refine (strings_HasPrefix.calls s ⟨#[116, 114, 117, 115, 116, 101, 100, 46]⟩ true _ (by rw [begins, HB.out])).mono ?_); rintro e w1 ⟨rfl, hd1⟩; have hb1 := hd1.below; have B1 := Lib.hid (below_then BI.out BI.out.size (below_then (below_alloc (Below.refl _ _) _) (by simp) hb1)); have HB1 := Lib.hid hb1; have cl0 := cellb0 (blk_cell (blk_new wr (.cells #[.int .u8 4, .string ⟨#[116, 114, 117, 115, 116, 101, 100, 46]⟩] 146)) 0) hb1; have cl1 := cellb0 (blk_cell (blk_new wr (.cells #[.int .u8 4, .string ⟨#[116, 114, 117, 115, 116, 101, 100, 46]⟩] 146)) 1) hb1; clear hb1 hd1)
        repeat (go_quiet (fail); try go_wp2)
        go_ret2
        refine ⟨?_, by first | exact B1.out | exact pw_below_drewN B1.out _⟩
        have hcc := hc.out
        rw [← hcc]
        show _ = Ending.returned (.tuple #[.int .u8 (compF ((4, ⟨#[116, 114, 117, 115, 116, 101, 100, 46]⟩) :: pfx.drop 6) s).1, .string (compF ((4, ⟨#[116, 114, 117, 115, 116, 101, 100, 46]⟩) :: pfx.drop 6) s).2])
        unfold compF
        rw [if_pos HB.out]
        rfl
      | false =>
        have HB := Lib.hid hb
        clear hb
        go_wp2_with (go_at_call 70; (refine (strings_HasPrefix.calls s ⟨#[116, 114, 117, 115, 116, 101, 100, 46]⟩ false _ (by rw [begins, HB.out])).mono ?_); rintro e w1 ⟨rfl, hd1⟩; have hb1 := hd1.below; have B1 := Lib.hid (below_then BI.out BI.out.size (below_then (below_alloc (Below.refl _ _) _) (by simp) hb1)); clear hb1 hd1)
        go_roundw
        case rel => exact ⟨6, by first | rfl | (push_cast; rfl), by decide, Lib.hid (by
          have hcc := hc.out
          rw [← hcc]
          show _ = compF ((4, ⟨#[116, 114, 117, 115, 116, 101, 100, 46]⟩) :: pfx.drop 6) s
          conv => rhs; unfold compF
          rw [if_neg (by rw [HB.out]; decide)]), B1⟩
        case measure => simp only [intOf]; omega
    · have i0 := fun w => idx6 w
      cases hb : beg s ⟨#[115, 101, 99, 117, 114, 105, 116, 121, 46]⟩ with
      | true =>
        have HB := Lib.hid hb
        have hl : ((⟨#[115, 101, 99, 117, 114, 105, 116, 121, 46]⟩ : ByteArray).size : Int) ≤ (s.size : Int) := by have := beg_le hb; omega
        have hl2 : (9 : Int) ≤ (s.size : Int) := hl
        clear hb hl
        go_wp2_with (go_at_call 70; (refine (strings_HasPrefix.calls s ⟨#[115, 101, 99, 117, 114, 105, 116, 121, 46]⟩ true _ (by rw [begins, HB.out])).mono ?_); rintro e w1 ⟨rfl, hd1⟩; have hb1 := hd1.below; have B1 := Lib.hid (below_then BI.out BI.out.size (below_then (below_alloc (Below.refl _ _) _) (by simp) hb1)); have HB1 := Lib.hid hb1; have cl0 := cellb0 (blk_cell (blk_new wr (.cells #[.int .u8 6, .string ⟨#[115, 101, 99, 117, 114, 105, 116, 121, 46]⟩] 146)) 0) hb1; have cl1 := cellb0 (blk_cell (blk_new wr (.cells #[.int .u8 6, .string ⟨#[115, 101, 99, 117, 114, 105, 116, 121, 46]⟩] 146)) 1) hb1; clear hb1 hd1)
        repeat (go_quiet (fail); try go_wp2)
        go_ret2
        refine ⟨?_, by first | exact B1.out | exact pw_below_drewN B1.out _⟩
        have hcc := hc.out
        rw [← hcc]
        show _ = Ending.returned (.tuple #[.int .u8 (compF ((6, ⟨#[115, 101, 99, 117, 114, 105, 116, 121, 46]⟩) :: pfx.drop 7) s).1, .string (compF ((6, ⟨#[115, 101, 99, 117, 114, 105, 116, 121, 46]⟩) :: pfx.drop 7) s).2])
        unfold compF
        rw [if_pos HB.out]
        rfl
      | false =>
        have HB := Lib.hid hb
        clear hb
        go_wp2_with (go_at_call 70; (refine (strings_HasPrefix.calls s ⟨#[115, 101, 99, 117, 114, 105, 116, 121, 46]⟩ false _ (by rw [begins, HB.out])).mono ?_); rintro e w1 ⟨rfl, hd1⟩; have hb1 := hd1.below; have B1 := Lib.hid (below_then BI.out BI.out.size (below_then (below_alloc (Below.refl _ _) _) (by simp) hb1)); clear hb1 hd1)
        go_roundw
        case rel => exact ⟨7, by first | rfl | (push_cast; rfl), by decide, Lib.hid (by
          have hcc := hc.out
          rw [← hcc]
          show _ = compF ((6, ⟨#[115, 101, 99, 117, 114, 105, 116, 121, 46]⟩) :: pfx.drop 7) s
          conv => rhs; unfold compF
          rw [if_neg (by rw [HB.out]; decide)]), B1⟩
        case measure => simp only [intOf]; omega
    · go_wp2_with fail
      go_ret2
      exact ⟨by rw [← hc.out]; rfl, BI.out⟩
end Go.Proofs.YtckjbgneblfceaaDoor.Fa
namespace Go.Proofs.YtckjbgneblfceaaDoor.Fm
open Go.RowKit Go.Maps Go.Proofs.YtckjbgneblfceaaDoorW.PrintWords Go.Proofs.YtckjbgneblfceaaDoorW.PrintLast Go.Proofs.YtckjbgneblfceaaDoorW.PrintMore Go.Proofs.YtckjbgneblfceaaDoor.PFnFitFirst Go.Proofs.YtckjbgneblfceaaDoor.Fa
set_option linter.unusedVariables false
set_option linter.unusedSimpArgs false
structure Moves (S : Nat → Prop) (w W : World) : Prop where
  os : W.os = w.os
  tape : W.tape = w.tape
  output : W.output = w.output
  size : w.heap.size ≤ W.heap.size
  block : ∀ k, k < w.heap.size → ¬ S k → W.heap[k]? = w.heap[k]?
section
variable {S T : Nat → Prop} {w W V : World}
theorem Moves.refl (S : Nat → Prop) (w : World) : Moves S w w := ⟨rfl, rfl, rfl, Nat.le_refl _, fun _ _ _ => rfl⟩
theorem Moves.of_below (h : Below w.heap.size w W) (S : Nat → Prop) : Moves S w W := ⟨h.os, h.tape, h.output, h.size, fun k hk _ => h.block k hk⟩
theorem Moves.then_ (h : Moves S w W) (k : Moves T W V) (ht : ∀ i, T i → S i ∨ w.heap.size ≤ i) : Moves S w V :=
  ⟨k.os.trans h.os, k.tape.trans h.tape, k.output.trans h.output, Nat.le_trans h.size k.size, fun i hi hn => (k.block i (Nat.lt_of_lt_of_le hi h.size) (fun hT => (ht i hT).elim hn (fun hle => absurd hi (by omega)))).trans (h.block i hi hn)⟩
theorem Moves.grown {row : Option Nat} (h : Moves S w W) (hg : W.grownBy V row) (hr : ∀ k, row = some k → S k ∨ w.heap.size ≤ k) : Moves S w V :=
  ⟨hg.os.trans h.os, hg.tape.trans h.tape, hg.output.trans h.output, Nat.le_trans h.size hg.size, fun i hi hn => (hg.block i (Nat.lt_of_lt_of_le hi h.size) (fun he => by
    rcases hr i he.symm with hs | hs
    · exact hn hs
    · omega)).trans (h.block i hi hn)⟩
theorem Moves.below (h : Moves S w W) (hb : Below W.heap.size W V) : Moves S w V := h.then_ (Moves.of_below hb (fun _ => False)) (fun _ h => h.elim)
theorem Moves.alloc (h : Moves S w W) (o : Obj) : Moves S w (W.alloc o) := h.below (below_alloc (Below.refl _ _) o)
theorem Moves.drew (h : Moves S w W) : Moves S w W.drew := ⟨h.os, h.tape, h.output, h.size, h.block⟩
theorem Moves.drewN (h : Moves S w W) (n : Nat) : Moves S w (W.drewN n) := ⟨h.os, h.tape, h.output, h.size, h.block⟩
theorem Moves.setCell (h : Moves S w W) {p : Addr} (hp : S p.block ∨ w.heap.size ≤ p.block) (u : Value) : Moves S w (W.setCell p u) :=
  ⟨h.os, h.tape, h.output, by simpa [World.setCell] using h.size, fun i hi hn => (Below.heap_setCell W p u i (by
    rintro rfl
    rcases hp with hp | hp
    · exact hn hp
    · omega)).trans (h.block i hi hn)⟩
theorem Moves.mono (h : Moves S w W) (hs : ∀ k, S k → T k) : Moves T w W := ⟨h.os, h.tape, h.output, h.size, fun k hk hn => h.block k hk (fun hS => hn (hs k hS))⟩
theorem Moves.toBelow {B : Nat} {w0 : World} (h : Moves S w W) (hb : Below B w0 w) (hB : B ≤ w.heap.size) (hs : ∀ k, S k → B ≤ k) : Below B w0 W :=
  ⟨h.os.trans hb.os, h.tape.trans hb.tape, h.output.trans hb.output, Nat.le_trans hb.size h.size, fun k hk => (h.block k (by omega) (fun hS => by have := hs k hS; omega)).trans (hb.block k hk)⟩
theorem Moves.blk (h : Moves S w W) {g : Nat} {o : Obj} (hg : w.heap[g]? = some o) (hn : ¬ S g) : W.heap[g]? = some o := (h.block g (blk_lt hg) hn).trans hg
theorem Moves.row {α : Type} {d : Kd α} {e base : Nat} {ok : Nat → Prop} {v : Value} {xs : List α} (h : Moves S w W) (hr : d.R e w base ok v xs) (hn : ∀ k, ok k → ¬ S k) : d.R e W base ok v xs := Kd.R_step hr (fun k ho hk => h.block k hk (hn k ho))
end
theorem own_ne {α β : Type} {d : Kd α} {d' : Kd β} {e e' b b' : Nat} {ok ok' : Nat → Prop} {W : World} {v v' : Value} {xs : List α} {ys : List β} (h : d.R e W b ok v xs) (h' : d'.R e' W b' ok' v' ys) (hne : e ≠ e') : ∀ k, v.ownBlock = some k → v'.ownBlock ≠ some k := by
  intro k hk hk'
  obtain ⟨_, i1, o1, _⟩ := h
  obtain ⟨_, i2, o2, _⟩ := h'
  obtain ⟨c1, h1⟩ := own_typed o1 k hk
  obtain ⟨c2, h2⟩ := own_typed o2 k hk'
  rw [h1] at h2
  injection h2 with h2
  injection h2 with _ h2
  exact hne h2
def eLen (n : Nat) : Int := wrap64 (Go.bits .andNot .i64 ((n : Int) + 3) 3 + 16)
def vLen (m : Nat) : Int := Go.bits .andNot .i64 ((m : Int) + 3) 3
/-- What an attribute wants. -/
def need (s : ByteArray) (m : Nat) : Int := wrap64 (eLen (comp s).2.size + vLen m)
theorem entry_len (W : World) (g : Nat) (nm : ByteArray) (i : Int) (v : Value) (hb : W.heap[g]? = some (.cells #[.string nm, .int .u8 i, v] 133 (0, 0))) (hs : nm.size ≤ 2147483647) :
    Calls Tryd.prog 65 #[.pointer (some ⟨g, 0, none⟩)] W fun e w' => e = .returned (.int .i64 (eLen nm.size)) ∧ w' = W := by
  have h0 := blk_cell hb 0
  simp at h0
  go_enter Tryd.func65, Tryd.ntmps65
  go_wp2
  go_ret
  exact ⟨by unfold eLen; rfl, rfl⟩
theorem value_len (W : World) (g : Nat) (nm : ByteArray) (i : Int) (A : Option Addr) (m c : Nat) (hb : W.heap[g]? = some (.cells #[.string nm, .int .u8 i, .slice A m c] 133 (0, 0))) (hs : m ≤ 2147483647) :
    Calls Tryd.prog 66 #[.pointer (some ⟨g, 0, none⟩)] W fun e w' => e = .returned (.int .i64 (vLen m)) ∧ w' = W := by
  have h0 := blk_cell hb 2
  simp at h0
  go_enter Tryd.func66, Tryd.ntmps66
  go_wp2
  go_ret
  exact ⟨by unfold vLen; rfl, rfl⟩
end Go.Proofs.YtckjbgneblfceaaDoor.Fm
namespace Go.Proofs.YtckjbgneblfceaaDoor.Lw
open Go
section
variable {P : Program} {ops : Array Oper} {Q : Exit → Act → World → Prop} {md : Region.Mode} {S0 S1 : World → Prop} {k : Nat}
end
end Go.Proofs.YtckjbgneblfceaaDoor.Lw
namespace Go.Proofs.YtckjbgneblfceaaDoor.Fb
open Go.RowKit Go.Maps Go.Proofs.YtckjbgneblfceaaDoorW.PrintWords Go.Proofs.YtckjbgneblfceaaDoorW.PrintLast Go.Proofs.YtckjbgneblfceaaDoorW.PrintMore Go.Proofs.YtckjbgneblfceaaDoor.PFnFitFirst Go.Proofs.YtckjbgneblfceaaDoor.Fa Go.Proofs.YtckjbgneblfceaaDoor.Fm
set_option linter.unusedVariables false
set_option linter.unusedSimpArgs false
/-- The state: two rows of attributes, and what is left of each place. -/
structure St (base : Nat) (W : World) (g : Nat) (vi vb : Value) (nI nB : Nat) (a b : Int) : Prop where
  blk : W.heap[g]? = some (.cells #[vi, vb, .int .i64 a, .int .i64 b] 107 (0, 0))
  ge : base ≤ g
  ri : ∃ xs, (Kd.raw 3).R 133 W base (fun _ => True) vi xs ∧ xs.length = nI
  rb : ∃ xs, (Kd.raw 3).R 133 W base (fun _ => True) vb xs ∧ xs.length = nB
  ne : ∀ k, vi.ownBlock = some k → vb.ownBlock ≠ some k
/-- The state's blocks. -/
def Ts (g : Nat) (vi vb : Value) (k : Nat) : Prop := k = g ∨ some k = vi.ownBlock ∨ some k = vb.ownBlock
theorem info133 : (Tryd.prog.info? 133).map (fun i => (i.zero, i.size, i.bytes)) = some (some (.agg #[.string ⟨#[]⟩, .int .u8 0, .slice none 0 0]), 3, 48) := by kernel_rfl
theorem St.same {base : Nat} {W W7 : World} {g : Nat} {vi vb : Value} {nI nB : Nat} {a b : Int} (S : St base W g vi vb nI nB a b) (M : Moves (fun _ => False) W W7) : St base W7 g vi vb nI nB a b := by
  obtain ⟨xs, hX, hxl⟩ := S.ri
  obtain ⟨zs, hZ, hzl⟩ := S.rb
  exact ⟨M.blk S.blk (fun h => h), S.ge, ⟨xs, M.row hX (fun _ _ h => h), hxl⟩, ⟨zs, M.row hZ (fun _ _ h => h), hzl⟩, S.ne⟩
end Go.Proofs.YtckjbgneblfceaaDoor.Fb
namespace Go.Proofs.YtckjbgneblfceaaDoor.Fc
open Go.RowKit Go.Maps Go.Proofs.YtckjbgneblfceaaDoorW.PrintWords Go.Proofs.YtckjbgneblfceaaDoorW.PrintLast Go.Proofs.YtckjbgneblfceaaDoorW.PrintMore Go.Proofs.YtckjbgneblfceaaDoor.PFnFitFirst Go.Proofs.YtckjbgneblfceaaDoor.Fa Go.Proofs.YtckjbgneblfceaaDoor.Fm Go.Proofs.YtckjbgneblfceaaDoor.Fb
set_option linter.unusedVariables false
set_option linter.unusedSimpArgs false
theorem info33 : (Tryd.prog.info? 33).map (fun i => (i.zero, i.size, i.bytes)) = some (some (.slice none 0 0), 1, 24) := by kernel_rfl
theorem info9 : (Tryd.prog.info? 9).map (fun i => (i.zero, i.size, i.bytes)) = some (some (.string ⟨#[]⟩), 1, 16) := by kernel_rfl
theorem info5 : (Tryd.prog.info? 5).map (fun i => (i.zero, i.size, i.bytes)) = some (some (.int .u8 0), 1, 1) := by kernel_rfl
section
variable {ops : Array Oper} {rest : List Oper} {o : Oper} {a : Act} {Q : Exit → Act → World → Prop}
theorem app_str1 {W wb : World} (base : Nat) (hgd : o.guard = none) (s x : Operand) (ho : o.op = .call { callee := .builtin .append, args := #[s, x], argTypes := #[64, 64] })
    (v : Value) (xs : List ByteArray) (p : ByteArray) (hs : a.eval s = v) {g : Nat} (hx : a.eval x = .slice (some ⟨g, 0, none⟩) 1 1) (hgs : W.heap.size = g)
    (HO : Kd.string.R 9 W base (fun _ => True) v xs) (HB : Below base wb W) (hbase : base ≤ W.heap.size) (hl : xs.length ≤ 1000)
    (h : ∀ A1 c1 w1, Kd.string.R 9 w1 base (fun _ => True) (.slice A1 (xs ++ [p]).length c1) (xs ++ [p]) → Below base wb w1 → W.grownBy w1 v.ownBlock → wpList Tryd.prog ops Q rest (a.put o.dst (.slice A1 (xs ++ [p]).length c1)) w1) :
    wpList Tryd.prog ops Q (o :: rest) a (W.alloc (.cells #[.string p] 9)) := by
  subst hgs
  refine Kd.R_append Kd.string (w0 := wb) base hgd s x 64 9 _ 16 ho Tryd.underlying64 info9 rfl (by decide) (by decide) v xs p [.string p] (fun _ => True) (fun _ => False) hs hx rfl (fun _ hk => hk.elim) (fun _ _ => trivial) HO HB hbase (by omega) ?_
  intro v1 w1 h1 hb h2 _
  obtain ⟨A1, c1, e1, _, _⟩ := Kd.R_reads h1
  subst e1
  exact h A1 c1 w1 h1 hb h2
theorem copy_bytes {W wb : World} (base : Nat) (hgd : o.guard = none) (s x : Operand) (ho : o.op = .call { callee := .builtin .append, args := #[s, x], argTypes := #[33, 33] })
    (ys : List Int) (A : Option Addr) (m c : Nat) (hs : a.eval s = .slice none 0 0) (hx : a.eval x = .slice A m c) (HR : (Kd.int .u8).C W A m ys) (HB : Below base wb W) (hbase : base ≤ W.heap.size) (hl : m ≤ 2147483647)
    (h : ∀ A1 c1 w1, (Kd.int .u8).R 5 w1 base (fun _ => True) (.slice A1 m c1) ys → Below base wb w1 → W.grownBy w1 none → wpList Tryd.prog ops Q rest (a.put o.dst (.slice A1 m c1)) w1) :
    wpList Tryd.prog ops Q (o :: rest) a W := by
  refine Kd.R_append_rows (Kd.int .u8) (w0 := wb) base hgd s x 33 5 (.int .u8 0) 1 ho Tryd.underlying33 info5 rfl (by decide) (by decide) (.slice none 0 0) [] ys A m c (fun _ => True) (fun _ => False) hs hx (Kd.R_nil _ _ _ _ _) HR (fun x cs hc => hc) (fun _ hk => hk.elim) (fun _ _ => trivial) HB hbase (by simp; omega) ?_
  intro v1 w1 h1 hb h2 _
  rw [List.nil_append] at h1
  obtain ⟨A1, c1, e1, _, _⟩ := Kd.R_reads h1
  rw [HR.1] at e1
  subst e1
  exact h A1 c1 w1 h1 hb h2
end
theorem take_succ {α β : Type} (f : α → β) (l : List α) (i : Nat) (z : α) (h : i < l.length) : (l.map f).take (i + 1) = (l.map f).take i ++ [f (l.getD i z)] := by
  rw [List.take_add_one]
  congr 1
  rw [List.getD_eq_getElem?_getD, List.getElem?_map, List.getElem?_eq_getElem h]
  rfl
end Go.Proofs.YtckjbgneblfceaaDoor.Fc
namespace Go.Proofs.YtckjbgneblfceaaDoor.Fd
open Go.RowKit Go.Maps Go.Proofs.YtckjbgneblfceaaDoorW.PrintWords Go.Proofs.YtckjbgneblfceaaDoorW.PrintLast Go.Proofs.YtckjbgneblfceaaDoorW.PrintMore Go.Proofs.YtckjbgneblfceaaDoor.PFnFitFirst Go.Proofs.YtckjbgneblfceaaDoor.Fa Go.Proofs.YtckjbgneblfceaaDoor.Fm Go.Proofs.YtckjbgneblfceaaDoor.Fb Go.Proofs.YtckjbgneblfceaaDoor.Fc
set_option linter.unusedVariables false
set_option linter.unusedSimpArgs false
theorem at_str {w : World} {A : Option Addr} {n : Nat} {xs : List ByteArray} (h : Kd.string.C w A n xs) (i : Nat) (h1 : i < n) : ∃ ad, A = some ad ∧ w.cell? (ad.add i) = some (.string (xs.getD i ⟨#[]⟩)) := by
  obtain ⟨ad, c, e, _, hK, hc0⟩ := Kd.C_get h (⟨#[]⟩ : ByteArray) (i : Int) (by omega) (by omega)
  have hc : ∀ j u, c[j]? = some u → w.cell? (ad.add (i * 1 + j)) = some u := hc0
  have hK : c = [.string (xs.getD i ⟨#[]⟩)] := hK
  exact ⟨ad, e, by have hq := hc 0 (.string (xs.getD i ⟨#[]⟩)) (by rw [hK]; rfl); rwa [Nat.mul_one, Nat.add_zero] at hq⟩
/-- A row of another type is none of the state's blocks. -/
theorem St.far {α : Type} {d : Kd α} {base e b0 : Nat} {W : World} {ok : Nat → Prop} {g : Nat} {vi vb v : Value} {nI nB : Nat} {a b : Int} {xs : List α} (S : St base W g vi vb nI nB a b) (h : d.R e W b0 ok v xs) (h1 : e ≠ 133) (h2 : e ≠ 107) : ∀ k, some k = v.ownBlock → ¬ Ts g vi vb k := by
  obtain ⟨xs1, hX, _⟩ := S.ri
  obtain ⟨zs1, hZ, _⟩ := S.rb
  intro k hk hT
  rcases hT with rfl | hT | hT
  · exact Kd.R_ne h S.blk h2 hk
  · exact own_ne h hX h1 k hk.symm hT.symm
  · exact own_ne h hZ h1 k hk.symm hT.symm
end Go.Proofs.YtckjbgneblfceaaDoor.Fd
namespace Go.Proofs.YtckjbgneblfceaaDoor.Fe
open Go.RowKit Go.Maps Go.Proofs.YtckjbgneblfceaaDoorW.PrintWords Go.Proofs.YtckjbgneblfceaaDoorW.PrintLast Go.Proofs.YtckjbgneblfceaaDoorW.PrintMore Go.Proofs.YtckjbgneblfceaaDoor.PFnFitFirst Go.Proofs.YtckjbgneblfceaaDoor.Fa Go.Proofs.YtckjbgneblfceaaDoor.Fm Go.Proofs.YtckjbgneblfceaaDoor.Fb Go.Proofs.YtckjbgneblfceaaDoor.Fc Go.Proofs.YtckjbgneblfceaaDoor.Fd
set_option linter.unusedVariables false
set_option linter.unusedSimpArgs false
/-- Rows of which the elements lead to what lay in w0. -/
def Kf {α : Type} (d : Kd α) (w0 : World) : Kd α := Kd.fixed d w0
theorem Kf_C {α : Type} {d : Kd α} {w0 W : World} {A : Option Addr} {n : Nat} {xs : List α} (h : (Kf d w0).C W A n xs) (hb : Below w0.heap.size w0 W) : d.C W A n xs := by
  unfold Kd.C at h ⊢
  exact h.imp_ (Below.refl _ _) (fun _ _ hp => d.K_below hb hp)
theorem app70 {ops : Array Oper} {rest : List Oper} {o : Oper} {a : Act} {Q : Exit → Act → World → Prop} {W w0 wb : World} (base : Nat) (hgd : o.guard = none) (s x : Operand) (ho : o.op = .call { callee := .builtin .append, args := #[s, x], argTypes := #[27, 27] })
    (v : Value) (xs : List S70) (p : S70) (A1 : Option Addr) (c1 : Nat) (hs : a.eval s = v) {g : Nat} (hx : a.eval x = .slice (some ⟨g, 0, none⟩) 1 1) (hgs : W.heap.size = g) (l1 : p.f1.length ≤ c1) (g1 : (Kd.int .u8).C w0 A1 p.f1.length p.f1)
    (HO : (Kf k70 w0).R 70 W base (fun _ => True) v xs) (HB : Below base wb W) (hbase : base ≤ W.heap.size) (hl : xs.length ≤ 1000)
    (h : ∀ v1 w1, (Kf k70 w0).R 70 w1 base (fun _ => True) v1 (xs ++ [p]) → Below base wb w1 → wpList Tryd.prog ops Q rest (a.put o.dst v1) w1) :
    wpList Tryd.prog ops Q (o :: rest) a (W.alloc (.cells #[.string p.f0, .slice A1 p.f1.length c1] 70)) := by
  subst hgs
  refine Kd.R_append (Kf k70 w0) (w0 := wb) base hgd s x 27 70 _ 40 ho Tryd.underlying27 info70 rfl (by show 0 < 2; decide) (by decide) v xs p [.string p.f0, .slice A1 p.f1.length c1] (fun _ => True) (fun _ => False) hs hx (k70_mk w0 p l1 g1) (fun _ hk => hk.elim) (fun _ _ => trivial) HO HB hbase (by omega) ?_
  intro v1 w1 h1 hb _ _
  exact h v1 w1 h1 hb
def to70 (x : S58) : S70 := ⟨x.f0, x.f1⟩
theorem at58b {w w1 : World} {A : Option Addr} {n : Nat} {xs : List S58} (h : k58.C w A n xs) (hb : Below w.heap.size w w1) (i : Nat) (h1 : i < n) : ∃ ad A1 c1, A = some ad ∧ w1.cell? (ad.add (i * 2)) = some (.string (xs.getD i z58).f0) ∧ w1.cell? ⟨(ad.add (i * 2)).block, (ad.add (i * 2)).off + 1, none⟩ = some (.slice A1 (xs.getD i z58).f1.length c1) ∧ (xs.getD i z58).f1.length ≤ c1 ∧ (Kd.int .u8).C w A1 (xs.getD i z58).f1.length (xs.getD i z58).f1 := by
  obtain ⟨ad, A1, c1, e, k0, k1, l1, g1⟩ := at_T58 h (i : Int) (by omega) (by omega)
  unfold rd_T58 at k0 k1 l1 g1
  rw [Int.toNat_natCast] at k0 k1 l1 g1
  exact ⟨ad, A1, c1, e, cellb0 k0 hb, cellb0 k1 hb, l1, g1⟩
theorem at70b {w w1 : World} {A : Option Addr} {n : Nat} {xs : List S70} (h : k70.C w A n xs) (hb : Below w.heap.size w w1) (i : Nat) (h1 : i < n) : ∃ ad A1 c1, A = some ad ∧ w1.cell? (ad.add (i * 2)) = some (.string (xs.getD i z70).f0) ∧ w1.cell? ⟨(ad.add (i * 2)).block, (ad.add (i * 2)).off + 1, none⟩ = some (.slice A1 (xs.getD i z70).f1.length c1) ∧ (xs.getD i z70).f1.length ≤ c1 ∧ (Kd.int .u8).C w A1 (xs.getD i z70).f1.length (xs.getD i z70).f1 := by
  obtain ⟨ad, A1, c1, e, k0, k1, l1, g1⟩ := at_T70 h (i : Int) (by omega) (by omega)
  unfold rd_T70 at k0 k1 l1 g1
  rw [Int.toNat_natCast] at k0 k1 l1 g1
  exact ⟨ad, A1, c1, e, cellb0 k0 hb, cellb0 k1 hb, l1, g1⟩
set_option maxHeartbeats 4000000 in
set_option maxRecDepth 100000 in
theorem same_calls (W : World) (l : List S58) (A B : Option Addr) (c d : Nat) (hC : k58.C W A l.length l) (hD : k70.C W B l.length (l.map to70)) :
    Calls Tryd.prog 10 #[.slice A l.length c, .slice B l.length d] W fun e w' => e = .returned (.bool true) ∧ Below W.heap.size W w' := by
  have HC := Lib.hid hC
  have HD := Lib.hid hD
  have hmx := hC.2.1
  obtain ⟨n, hn⟩ : ∃ n, n = l.length := ⟨_, rfl⟩
  rw [← hn] at HC HD hmx ⊢
  have HN := Lib.hid hn
  clear hC hD hn
  go_enter Tryd.func10, Tryd.ntmps10
  go_wp2_with fail
  go_loopw [13] (fun v13 wr => ∃ i : Nat, v13 = .int .i64 i ∧ i ≤ n ∧ Hid (Below W.heap.size W wr)) (fun v13 _ => n - (intOf v13).toNat)
  case atStart => exact ⟨0, rfl, Nat.zero_le _, Lib.hid (Below.refl _ _)⟩
  case round =>
    obtain ⟨i, rfl, hi, BI⟩ := hrel
    by_cases hlt : i < n
    · have hlt' : (i : Int) < (n : Int) := by omega
      obtain ⟨ad, B1, d1, eA, k0, k1, m1, g1⟩ := at58b HC.out BI.out i hlt
      obtain ⟨bd, B2, d2, eB, j0, j1, m2, g2⟩ := at70b HD.out BI.out i hlt
      have ex : (l.map to70).getD i z70 = to70 (l.getD i z58) := by
        rw [List.getD_eq_getElem?_getD, List.getD_eq_getElem?_getD, List.getElem?_map, List.getElem?_eq_getElem (by rw [← HN.out]; exact hlt)]
        rfl
      rw [ex] at j0 j1 m2 g2
      obtain ⟨x, hx⟩ : ∃ x, x = l.getD i z58 := ⟨_, rfl⟩
      rw [← hx] at k0 k1 m1 g1 j0 j1 m2 g2
      subst eA eB
      have j0 : wr.cell? (bd.add (i * 2)) = some (.string x.f0) := j0
      have j1 : wr.cell? ⟨(bd.add (i * 2)).block, (bd.add (i * 2)).off + 1, none⟩ = some (.slice B2 x.f1.length d2) := j1
      have SS := Lib.hid (show ∀ w1, Below wr.heap.size wr w1 → (fun w' => w'.cell? (ad.add (i * 2)) = some (.string x.f0) ∧ w'.cell? ⟨(ad.add (i * 2)).block, (ad.add (i * 2)).off + 1, none⟩ = some (.slice B1 x.f1.length d1) ∧ w'.cell? (bd.add (i * 2)) = some (.string x.f0) ∧ w'.cell? ⟨(bd.add (i * 2)).block, (bd.add (i * 2)).off + 1, none⟩ = some (.slice B2 x.f1.length d2) ∧ (convert 33 9 (.slice B1 x.f1.length d1)).run Tryd.prog w' = .ok (.string (strOfNums x.f1)) w' ∧ (convert 33 9 (.slice B2 x.f1.length d2)).run Tryd.prog w' = .ok (.string (strOfNums x.f1)) w') w1 from fun w1 hb =>
        ⟨cellb0 k0 hb, cellb0 k1 hb, cellb0 j0 hb, cellb0 j1 hb, Kd.C_string (dst := 9) Tryd.underlying33 Tryd.underlying5 Tryd.underlying9 (Kd.C_below g1 (below_then BI.out BI.out.size hb)) (c := d1), Kd.C_string (dst := 9) (P := Tryd.prog) Tryd.underlying33 Tryd.underlying5 Tryd.underlying9 (Kd.C_below g2 (below_then BI.out BI.out.size hb)) (c := d2)⟩)
      have S3 := Lib.hid (SS.out wr.drew (below_drew1 (Below.refl _ _)))
      clear k0 k1 j0 j1 g1 g2 m1 m2 hx ex
      go_upto_region 6 with (fail)
      go_region_held3 (fun w' => w'.cell? (ad.add (i * 2)) = some (.string x.f0) ∧ w'.cell? ⟨(ad.add (i * 2)).block, (ad.add (i * 2)).off + 1, none⟩ = some (.slice B1 x.f1.length d1) ∧ w'.cell? (bd.add (i * 2)) = some (.string x.f0) ∧ w'.cell? ⟨(bd.add (i * 2)).block, (bd.add (i * 2)).off + 1, none⟩ = some (.slice B2 x.f1.length d2) ∧ (convert 33 9 (.slice B1 x.f1.length d1)).run Tryd.prog w' = .ok (.string (strOfNums x.f1)) w' ∧ (convert 33 9 (.slice B2 x.f1.length d2)).run Tryd.prog w' = .ok (.string (strOfNums x.f1)) w')
        (first | exact S3.out | go_keep)
        (fail)
      go_wp2_with fail
      go_roundw
      case rel => exact ⟨i + 1, by push_cast; rfl, hlt, Lib.hid (below_then BI.out BI.out.size (below_drew1 (Below.refl _ _)))⟩
      case measure => simp only [intOf]; omega
    · obtain rfl : i = n := by omega
      go_wp2_with fail
      go_ret
      exact ⟨rfl, BI.out⟩
end Go.Proofs.YtckjbgneblfceaaDoor.Fe
namespace Go.Proofs.YtckjbgneblfceaaDoor.Ca
open Go.RowKit Go.Maps Go.Proofs.YtckjbgneblfceaaDoorW.PrintWords Go.Proofs.YtckjbgneblfceaaDoorW.PrintLast Go.Proofs.YtckjbgneblfceaaDoorW.PrintMore
open Go.Proofs.YtckjbgneblfceaaDoorW.PrintWords.Kd
open Go.Proofs.YtckjbgneblfceaaDoor.Fa Go.Proofs.YtckjbgneblfceaaDoor.Fm
set_option linter.unusedVariables false
set_option linter.unusedSimpArgs false
section
variable {P : Program}
variable {ops : Array Oper} {o : Oper} {a : Act} {Q : Exit → Act → World → Prop} {Kc : Act → World → Prop}
end
end Go.Proofs.YtckjbgneblfceaaDoor.Ca
namespace Go.Proofs.YtckjbgneblfceaaDoor.Cb
open Go.RowKit Go.Maps Go.Proofs.YtckjbgneblfceaaDoorW.PrintWords Go.Proofs.YtckjbgneblfceaaDoorW.PrintLast Go.Proofs.YtckjbgneblfceaaDoorW.PrintMore Go.Proofs.YtckjbgneblfceaaDoor.Fa Go.Proofs.YtckjbgneblfceaaDoor.Fm Go.Proofs.YtckjbgneblfceaaDoor.Ca
set_option linter.unusedVariables false
set_option linter.unusedSimpArgs false
/-- An open file, its node and bytes as they lay in w0; the named errors. -/
structure Fl (w0 : World) (f d : Nat) (pos : Nat) (Ad : Option Addr) (cd : Nat) (data : List Int) (a1 a2 : Addr) (W : World) : Prop where
  hf : W.heap[f]? = some (.cells #[.int .i64 (pos : Int), .int .i64 0, .bool false, .bool true, .pointer (some ⟨d, 0, none⟩)] 123 (0, 0))
  hd : w0.cell? ⟨d, 1, none⟩ = some (.slice Ad data.length cd)
  hC : (Kd.int .u8).C w0 Ad data.length data
  hl : data.length ≤ cd
  g5 : w0.cell? ⟨5, 0, none⟩ = some (.iface 156 (.pointer (some a1)))
  g6 : w0.cell? ⟨6, 0, none⟩ = some (.iface 156 (.pointer (some a2)))
  bel : Below w0.heap.size w0 W
  ge : w0.heap.size ≤ f
section
variable {w0 : World} {f d pos : Nat} {Ad : Option Addr} {cd : Nat} {data : List Int} {a1 a2 : Addr} {W V : World}
theorem Fl.c0 (F : Fl w0 f d pos Ad cd data a1 a2 W) : W.cell? ⟨f, 0, none⟩ = some (.int .i64 (pos : Int)) := blk_cell F.hf 0
theorem Fl.c2 (F : Fl w0 f d pos Ad cd data a1 a2 W) : W.cell? ⟨f, 2, none⟩ = some (.bool false) := blk_cell F.hf 2
theorem Fl.c4 (F : Fl w0 f d pos Ad cd data a1 a2 W) : W.cell? ⟨f, 4, none⟩ = some (.pointer (some ⟨d, 0, none⟩)) := blk_cell F.hf 4
theorem Fl.n1 (F : Fl w0 f d pos Ad cd data a1 a2 W) : W.cell? ⟨d, 1, none⟩ = some (.slice Ad data.length cd) := cellb0 F.hd F.bel
theorem Fl.grown (F : Fl w0 f d pos Ad cd data a1 a2 W) {row : Option Nat} (hg : W.grownBy V row) (h1 : some f ≠ row) (h2 : ∀ k, row = some k → w0.heap.size ≤ k) : Fl w0 f d pos Ad cd data a1 a2 V :=
  ⟨blk_grown F.hf hg h1, F.hd, F.hC, F.hl, F.g5, F.g6, F.bel.grown hg F.bel.size h2, F.ge⟩
theorem Fl.below (F : Fl w0 f d pos Ad cd data a1 a2 W) (hb : Below W.heap.size W V) : Fl w0 f d pos Ad cd data a1 a2 V :=
  ⟨blk_below F.hf hb, F.hd, F.hC, F.hl, F.g5, F.g6, below_then F.bel F.bel.size hb, F.ge⟩
theorem Fl.drew (F : Fl w0 f d pos Ad cd data a1 a2 W) : Fl w0 f d pos Ad cd data a1 a2 W.drew := F.below (below_drew1 (Below.refl _ _))
theorem Fl.drewN (F : Fl w0 f d pos Ad cd data a1 a2 W) (m : Nat) : Fl w0 f d pos Ad cd data a1 a2 (W.drewN m) := F.below (pw_below_drewN (Below.refl _ _) m)
theorem Fl.set (F : Fl w0 f d pos Ad cd data a1 a2 W) (x : Nat) : Fl w0 f d x Ad cd data a1 a2 (W.setCell ⟨f, 0, none⟩ (.int .i64 (x : Int))) :=
  ⟨by simpa using blk_set F.hf 0 (.int .i64 (x : Int)), F.hd, F.hC, F.hl, F.g5, F.g6, below_set F.bel F.ge, F.ge⟩
end
end Go.Proofs.YtckjbgneblfceaaDoor.Cb
namespace Go.Proofs.YtckjbgneblfceaaDoor.PFnContainsSlice
open Go.RowKit Go.Proofs.YtckjbgneblfceaaDoorW.PrintWords Go.Proofs.YtckjbgneblfceaaDoorW.PrintLast Go.Proofs.YtckjbgneblfceaaDoorW.PrintMore
attribute [local go_sem] max2_int min2_int max_two min_two max_three min_three max_four min_four   -- for this text's walks alone
set_option linter.unusedVariables false
set_option linter.unusedSimpArgs false
def errW : Option Int → Value
  | none => .nilIface
  | some c => .iface 0 (.int .i64 c)
theorem errW_none : errW none = .nilIface := rfl
theorem errW_some (c : Int) : errW (some c) = .iface 0 (.int .i64 c) := rfl
def rd_L1 (xs : List (List Int)) (i : Int) : (List Int) := xs.getD i.toNat ([] : List Int)
theorem at_L1 {w : World} {A : Option Addr} {n : Nat} {xs : List (List Int)} (h : Kd.C (Kd.slice 5 (Kd.int .u8)) w A n xs) (i : Int) (h0 : 0 ≤ i) (h1 : i < n) : ∃ ad A0 c0, A = some ad ∧ w.cell? (ad.add i.toNat) = some (.slice A0 (rd_L1 xs i).length c0) ∧ (rd_L1 xs i).length ≤ c0 ∧ (Kd.int .u8).C w A0 (rd_L1 xs i).length (rd_L1 xs i) := by
  obtain ⟨ad, c, e, _, hK, hc0⟩ := Kd.C_get h ([] : List Int) i h0 h1
  have hc : ∀ j u, c[j]? = some u → w.cell? (ad.add (i.toNat * 1 + j)) = some u := hc0
  obtain ⟨A0, c0, rfl, l0, g0⟩ := hK
  exact ⟨ad, A0, c0, e, by have hq := hc 0 _ rfl; rwa [Nat.mul_one, Nat.add_zero] at hq, l0, g0⟩
end Go.Proofs.YtckjbgneblfceaaDoor.PFnContainsSlice
namespace Go.Proofs.YtckjbgneblfceaaDoor.PFnContainsSlice
open Go.RowKit Go.Proofs.YtckjbgneblfceaaDoorW.PrintWords Go.Proofs.YtckjbgneblfceaaDoorW.PrintLast Go.Proofs.YtckjbgneblfceaaDoorW.PrintMore
attribute [local go_sem] max2_int min2_int max_two min_two max_three min_three max_four min_four   -- for this text's walks alone
set_option linter.unusedVariables false
set_option linter.unusedSimpArgs false
def laws_zzFits9.l0 : Nat → List (List Int) → Int → Int → Option (Bool)
  | 0, _, _, _ => none
  | k + 1, x8, x9, x10 => if x10 < x9 then (if 0 ≤ x10 then (if x10 < (x8.length : Int) then (if ((rd_L1 x8 x10).length : Int) > 2147483647 then (some false) else (laws_zzFits9.l0 k x8 x9 (wrap64 (x10 + 1)))) else (none)) else (none)) else (some true)
def laws_zzFits9.f (k : Nat) (l0 : List (List Int)) : Option (Bool) := if (l0.length : Int) > 2147483647 then (some false) else (laws_zzFits9.l0 k l0 (l0.length : Int) 0)
theorem laws_zzFits9.mono_l : ∀ k, (∀ y0 y1 y2, LeO (laws_zzFits9.l0 k y0 y1 y2) (laws_zzFits9.l0 (k + 1) y0 y1 y2))
  | 0 => fun _ _ _ r h => by simp [laws_zzFits9.l0] at h
  | k + 1 => by
    have ih0 := laws_zzFits9.mono_l k
    · intro y0 y1 y2
      unfold laws_zzFits9.l0
      repeat' first
      | (with_reducible exact ih0 _ _ _)
      | (with_reducible exact LeO.refl _)
      | (with_reducible exact LeO.none _)
      | (with_reducible refine LeO.ite ?_ ?_)
      | (with_reducible refine LeO.bind ?_ (fun _ => ?_))
      | exact ih0 _ _ _
      | exact LeO.none _
      | refine LeO.ite ?_ ?_
      | refine LeO.bind ?_ (fun _ => ?_)
theorem laws_zzFits9.mono : ∀ a0 k, LeO (laws_zzFits9.f k a0) (laws_zzFits9.f (k + 1) a0) := by
  intro a0 k
  have ih0 := laws_zzFits9.mono_l k
  unfold laws_zzFits9.f
  repeat' first
      | (with_reducible exact ih0 _ _ _)
      | (with_reducible exact LeO.refl _)
      | (with_reducible exact LeO.none _)
      | (with_reducible refine LeO.ite ?_ ?_)
      | (with_reducible refine LeO.bind ?_ (fun _ => ?_))
      | exact ih0 _ _ _
      | exact LeO.none _
      | refine LeO.ite ?_ ?_
      | refine LeO.bind ?_ (fun _ => ?_)
set_option maxHeartbeats 8000000 in
set_option maxRecDepth 100000 in
theorem laws_zzFits9.calls (k : Nat) (A0 : Option Addr) (c0 : Nat) (l0 : List (List Int)) (r : Bool) (w : World) (hr0 : Kd.C (Kd.slice 5 (Kd.int .u8)) w A0 l0.length l0) (hc0 : l0.length ≤ c0) (h : laws_zzFits9.f k l0 = some r) :
    Calls Tryd.prog 16 #[.slice A0 l0.length c0] w fun e w' => e = .returned (.bool r) ∧ Drawn0 w w' := by
  have HR0 := Aside0.mk hr0
  have HC0 := Aside0.mk hc0
  clear hr0 hc0
  have H : (if (l0.length : Int) > 2147483647 then (some false) else (laws_zzFits9.l0 k l0 (l0.length : Int) 0)) = some r := h
  clear h
  by_cases c2 : (l0.length : Int) > 2147483647
  · rw [if_pos c2] at H
    have c2b0 : decide (2147483647 < (l0.length : Int)) = true := decide_eq_true c2
    have c2b1 : decide (2147483647 < l0.length) = true := decide_eq_true (by omega)
    clear c2
    obtain rfl := Option.some.inj H
    go_enter Tryd.func16, Tryd.ntmps16
    go_wp2
    go_ret
    exact ⟨by first | rfl | (simp; done) | (simp [*]; done), by repeat (first | exact Drawn0.refl _ | apply Drawn0.step)⟩
  · rw [if_neg c2] at H
    have c2b0 : decide (2147483647 < (l0.length : Int)) = false := decide_eq_false c2
    have c2b1 : decide (2147483647 < l0.length) = false := decide_eq_false (by omega)
    clear c2
    have H' := Aside0.mk H
    clear H
    go_enter Tryd.func16, Tryd.ntmps16
    go_wp2
    go_loopg [10] k (fun kq v10 w' => ∃ (x10_1 : Int), v10 = .int .i64 x10_1 ∧ Aside0 (laws_zzFits9.l0 kq l0 (l0.length : Int) x10_1 = some r) ∧ Aside0 (kq ≤ k) ∧ Drawn0 w w')
    case atStart => exact ⟨(0), (by first | rfl | (simp; done) | (simp [*]; done)), H', ⟨Nat.le_refl _⟩, by repeat (first | exact Drawn0.refl _ | apply Drawn0.step)⟩
    case round =>
      clear H'
      try clear c1
      try clear c2
      try clear c2b0
      try clear c2b1
      try clear p2
      obtain ⟨x10_1, rfl, HA, HK1, ⟨m1, rfl⟩⟩ := hrel
      cases gk with
      | zero => exact absurd HA.out (by simp [laws_zzFits9.l0])
      | succ k1 =>
        have H := HA.out
        clear HA
        simp only [laws_zzFits9.l0] at H
        by_cases c3 : x10_1 < (l0.length : Int)
        · rw [if_pos c3] at H
          have c3b0 : decide (x10_1 < (l0.length : Int)) = true := decide_eq_true c3
          clear c3
          by_cases c4 : 0 ≤ x10_1
          · rw [if_pos c4] at H
            have c4b0 : decide (0 ≤ x10_1) = true := decide_eq_true c4
            clear c4
            by_cases c5 : x10_1 < (l0.length : Int)
            · rw [if_pos c5] at H
              have c5b0 : decide (x10_1 < (l0.length : Int)) = true := decide_eq_true c5
              clear c5
              by_cases c6 : ((rd_L1 l0 x10_1).length : Int) > 2147483647
              · rw [if_pos c6] at H
                have c6b0 : decide (2147483647 < ((rd_L1 l0 x10_1).length : Int)) = true := decide_eq_true c6
                have c6b1 : decide (2147483647 < (rd_L1 l0 x10_1).length) = true := decide_eq_true (by omega)
                clear c6
                obtain rfl := Option.some.inj H
                have p101 : 0 ≤ (x10_1 : Int) := of_decide_eq_true (by first | (with_reducible assumption) | assumption)
                have q101 : x10_1 < (l0.length : Int) := of_decide_eq_true (by first | (with_reducible assumption) | assumption)
                obtain ⟨ad101, A101_0, c101_0, e101, hx101_0, hl101_0, hi101_0⟩ := at_L1 HR0.out x10_1 p101 q101
                cases e101
                have HR101_0 := Aside0.mk hi101_0
                have HC101_0 := Aside0.mk hl101_0
                clear hi101_0 hl101_0
                replace p101 := eq_true p101
                replace q101 := eq_true q101
                go_wp2
                go_ret
                exact ⟨by first | rfl | (simp; done) | (simp [*]; done), by repeat (first | exact Drawn0.refl _ | apply Drawn0.step)⟩
              · rw [if_neg c6] at H
                have c6b0 : decide (2147483647 < ((rd_L1 l0 x10_1).length : Int)) = false := decide_eq_false c6
                have c6b1 : decide (2147483647 < (rd_L1 l0 x10_1).length) = false := decide_eq_false (by omega)
                clear c6
                have H' := Aside0.mk H
                clear H
                have p101 : 0 ≤ (x10_1 : Int) := of_decide_eq_true (by first | (with_reducible assumption) | assumption)
                have q101 : x10_1 < (l0.length : Int) := of_decide_eq_true (by first | (with_reducible assumption) | assumption)
                obtain ⟨ad101, A101_0, c101_0, e101, hx101_0, hl101_0, hi101_0⟩ := at_L1 HR0.out x10_1 p101 q101
                cases e101
                have HR101_0 := Aside0.mk hi101_0
                have HC101_0 := Aside0.mk hl101_0
                clear hi101_0 hl101_0
                replace p101 := eq_true p101
                replace q101 := eq_true q101
                go_wp2
                go_roundg k1
                case measure => have := HK1.out; omega
                case rel => exact ⟨(wrap64 (x10_1 + 1)), (by first | rfl | (simp; done) | (simp [*]; done)), H', ⟨by have := HK1.out; omega⟩, by repeat (first | exact Drawn0.refl _ | apply Drawn0.step)⟩
            · rw [if_neg c5] at H
              exact absurd H (by simp)
          · rw [if_neg c4] at H
            exact absurd H (by simp)
        · rw [if_neg c3] at H
          have c3b0 : decide (x10_1 < (l0.length : Int)) = false := decide_eq_false c3
          clear c3
          obtain rfl := Option.some.inj H
          go_wp2
          go_ret
          exact ⟨by first | rfl | (simp; done) | (simp [*]; done), by repeat (first | exact Drawn0.refl _ | apply Drawn0.step)⟩
def afero_zzIndex.l0 : Nat → ByteArray → ByteArray → Int → Option (Int)
  | 0, _, _, _ => none
  | k + 1, x0, x1, x5 => if (wrap64 (x5 + (x1.size : Int))) ≤ (x0.size : Int) then (if 0 ≤ x5 then (if x5 ≤ (wrap64 (x5 + (x1.size : Int))) then (if (x0.extract (x5 : Int).toNat ((wrap64 (x5 + (x1.size : Int))) : Int).toNat).toList = x1.toList then (some x5) else (afero_zzIndex.l0 k x0 x1 (wrap64 (x5 + 1)))) else (none)) else (none)) else (some (-1))
def afero_zzIndex.f (k : Nat) (a0 : ByteArray) (a1 : ByteArray) : Option (Int) := afero_zzIndex.l0 k a0 a1 0
theorem afero_zzIndex.mono_l : ∀ k, (∀ y0 y1 y2, LeO (afero_zzIndex.l0 k y0 y1 y2) (afero_zzIndex.l0 (k + 1) y0 y1 y2))
  | 0 => fun _ _ _ r h => by simp [afero_zzIndex.l0] at h
  | k + 1 => by
    have ih0 := afero_zzIndex.mono_l k
    · intro y0 y1 y2
      unfold afero_zzIndex.l0
      repeat' first
      | (with_reducible exact ih0 _ _ _)
      | (with_reducible exact LeO.refl _)
      | (with_reducible exact LeO.none _)
      | (with_reducible refine LeO.ite ?_ ?_)
      | (with_reducible refine LeO.bind ?_ (fun _ => ?_))
      | exact ih0 _ _ _
      | exact LeO.none _
      | refine LeO.ite ?_ ?_
      | refine LeO.bind ?_ (fun _ => ?_)
theorem afero_zzIndex.mono : ∀ a0 a1 k, LeO (afero_zzIndex.f k a0 a1) (afero_zzIndex.f (k + 1) a0 a1) := by
  intro a0 a1 k
  have ih0 := afero_zzIndex.mono_l k
  unfold afero_zzIndex.f
  repeat' first
      | (with_reducible exact ih0 _ _ _)
      | (with_reducible exact LeO.refl _)
      | (with_reducible exact LeO.none _)
      | (with_reducible refine LeO.ite ?_ ?_)
      | (with_reducible refine LeO.bind ?_ (fun _ => ?_))
      | exact ih0 _ _ _
      | exact LeO.none _
      | refine LeO.ite ?_ ?_
      | refine LeO.bind ?_ (fun _ => ?_)
set_option maxHeartbeats 8000000 in
set_option maxRecDepth 100000 in
theorem afero_zzIndex.calls (k : Nat) (a0 : ByteArray) (a1 : ByteArray) (r : Int) (w : World) (h : afero_zzIndex.f k a0 a1 = some r) :
    Calls Tryd.prog 78 #[.string a0, .string a1] w fun e w' => e = .returned (.int .i64 r) ∧ Drawn0 w w' := by
  have H : (afero_zzIndex.l0 k a0 a1 0) = some r := h
  clear h
  have H' := Aside0.mk H
  clear H
  go_enter Tryd.func78, Tryd.ntmps78
  go_wp2
  go_loopg [5] k (fun kq v5 w' => ∃ (x5_1 : Int), v5 = .int .i64 x5_1 ∧ Aside0 (afero_zzIndex.l0 kq a0 a1 x5_1 = some r) ∧ Aside0 (kq ≤ k) ∧ Drawn0 w w')
  case atStart => exact ⟨(0), (by first | rfl | (simp; done) | (simp [*]; done)), H', ⟨Nat.le_refl _⟩, by repeat (first | exact Drawn0.refl _ | apply Drawn0.step)⟩
  case round =>
    clear H'
    try clear p2
    obtain ⟨x5_1, rfl, HA, HK1, ⟨m1, rfl⟩⟩ := hrel
    cases gk with
    | zero => exact absurd HA.out (by simp [afero_zzIndex.l0])
    | succ k1 =>
      have H := HA.out
      clear HA
      simp only [afero_zzIndex.l0] at H
      by_cases c3 : (wrap64 (x5_1 + (a1.size : Int))) ≤ (a0.size : Int)
      · rw [if_pos c3] at H
        have c3b0 : decide ((wrap64 (x5_1 + (a1.size : Int))) ≤ (a0.size : Int)) = true := decide_eq_true c3
        clear c3
        by_cases c4 : 0 ≤ x5_1
        · rw [if_pos c4] at H
          have c4b0 := eq_true c4
          have c4b1 : decide (0 ≤ x5_1) = true := decide_eq_true c4
          clear c4
          by_cases c5 : x5_1 ≤ (wrap64 (x5_1 + (a1.size : Int)))
          · rw [if_pos c5] at H
            have c5b0 := eq_true c5
            have c5b1 : decide (x5_1 ≤ (wrap64 (x5_1 + (a1.size : Int)))) = true := decide_eq_true c5
            have c6b0 := eq_true (of_decide_eq_true (by first | (with_reducible assumption) | assumption) : (wrap64 (x5_1 + (a1.size : Int))) ≤ (a0.size : Int))
            by_cases c7 : (a0.extract (x5_1 : Int).toNat ((wrap64 (x5_1 + (a1.size : Int))) : Int).toNat).toList = a1.toList
            · rw [if_pos c7] at H
              have c7b0 : ((a0.extract (x5_1 : Int).toNat ((wrap64 (x5_1 + (a1.size : Int))) : Int).toNat).toList == a1.toList) = true := beq_iff_eq.mpr c7
              have c7b1 : ((a0.extract (x5_1 : Int).toNat ((wrap64 (x5_1 + (a1.size : Int))) : Int).toNat).toList != a1.toList) = false := bne_eq_false_iff_eq.mpr c7
              clear c7
              obtain rfl := Option.some.inj H
              go_wp2
              go_ret
              exact ⟨by first | rfl | (simp; done) | (simp [*]; done), by repeat (first | exact Drawn0.refl _ | apply Drawn0.step)⟩
            · rw [if_neg c7] at H
              have c7b0 : ((a0.extract (x5_1 : Int).toNat ((wrap64 (x5_1 + (a1.size : Int))) : Int).toNat).toList == a1.toList) = false := beq_eq_false_iff_ne.mpr c7
              have c7b1 : ((a0.extract (x5_1 : Int).toNat ((wrap64 (x5_1 + (a1.size : Int))) : Int).toNat).toList != a1.toList) = true := bne_iff_ne.mpr c7
              have H' := Aside0.mk H
              clear H
              go_wp2
              go_roundg k1
              case measure => have := HK1.out; omega
              case rel => exact ⟨(wrap64 (x5_1 + 1)), (by first | rfl | (simp; done) | (simp [*]; done)), H', ⟨by have := HK1.out; omega⟩, by repeat (first | exact Drawn0.refl _ | apply Drawn0.step)⟩
          · rw [if_neg c5] at H
            exact absurd H (by simp)
        · rw [if_neg c4] at H
          exact absurd H (by simp)
      · rw [if_neg c3] at H
        have c3b0 : decide ((wrap64 (x5_1 + (a1.size : Int))) ≤ (a0.size : Int)) = false := decide_eq_false c3
        clear c3
        obtain rfl := Option.some.inj H
        go_wp2
        go_ret
        exact ⟨by first | rfl | (simp; done) | (simp [*]; done), by repeat (first | exact Drawn0.refl _ | apply Drawn0.step)⟩
def afero_zzContains.f (k : Nat) (a0 : ByteArray) (a1 : ByteArray) : Option (Bool) := (afero_zzIndex.f k a0 a1).bind fun t102 => (some (decide (t102 ≥ 0)))
theorem afero_zzContains.mono : ∀ a0 a1 k, LeO (afero_zzContains.f k a0 a1) (afero_zzContains.f (k + 1) a0 a1) := by
  intro a0 a1 k
  unfold afero_zzContains.f
  repeat' first
      | (with_reducible exact afero_zzIndex.mono _ _ _)
      | (with_reducible exact LeO.refl _)
      | (with_reducible exact LeO.none _)
      | (with_reducible refine LeO.ite ?_ ?_)
      | (with_reducible refine LeO.bind ?_ (fun _ => ?_))
      | exact afero_zzIndex.mono _ _ _
      | exact LeO.none _
      | refine LeO.ite ?_ ?_
      | refine LeO.bind ?_ (fun _ => ?_)
set_option maxHeartbeats 8000000 in
set_option maxRecDepth 100000 in
theorem afero_zzContains.calls (k : Nat) (a0 : ByteArray) (a1 : ByteArray) (r : Bool) (w : World) (h : afero_zzContains.f k a0 a1 = some r) :
    Calls Tryd.prog 69 #[.string a0, .string a1] w fun e w' => e = .returned (.bool r) ∧ Drawn0 w w' := by
  have H : ((afero_zzIndex.f k a0 a1).bind fun t102 => (some (decide (t102 ≥ 0)))) = some r := h
  clear h
  replace H := Option.bind_eq_some_iff.mp H
  obtain ⟨t102, A30, H⟩ := H
  replace H : (some (decide (t102 ≥ 0))) = some r := H
  have A3 := Aside0.mk A30
  clear A30
  obtain rfl := Option.some.inj H
  go_enter Tryd.func69, Tryd.ntmps69
  go_wp2_with (first | ((with_reducible refine gate_callee (f := 78) rfl ?_); refine goesL_ (some 7) rfl rfl Tryd.func78 (by kernel_rfl) rfl #[.string a0, .string a1] rfl (by (try simp only [List.map_toArray, List.map_cons, List.map_nil]); first | done | rfl | (simp only [List.length_drop, List.length_take]; rfl)) ?_; (with_reducible refine (afero_zzIndex.calls k a0 a1 t102 _ A3.out).mono ?_); rintro e w' ⟨rfl, ⟨nd, rfl⟩⟩; refine ⟨_, rfl, ?_⟩))
  go_ret
  exact ⟨by first | rfl | (simp; done) | (simp [*]; done), by repeat (first | exact Drawn0.refl _ | apply Drawn0.step)⟩
end Go.Proofs.YtckjbgneblfceaaDoor.PFnContainsSlice
namespace Go.Proofs.YtckjbgneblfceaaDoor.Cc
open Go.RowKit Go.Maps Go.Proofs.YtckjbgneblfceaaDoorW.PrintWords Go.Proofs.YtckjbgneblfceaaDoorW.PrintLast Go.Proofs.YtckjbgneblfceaaDoorW.PrintMore Go.Proofs.YtckjbgneblfceaaDoor.Fa Go.Proofs.YtckjbgneblfceaaDoor.Fm Go.Proofs.YtckjbgneblfceaaDoor.Ca Go.Proofs.YtckjbgneblfceaaDoor.Cb
open Go.Proofs.YtckjbgneblfceaaDoor.PFnContainsSlice (afero_zzIndex.l0 afero_zzIndex.f afero_zzContains.f afero_zzContains.calls)
set_option linter.unusedVariables false
set_option linter.unusedSimpArgs false
theorem w64b (i : Nat) (h : i ≤ 2147483648) : wrap64 ((i : Int) + 1) = ((i + 1 : Nat) : Int) := by unfold wrap64; omega
/-- What the window shows of a part of the bytes. -/
theorem window (xs data : List Int) (b M fr L : Nat) (h : xs.take M = (data.drop b).take M) (h1 : b ≤ fr) (h2 : fr + L ≤ b + M) : (xs.drop (fr - b)).take L = (data.drop fr).take L := by
  have e1 : ((xs.take M).drop (fr - b)).take L = (xs.drop (fr - b)).take L := by
    rw [List.drop_take, List.take_take, Nat.min_eq_left (by omega)]
  have e2 : (((data.drop b).take M).drop (fr - b)).take L = (data.drop fr).take L := by
    rw [List.drop_take, List.take_take, Nat.min_eq_left (by omega), List.drop_drop, show b + (fr - b) = fr by omega]
  rw [← e1, h, e2]
end Go.Proofs.YtckjbgneblfceaaDoor.Cc
namespace Go.Proofs.YtckjbgneblfceaaDoor.Cd
open Go.RowKit Go.Maps Go.Proofs.YtckjbgneblfceaaDoorW.PrintWords Go.Proofs.YtckjbgneblfceaaDoorW.PrintLast Go.Proofs.YtckjbgneblfceaaDoorW.PrintMore Go.Proofs.YtckjbgneblfceaaDoor.Fa Go.Proofs.YtckjbgneblfceaaDoor.Fm Go.Proofs.YtckjbgneblfceaaDoor.Ca Go.Proofs.YtckjbgneblfceaaDoor.Cb Go.Proofs.YtckjbgneblfceaaDoor.Cc
open Go.Proofs.YtckjbgneblfceaaDoor.PFnFitFirst (rd_L2 at_L2)
set_option linter.unusedVariables false
set_option linter.unusedSimpArgs false
theorem info5 : (Tryd.prog.info? 5).map (fun i => (i.zero, i.size, i.bytes)) = some (some (.int .u8 0), 1, 1) := by kernel_rfl
theorem make_bytes {ops : Array Oper} {rest : List Oper} {o : Oper} {a : Act} {Q : Exit → Act → World → Prop} {W : World} (hgd : o.guard = none) {N : Tmp} (hd : o.dst = some N) (x y : Operand) (ho : o.op = .makeSlice 33 x y) (n : Nat) (hx : a.eval x = .int .i64 n) (hy : a.eval y = .int .i64 n) (hn0 : 0 < n) (hn : n ≤ 100000000)
    (h : ∀ g c1 w1, Kd.R (Kd.int .u8) 5 w1 W.heap.size (fun _ => True) (.slice (some ⟨g, 0, none⟩) n c1) (List.replicate n 0) → n ≤ c1 → Below W.heap.size W w1 → wpList Tryd.prog ops Q rest (a.put o.dst (.slice (some ⟨g, 0, none⟩) n c1)) w1) :
    wpList Tryd.prog ops Q (o :: rest) a W := by
  refine Kd.R_make (Kd.int .u8) (w0 := W) W.heap.size 5 hgd hd 33 x y ho n hx hy Tryd.underlying33 (.int .u8 0) 1 info5 rfl (by decide) (by decide) 0 (ok := fun _ => True) (okp := fun _ => False) rfl (fun _ hk => hk.elim) trivial (by omega) (by simp; omega) (Below.refl _ _) (Nat.le_refl _) ?_
  intro v1 w1 h1 h2 _ _
  rw [Int.toNat_natCast] at h1
  obtain ⟨g, c1, e1, h5, _, _⟩ := Kd.R_form h1 (by rw [List.length_replicate]; exact hn0)
  rw [List.length_replicate] at e1
  subst e1
  exact h _ _ _ h1 ((Kd.R_reads' h1).2.1) h2
end Go.Proofs.YtckjbgneblfceaaDoor.Cd
namespace Go.Proofs.YtckjbgneblfceaaDoor.Ce
open Go.RowKit Go.Maps Go.Proofs.YtckjbgneblfceaaDoorW.PrintWords Go.Proofs.YtckjbgneblfceaaDoorW.PrintLast Go.Proofs.YtckjbgneblfceaaDoorW.PrintMore Go.Proofs.YtckjbgneblfceaaDoor.Fa Go.Proofs.YtckjbgneblfceaaDoor.Fm Go.Proofs.YtckjbgneblfceaaDoor.Fc Go.Proofs.YtckjbgneblfceaaDoor.Ca Go.Proofs.YtckjbgneblfceaaDoor.Cb Go.Proofs.YtckjbgneblfceaaDoor.Cc Go.Proofs.YtckjbgneblfceaaDoor.Cd
open Go.Proofs.YtckjbgneblfceaaDoor.PFnFitFirst (rd_L2 at_L2)
set_option linter.unusedVariables false
set_option linter.unusedSimpArgs false
abbrev kB : Kd (List Int) := Kd.slice 5 (Kd.int .u8)
end Go.Proofs.YtckjbgneblfceaaDoor.Ce
namespace Go.Proofs.YtckjbgneblfceaaDoor.Cf
open Go.RowKit Go.Maps Go.Proofs.YtckjbgneblfceaaDoorW.PrintWords Go.Proofs.YtckjbgneblfceaaDoorW.PrintLast Go.Proofs.YtckjbgneblfceaaDoorW.PrintMore Go.Proofs.YtckjbgneblfceaaDoor.Fa Go.Proofs.YtckjbgneblfceaaDoor.Fm Go.Proofs.YtckjbgneblfceaaDoor.Fc Go.Proofs.YtckjbgneblfceaaDoor.Fe Go.Proofs.YtckjbgneblfceaaDoor.Ca Go.Proofs.YtckjbgneblfceaaDoor.Cb Go.Proofs.YtckjbgneblfceaaDoor.Cc Go.Proofs.YtckjbgneblfceaaDoor.Cd Go.Proofs.YtckjbgneblfceaaDoor.Ce
open Go.Proofs.YtckjbgneblfceaaDoor.PFnFitFirst (rd_L2 at_L2)
set_option linter.unusedVariables false
set_option linter.unusedSimpArgs false
section
variable {P : Program} {ops : Array Oper} {Q : Exit → Act → World → Prop} {md : Region.Mode} {S0 S1 : World → Prop} {k : Nat}
end
theorem fits_from (l : List (List Int)) (hl : l.length ≤ 2147483647) : ∀ d i : Nat, i + d = l.length → ∀ k, d < k → ∃ r, Go.Proofs.YtckjbgneblfceaaDoor.PFnContainsSlice.laws_zzFits9.l0 k l (l.length : Int) (i : Int) = some r
  | 0, i, h, 0, hk => by omega
  | 0, i, h, k + 1, hk => by
    unfold Go.Proofs.YtckjbgneblfceaaDoor.PFnContainsSlice.laws_zzFits9.l0
    rw [if_neg (by omega)]
    exact ⟨_, rfl⟩
  | d + 1, i, h, 0, hk => by omega
  | d + 1, i, h, k + 1, hk => by
    unfold Go.Proofs.YtckjbgneblfceaaDoor.PFnContainsSlice.laws_zzFits9.l0
    rw [if_pos (by omega), if_pos (by omega), if_pos (by omega)]
    split
    · exact ⟨_, rfl⟩
    · rw [w64b i (by omega)]
      exact fits_from l hl d (i + 1) (by omega) k (by omega)
theorem fits_any (l : List (List Int)) : ∃ k r, Go.Proofs.YtckjbgneblfceaaDoor.PFnContainsSlice.laws_zzFits9.f k l = some r := by
  unfold Go.Proofs.YtckjbgneblfceaaDoor.PFnContainsSlice.laws_zzFits9.f
  by_cases h : (l.length : Int) > 2147483647
  · exact ⟨0, false, by rw [if_pos h]⟩
  · obtain ⟨r, hr⟩ := fits_from l (by omega) l.length 0 (by omega) (l.length + 1) (by omega)
    exact ⟨l.length + 1, r, by rw [if_neg h]; exact hr⟩
end Go.Proofs.YtckjbgneblfceaaDoor.Cf
