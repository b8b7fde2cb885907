/- The contracts of the kinds of errors. -/
import Derived.Test.YtljcdjggjphedaaDoorPFnHandleScriptx0
import Derived.WalkKit
import Derived.WalkSpells
import Derived.Lib.Hide
import Derived.Handy
import Derived.LoopTactic
import Derived.WalkLawsBesides
import Derived.LaidLaws
import Derived.LaidEql
import Derived.Stop.IfaceNil
import Derived.Stop.LaidErr
namespace Go.Proofs.YtljcdjggjphedaaDoor.Hd
open Go.RowKit Go.Proofs.YtljcdjggjphedaaDoorW.PrintWords Go.Proofs.YtljcdjggjphedaaDoorW.PrintLast Go.Proofs.YtljcdjggjphedaaDoorW.PrintMore
set_option linter.unusedVariables false
set_option linter.unusedSimpArgs false
/-- The eleven errors that have a name lie where they were laid: each in a block of its own. -/
structure Sent (A : Nat → Addr) (W : World) : Prop where
  var : ∀ k, k < 11 → W.cell? ⟨k, 0, none⟩ = some (.iface 149 (.pointer (some (A k))))
  blk : ∀ k, k < 11 → ∃ c t, W.heap[(A k).block]? = some (.cells c t (0, 0))
  inj : ∀ i j, i < 11 → j < 11 → i ≠ j → A i ≠ A j
theorem Sent.later {A : Nat → Addr} {w W : World} (h : Sent A w) (hb : Below w.heap.size w W) : Sent A W :=
  ⟨fun k hk => pw_cell_below hb (h.var k hk), fun k hk => by
    obtain ⟨c, t, e⟩ := h.blk k hk
    exact ⟨c, t, (hb.block _ (blk_lt e)).trans e⟩, h.inj⟩
theorem Sent.below {A : Nat → Addr} {B : Nat} {w W : World} (h : Sent A w) (hb : Below B w W) (hB : 11 ≤ B) (hA : ∀ k, k < 11 → (A k).block < B) : Sent A W :=
  ⟨fun k hk => (hb.cell (p := ⟨k, 0, none⟩) (by show k < B; omega)).trans (h.var k hk), fun k hk => by
    obtain ⟨c, t, e⟩ := h.blk k hk
    exact ⟨c, t, (hb.block _ (hA k hk)).trans e⟩, h.inj⟩
theorem comp149 : (Tryd.prog.info? 149).map (·.comparable) = some true := by kernel_rfl
theorem size151 : (Tryd.prog.info? 151).map (·.size) = some 1 := by kernel_rfl
theorem isIf96 : Tryd.prog.isIface 96 = true := by kernel_rfl
theorem ta_nil (w : World) : (Instr.typeAssert .nilIface 96 130 true).run Tryd.prog w = .ok (.tuple #[.pointer none, .bool false]) w := by kernel_rfl
theorem ta_err (a : Addr) (w : World) : (Instr.typeAssert (.iface 149 (.pointer (some a))) 96 130 true).run Tryd.prog w = .ok (.tuple #[.pointer none, .bool false]) w := by kernel_rfl
theorem ta_path (a : Addr) (w : World) : (Instr.typeAssert (.iface 130 (.pointer (some a))) 96 130 true).run Tryd.prog w = .ok (.tuple #[.pointer (some a), .bool true]) w := by kernel_rfl
theorem eql_same (a : Addr) (w : World) : (binOp .eql 96 (.iface 149 (.pointer (some a))) (.iface 149 (.pointer (some a)))).run Tryd.prog w = .ok (.bool true) w := by
  obtain ⟨i, hi, hcmp⟩ := Option.map_eq_some_iff.1 comp149
  obtain ⟨j, hj, _⟩ := Option.map_eq_some_iff.1 size151
  exact run_eql_iface_ptr_same w a Tryd.underlying96 Tryd.underlying149 hi hcmp hj
theorem eql_other {a b : Addr} {w : World} (hne : a ≠ b) (ha : ∃ c t, w.heap[a.block]? = some (.cells c t (0, 0))) (hb : ∃ c t, w.heap[b.block]? = some (.cells c t (0, 0))) :
    (binOp .eql 96 (.iface 149 (.pointer (some a))) (.iface 149 (.pointer (some b)))).run Tryd.prog w = .ok (.bool false) w := by
  obtain ⟨i, hi, hcmp⟩ := Option.map_eq_some_iff.1 comp149
  obtain ⟨j, hj, hs⟩ := Option.map_eq_some_iff.1 size151
  obtain ⟨ca, ta, ha⟩ := ha
  obtain ⟨cb, tb, hb⟩ := hb
  exact run_eql_iface_ptr_other w Tryd.underlying96 Tryd.underlying149 hi hcmp hj (by rw [hs]; decide) hne ha hb
set_option maxHeartbeats 1000000 in
theorem kind_nil (w : World) : Calls Tryd.prog 53 #[.nilIface] w fun e w' => e = .returned (.int .i64 0) ∧ w = w' := by
  have h1 := ta_nil
  have h2 := isIf96
  go_enter Tryd.func53, Tryd.ntmps53
  go_wp2_with fail
  go_ret
  exact ⟨rfl, rfl⟩

set_option maxHeartbeats 2000000 in
theorem kind_s0 (A : Nat → Addr) (w : World) (h : Sent A w) : Calls Tryd.prog 53 #[.iface 149 (.pointer (some (A 0)))] w fun e w' => e = .returned (.int .i64 3) ∧ w = w' := by
  have h1 := ta_err (A 0)
  have h2 := isIf96
  have g4 := h.var 4 (by decide)
  have g7 := h.var 7 (by decide)
  have g5 := h.var 5 (by decide)
  have g0 := h.var 0 (by decide)
  have e4 := eql_other (h.inj 0 4 (by decide) (by decide) (by decide)) (h.blk 0 (by decide)) (h.blk 4 (by decide))
  have e7 := eql_other (h.inj 0 7 (by decide) (by decide) (by decide)) (h.blk 0 (by decide)) (h.blk 7 (by decide))
  have e5 := eql_other (h.inj 0 5 (by decide) (by decide) (by decide)) (h.blk 0 (by decide)) (h.blk 5 (by decide))
  have ek := eql_same (A 0) w
  clear h
  generalize A 0 = a0 at *
  generalize A 4 = a4 at *
  generalize A 5 = a5 at *
  generalize A 7 = a7 at *
  go_enter Tryd.func53, Tryd.ntmps53
  go_wp2_with fail
  go_ret
  exact ⟨rfl, rfl⟩
set_option maxHeartbeats 2000000 in
theorem kind_s1 (A : Nat → Addr) (w : World) (h : Sent A w) : Calls Tryd.prog 53 #[.iface 149 (.pointer (some (A 1)))] w fun e w' => e = .returned (.int .i64 4) ∧ w = w' := by
  have h1 := ta_err (A 1)
  have h2 := isIf96
  have g4 := h.var 4 (by decide)
  have g7 := h.var 7 (by decide)
  have g5 := h.var 5 (by decide)
  have g0 := h.var 0 (by decide)
  have g1 := h.var 1 (by decide)
  have e4 := eql_other (h.inj 1 4 (by decide) (by decide) (by decide)) (h.blk 1 (by decide)) (h.blk 4 (by decide))
  have e7 := eql_other (h.inj 1 7 (by decide) (by decide) (by decide)) (h.blk 1 (by decide)) (h.blk 7 (by decide))
  have e5 := eql_other (h.inj 1 5 (by decide) (by decide) (by decide)) (h.blk 1 (by decide)) (h.blk 5 (by decide))
  have e0 := eql_other (h.inj 1 0 (by decide) (by decide) (by decide)) (h.blk 1 (by decide)) (h.blk 0 (by decide))
  have ek := eql_same (A 1) w
  clear h
  generalize A 0 = a0 at *
  generalize A 1 = a1 at *
  generalize A 4 = a4 at *
  generalize A 5 = a5 at *
  generalize A 7 = a7 at *
  go_enter Tryd.func53, Tryd.ntmps53
  go_wp2_with fail
  go_ret
  exact ⟨rfl, rfl⟩
set_option maxHeartbeats 2000000 in
theorem kind_s2 (A : Nat → Addr) (w : World) (h : Sent A w) : Calls Tryd.prog 53 #[.iface 149 (.pointer (some (A 2)))] w fun e w' => e = .returned (.int .i64 5) ∧ w = w' := by
  have h1 := ta_err (A 2)
  have h2 := isIf96
  have g4 := h.var 4 (by decide)
  have g7 := h.var 7 (by decide)
  have g5 := h.var 5 (by decide)
  have g0 := h.var 0 (by decide)
  have g1 := h.var 1 (by decide)
  have g2 := h.var 2 (by decide)
  have e4 := eql_other (h.inj 2 4 (by decide) (by decide) (by decide)) (h.blk 2 (by decide)) (h.blk 4 (by decide))
  have e7 := eql_other (h.inj 2 7 (by decide) (by decide) (by decide)) (h.blk 2 (by decide)) (h.blk 7 (by decide))
  have e5 := eql_other (h.inj 2 5 (by decide) (by decide) (by decide)) (h.blk 2 (by decide)) (h.blk 5 (by decide))
  have e0 := eql_other (h.inj 2 0 (by decide) (by decide) (by decide)) (h.blk 2 (by decide)) (h.blk 0 (by decide))
  have e1 := eql_other (h.inj 2 1 (by decide) (by decide) (by decide)) (h.blk 2 (by decide)) (h.blk 1 (by decide))
  have ek := eql_same (A 2) w
  clear h
  generalize A 0 = a0 at *
  generalize A 1 = a1 at *
  generalize A 2 = a2 at *
  generalize A 4 = a4 at *
  generalize A 5 = a5 at *
  generalize A 7 = a7 at *
  go_enter Tryd.func53, Tryd.ntmps53
  go_wp2_with fail
  go_ret
  exact ⟨rfl, rfl⟩
set_option maxHeartbeats 2000000 in
theorem kind_s3 (A : Nat → Addr) (w : World) (h : Sent A w) : Calls Tryd.prog 53 #[.iface 149 (.pointer (some (A 3)))] w fun e w' => e = .returned (.int .i64 7) ∧ w = w' := by
  have h1 := ta_err (A 3)
  have h2 := isIf96
  have g4 := h.var 4 (by decide)
  have g7 := h.var 7 (by decide)
  have g5 := h.var 5 (by decide)
  have g0 := h.var 0 (by decide)
  have g1 := h.var 1 (by decide)
  have g2 := h.var 2 (by decide)
  have g3 := h.var 3 (by decide)
  have e4 := eql_other (h.inj 3 4 (by decide) (by decide) (by decide)) (h.blk 3 (by decide)) (h.blk 4 (by decide))
  have e7 := eql_other (h.inj 3 7 (by decide) (by decide) (by decide)) (h.blk 3 (by decide)) (h.blk 7 (by decide))
  have e5 := eql_other (h.inj 3 5 (by decide) (by decide) (by decide)) (h.blk 3 (by decide)) (h.blk 5 (by decide))
  have e0 := eql_other (h.inj 3 0 (by decide) (by decide) (by decide)) (h.blk 3 (by decide)) (h.blk 0 (by decide))
  have e1 := eql_other (h.inj 3 1 (by decide) (by decide) (by decide)) (h.blk 3 (by decide)) (h.blk 1 (by decide))
  have e2 := eql_other (h.inj 3 2 (by decide) (by decide) (by decide)) (h.blk 3 (by decide)) (h.blk 2 (by decide))
  have ek := eql_same (A 3) w
  clear h
  generalize A 0 = a0 at *
  generalize A 1 = a1 at *
  generalize A 2 = a2 at *
  generalize A 3 = a3 at *
  generalize A 4 = a4 at *
  generalize A 5 = a5 at *
  generalize A 7 = a7 at *
  go_enter Tryd.func53, Tryd.ntmps53
  go_wp2_with fail
  go_ret
  exact ⟨rfl, rfl⟩
set_option maxHeartbeats 2000000 in
theorem kind_s4 (A : Nat → Addr) (w : World) (h : Sent A w) : Calls Tryd.prog 53 #[.iface 149 (.pointer (some (A 4)))] w fun e w' => e = .returned (.int .i64 1) ∧ w = w' := by
  have h1 := ta_err (A 4)
  have h2 := isIf96
  have g4 := h.var 4 (by decide)
  have ek := eql_same (A 4) w
  clear h
  generalize A 4 = a4 at *
  go_enter Tryd.func53, Tryd.ntmps53
  go_wp2_with fail
  go_ret
  exact ⟨rfl, rfl⟩
set_option maxHeartbeats 2000000 in
theorem kind_s5 (A : Nat → Addr) (w : World) (h : Sent A w) : Calls Tryd.prog 53 #[.iface 149 (.pointer (some (A 5)))] w fun e w' => e = .returned (.int .i64 2) ∧ w = w' := by
  have h1 := ta_err (A 5)
  have h2 := isIf96
  have g4 := h.var 4 (by decide)
  have g7 := h.var 7 (by decide)
  have g5 := h.var 5 (by decide)
  have e4 := eql_other (h.inj 5 4 (by decide) (by decide) (by decide)) (h.blk 5 (by decide)) (h.blk 4 (by decide))
  have e7 := eql_other (h.inj 5 7 (by decide) (by decide) (by decide)) (h.blk 5 (by decide)) (h.blk 7 (by decide))
  have ek := eql_same (A 5) w
  clear h
  generalize A 4 = a4 at *
  generalize A 5 = a5 at *
  generalize A 7 = a7 at *
  go_enter Tryd.func53, Tryd.ntmps53
  go_wp2_with fail
  go_ret
  exact ⟨rfl, rfl⟩
set_option maxHeartbeats 2000000 in
theorem kind_s6 (A : Nat → Addr) (w : World) (h : Sent A w) : Calls Tryd.prog 53 #[.iface 149 (.pointer (some (A 6)))] w fun e w' => e = .returned (.int .i64 8) ∧ w = w' := by
  have h1 := ta_err (A 6)
  have h2 := isIf96
  have g4 := h.var 4 (by decide)
  have g7 := h.var 7 (by decide)
  have g5 := h.var 5 (by decide)
  have g0 := h.var 0 (by decide)
  have g1 := h.var 1 (by decide)
  have g2 := h.var 2 (by decide)
  have g3 := h.var 3 (by decide)
  have g6 := h.var 6 (by decide)
  have e4 := eql_other (h.inj 6 4 (by decide) (by decide) (by decide)) (h.blk 6 (by decide)) (h.blk 4 (by decide))
  have e7 := eql_other (h.inj 6 7 (by decide) (by decide) (by decide)) (h.blk 6 (by decide)) (h.blk 7 (by decide))
  have e5 := eql_other (h.inj 6 5 (by decide) (by decide) (by decide)) (h.blk 6 (by decide)) (h.blk 5 (by decide))
  have e0 := eql_other (h.inj 6 0 (by decide) (by decide) (by decide)) (h.blk 6 (by decide)) (h.blk 0 (by decide))
  have e1 := eql_other (h.inj 6 1 (by decide) (by decide) (by decide)) (h.blk 6 (by decide)) (h.blk 1 (by decide))
  have e2 := eql_other (h.inj 6 2 (by decide) (by decide) (by decide)) (h.blk 6 (by decide)) (h.blk 2 (by decide))
  have e3 := eql_other (h.inj 6 3 (by decide) (by decide) (by decide)) (h.blk 6 (by decide)) (h.blk 3 (by decide))
  have ek := eql_same (A 6) w
  clear h
  generalize A 0 = a0 at *
  generalize A 1 = a1 at *
  generalize A 2 = a2 at *
  generalize A 3 = a3 at *
  generalize A 4 = a4 at *
  generalize A 5 = a5 at *
  generalize A 6 = a6 at *
  generalize A 7 = a7 at *
  go_enter Tryd.func53, Tryd.ntmps53
  go_wp2_with fail
  go_ret
  exact ⟨rfl, rfl⟩
set_option maxHeartbeats 2000000 in
theorem kind_s7 (A : Nat → Addr) (w : World) (h : Sent A w) : Calls Tryd.prog 53 #[.iface 149 (.pointer (some (A 7)))] w fun e w' => e = .returned (.int .i64 1) ∧ w = w' := by
  have h1 := ta_err (A 7)
  have h2 := isIf96
  have g4 := h.var 4 (by decide)
  have g7 := h.var 7 (by decide)
  have e4 := eql_other (h.inj 7 4 (by decide) (by decide) (by decide)) (h.blk 7 (by decide)) (h.blk 4 (by decide))
  have ek := eql_same (A 7) w
  clear h
  generalize A 4 = a4 at *
  generalize A 7 = a7 at *
  go_enter Tryd.func53, Tryd.ntmps53
  go_wp2_with fail
  go_ret
  exact ⟨rfl, rfl⟩
set_option maxHeartbeats 2000000 in
theorem kind_s8 (A : Nat → Addr) (w : World) (h : Sent A w) : Calls Tryd.prog 53 #[.iface 149 (.pointer (some (A 8)))] w fun e w' => e = .returned (.int .i64 9) ∧ w = w' := by
  have h1 := ta_err (A 8)
  have h2 := isIf96
  have g4 := h.var 4 (by decide)
  have g7 := h.var 7 (by decide)
  have g5 := h.var 5 (by decide)
  have g0 := h.var 0 (by decide)
  have g1 := h.var 1 (by decide)
  have g2 := h.var 2 (by decide)
  have g3 := h.var 3 (by decide)
  have g6 := h.var 6 (by decide)
  have g8 := h.var 8 (by decide)
  have e4 := eql_other (h.inj 8 4 (by decide) (by decide) (by decide)) (h.blk 8 (by decide)) (h.blk 4 (by decide))
  have e7 := eql_other (h.inj 8 7 (by decide) (by decide) (by decide)) (h.blk 8 (by decide)) (h.blk 7 (by decide))
  have e5 := eql_other (h.inj 8 5 (by decide) (by decide) (by decide)) (h.blk 8 (by decide)) (h.blk 5 (by decide))
  have e0 := eql_other (h.inj 8 0 (by decide) (by decide) (by decide)) (h.blk 8 (by decide)) (h.blk 0 (by decide))
  have e1 := eql_other (h.inj 8 1 (by decide) (by decide) (by decide)) (h.blk 8 (by decide)) (h.blk 1 (by decide))
  have e2 := eql_other (h.inj 8 2 (by decide) (by decide) (by decide)) (h.blk 8 (by decide)) (h.blk 2 (by decide))
  have e3 := eql_other (h.inj 8 3 (by decide) (by decide) (by decide)) (h.blk 8 (by decide)) (h.blk 3 (by decide))
  have e6 := eql_other (h.inj 8 6 (by decide) (by decide) (by decide)) (h.blk 8 (by decide)) (h.blk 6 (by decide))
  have ek := eql_same (A 8) w
  clear h
  generalize A 0 = a0 at *
  generalize A 1 = a1 at *
  generalize A 2 = a2 at *
  generalize A 3 = a3 at *
  generalize A 4 = a4 at *
  generalize A 5 = a5 at *
  generalize A 6 = a6 at *
  generalize A 7 = a7 at *
  generalize A 8 = a8 at *
  go_enter Tryd.func53, Tryd.ntmps53
  go_wp2_with fail
  go_ret
  exact ⟨rfl, rfl⟩
set_option maxHeartbeats 2000000 in
theorem kind_s9 (A : Nat → Addr) (w : World) (h : Sent A w) : Calls Tryd.prog 53 #[.iface 149 (.pointer (some (A 9)))] w fun e w' => e = .returned (.int .i64 10) ∧ w = w' := by
  have h1 := ta_err (A 9)
  have h2 := isIf96
  have g4 := h.var 4 (by decide)
  have g7 := h.var 7 (by decide)
  have g5 := h.var 5 (by decide)
  have g0 := h.var 0 (by decide)
  have g1 := h.var 1 (by decide)
  have g2 := h.var 2 (by decide)
  have g3 := h.var 3 (by decide)
  have g6 := h.var 6 (by decide)
  have g8 := h.var 8 (by decide)
  have g9 := h.var 9 (by decide)
  have e4 := eql_other (h.inj 9 4 (by decide) (by decide) (by decide)) (h.blk 9 (by decide)) (h.blk 4 (by decide))
  have e7 := eql_other (h.inj 9 7 (by decide) (by decide) (by decide)) (h.blk 9 (by decide)) (h.blk 7 (by decide))
  have e5 := eql_other (h.inj 9 5 (by decide) (by decide) (by decide)) (h.blk 9 (by decide)) (h.blk 5 (by decide))
  have e0 := eql_other (h.inj 9 0 (by decide) (by decide) (by decide)) (h.blk 9 (by decide)) (h.blk 0 (by decide))
  have e1 := eql_other (h.inj 9 1 (by decide) (by decide) (by decide)) (h.blk 9 (by decide)) (h.blk 1 (by decide))
  have e2 := eql_other (h.inj 9 2 (by decide) (by decide) (by decide)) (h.blk 9 (by decide)) (h.blk 2 (by decide))
  have e3 := eql_other (h.inj 9 3 (by decide) (by decide) (by decide)) (h.blk 9 (by decide)) (h.blk 3 (by decide))
  have e6 := eql_other (h.inj 9 6 (by decide) (by decide) (by decide)) (h.blk 9 (by decide)) (h.blk 6 (by decide))
  have e8 := eql_other (h.inj 9 8 (by decide) (by decide) (by decide)) (h.blk 9 (by decide)) (h.blk 8 (by decide))
  have ek := eql_same (A 9) w
  clear h
  generalize A 0 = a0 at *
  generalize A 1 = a1 at *
  generalize A 2 = a2 at *
  generalize A 3 = a3 at *
  generalize A 4 = a4 at *
  generalize A 5 = a5 at *
  generalize A 6 = a6 at *
  generalize A 7 = a7 at *
  generalize A 8 = a8 at *
  generalize A 9 = a9 at *
  go_enter Tryd.func53, Tryd.ntmps53
  go_wp2_with fail
  go_ret
  exact ⟨rfl, rfl⟩
set_option maxHeartbeats 2000000 in
theorem kind_s10 (A : Nat → Addr) (w : World) (h : Sent A w) : Calls Tryd.prog 53 #[.iface 149 (.pointer (some (A 10)))] w fun e w' => e = .returned (.int .i64 11) ∧ w = w' := by
  have h1 := ta_err (A 10)
  have h2 := isIf96
  have g4 := h.var 4 (by decide)
  have g7 := h.var 7 (by decide)
  have g5 := h.var 5 (by decide)
  have g0 := h.var 0 (by decide)
  have g1 := h.var 1 (by decide)
  have g2 := h.var 2 (by decide)
  have g3 := h.var 3 (by decide)
  have g6 := h.var 6 (by decide)
  have g8 := h.var 8 (by decide)
  have g9 := h.var 9 (by decide)
  have g10 := h.var 10 (by decide)
  have e4 := eql_other (h.inj 10 4 (by decide) (by decide) (by decide)) (h.blk 10 (by decide)) (h.blk 4 (by decide))
  have e7 := eql_other (h.inj 10 7 (by decide) (by decide) (by decide)) (h.blk 10 (by decide)) (h.blk 7 (by decide))
  have e5 := eql_other (h.inj 10 5 (by decide) (by decide) (by decide)) (h.blk 10 (by decide)) (h.blk 5 (by decide))
  have e0 := eql_other (h.inj 10 0 (by decide) (by decide) (by decide)) (h.blk 10 (by decide)) (h.blk 0 (by decide))
  have e1 := eql_other (h.inj 10 1 (by decide) (by decide) (by decide)) (h.blk 10 (by decide)) (h.blk 1 (by decide))
  have e2 := eql_other (h.inj 10 2 (by decide) (by decide) (by decide)) (h.blk 10 (by decide)) (h.blk 2 (by decide))
  have e3 := eql_other (h.inj 10 3 (by decide) (by decide) (by decide)) (h.blk 10 (by decide)) (h.blk 3 (by decide))
  have e6 := eql_other (h.inj 10 6 (by decide) (by decide) (by decide)) (h.blk 10 (by decide)) (h.blk 6 (by decide))
  have e8 := eql_other (h.inj 10 8 (by decide) (by decide) (by decide)) (h.blk 10 (by decide)) (h.blk 8 (by decide))
  have e9 := eql_other (h.inj 10 9 (by decide) (by decide) (by decide)) (h.blk 10 (by decide)) (h.blk 9 (by decide))
  have ek := eql_same (A 10) w
  clear h
  generalize A 0 = a0 at *
  generalize A 1 = a1 at *
  generalize A 2 = a2 at *
  generalize A 3 = a3 at *
  generalize A 4 = a4 at *
  generalize A 5 = a5 at *
  generalize A 6 = a6 at *
  generalize A 7 = a7 at *
  generalize A 8 = a8 at *
  generalize A 9 = a9 at *
  generalize A 10 = a10 at *
  go_enter Tryd.func53, Tryd.ntmps53
  go_wp2_with fail
  go_ret
  exact ⟨rfl, rfl⟩
set_option maxHeartbeats 2000000 in
theorem kind_write (A : Nat → Addr) (w : World) (h : Sent A w) (p : Nat) (path : Value) (b : Addr) (hp0 : w.cell? ⟨p, 0, none⟩ = some (.string { data := #[119, 114, 105, 116, 101] })) (hp2 : w.cell? ⟨p, 2, none⟩ = some (.iface 149 (.pointer (some b))))
    (hb : ∃ c t, w.heap[b.block]? = some (.cells c t (0, 0))) (hne : ∀ k, k < 11 → b ≠ A k) : Calls Tryd.prog 53 #[.iface 130 (.pointer (some ⟨p, 0, none⟩))] w fun e w' => e = .returned (.int .i64 6) ∧ w = w' := by
  have h1 := ta_path ⟨p, 0, none⟩
  have h2 := isIf96
  have g4 := h.var 4 (by decide)
  have g5 := h.var 5 (by decide)
  have g6 := h.var 6 (by decide)
  have g7 := h.var 7 (by decide)
  have e4 := eql_other (hne 4 (by decide)) hb (h.blk 4 (by decide))
  have e5 := eql_other (hne 5 (by decide)) hb (h.blk 5 (by decide))
  have e6 := eql_other (hne 6 (by decide)) hb (h.blk 6 (by decide))
  have e7 := eql_other (hne 7 (by decide)) hb (h.blk 7 (by decide))
  clear h hb hne
  generalize A 4 = a4 at *
  generalize A 5 = a5 at *
  generalize A 6 = a6 at *
  generalize A 7 = a7 at *
  go_enter Tryd.func53, Tryd.ntmps53
  go_wp2_with fail
  go_ret
  exact ⟨rfl, rfl⟩
set_option maxHeartbeats 2000000 in
theorem kind_truncate (A : Nat → Addr) (w : World) (h : Sent A w) (p : Nat) (path : Value) (b : Addr) (hp0 : w.cell? ⟨p, 0, none⟩ = some (.string { data := #[116, 114, 117, 110, 99, 97, 116, 101] })) (hp2 : w.cell? ⟨p, 2, none⟩ = some (.iface 149 (.pointer (some b))))
    (hb : ∃ c t, w.heap[b.block]? = some (.cells c t (0, 0))) (hne : ∀ k, k < 11 → b ≠ A k) : Calls Tryd.prog 53 #[.iface 130 (.pointer (some ⟨p, 0, none⟩))] w fun e w' => e = .returned (.int .i64 6) ∧ w = w' := by
  have h1 := ta_path ⟨p, 0, none⟩
  have h2 := isIf96
  have g4 := h.var 4 (by decide)
  have g5 := h.var 5 (by decide)
  have g6 := h.var 6 (by decide)
  have g7 := h.var 7 (by decide)
  have e4 := eql_other (hne 4 (by decide)) hb (h.blk 4 (by decide))
  have e5 := eql_other (hne 5 (by decide)) hb (h.blk 5 (by decide))
  have e6 := eql_other (hne 6 (by decide)) hb (h.blk 6 (by decide))
  have e7 := eql_other (hne 7 (by decide)) hb (h.blk 7 (by decide))
  clear h hb hne
  generalize A 4 = a4 at *
  generalize A 5 = a5 at *
  generalize A 6 = a6 at *
  generalize A 7 = a7 at *
  go_enter Tryd.func53, Tryd.ntmps53
  go_wp2_with fail
  go_ret
  exact ⟨rfl, rfl⟩
set_option maxHeartbeats 2000000 in
theorem kind_readdir (A : Nat → Addr) (w : World) (h : Sent A w) (p : Nat) (path : Value) (b : Addr) (hp0 : w.cell? ⟨p, 0, none⟩ = some (.string { data := #[114, 101, 97, 100, 100, 105, 114] })) (hp2 : w.cell? ⟨p, 2, none⟩ = some (.iface 149 (.pointer (some b))))
    (hb : ∃ c t, w.heap[b.block]? = some (.cells c t (0, 0))) (hne : ∀ k, k < 11 → b ≠ A k) : Calls Tryd.prog 53 #[.iface 130 (.pointer (some ⟨p, 0, none⟩))] w fun e w' => e = .returned (.int .i64 8) ∧ w = w' := by
  have h1 := ta_path ⟨p, 0, none⟩
  have h2 := isIf96
  have g4 := h.var 4 (by decide)
  have g5 := h.var 5 (by decide)
  have g6 := h.var 6 (by decide)
  have g7 := h.var 7 (by decide)
  have e4 := eql_other (hne 4 (by decide)) hb (h.blk 4 (by decide))
  have e5 := eql_other (hne 5 (by decide)) hb (h.blk 5 (by decide))
  have e6 := eql_other (hne 6 (by decide)) hb (h.blk 6 (by decide))
  have e7 := eql_other (hne 7 (by decide)) hb (h.blk 7 (by decide))
  clear h hb hne
  generalize A 4 = a4 at *
  generalize A 5 = a5 at *
  generalize A 6 = a6 at *
  generalize A 7 = a7 at *
  go_enter Tryd.func53, Tryd.ntmps53
  go_wp2_with fail
  go_ret
  exact ⟨rfl, rfl⟩
end Go.Proofs.YtljcdjggjphedaaDoor.Hd
