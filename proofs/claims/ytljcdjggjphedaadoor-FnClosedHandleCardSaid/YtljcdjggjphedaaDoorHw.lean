/- Open files in memory: reading at a place, making handles and files. -/
import Derived.Test.YtljcdjggjphedaaDoorHs
namespace Go.Proofs.YtljcdjggjphedaaDoor.Hd
open Go.RowKit Go.Proofs.YtljcdjggjphedaaDoorW.PrintWords Go.Proofs.YtljcdjggjphedaaDoorW.PrintLast Go.Proofs.YtljcdjggjphedaaDoorW.PrintMore
set_option linter.unusedVariables false
set_option linter.unusedSimpArgs false
section
variable {f d base : Nat} {h : Hnd} {n : Nod} {v : Value} {data : List Int} {W : World}
set_option maxHeartbeats 1000000 in
theorem readat41 (F : Fil f d h n v data base W) (vb : Value) (off k x : Int) (ev : Value) (Post : World → Prop)
    (hC : Calls Tryd.prog 40 #[.pointer (some ⟨f, 0, none⟩), vb] (W.setCell ⟨f, 0, none⟩ (.int .i64 off)) fun e w' => e = .returned (.tuple #[.int .i64 k, ev]) ∧ Fil f d { h with pos := x } n v data base w' ∧ Post w') :
    Calls Tryd.prog 41 #[.pointer (some ⟨f, 0, none⟩), vb, .int .i64 off] W fun e w' => e = .returned (.tuple #[.int .i64 k, ev]) ∧ ∃ w1, Post w1 ∧ Fil f d { h with pos := x } n v data base w1 ∧ w' = w1.setCell ⟨f, 0, none⟩ (.int .i64 h.pos) := by
  have c0 := F.c0
  have z0 := blk_frozen F.hf 0
  have HC := Lib.hid hC
  clear F hC
  go_enter Tryd.func41, Tryd.ntmps41
  go_wp2_with (first | (go_at_call 40; (with_reducible refine (HC.out).mono ?_); rintro e w1 ⟨rfl, hF, hP⟩; have HF := Lib.hid hF; have HP := Lib.hid hP; have c1 := hF.c0; have z1 := blk_frozen hF.hf 0; clear hF hP))
  go_ret2
  exact ⟨rfl, w1, HP.out, HF.out, rfl⟩
set_option maxHeartbeats 1000000 in
theorem new25 (nd : Nat) : Calls Tryd.prog 25 #[.pointer (some ⟨nd, 0, none⟩)] W fun e w' => e = .returned (.pointer (some ⟨W.heap.size, 0, none⟩)) ∧ w'.heap[W.heap.size]? = some (.cells (hcs ⟨0, 0, false, false⟩ nd) 94 (0, 0)) ∧ w' = W.alloc (.cells (hcs ⟨0, 0, false, false⟩ nd) 94) := by
  go_enter Tryd.func25, Tryd.ntmps25
  go_wp2_with fail
  go_ret
  exact ⟨rfl, blk_new _ _, rfl⟩
set_option maxHeartbeats 1000000 in
theorem new26 (nd : Nat) : Calls Tryd.prog 26 #[.pointer (some ⟨nd, 0, none⟩)] W fun e w' => e = .returned (.pointer (some ⟨W.heap.size, 0, none⟩)) ∧ w'.heap[W.heap.size]? = some (.cells (hcs ⟨0, 0, false, true⟩ nd) 94 (0, 0)) ∧ w' = W.alloc (.cells (hcs ⟨0, 0, false, true⟩ nd) 94) := by
  go_enter Tryd.func26, Tryd.ntmps26
  go_wp2_with fail
  go_ret
  exact ⟨rfl, blk_new _ _, rfl⟩
set_option maxHeartbeats 1000000 in
theorem make39 (nm : ByteArray) : Calls Tryd.prog 39 #[.string nm] W fun e w' => e = .returned (.pointer (some ⟨W.heap.size, 0, none⟩)) ∧ w' = W.alloc (.cells (ncs ⟨nm, .map none, false, 268435456, 0⟩ (.slice none 0 0)) 92) := by
  go_enter Tryd.func39, Tryd.ntmps39
  go_wp2_with fail
  go_ret
  exact ⟨rfl, rfl⟩
set_option maxHeartbeats 1000000 in
theorem with24 (nm : ByteArray) (A : Option Addr) (m c : Nat) : Calls Tryd.prog 24 #[.string nm, .slice A m c] W fun e w' => e = .returned (.pointer (some ⟨W.heap.size, 0, none⟩)) ∧ w'.heap[W.heap.size]? = some (.cells (ncs ⟨nm, .map none, false, 268435456, 0⟩ (.slice A m c)) 92 (0, 0)) ∧ Below W.heap.size W w' := by
  have HM := Lib.hid (fun nm => make39 (W := W) nm)
  go_enter Tryd.func24, Tryd.ntmps24
  go_wp2_with (first | (go_at_call 39; (with_reducible refine (HM.out _).mono ?_); rintro e w1 ⟨rfl, rfl⟩))
  go_ret
  refine ⟨rfl, ?_, ?_⟩
  · exact blk_new W (.cells (ncs ⟨nm, .map none, false, 268435456, 0⟩ (.slice A m c)) 92)
  · exact below_alloc (Below.refl _ _) _
set_option maxHeartbeats 1000000 in
theorem bytes28 (F : Fil f d h n v data base W) : Calls Tryd.prog 28 #[.pointer (some ⟨d, 0, none⟩)] W fun e w' => e = .returned v ∧ w' = W := by
  have n1 := F.n1
  clear F
  go_enter Tryd.func28, Tryd.ntmps28
  go_wp2_with fail
  go_ret
  exact ⟨rfl, rfl⟩
set_option maxHeartbeats 1000000 in
theorem err83 (s : ByteArray) : Calls Tryd.prog 83 #[.string s] W fun e w' => e = .returned (.iface 149 (.pointer (some ⟨W.heap.size, 0, none⟩))) ∧ w' = W.alloc (.cells #[.string s] 151) := by
  go_enter Tryd.func83, Tryd.ntmps83
  go_wp2_with fail
  go_ret
  exact ⟨rfl, rfl⟩
end
end Go.Proofs.YtljcdjggjphedaaDoor.Hd
