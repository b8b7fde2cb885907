/- Proved: for every index and rest FnNameJoined answers true: an index that stands for a prefix and a rest are the prefix with the rest behind it (indexes 0 to 4 and 6 to 8; else the law answers true at once). The prefixes' table reads as the program's text lays it (the card ties it). -/
import Derived.Test.YtlmkmippmjfagaaDoorRows
import Derived.Test.YtlmkmippmjfagaaDoorAdapter
import Derived.Test.YtlmkmippmjfagaaDoorCards
import Derived.Test.YtlmkmippmjfagaaDoorTie
import Derived.SevenTiedAt
import Derived.ChangeSame
import Derived.ChangeArms
import Derived.OpenShut
import Derived.WalkKit
import Derived.WalkSpells
import Derived.Lib.Hide
import Derived.Handy
import Derived.LoopTactic
import Derived.WalkLawsBesides
import Derived.Laws.Rows
namespace Go.Proofs.YtlmkmippmjfagaaDoor.Nj
open Go.RowKit
set_option linter.unusedVariables false
set_option maxRecDepth 100000
def cells14 : Array Value := #[.int .u8 2, .string ⟨#[115, 121, 115, 116, 101, 109, 46, 112, 111, 115, 105, 120, 95, 97, 99, 108, 95, 97, 99, 99, 101, 115, 115]⟩, .int .u8 3, .string ⟨#[115, 121, 115, 116, 101, 109, 46, 112, 111, 115, 105, 120, 95, 97, 99, 108, 95, 100, 101, 102, 97, 117, 108, 116]⟩, .int .u8 8, .string ⟨#[115, 121, 115, 116, 101, 109, 46, 114, 105, 99, 104, 97, 99, 108]⟩, .int .u8 7, .string ⟨#[115, 121, 115, 116, 101, 109, 46]⟩, .int .u8 1, .string ⟨#[117, 115, 101, 114, 46]⟩, .int .u8 4, .string ⟨#[116, 114, 117, 115, 116, 101, 100, 46]⟩, .int .u8 6, .string ⟨#[115, 101, 99, 117, 114, 105, 116, 121, 46]⟩]
theorem empty_app (s : ByteArray) : s = (⟨#[]⟩ : ByteArray) ++ s := by apply ByteArray.ext; simp
theorem ret_string {a b : ByteArray} (h : a = b) : Ending.returned (.string a) = .returned (.string b) := by rw [h]
theorem idx0 (w : World) : (Instr.index 29 (.agg cells14) (.int .i64 0)).run Tryd.prog w = .ok (.agg #[.int .u8 2, .string ⟨#[115, 121, 115, 116, 101, 109, 46, 112, 111, 115, 105, 120, 95, 97, 99, 108, 95, 97, 99, 99, 101, 115, 115]⟩]) w := by kernel_rfl
theorem idx1 (w : World) : (Instr.index 29 (.agg cells14) (.int .i64 1)).run Tryd.prog w = .ok (.agg #[.int .u8 3, .string ⟨#[115, 121, 115, 116, 101, 109, 46, 112, 111, 115, 105, 120, 95, 97, 99, 108, 95, 100, 101, 102, 97, 117, 108, 116]⟩]) w := by kernel_rfl
theorem idx2 (w : World) : (Instr.index 29 (.agg cells14) (.int .i64 2)).run Tryd.prog w = .ok (.agg #[.int .u8 8, .string ⟨#[115, 121, 115, 116, 101, 109, 46, 114, 105, 99, 104, 97, 99, 108]⟩]) w := by kernel_rfl
theorem idx3 (w : World) : (Instr.index 29 (.agg cells14) (.int .i64 3)).run Tryd.prog w = .ok (.agg #[.int .u8 7, .string ⟨#[115, 121, 115, 116, 101, 109, 46]⟩]) w := by kernel_rfl
theorem idx4 (w : World) : (Instr.index 29 (.agg cells14) (.int .i64 4)).run Tryd.prog w = .ok (.agg #[.int .u8 1, .string ⟨#[117, 115, 101, 114, 46]⟩]) w := by kernel_rfl
theorem idx5 (w : World) : (Instr.index 29 (.agg cells14) (.int .i64 5)).run Tryd.prog w = .ok (.agg #[.int .u8 4, .string ⟨#[116, 114, 117, 115, 116, 101, 100, 46]⟩]) w := by kernel_rfl
theorem idx6 (w : World) : (Instr.index 29 (.agg cells14) (.int .i64 6)).run Tryd.prog w = .ok (.agg #[.int .u8 6, .string ⟨#[115, 101, 99, 117, 114, 105, 116, 121, 46]⟩]) w := by kernel_rfl
set_option maxHeartbeats 1000000 in
theorem dec0 (s : ByteArray) (w : World) (hs : s.size ≤ 2147483647) (t : TypeId) (fr : Nat × Nat) (hg : w.heap[0]? = some (.cells cells14 t fr)) :
    Calls Tryd.prog 8 #[.int .u8 0, .string s] w fun e w' => e = .returned (.string (⟨#[]⟩ ++ s)) ∧ Below w.heap.size w w' := by
  go_enter Tryd.func8, Tryd.ntmps8
  go_wp2_with (refine wpList_load_row rfl 29 _ rfl 0 rfl t _ fr _ hg Tryd.underlying29 rfl (by kernel_rfl) ?_)
  have i0 := fun w => idx0 w
  have i1 := fun w => idx1 w
  have i2 := fun w => idx2 w
  have i3 := fun w => idx3 w
  have i4 := fun w => idx4 w
  have i5 := fun w => idx5 w
  have i6 := fun w => idx6 w
  go_rounds 8
  go_ret
  exact ⟨ret_string (by first | rfl | (simp; done) | exact empty_app s), by go_grown⟩
set_option maxHeartbeats 1000000 in
theorem dec1 (s : ByteArray) (w : World) (hs : s.size ≤ 2147483647) (t : TypeId) (fr : Nat × Nat) (hg : w.heap[0]? = some (.cells cells14 t fr)) :
    Calls Tryd.prog 8 #[.int .u8 1, .string s] w fun e w' => e = .returned (.string (⟨#[117, 115, 101, 114, 46]⟩ ++ s)) ∧ Below w.heap.size w w' := by
  go_enter Tryd.func8, Tryd.ntmps8
  go_wp2_with (refine wpList_load_row rfl 29 _ rfl 0 rfl t _ fr _ hg Tryd.underlying29 rfl (by kernel_rfl) ?_)
  have i0 := fun w => idx0 w
  have i1 := fun w => idx1 w
  have i2 := fun w => idx2 w
  have i3 := fun w => idx3 w
  have i4 := fun w => idx4 w
  go_rounds 5
  go_ret
  exact ⟨ret_string (by first | rfl | (simp; done) | exact empty_app s), by go_grown⟩
set_option maxHeartbeats 1000000 in
theorem dec2 (s : ByteArray) (w : World) (hs : s.size ≤ 2147483647) (t : TypeId) (fr : Nat × Nat) (hg : w.heap[0]? = some (.cells cells14 t fr)) :
    Calls Tryd.prog 8 #[.int .u8 2, .string s] w fun e w' => e = .returned (.string (⟨#[115, 121, 115, 116, 101, 109, 46, 112, 111, 115, 105, 120, 95, 97, 99, 108, 95, 97, 99, 99, 101, 115, 115]⟩ ++ s)) ∧ Below w.heap.size w w' := by
  go_enter Tryd.func8, Tryd.ntmps8
  go_wp2_with (refine wpList_load_row rfl 29 _ rfl 0 rfl t _ fr _ hg Tryd.underlying29 rfl (by kernel_rfl) ?_)
  have i0 := fun w => idx0 w
  go_rounds 1
  go_ret
  exact ⟨ret_string (by first | rfl | (simp; done) | exact empty_app s), by go_grown⟩
set_option maxHeartbeats 1000000 in
theorem dec3 (s : ByteArray) (w : World) (hs : s.size ≤ 2147483647) (t : TypeId) (fr : Nat × Nat) (hg : w.heap[0]? = some (.cells cells14 t fr)) :
    Calls Tryd.prog 8 #[.int .u8 3, .string s] w fun e w' => e = .returned (.string (⟨#[115, 121, 115, 116, 101, 109, 46, 112, 111, 115, 105, 120, 95, 97, 99, 108, 95, 100, 101, 102, 97, 117, 108, 116]⟩ ++ s)) ∧ Below w.heap.size w w' := by
  go_enter Tryd.func8, Tryd.ntmps8
  go_wp2_with (refine wpList_load_row rfl 29 _ rfl 0 rfl t _ fr _ hg Tryd.underlying29 rfl (by kernel_rfl) ?_)
  have i0 := fun w => idx0 w
  have i1 := fun w => idx1 w
  go_rounds 2
  go_ret
  exact ⟨ret_string (by first | rfl | (simp; done) | exact empty_app s), by go_grown⟩
set_option maxHeartbeats 1000000 in
theorem dec4 (s : ByteArray) (w : World) (hs : s.size ≤ 2147483647) (t : TypeId) (fr : Nat × Nat) (hg : w.heap[0]? = some (.cells cells14 t fr)) :
    Calls Tryd.prog 8 #[.int .u8 4, .string s] w fun e w' => e = .returned (.string (⟨#[116, 114, 117, 115, 116, 101, 100, 46]⟩ ++ s)) ∧ Below w.heap.size w w' := by
  go_enter Tryd.func8, Tryd.ntmps8
  go_wp2_with (refine wpList_load_row rfl 29 _ rfl 0 rfl t _ fr _ hg Tryd.underlying29 rfl (by kernel_rfl) ?_)
  have i0 := fun w => idx0 w
  have i1 := fun w => idx1 w
  have i2 := fun w => idx2 w
  have i3 := fun w => idx3 w
  have i4 := fun w => idx4 w
  have i5 := fun w => idx5 w
  go_rounds 6
  go_ret
  exact ⟨ret_string (by first | rfl | (simp; done) | exact empty_app s), by go_grown⟩
set_option maxHeartbeats 1000000 in
theorem dec6 (s : ByteArray) (w : World) (hs : s.size ≤ 2147483647) (t : TypeId) (fr : Nat × Nat) (hg : w.heap[0]? = some (.cells cells14 t fr)) :
    Calls Tryd.prog 8 #[.int .u8 6, .string s] w fun e w' => e = .returned (.string (⟨#[115, 101, 99, 117, 114, 105, 116, 121, 46]⟩ ++ s)) ∧ Below w.heap.size w w' := by
  go_enter Tryd.func8, Tryd.ntmps8
  go_wp2_with (refine wpList_load_row rfl 29 _ rfl 0 rfl t _ fr _ hg Tryd.underlying29 rfl (by kernel_rfl) ?_)
  have i0 := fun w => idx0 w
  have i1 := fun w => idx1 w
  have i2 := fun w => idx2 w
  have i3 := fun w => idx3 w
  have i4 := fun w => idx4 w
  have i5 := fun w => idx5 w
  have i6 := fun w => idx6 w
  go_rounds 7
  go_ret
  exact ⟨ret_string (by first | rfl | (simp; done) | exact empty_app s), by go_grown⟩
set_option maxHeartbeats 1000000 in
theorem dec7 (s : ByteArray) (w : World) (hs : s.size ≤ 2147483647) (t : TypeId) (fr : Nat × Nat) (hg : w.heap[0]? = some (.cells cells14 t fr)) :
    Calls Tryd.prog 8 #[.int .u8 7, .string s] w fun e w' => e = .returned (.string (⟨#[115, 121, 115, 116, 101, 109, 46]⟩ ++ s)) ∧ Below w.heap.size w w' := by
  go_enter Tryd.func8, Tryd.ntmps8
  go_wp2_with (refine wpList_load_row rfl 29 _ rfl 0 rfl t _ fr _ hg Tryd.underlying29 rfl (by kernel_rfl) ?_)
  have i0 := fun w => idx0 w
  have i1 := fun w => idx1 w
  have i2 := fun w => idx2 w
  have i3 := fun w => idx3 w
  go_rounds 4
  go_ret
  exact ⟨ret_string (by first | rfl | (simp; done) | exact empty_app s), by go_grown⟩
set_option maxHeartbeats 1000000 in
theorem dec8 (s : ByteArray) (w : World) (hs : s.size ≤ 2147483647) (t : TypeId) (fr : Nat × Nat) (hg : w.heap[0]? = some (.cells cells14 t fr)) :
    Calls Tryd.prog 8 #[.int .u8 8, .string s] w fun e w' => e = .returned (.string (⟨#[115, 121, 115, 116, 101, 109, 46, 114, 105, 99, 104, 97, 99, 108]⟩ ++ s)) ∧ Below w.heap.size w w' := by
  go_enter Tryd.func8, Tryd.ntmps8
  go_wp2_with (refine wpList_load_row rfl 29 _ rfl 0 rfl t _ fr _ hg Tryd.underlying29 rfl (by kernel_rfl) ?_)
  have i0 := fun w => idx0 w
  have i1 := fun w => idx1 w
  have i2 := fun w => idx2 w
  go_rounds 3
  go_ret
  exact ⟨ret_string (by first | rfl | (simp; done) | exact empty_app s), by go_grown⟩
set_option maxHeartbeats 1000000 in
theorem door0 (s : ByteArray) (w : World) (hs : s.size ≤ 2147483647) (t : TypeId) (fr : Nat × Nat) (hg : w.heap[0]? = some (.cells cells14 t fr)) :
    Calls Tryd.prog 6 #[.int .u8 0, .string s] w fun e w' => e = .returned (.string (⟨#[]⟩ ++ s)) ∧ Below w.heap.size w w' := by
  go_enter Tryd.func6, Tryd.ntmps6
  go_wp2_with fail
  refine (dec0 s w hs t fr hg).mono ?_
  rintro e w1 ⟨rfl, hb⟩
  generalize hr : (⟨#[]⟩ ++ s : ByteArray) = r
  have HR := Lib.hid hr
  clear hr
  go_wp2
  go_ret
  exact ⟨ret_string HR.out.symm, hb⟩
set_option maxHeartbeats 1000000 in
theorem impl0 (s : ByteArray) (w : World) (hs : s.size ≤ 2147483647) (t : TypeId) (fr : Nat × Nat) (hg : w.heap[0]? = some (.cells cells14 t fr)) :
    Calls Tryd.prog 4 #[.int .u8 0, .string s] w fun e w' => e = .returned (.string (⟨#[]⟩ ++ s)) ∧ Below w.heap.size w w' := by
  go_enter Tryd.func4, Tryd.ntmps4
  go_wp2_with fail
  refine (door0 s w hs t fr hg).mono ?_
  rintro e w1 ⟨rfl, hb⟩
  generalize hr : (⟨#[]⟩ ++ s : ByteArray) = r
  have HR := Lib.hid hr
  clear hr
  go_wp2
  go_ret
  exact ⟨ret_string HR.out.symm, hb⟩
set_option maxHeartbeats 1000000 in
theorem spec0 (s : ByteArray) (w : World) (hs : s.size ≤ 2147483647) :
    Calls Tryd.prog 5 #[.int .u64 0, .string s] w fun e w' => e = .returned (.string (⟨#[]⟩ ++ s)) ∧ w = w' := by
  go_enter Tryd.func5, Tryd.ntmps5
  go_wp2
  go_ret
  exact ⟨ret_string (by first | rfl | (simp; done) | exact empty_app s), rfl⟩
set_option maxHeartbeats 1000000 in
theorem law0 (s : ByteArray) (w : World) (hs : s.size ≤ 2147483647) (t : TypeId) (fr : Nat × Nat) (hg : w.heap[0]? = some (.cells cells14 t fr)) :
    Calls Tryd.prog 3 #[.int .u8 0, .string s] w fun e w' => e = .returned (.bool true) ∧ Below w.heap.size w w' := by
  go_enter Tryd.func3, Tryd.ntmps3
  go_wp2_with fail
  refine (impl0 s w hs t fr hg).mono ?_
  rintro e w1 ⟨rfl, hb⟩
  have hc := fun W => spec0 s W hs
  generalize (⟨#[]⟩ ++ s : ByteArray) = r at hc
  have HC := Lib.hid hc
  clear hc
  go_wp2_with fail
  refine (HC.out _).mono ?_
  rintro e w2 ⟨rfl, rfl⟩
  go_wp2
  go_ret
  exact ⟨by simp, hb⟩
set_option maxHeartbeats 1000000 in
theorem door1 (s : ByteArray) (w : World) (hs : s.size ≤ 2147483647) (t : TypeId) (fr : Nat × Nat) (hg : w.heap[0]? = some (.cells cells14 t fr)) :
    Calls Tryd.prog 6 #[.int .u8 1, .string s] w fun e w' => e = .returned (.string (⟨#[117, 115, 101, 114, 46]⟩ ++ s)) ∧ Below w.heap.size w w' := by
  go_enter Tryd.func6, Tryd.ntmps6
  go_wp2_with fail
  refine (dec1 s w hs t fr hg).mono ?_
  rintro e w1 ⟨rfl, hb⟩
  generalize hr : (⟨#[117, 115, 101, 114, 46]⟩ ++ s : ByteArray) = r
  have HR := Lib.hid hr
  clear hr
  go_wp2
  go_ret
  exact ⟨ret_string HR.out.symm, hb⟩
set_option maxHeartbeats 1000000 in
theorem impl1 (s : ByteArray) (w : World) (hs : s.size ≤ 2147483647) (t : TypeId) (fr : Nat × Nat) (hg : w.heap[0]? = some (.cells cells14 t fr)) :
    Calls Tryd.prog 4 #[.int .u8 1, .string s] w fun e w' => e = .returned (.string (⟨#[117, 115, 101, 114, 46]⟩ ++ s)) ∧ Below w.heap.size w w' := by
  go_enter Tryd.func4, Tryd.ntmps4
  go_wp2_with fail
  refine (door1 s w hs t fr hg).mono ?_
  rintro e w1 ⟨rfl, hb⟩
  generalize hr : (⟨#[117, 115, 101, 114, 46]⟩ ++ s : ByteArray) = r
  have HR := Lib.hid hr
  clear hr
  go_wp2
  go_ret
  exact ⟨ret_string HR.out.symm, hb⟩
set_option maxHeartbeats 1000000 in
theorem spec1 (s : ByteArray) (w : World) (hs : s.size ≤ 2147483647) :
    Calls Tryd.prog 5 #[.int .u64 1, .string s] w fun e w' => e = .returned (.string (⟨#[117, 115, 101, 114, 46]⟩ ++ s)) ∧ w = w' := by
  go_enter Tryd.func5, Tryd.ntmps5
  go_wp2
  go_ret
  exact ⟨ret_string (by first | rfl | (simp; done) | exact empty_app s), rfl⟩
set_option maxHeartbeats 1000000 in
theorem law1 (s : ByteArray) (w : World) (hs : s.size ≤ 2147483647) (t : TypeId) (fr : Nat × Nat) (hg : w.heap[0]? = some (.cells cells14 t fr)) :
    Calls Tryd.prog 3 #[.int .u8 1, .string s] w fun e w' => e = .returned (.bool true) ∧ Below w.heap.size w w' := by
  go_enter Tryd.func3, Tryd.ntmps3
  go_wp2_with fail
  refine (impl1 s w hs t fr hg).mono ?_
  rintro e w1 ⟨rfl, hb⟩
  have hc := fun W => spec1 s W hs
  generalize (⟨#[117, 115, 101, 114, 46]⟩ ++ s : ByteArray) = r at hc
  have HC := Lib.hid hc
  clear hc
  go_wp2_with fail
  refine (HC.out _).mono ?_
  rintro e w2 ⟨rfl, rfl⟩
  go_wp2
  go_ret
  exact ⟨by simp, hb⟩
set_option maxHeartbeats 1000000 in
theorem door2 (s : ByteArray) (w : World) (hs : s.size ≤ 2147483647) (t : TypeId) (fr : Nat × Nat) (hg : w.heap[0]? = some (.cells cells14 t fr)) :
    Calls Tryd.prog 6 #[.int .u8 2, .string s] w fun e w' => e = .returned (.string (⟨#[115, 121, 115, 116, 101, 109, 46, 112, 111, 115, 105, 120, 95, 97, 99, 108, 95, 97, 99, 99, 101, 115, 115]⟩ ++ s)) ∧ Below w.heap.size w w' := by
  go_enter Tryd.func6, Tryd.ntmps6
  go_wp2_with fail
  refine (dec2 s w hs t fr hg).mono ?_
  rintro e w1 ⟨rfl, hb⟩
  generalize hr : (⟨#[115, 121, 115, 116, 101, 109, 46, 112, 111, 115, 105, 120, 95, 97, 99, 108, 95, 97, 99, 99, 101, 115, 115]⟩ ++ s : ByteArray) = r
  have HR := Lib.hid hr
  clear hr
  go_wp2
  go_ret
  exact ⟨ret_string HR.out.symm, hb⟩
set_option maxHeartbeats 1000000 in
theorem impl2 (s : ByteArray) (w : World) (hs : s.size ≤ 2147483647) (t : TypeId) (fr : Nat × Nat) (hg : w.heap[0]? = some (.cells cells14 t fr)) :
    Calls Tryd.prog 4 #[.int .u8 2, .string s] w fun e w' => e = .returned (.string (⟨#[115, 121, 115, 116, 101, 109, 46, 112, 111, 115, 105, 120, 95, 97, 99, 108, 95, 97, 99, 99, 101, 115, 115]⟩ ++ s)) ∧ Below w.heap.size w w' := by
  go_enter Tryd.func4, Tryd.ntmps4
  go_wp2_with fail
  refine (door2 s w hs t fr hg).mono ?_
  rintro e w1 ⟨rfl, hb⟩
  generalize hr : (⟨#[115, 121, 115, 116, 101, 109, 46, 112, 111, 115, 105, 120, 95, 97, 99, 108, 95, 97, 99, 99, 101, 115, 115]⟩ ++ s : ByteArray) = r
  have HR := Lib.hid hr
  clear hr
  go_wp2
  go_ret
  exact ⟨ret_string HR.out.symm, hb⟩
set_option maxHeartbeats 1000000 in
theorem spec2 (s : ByteArray) (w : World) (hs : s.size ≤ 2147483647) :
    Calls Tryd.prog 5 #[.int .u64 2, .string s] w fun e w' => e = .returned (.string (⟨#[115, 121, 115, 116, 101, 109, 46, 112, 111, 115, 105, 120, 95, 97, 99, 108, 95, 97, 99, 99, 101, 115, 115]⟩ ++ s)) ∧ w = w' := by
  go_enter Tryd.func5, Tryd.ntmps5
  go_wp2
  go_ret
  exact ⟨ret_string (by first | rfl | (simp; done) | exact empty_app s), rfl⟩
set_option maxHeartbeats 1000000 in
theorem law2 (s : ByteArray) (w : World) (hs : s.size ≤ 2147483647) (t : TypeId) (fr : Nat × Nat) (hg : w.heap[0]? = some (.cells cells14 t fr)) :
    Calls Tryd.prog 3 #[.int .u8 2, .string s] w fun e w' => e = .returned (.bool true) ∧ Below w.heap.size w w' := by
  go_enter Tryd.func3, Tryd.ntmps3
  go_wp2_with fail
  refine (impl2 s w hs t fr hg).mono ?_
  rintro e w1 ⟨rfl, hb⟩
  have hc := fun W => spec2 s W hs
  generalize (⟨#[115, 121, 115, 116, 101, 109, 46, 112, 111, 115, 105, 120, 95, 97, 99, 108, 95, 97, 99, 99, 101, 115, 115]⟩ ++ s : ByteArray) = r at hc
  have HC := Lib.hid hc
  clear hc
  go_wp2_with fail
  refine (HC.out _).mono ?_
  rintro e w2 ⟨rfl, rfl⟩
  go_wp2
  go_ret
  exact ⟨by simp, hb⟩
set_option maxHeartbeats 1000000 in
theorem door3 (s : ByteArray) (w : World) (hs : s.size ≤ 2147483647) (t : TypeId) (fr : Nat × Nat) (hg : w.heap[0]? = some (.cells cells14 t fr)) :
    Calls Tryd.prog 6 #[.int .u8 3, .string s] w fun e w' => e = .returned (.string (⟨#[115, 121, 115, 116, 101, 109, 46, 112, 111, 115, 105, 120, 95, 97, 99, 108, 95, 100, 101, 102, 97, 117, 108, 116]⟩ ++ s)) ∧ Below w.heap.size w w' := by
  go_enter Tryd.func6, Tryd.ntmps6
  go_wp2_with fail
  refine (dec3 s w hs t fr hg).mono ?_
  rintro e w1 ⟨rfl, hb⟩
  generalize hr : (⟨#[115, 121, 115, 116, 101, 109, 46, 112, 111, 115, 105, 120, 95, 97, 99, 108, 95, 100, 101, 102, 97, 117, 108, 116]⟩ ++ s : ByteArray) = r
  have HR := Lib.hid hr
  clear hr
  go_wp2
  go_ret
  exact ⟨ret_string HR.out.symm, hb⟩
set_option maxHeartbeats 1000000 in
theorem impl3 (s : ByteArray) (w : World) (hs : s.size ≤ 2147483647) (t : TypeId) (fr : Nat × Nat) (hg : w.heap[0]? = some (.cells cells14 t fr)) :
    Calls Tryd.prog 4 #[.int .u8 3, .string s] w fun e w' => e = .returned (.string (⟨#[115, 121, 115, 116, 101, 109, 46, 112, 111, 115, 105, 120, 95, 97, 99, 108, 95, 100, 101, 102, 97, 117, 108, 116]⟩ ++ s)) ∧ Below w.heap.size w w' := by
  go_enter Tryd.func4, Tryd.ntmps4
  go_wp2_with fail
  refine (door3 s w hs t fr hg).mono ?_
  rintro e w1 ⟨rfl, hb⟩
  generalize hr : (⟨#[115, 121, 115, 116, 101, 109, 46, 112, 111, 115, 105, 120, 95, 97, 99, 108, 95, 100, 101, 102, 97, 117, 108, 116]⟩ ++ s : ByteArray) = r
  have HR := Lib.hid hr
  clear hr
  go_wp2
  go_ret
  exact ⟨ret_string HR.out.symm, hb⟩
set_option maxHeartbeats 1000000 in
theorem spec3 (s : ByteArray) (w : World) (hs : s.size ≤ 2147483647) :
    Calls Tryd.prog 5 #[.int .u64 3, .string s] w fun e w' => e = .returned (.string (⟨#[115, 121, 115, 116, 101, 109, 46, 112, 111, 115, 105, 120, 95, 97, 99, 108, 95, 100, 101, 102, 97, 117, 108, 116]⟩ ++ s)) ∧ w = w' := by
  go_enter Tryd.func5, Tryd.ntmps5
  go_wp2
  go_ret
  exact ⟨ret_string (by first | rfl | (simp; done) | exact empty_app s), rfl⟩
set_option maxHeartbeats 1000000 in
theorem law3 (s : ByteArray) (w : World) (hs : s.size ≤ 2147483647) (t : TypeId) (fr : Nat × Nat) (hg : w.heap[0]? = some (.cells cells14 t fr)) :
    Calls Tryd.prog 3 #[.int .u8 3, .string s] w fun e w' => e = .returned (.bool true) ∧ Below w.heap.size w w' := by
  go_enter Tryd.func3, Tryd.ntmps3
  go_wp2_with fail
  refine (impl3 s w hs t fr hg).mono ?_
  rintro e w1 ⟨rfl, hb⟩
  have hc := fun W => spec3 s W hs
  generalize (⟨#[115, 121, 115, 116, 101, 109, 46, 112, 111, 115, 105, 120, 95, 97, 99, 108, 95, 100, 101, 102, 97, 117, 108, 116]⟩ ++ s : ByteArray) = r at hc
  have HC := Lib.hid hc
  clear hc
  go_wp2_with fail
  refine (HC.out _).mono ?_
  rintro e w2 ⟨rfl, rfl⟩
  go_wp2
  go_ret
  exact ⟨by simp, hb⟩
set_option maxHeartbeats 1000000 in
theorem door4 (s : ByteArray) (w : World) (hs : s.size ≤ 2147483647) (t : TypeId) (fr : Nat × Nat) (hg : w.heap[0]? = some (.cells cells14 t fr)) :
    Calls Tryd.prog 6 #[.int .u8 4, .string s] w fun e w' => e = .returned (.string (⟨#[116, 114, 117, 115, 116, 101, 100, 46]⟩ ++ s)) ∧ Below w.heap.size w w' := by
  go_enter Tryd.func6, Tryd.ntmps6
  go_wp2_with fail
  refine (dec4 s w hs t fr hg).mono ?_
  rintro e w1 ⟨rfl, hb⟩
  generalize hr : (⟨#[116, 114, 117, 115, 116, 101, 100, 46]⟩ ++ s : ByteArray) = r
  have HR := Lib.hid hr
  clear hr
  go_wp2
  go_ret
  exact ⟨ret_string HR.out.symm, hb⟩
set_option maxHeartbeats 1000000 in
theorem impl4 (s : ByteArray) (w : World) (hs : s.size ≤ 2147483647) (t : TypeId) (fr : Nat × Nat) (hg : w.heap[0]? = some (.cells cells14 t fr)) :
    Calls Tryd.prog 4 #[.int .u8 4, .string s] w fun e w' => e = .returned (.string (⟨#[116, 114, 117, 115, 116, 101, 100, 46]⟩ ++ s)) ∧ Below w.heap.size w w' := by
  go_enter Tryd.func4, Tryd.ntmps4
  go_wp2_with fail
  refine (door4 s w hs t fr hg).mono ?_
  rintro e w1 ⟨rfl, hb⟩
  generalize hr : (⟨#[116, 114, 117, 115, 116, 101, 100, 46]⟩ ++ s : ByteArray) = r
  have HR := Lib.hid hr
  clear hr
  go_wp2
  go_ret
  exact ⟨ret_string HR.out.symm, hb⟩
set_option maxHeartbeats 1000000 in
theorem spec4 (s : ByteArray) (w : World) (hs : s.size ≤ 2147483647) :
    Calls Tryd.prog 5 #[.int .u64 4, .string s] w fun e w' => e = .returned (.string (⟨#[116, 114, 117, 115, 116, 101, 100, 46]⟩ ++ s)) ∧ w = w' := by
  go_enter Tryd.func5, Tryd.ntmps5
  go_wp2
  go_ret
  exact ⟨ret_string (by first | rfl | (simp; done) | exact empty_app s), rfl⟩
set_option maxHeartbeats 1000000 in
theorem law4 (s : ByteArray) (w : World) (hs : s.size ≤ 2147483647) (t : TypeId) (fr : Nat × Nat) (hg : w.heap[0]? = some (.cells cells14 t fr)) :
    Calls Tryd.prog 3 #[.int .u8 4, .string s] w fun e w' => e = .returned (.bool true) ∧ Below w.heap.size w w' := by
  go_enter Tryd.func3, Tryd.ntmps3
  go_wp2_with fail
  refine (impl4 s w hs t fr hg).mono ?_
  rintro e w1 ⟨rfl, hb⟩
  have hc := fun W => spec4 s W hs
  generalize (⟨#[116, 114, 117, 115, 116, 101, 100, 46]⟩ ++ s : ByteArray) = r at hc
  have HC := Lib.hid hc
  clear hc
  go_wp2_with fail
  refine (HC.out _).mono ?_
  rintro e w2 ⟨rfl, rfl⟩
  go_wp2
  go_ret
  exact ⟨by simp, hb⟩
set_option maxHeartbeats 1000000 in
theorem door6 (s : ByteArray) (w : World) (hs : s.size ≤ 2147483647) (t : TypeId) (fr : Nat × Nat) (hg : w.heap[0]? = some (.cells cells14 t fr)) :
    Calls Tryd.prog 6 #[.int .u8 6, .string s] w fun e w' => e = .returned (.string (⟨#[115, 101, 99, 117, 114, 105, 116, 121, 46]⟩ ++ s)) ∧ Below w.heap.size w w' := by
  go_enter Tryd.func6, Tryd.ntmps6
  go_wp2_with fail
  refine (dec6 s w hs t fr hg).mono ?_
  rintro e w1 ⟨rfl, hb⟩
  generalize hr : (⟨#[115, 101, 99, 117, 114, 105, 116, 121, 46]⟩ ++ s : ByteArray) = r
  have HR := Lib.hid hr
  clear hr
  go_wp2
  go_ret
  exact ⟨ret_string HR.out.symm, hb⟩
set_option maxHeartbeats 1000000 in
theorem impl6 (s : ByteArray) (w : World) (hs : s.size ≤ 2147483647) (t : TypeId) (fr : Nat × Nat) (hg : w.heap[0]? = some (.cells cells14 t fr)) :
    Calls Tryd.prog 4 #[.int .u8 6, .string s] w fun e w' => e = .returned (.string (⟨#[115, 101, 99, 117, 114, 105, 116, 121, 46]⟩ ++ s)) ∧ Below w.heap.size w w' := by
  go_enter Tryd.func4, Tryd.ntmps4
  go_wp2_with fail
  refine (door6 s w hs t fr hg).mono ?_
  rintro e w1 ⟨rfl, hb⟩
  generalize hr : (⟨#[115, 101, 99, 117, 114, 105, 116, 121, 46]⟩ ++ s : ByteArray) = r
  have HR := Lib.hid hr
  clear hr
  go_wp2
  go_ret
  exact ⟨ret_string HR.out.symm, hb⟩
set_option maxHeartbeats 1000000 in
theorem spec6 (s : ByteArray) (w : World) (hs : s.size ≤ 2147483647) :
    Calls Tryd.prog 5 #[.int .u64 6, .string s] w fun e w' => e = .returned (.string (⟨#[115, 101, 99, 117, 114, 105, 116, 121, 46]⟩ ++ s)) ∧ w = w' := by
  go_enter Tryd.func5, Tryd.ntmps5
  go_wp2
  go_ret
  exact ⟨ret_string (by first | rfl | (simp; done) | exact empty_app s), rfl⟩
set_option maxHeartbeats 1000000 in
theorem law6 (s : ByteArray) (w : World) (hs : s.size ≤ 2147483647) (t : TypeId) (fr : Nat × Nat) (hg : w.heap[0]? = some (.cells cells14 t fr)) :
    Calls Tryd.prog 3 #[.int .u8 6, .string s] w fun e w' => e = .returned (.bool true) ∧ Below w.heap.size w w' := by
  go_enter Tryd.func3, Tryd.ntmps3
  go_wp2_with fail
  refine (impl6 s w hs t fr hg).mono ?_
  rintro e w1 ⟨rfl, hb⟩
  have hc := fun W => spec6 s W hs
  generalize (⟨#[115, 101, 99, 117, 114, 105, 116, 121, 46]⟩ ++ s : ByteArray) = r at hc
  have HC := Lib.hid hc
  clear hc
  go_wp2_with fail
  refine (HC.out _).mono ?_
  rintro e w2 ⟨rfl, rfl⟩
  go_wp2
  go_ret
  exact ⟨by simp, hb⟩
set_option maxHeartbeats 1000000 in
theorem door7 (s : ByteArray) (w : World) (hs : s.size ≤ 2147483647) (t : TypeId) (fr : Nat × Nat) (hg : w.heap[0]? = some (.cells cells14 t fr)) :
    Calls Tryd.prog 6 #[.int .u8 7, .string s] w fun e w' => e = .returned (.string (⟨#[115, 121, 115, 116, 101, 109, 46]⟩ ++ s)) ∧ Below w.heap.size w w' := by
  go_enter Tryd.func6, Tryd.ntmps6
  go_wp2_with fail
  refine (dec7 s w hs t fr hg).mono ?_
  rintro e w1 ⟨rfl, hb⟩
  generalize hr : (⟨#[115, 121, 115, 116, 101, 109, 46]⟩ ++ s : ByteArray) = r
  have HR := Lib.hid hr
  clear hr
  go_wp2
  go_ret
  exact ⟨ret_string HR.out.symm, hb⟩
set_option maxHeartbeats 1000000 in
theorem impl7 (s : ByteArray) (w : World) (hs : s.size ≤ 2147483647) (t : TypeId) (fr : Nat × Nat) (hg : w.heap[0]? = some (.cells cells14 t fr)) :
    Calls Tryd.prog 4 #[.int .u8 7, .string s] w fun e w' => e = .returned (.string (⟨#[115, 121, 115, 116, 101, 109, 46]⟩ ++ s)) ∧ Below w.heap.size w w' := by
  go_enter Tryd.func4, Tryd.ntmps4
  go_wp2_with fail
  refine (door7 s w hs t fr hg).mono ?_
  rintro e w1 ⟨rfl, hb⟩
  generalize hr : (⟨#[115, 121, 115, 116, 101, 109, 46]⟩ ++ s : ByteArray) = r
  have HR := Lib.hid hr
  clear hr
  go_wp2
  go_ret
  exact ⟨ret_string HR.out.symm, hb⟩
set_option maxHeartbeats 1000000 in
theorem spec7 (s : ByteArray) (w : World) (hs : s.size ≤ 2147483647) :
    Calls Tryd.prog 5 #[.int .u64 7, .string s] w fun e w' => e = .returned (.string (⟨#[115, 121, 115, 116, 101, 109, 46]⟩ ++ s)) ∧ w = w' := by
  go_enter Tryd.func5, Tryd.ntmps5
  go_wp2
  go_ret
  exact ⟨ret_string (by first | rfl | (simp; done) | exact empty_app s), rfl⟩
set_option maxHeartbeats 1000000 in
theorem law7 (s : ByteArray) (w : World) (hs : s.size ≤ 2147483647) (t : TypeId) (fr : Nat × Nat) (hg : w.heap[0]? = some (.cells cells14 t fr)) :
    Calls Tryd.prog 3 #[.int .u8 7, .string s] w fun e w' => e = .returned (.bool true) ∧ Below w.heap.size w w' := by
  go_enter Tryd.func3, Tryd.ntmps3
  go_wp2_with fail
  refine (impl7 s w hs t fr hg).mono ?_
  rintro e w1 ⟨rfl, hb⟩
  have hc := fun W => spec7 s W hs
  generalize (⟨#[115, 121, 115, 116, 101, 109, 46]⟩ ++ s : ByteArray) = r at hc
  have HC := Lib.hid hc
  clear hc
  go_wp2_with fail
  refine (HC.out _).mono ?_
  rintro e w2 ⟨rfl, rfl⟩
  go_wp2
  go_ret
  exact ⟨by simp, hb⟩
set_option maxHeartbeats 1000000 in
theorem door8 (s : ByteArray) (w : World) (hs : s.size ≤ 2147483647) (t : TypeId) (fr : Nat × Nat) (hg : w.heap[0]? = some (.cells cells14 t fr)) :
    Calls Tryd.prog 6 #[.int .u8 8, .string s] w fun e w' => e = .returned (.string (⟨#[115, 121, 115, 116, 101, 109, 46, 114, 105, 99, 104, 97, 99, 108]⟩ ++ s)) ∧ Below w.heap.size w w' := by
  go_enter Tryd.func6, Tryd.ntmps6
  go_wp2_with fail
  refine (dec8 s w hs t fr hg).mono ?_
  rintro e w1 ⟨rfl, hb⟩
  generalize hr : (⟨#[115, 121, 115, 116, 101, 109, 46, 114, 105, 99, 104, 97, 99, 108]⟩ ++ s : ByteArray) = r
  have HR := Lib.hid hr
  clear hr
  go_wp2
  go_ret
  exact ⟨ret_string HR.out.symm, hb⟩
set_option maxHeartbeats 1000000 in
theorem impl8 (s : ByteArray) (w : World) (hs : s.size ≤ 2147483647) (t : TypeId) (fr : Nat × Nat) (hg : w.heap[0]? = some (.cells cells14 t fr)) :
    Calls Tryd.prog 4 #[.int .u8 8, .string s] w fun e w' => e = .returned (.string (⟨#[115, 121, 115, 116, 101, 109, 46, 114, 105, 99, 104, 97, 99, 108]⟩ ++ s)) ∧ Below w.heap.size w w' := by
  go_enter Tryd.func4, Tryd.ntmps4
  go_wp2_with fail
  refine (door8 s w hs t fr hg).mono ?_
  rintro e w1 ⟨rfl, hb⟩
  generalize hr : (⟨#[115, 121, 115, 116, 101, 109, 46, 114, 105, 99, 104, 97, 99, 108]⟩ ++ s : ByteArray) = r
  have HR := Lib.hid hr
  clear hr
  go_wp2
  go_ret
  exact ⟨ret_string HR.out.symm, hb⟩
set_option maxHeartbeats 1000000 in
theorem spec8 (s : ByteArray) (w : World) (hs : s.size ≤ 2147483647) :
    Calls Tryd.prog 5 #[.int .u64 8, .string s] w fun e w' => e = .returned (.string (⟨#[115, 121, 115, 116, 101, 109, 46, 114, 105, 99, 104, 97, 99, 108]⟩ ++ s)) ∧ w = w' := by
  go_enter Tryd.func5, Tryd.ntmps5
  go_wp2
  go_ret
  exact ⟨ret_string (by first | rfl | (simp; done) | exact empty_app s), rfl⟩
set_option maxHeartbeats 1000000 in
theorem law8 (s : ByteArray) (w : World) (hs : s.size ≤ 2147483647) (t : TypeId) (fr : Nat × Nat) (hg : w.heap[0]? = some (.cells cells14 t fr)) :
    Calls Tryd.prog 3 #[.int .u8 8, .string s] w fun e w' => e = .returned (.bool true) ∧ Below w.heap.size w w' := by
  go_enter Tryd.func3, Tryd.ntmps3
  go_wp2_with fail
  refine (impl8 s w hs t fr hg).mono ?_
  rintro e w1 ⟨rfl, hb⟩
  have hc := fun W => spec8 s W hs
  generalize (⟨#[115, 121, 115, 116, 101, 109, 46, 114, 105, 99, 104, 97, 99, 108]⟩ ++ s : ByteArray) = r at hc
  have HC := Lib.hid hc
  clear hc
  go_wp2_with fail
  refine (HC.out _).mono ?_
  rintro e w2 ⟨rfl, rfl⟩
  go_wp2
  go_ret
  exact ⟨by simp, hb⟩
set_option maxHeartbeats 1000000 in
theorem lawBig (i : Int) (s : ByteArray) (w : World) (hi0 : 0 ≤ i) (hi1 : i ≤ 255) (hs : s.size ≤ 9223372036854775807) (h : 2147483647 < s.size) :
    Calls Tryd.prog 3 #[.int .u8 i, .string s] w fun e w' => e = .returned (.bool true) ∧ Below w.heap.size w w' := by
  go_enter Tryd.func3, Tryd.ntmps3
  go_wp2
  go_ret
  exact ⟨rfl, Below.refl _ _⟩
set_option maxHeartbeats 1000000 in
theorem lawOut (i : Int) (s : ByteArray) (w : World) (hi0 : 0 ≤ i) (hi1 : i ≤ 255) (hs : s.size ≤ 2147483647) (h : 8 < i) :
    Calls Tryd.prog 3 #[.int .u8 i, .string s] w fun e w' => e = .returned (.bool true) ∧ Below w.heap.size w w' := by
  go_enter Tryd.func3, Tryd.ntmps3
  go_wp2
  go_ret
  exact ⟨rfl, Below.refl _ _⟩
set_option maxHeartbeats 1000000 in
theorem law5 (s : ByteArray) (w : World) (hs : s.size ≤ 2147483647) :
    Calls Tryd.prog 3 #[.int .u8 5, .string s] w fun e w' => e = .returned (.bool true) ∧ Below w.heap.size w w' := by
  go_enter Tryd.func3, Tryd.ntmps3
  go_wp2
  go_ret
  exact ⟨rfl, Below.refl _ _⟩
theorem law_ (i : Int) (s : ByteArray) (w : World) (hi0 : 0 ≤ i) (hi1 : i ≤ 255) (hs : s.size ≤ 9223372036854775807) (t : TypeId) (fr : Nat × Nat) (hg : w.heap[0]? = some (.cells cells14 t fr)) :
    Calls Tryd.prog 3 #[.int .u8 i, .string s] w fun e w' => e = .returned (.bool true) ∧ Below w.heap.size w w' := by
  by_cases h1 : 2147483647 < s.size
  · exact lawBig i s w hi0 hi1 hs h1
  · by_cases h2 : 8 < i
    · exact lawOut i s w hi0 hi1 (by omega) h2
    · have hs' : s.size ≤ 2147483647 := by omega
      have hi : i = 0 ∨ i = 1 ∨ i = 2 ∨ i = 3 ∨ i = 4 ∨ i = 5 ∨ i = 6 ∨ i = 7 ∨ i = 8 := by omega
      rcases hi with rfl | rfl | rfl | rfl | rfl | rfl | rfl | rfl | rfl
      · exact law0 s w hs' t fr hg
      · exact law1 s w hs' t fr hg
      · exact law2 s w hs' t fr hg
      · exact law3 s w hs' t fr hg
      · exact law4 s w hs' t fr hg
      · exact law5 s w hs'
      · exact law6 s w hs' t fr hg
      · exact law7 s w hs' t fr hg
      · exact law8 s w hs' t fr hg
open Go.ChangeShapes Go.WideShapes
theorem gl : Tryd.prog.globalNamed "pub-marram/pub/hcsshim/ext4/inner/compactext4.xattrPrefixes" = some 0 := by kernel_rfl
theorem glType : (Tryd.prog.globals[0]?).map (·.type) = some 29 := by kernel_rfl
theorem c29 : Tryd.prog.cellsOf 29 = 14 := by kernel_rfl
theorem c28 : Tryd.prog.cellsOf 28 = 2 := by kernel_rfl
theorem c5 : Tryd.prog.cellsOf 5 = 1 := by kernel_rfl
theorem c9 : Tryd.prog.cellsOf 9 = 1 := by kernel_rfl
theorem str_of (s : ByteArray) (l : List UInt8) (h : s.data.toList = l) : s = ⟨l.toArray⟩ := by
  subst h; cases s; simp
theorem pairAt {H : Type} {enc : TypeId × Value → H} {W : World} {base : Nat} {sp : Nat → Bool} {held : Bool} {fuel : Nat} {l : List Value} {y : DataW H × List MemPlace} {a : Int} {b : List UInt8}
    (h : DataW.trod enc Tryd.prog W base sp held fuel 28 l = some y) (hy : y.1 = .agg [.lit (.int .u8 a), .lit (.string b)]) : l = [.int .u8 a, .string ⟨b.toArray⟩] := by
  obtain ⟨y0, y1, n, rfl, hl, h0, h1⟩ := trod_struct2 Tryd.underlying28 h
  rw [c28] at hl
  match l, hl with
  | [u, v], _ =>
    have h0' : DataW.trod enc Tryd.prog W base sp held n 5 [u] = some y0 := by simpa [c5] using h0
    have h1' : DataW.trod enc Tryd.prog W base sp held n 9 [v] = some y1 := by simpa [c9] using h1
    obtain ⟨x, e0, rfl, _⟩ := DataW.trod_int Tryd.underlying5 h0'
    obtain ⟨s, e1, rfl, _⟩ := DataW.trod_string Tryd.underlying9 h1'
    simp only [List.cons.injEq, and_true] at e0 e1
    subst e0 e1
    simp at hy
    obtain ⟨rfl, hb⟩ := hy
    rw [str_of s b hb]
theorem block0 {W : World} (h : laidMet Tryd.prog [("pub-marram/pub/hcsshim/ext4/inner/compactext4.xattrPrefixes", Rows.laid_pub_marram_pub_hcsshim_ext4_inner_compactext4_xattrPrefixes)] W) : ∃ t fr, W.heap[0]? = some (.cells cells14 t fr) := by
  obtain ⟨ps, ⟨g, t, cs, fuel, p, q, hg, ht, hvar, hd, _, _⟩, _⟩ := h
  obtain rfl := Option.some.inj (gl.symm.trans hg)
  obtain rfl := Option.some.inj (glType.symm.trans ht)
  have hcs : ∃ t fr, W.heap[0]? = some (.cells cs t fr) := by
    unfold World.var? at hvar
    rw [gl] at hvar
    simp only [Option.bind_some] at hvar
    split at hvar
    · rename_i c t fr e
      obtain rfl := Option.some.inj hvar
      exact ⟨t, fr, e⟩
    · cases hvar
  obtain ⟨t, fr, hc⟩ := hcs
  refine ⟨t, fr, ?_⟩
  rw [hc]
  congr 2
  obtain ⟨xs, m, _, hx, hl, hn, hi⟩ := DataW.trod_array Tryd.underlying29 hd
  rw [c29] at hl
  rw [c28] at hi
  simp only [Prod.mk.injEq] at hx
  obtain ⟨hx, _⟩ := hx
  unfold Rows.laid_pub_marram_pub_hcsshim_ext4_inner_compactext4_xattrPrefixes at hx
  have hx := DataW.agg.inj hx
  match xs, hn with
  | [y0, y1, y2, y3, y4, y5, y6], _ =>
    simp only [List.map_cons, List.map_nil, List.cons.injEq, and_true] at hx
    obtain ⟨e0, e1, e2, e3, e4, e5, e6⟩ := hx
    obtain ⟨l⟩ := cs
    have k0 := pairAt (hi 0 (by omega)) e0.symm
    have k1 := pairAt (hi 1 (by omega)) e1.symm
    have k2 := pairAt (hi 2 (by omega)) e2.symm
    have k3 := pairAt (hi 3 (by omega)) e3.symm
    have k4 := pairAt (hi 4 (by omega)) e4.symm
    have k5 := pairAt (hi 5 (by omega)) e5.symm
    have k6 := pairAt (hi 6 (by omega)) e6.symm
    match l, hl with
    | [a0, a1, a2, a3, a4, a5, a6, a7, a8, a9, a10, a11, a12, a13], _ =>
      simp only [Nat.zero_mul, Nat.one_mul, Nat.reduceMul, List.drop_zero, List.drop_succ_cons, List.take_succ_cons, List.take_zero, List.cons.injEq, and_true] at k0 k1 k2 k3 k4 k5 k6
      obtain ⟨rfl, rfl⟩ := k0
      obtain ⟨rfl, rfl⟩ := k1
      obtain ⟨rfl, rfl⟩ := k2
      obtain ⟨rfl, rfl⟩ := k3
      obtain ⟨rfl, rfl⟩ := k4
      obtain ⟨rfl, rfl⟩ := k5
      obtain ⟨rfl, rfl⟩ := k6
      rfl

open Go.ChangeShapes Go.WideShapes Go.ChangeAt
theorem own : ownKnob Tryd.prog.godebug = none := by kernel_rfl
theorem laidOut : laidOutB Tryd.prog = true := by kernel_rfl
theorem readable3 : ∀ t ∈ Tryd.f3.params.toList, Tryd.prog.readableRec t = true ∧ t < Tryd.prog.types.size := by
  have h : (Tryd.f3.params.toList.all fun t => Tryd.prog.readableRec t && decide (t < Tryd.prog.types.size)) = true := by kernel_rfl
  intro t ht
  have := List.all_eq_true.1 h t ht
  simpa using this
def laidL : List (String × DataW Unit) := [("pub-marram/pub/hcsshim/ext4/inner/compactext4.xattrPrefixes", Rows.laid_pub_marram_pub_hcsshim_ext4_inner_compactext4_xattrPrefixes)]
set_option maxRecDepth 100000 in
theorem lifted (os : Os) (started : os.Started) (H : Type) (enc : TypeId × Value → H) :
    ReturnsInHanded {} Tryd.checked os 3 .any (fun w args => (Rows.fnNameJoinedSpec.pre enc Tryd.prog Tryd.f3 Rows.fnNameJoinedRow.domain false w args ∧ laidMetH Tryd.prog laidL w) ∧ sizedMet enc Tryd.prog Tryd.f3 (OpenSpec.ofChange Rows.fnNameJoinedSpec) false w args) (Rows.fnNameJoinedSpec.post enc Tryd.prog Tryd.f3 false true false false) := by
  refine Adapter.law_lifted_tied (C := Tryd.checked) (X := fun w => laidMetH Tryd.prog laidL w) (fun _ _ hh h => h.of_heap hh) own started (by kernel_rfl) Tryd.func3
    (ChangeSpec.witness_shaped (enc := enc) (C := Tryd.checked) (os := os) (X := fun w _ => laidMetH Tryd.prog laidL w) false (World.laidAll Tryd.prog os laidL) #[.int .u8 0, .string ⟨#[]⟩] 8 (World.laidAll_os _ _ _)
      (World.shaped_of_ZipB (by kernel_rfl) (by kernel_rfl)) (by kernel_rfl) (by kernel_rfl) (by kernel_rfl)
      (by rw [MakeChecks.laidMetH_plain _ _ _ (by kernel_rfl)]; exact laidMet_laidAll _ (by kernel_rfl) (by kernel_rfl)))
    laidOut readable3 (tb := 4) (by kernel_rfl) (by kernel_rfl) rfl ?_ ?_
  · intro ds hds
    rw [show Tryd.f3.params.size = 2 from by kernel_rfl] at hds
    match ds, hds with
    | [d1, d2], _ => rfl
  · intro W base args ds p hval hA _ _ hL0
    have hL : laidMet Tryd.prog laidL W := by rw [MakeChecks.laidMetH_plain _ _ _ (by kernel_rfl)] at hL0; exact hL0
    rw [Tryd.params3] at hA hval
    obtain ⟨v0, vs0, d0, ds0, p0, q0, hargs, rfl, rfl, h0, r0⟩ := trodAll_cons hA
    obtain ⟨v1, vs1, d1, ds1, p1, q1, rfl, rfl, rfl, h1, r1⟩ := trodAll_cons r0
    obtain ⟨rfl, rfl, rfl⟩ := trodAll_nil r1
    obtain rfl : args = #[v0, v1] := by cases args; simp_all
    obtain ⟨i, rfl, rfl, rfl, wi⟩ := open_int Tryd.underlying5 (hval 0 5 v0 rfl rfl) h0
    obtain ⟨s, rfl, rfl, rfl, ws⟩ := Go.ChangeMaps.open_string Tryd.underlying9 (hval 1 9 v1 rfl rfl) h1
    unfold maxLen at ws
    have bi : 0 ≤ i ∧ i ≤ 255 := by simpa [Lit.wf, IntKind.min, IntKind.max, IntKind.bits, IntKind.signed] using wi
    obtain ⟨t, fr, hg⟩ := block0 hL
    exact law_ i s W bi.1 bi.2 (by omega) t fr hg
theorem over : Rows.fnNameJoinedRow.holds Tryd.pinned (OpenSpec.ofChange Rows.fnNameJoinedSpec) :=
  OpenClaim.holds_of_wide 3 Tryd.f3 rfl rfl rfl rfl rfl rfl rfl ⟨rfl, rfl, rfl, rfl, rfl⟩ rfl rfl rfl rfl rfl (by kernel_rfl) Tryd.func3 (by kernel_rfl)
    (of_decide_eq_true (by kernel_rfl)) (by unfold Func.isWrapper; first | (rw [if_pos (by decide +kernel)]; kernel_rfl) | (rw [if_neg (by decide +kernel)]; exact ⟨rfl, rfl⟩))
    (fun os started H enc _ => lifted os started H enc)
theorem card_holds : Rows.FnNameJoinedCardSaid :=
  Claim7.holds_tied_plain_at .later [] [.data] true (true, "885f8c4f4c50e2086dc9f1f13ff07a5193851048c1944fafaccc4eca82cf3a2e") false over (fun _ h => by cases h) (by kernel_rfl) (fun _ h => by cases h) fnNameJoined_row_tie rfl ⟨rfl, rfl⟩ (by kernel_rfl) rfl
    (fun f fn hf hfn => by
      obtain rfl : f = 3 := Option.some.inj ((show Tryd.prog.funcNamed "pub-marram/laws.FnNameJoined" = some 3 by kernel_rfl).symm.trans hf) |>.symm
      obtain rfl : fn = Tryd.f3 := (Option.some.inj (Tryd.func3.symm.trans hfn)).symm
      exact ⟨by kernel_rfl, fun j t ht => by
        rw [Tryd.params3] at ht
        have hm : t ∈ [5, 9] := by simpa using Array.mem_of_getElem? ht
        have hall : ([5, 9].all fun u => !Tryd.prog.wantsStandIn u) = true := by kernel_rfl
        exact (show Tryd.prog.wantsStandIn t = false by simpa using List.all_eq_true.1 hall t hm)⟩)
    (by kernel_rfl)
#print axioms card_holds
end Go.Proofs.YtlmkmippmjfagaaDoor.Nj
