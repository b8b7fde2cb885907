/- The index of an attribute's prefix and the rest of its name. -/
import Derived.Test.YtckjbgneblfceaaDoorPFnFitFirstx2
import Derived.StillTailTactics
import Derived.Lib.QuoteBits
import Derived.Lib.Hide
import Derived.WalkLawsBesides
import Derived.Handy
import Derived.IntWalk
import Derived.Deep.RegionHeld3
namespace Go.Proofs.YtckjbgneblfceaaDoor.Fa
open Go.RowKit Go.Maps Go.Proofs.YtckjbgneblfceaaDoorW.PrintWords Go.Proofs.YtckjbgneblfceaaDoorW.PrintLast Go.Proofs.YtckjbgneblfceaaDoorW.PrintMore Go.Proofs.YtckjbgneblfceaaDoor.PFnFitFirst
set_option linter.unusedVariables false
set_option linter.unusedSimpArgs false
def cells14 : Array Value := #[.int .u8 2, .string ⟨#[115, 121, 115, 116, 101, 109, 46, 112, 111, 115, 105, 120, 95, 97, 99, 108, 95, 97, 99, 99, 101, 115, 115]⟩, .int .u8 3, .string ⟨#[115, 121, 115, 116, 101, 109, 46, 112, 111, 115, 105, 120, 95, 97, 99, 108, 95, 100, 101, 102, 97, 117, 108, 116]⟩, .int .u8 8, .string ⟨#[115, 121, 115, 116, 101, 109, 46, 114, 105, 99, 104, 97, 99, 108]⟩, .int .u8 7, .string ⟨#[115, 121, 115, 116, 101, 109, 46]⟩, .int .u8 1, .string ⟨#[117, 115, 101, 114, 46]⟩, .int .u8 4, .string ⟨#[116, 114, 117, 115, 116, 101, 100, 46]⟩, .int .u8 6, .string ⟨#[115, 101, 99, 117, 114, 105, 116, 121, 46]⟩]
theorem idx0 (w : World) : (Instr.index 147 (.agg cells14) (.int .i64 0)).run Tryd.prog w = .ok (.agg #[.int .u8 2, .string ⟨#[115, 121, 115, 116, 101, 109, 46, 112, 111, 115, 105, 120, 95, 97, 99, 108, 95, 97, 99, 99, 101, 115, 115]⟩]) w := by kernel_rfl
theorem idx1 (w : World) : (Instr.index 147 (.agg cells14) (.int .i64 1)).run Tryd.prog w = .ok (.agg #[.int .u8 3, .string ⟨#[115, 121, 115, 116, 101, 109, 46, 112, 111, 115, 105, 120, 95, 97, 99, 108, 95, 100, 101, 102, 97, 117, 108, 116]⟩]) w := by kernel_rfl
theorem idx2 (w : World) : (Instr.index 147 (.agg cells14) (.int .i64 2)).run Tryd.prog w = .ok (.agg #[.int .u8 8, .string ⟨#[115, 121, 115, 116, 101, 109, 46, 114, 105, 99, 104, 97, 99, 108]⟩]) w := by kernel_rfl
theorem idx3 (w : World) : (Instr.index 147 (.agg cells14) (.int .i64 3)).run Tryd.prog w = .ok (.agg #[.int .u8 7, .string ⟨#[115, 121, 115, 116, 101, 109, 46]⟩]) w := by kernel_rfl
theorem idx4 (w : World) : (Instr.index 147 (.agg cells14) (.int .i64 4)).run Tryd.prog w = .ok (.agg #[.int .u8 1, .string ⟨#[117, 115, 101, 114, 46]⟩]) w := by kernel_rfl
theorem idx5 (w : World) : (Instr.index 147 (.agg cells14) (.int .i64 5)).run Tryd.prog w = .ok (.agg #[.int .u8 4, .string ⟨#[116, 114, 117, 115, 116, 101, 100, 46]⟩]) w := by kernel_rfl
theorem idx6 (w : World) : (Instr.index 147 (.agg cells14) (.int .i64 6)).run Tryd.prog w = .ok (.agg #[.int .u8 6, .string ⟨#[115, 101, 99, 117, 114, 105, 116, 121, 46]⟩]) w := by kernel_rfl
def pfx : List (Int × ByteArray) := [(2, ⟨#[115, 121, 115, 116, 101, 109, 46, 112, 111, 115, 105, 120, 95, 97, 99, 108, 95, 97, 99, 99, 101, 115, 115]⟩), (3, ⟨#[115, 121, 115, 116, 101, 109, 46, 112, 111, 115, 105, 120, 95, 97, 99, 108, 95, 100, 101, 102, 97, 117, 108, 116]⟩), (8, ⟨#[115, 121, 115, 116, 101, 109, 46, 114, 105, 99, 104, 97, 99, 108]⟩), (7, ⟨#[115, 121, 115, 116, 101, 109, 46]⟩), (1, ⟨#[117, 115, 101, 114, 46]⟩), (4, ⟨#[116, 114, 117, 115, 116, 101, 100, 46]⟩), (6, ⟨#[115, 101, 99, 117, 114, 105, 116, 121, 46]⟩)]
/-- Whether a name begins so. -/
def beg (s p : ByteArray) : Bool := decide (p.size ≤ s.size) && ((s.extract 0 p.size).toList == p.toList)
def compF : List (Int × ByteArray) → ByteArray → Int × ByteArray
  | [], s => (0, s)
  | q :: r, s => if beg s q.2 = true then (q.1, s.extract q.2.size s.size) else compF r s
def comp (s : ByteArray) : Int × ByteArray := compF pfx s
theorem begins (s p : ByteArray) : strings_HasPrefix.f s p = some (beg s p) := by
  unfold strings_HasPrefix.f stringslite_HasPrefix.f beg
  by_cases h : p.size ≤ s.size
  · rw [if_pos (by omega), if_pos (by omega), if_pos (by omega)]
    simp [h]
  · rw [if_neg (by omega)]
    simp [h]
theorem beg_le {s p : ByteArray} (h : beg s p = true) : p.size ≤ s.size := by
  unfold beg at h
  simp at h
  exact h.1
theorem compF_len (s : ByteArray) : ∀ l, (compF l s).2.size ≤ s.size
  | [] => Nat.le_refl _
  | q :: r => by
    unfold compF
    split
    · simp [ByteArray.size_extract]
    · exact compF_len s r
theorem compF_idx (s : ByteArray) : ∀ l : List (Int × ByteArray), (∀ q ∈ l, 0 ≤ q.1 ∧ q.1 ≤ 255) → 0 ≤ (compF l s).1 ∧ (compF l s).1 ≤ 255
  | [], _ => ⟨by show (0 : Int) ≤ 0; decide, by show (0 : Int) ≤ 255; decide⟩
  | q :: r, h => by
    unfold compF
    split
    · exact h q (List.mem_cons_self ..)
    · exact compF_idx s r (fun q hq => h q (List.mem_cons_of_mem _ hq))
theorem cellb0 {W W1 : World} {a : Addr} {v : Value} (h : W.cell? a = some v) (hb : Below W.heap.size W W1) : W1.cell? a = some v := by
  have hlt : a.block < W.heap.size := by
    rcases Nat.lt_or_ge a.block W.heap.size with hc | hc
    · exact hc
    · have hn : W.heap[a.block]? = none := Array.getElem?_eq_none hc
      simp [World.cell?, hn] at h
  rw [World.cell?_of_block (a := a) (hb.block a.block hlt)]
  exact h
set_option maxHeartbeats 4000000 in
set_option maxRecDepth 100000 in
theorem comp_calls (w : World) (s : ByteArray) (hs : s.size ≤ 2147483647) (t : TypeId) (fr : Nat × Nat) (hg : w.heap[4]? = some (.cells cells14 t fr)) :
    Calls Tryd.prog 60 #[.string s] w fun e w' => e = .returned (.tuple #[.int .u8 (comp s).1, .string (comp s).2]) ∧ Below w.heap.size w w' := by
  go_enter Tryd.func60, Tryd.ntmps60
  go_wp2_with (refine wpList_load_row rfl 147 _ rfl 4 rfl t _ fr _ hg Tryd.underlying147 rfl (by kernel_rfl) ?_)
  clear hg
  go_loopw [7] (fun v7 wr => ∃ i : Nat, v7 = .int .i64 i ∧ i ≤ 7 ∧ Hid (compF (pfx.drop i) s = comp s) ∧ Hid (Below w.heap.size w wr)) (fun v7 _ => 7 - (intOf v7).toNat)
  case atStart => exact ⟨0, rfl, by decide, Lib.hid rfl, Lib.hid (Below.refl _ _)⟩
  case round =>
    obtain ⟨i, rfl, hi, hc, BI⟩ := hrel
    rcases (show i = 0 ∨ i = 1 ∨ i = 2 ∨ i = 3 ∨ i = 4 ∨ i = 5 ∨ i = 6 ∨ i = 7 by omega) with rfl | rfl | rfl | rfl | rfl | rfl | rfl | rfl
    · have i0 := fun w => idx0 w
      cases hb : beg s ⟨#[115, 121, 115, 116, 101, 109, 46, 112, 111, 115, 105, 120, 95, 97, 99, 108, 95, 97, 99, 99, 101, 115, 115]⟩ with
      | true =>
        have HB := Lib.hid hb
        have hl : ((⟨#[115, 121, 115, 116, 101, 109, 46, 112, 111, 115, 105, 120, 95, 97, 99, 108, 95, 97, 99, 99, 101, 115, 115]⟩ : ByteArray).size : Int) ≤ (s.size : Int) := by have := beg_le hb; omega
        have hl2 : (23 : Int) ≤ (s.size : Int) := hl
        clear hb hl
        go_wp2_with (go_at_call 70; (refine (strings_HasPrefix.calls s ⟨#[115, 121, 115, 116, 101, 109, 46, 112, 111, 115, 105, 120, 95, 97, 99, 108, 95, 97, 99, 99, 101, 115, 115]⟩ true _ (by rw [begins, HB.out])).mono ?_); rintro e w1 ⟨rfl, hd1⟩; have hb1 := hd1.below; have B1 := Lib.hid (below_then BI.out BI.out.size (below_then (below_alloc (Below.refl _ _) _) (by simp) hb1)); have HB1 := Lib.hid hb1; have cl0 := cellb0 (blk_cell (blk_new wr (.cells #[.int .u8 2, .string ⟨#[115, 121, 115, 116, 101, 109, 46, 112, 111, 115, 105, 120, 95, 97, 99, 108, 95, 97, 99, 99, 101, 115, 115]⟩] 146)) 0) hb1; have cl1 := cellb0 (blk_cell (blk_new wr (.cells #[.int .u8 2, .string ⟨#[115, 121, 115, 116, 101, 109, 46, 112, 111, 115, 105, 120, 95, 97, 99, 108, 95, 97, 99, 99, 101, 115, 115]⟩] 146)) 1) hb1; clear hb1 hd1)
        repeat (go_quiet (fail); try go_wp2)
        go_ret2
        refine ⟨?_, by first | exact B1.out | exact pw_below_drewN B1.out _⟩
        have hcc := hc.out
        rw [← hcc]
        show _ = Ending.returned (.tuple #[.int .u8 (compF ((2, ⟨#[115, 121, 115, 116, 101, 109, 46, 112, 111, 115, 105, 120, 95, 97, 99, 108, 95, 97, 99, 99, 101, 115, 115]⟩) :: pfx.drop 1) s).1, .string (compF ((2, ⟨#[115, 121, 115, 116, 101, 109, 46, 112, 111, 115, 105, 120, 95, 97, 99, 108, 95, 97, 99, 99, 101, 115, 115]⟩) :: pfx.drop 1) s).2])
        unfold compF
        rw [if_pos HB.out]
        rfl
      | false =>
        have HB := Lib.hid hb
        clear hb
        go_wp2_with (go_at_call 70; (refine (strings_HasPrefix.calls s ⟨#[115, 121, 115, 116, 101, 109, 46, 112, 111, 115, 105, 120, 95, 97, 99, 108, 95, 97, 99, 99, 101, 115, 115]⟩ false _ (by rw [begins, HB.out])).mono ?_); rintro e w1 ⟨rfl, hd1⟩; have hb1 := hd1.below; have B1 := Lib.hid (below_then BI.out BI.out.size (below_then (below_alloc (Below.refl _ _) _) (by simp) hb1)); clear hb1 hd1)
        go_roundw
        case rel => exact ⟨1, by first | rfl | (push_cast; rfl), by decide, Lib.hid (by
          have hcc := hc.out
          rw [← hcc]
          show _ = compF ((2, ⟨#[115, 121, 115, 116, 101, 109, 46, 112, 111, 115, 105, 120, 95, 97, 99, 108, 95, 97, 99, 99, 101, 115, 115]⟩) :: pfx.drop 1) s
          conv => rhs; unfold compF
          rw [if_neg (by rw [HB.out]; decide)]), B1⟩
        case measure => simp only [intOf]; omega
    · have i0 := fun w => idx1 w
      cases hb : beg s ⟨#[115, 121, 115, 116, 101, 109, 46, 112, 111, 115, 105, 120, 95, 97, 99, 108, 95, 100, 101, 102, 97, 117, 108, 116]⟩ with
      | true =>
        have HB := Lib.hid hb
        have hl : ((⟨#[115, 121, 115, 116, 101, 109, 46, 112, 111, 115, 105, 120, 95, 97, 99, 108, 95, 100, 101, 102, 97, 117, 108, 116]⟩ : ByteArray).size : Int) ≤ (s.size : Int) := by have := beg_le hb; omega
        have hl2 : (24 : Int) ≤ (s.size : Int) := hl
        clear hb hl
        go_wp2_with (go_at_call 70; (refine (strings_HasPrefix.calls s ⟨#[115, 121, 115, 116, 101, 109, 46, 112, 111, 115, 105, 120, 95, 97, 99, 108, 95, 100, 101, 102, 97, 117, 108, 116]⟩ true _ (by rw [begins, HB.out])).mono ?_); rintro e w1 ⟨rfl, hd1⟩; have hb1 := hd1.below; have B1 := Lib.hid (below_then BI.out BI.out.size (below_then (below_alloc (Below.refl _ _) _) (by simp) hb1)); have HB1 := Lib.hid hb1; have cl0 := cellb0 (blk_cell (blk_new wr (.cells #[.int .u8 3, .string ⟨#[115, 121, 115, 116, 101, 109, 46, 112, 111, 115, 105, 120, 95, 97, 99, 108, 95, 100, 101, 102, 97, 117, 108, 116]⟩] 146)) 0) hb1; have cl1 := cellb0 (blk_cell (blk_new wr (.cells #[.int .u8 3, .string ⟨#[115, 121, 115, 116, 101, 109, 46, 112, 111, 115, 105, 120, 95, 97, 99, 108, 95, 100, 101, 102, 97, 117, 108, 116]⟩] 146)) 1) hb1; clear hb1 hd1)
        repeat (go_quiet (fail); try go_wp2)
        go_ret2
        refine ⟨?_, by first | exact B1.out | exact pw_below_drewN B1.out _⟩
        have hcc := hc.out
        rw [← hcc]
        show _ = Ending.returned (.tuple #[.int .u8 (compF ((3, ⟨#[115, 121, 115, 116, 101, 109, 46, 112, 111, 115, 105, 120, 95, 97, 99, 108, 95, 100, 101, 102, 97, 117, 108, 116]⟩) :: pfx.drop 2) s).1, .string (compF ((3, ⟨#[115, 121, 115, 116, 101, 109, 46, 112, 111, 115, 105, 120, 95, 97, 99, 108, 95, 100, 101, 102, 97, 117, 108, 116]⟩) :: pfx.drop 2) s).2])
        unfold compF
        rw [if_pos HB.out]
        rfl
      | false =>
        have HB := Lib.hid hb
        clear hb
        go_wp2_with (go_at_call 70; (refine (strings_HasPrefix.calls s ⟨#[115, 121, 115, 116, 101, 109, 46, 112, 111, 115, 105, 120, 95, 97, 99, 108, 95, 100, 101, 102, 97, 117, 108, 116]⟩ false _ (by rw [begins, HB.out])).mono ?_); rintro e w1 ⟨rfl, hd1⟩; have hb1 := hd1.below; have B1 := Lib.hid (below_then BI.out BI.out.size (below_then (below_alloc (Below.refl _ _) _) (by simp) hb1)); clear hb1 hd1)
        go_roundw
        case rel => exact ⟨2, by first | rfl | (push_cast; rfl), by decide, Lib.hid (by
          have hcc := hc.out
          rw [← hcc]
          show _ = compF ((3, ⟨#[115, 121, 115, 116, 101, 109, 46, 112, 111, 115, 105, 120, 95, 97, 99, 108, 95, 100, 101, 102, 97, 117, 108, 116]⟩) :: pfx.drop 2) s
          conv => rhs; unfold compF
          rw [if_neg (by rw [HB.out]; decide)]), B1⟩
        case measure => simp only [intOf]; omega
    · have i0 := fun w => idx2 w
      cases hb : beg s ⟨#[115, 121, 115, 116, 101, 109, 46, 114, 105, 99, 104, 97, 99, 108]⟩ with
      | true =>
        have HB := Lib.hid hb
        have hl : ((⟨#[115, 121, 115, 116, 101, 109, 46, 114, 105, 99, 104, 97, 99, 108]⟩ : ByteArray).size : Int) ≤ (s.size : Int) := by have := beg_le hb; omega
        have hl2 : (14 : Int) ≤ (s.size : Int) := hl
        clear hb hl
        go_wp2_with (go_at_call 70; (refine (strings_HasPrefix.calls s ⟨#[115, 121, 115, 116, 101, 109, 46, 114, 105, 99, 104, 97, 99, 108]⟩ true _ (by rw [begins, HB.out])).mono ?_); rintro e w1 ⟨rfl, hd1⟩; have hb1 := hd1.below; have B1 := Lib.hid (below_then BI.out BI.out.size (below_then (below_alloc (Below.refl _ _) _) (by simp) hb1)); have HB1 := Lib.hid hb1; have cl0 := cellb0 (blk_cell (blk_new wr (.cells #[.int .u8 8, .string ⟨#[115, 121, 115, 116, 101, 109, 46, 114, 105, 99, 104, 97, 99, 108]⟩] 146)) 0) hb1; have cl1 := cellb0 (blk_cell (blk_new wr (.cells #[.int .u8 8, .string ⟨#[115, 121, 115, 116, 101, 109, 46, 114, 105, 99, 104, 97, 99, 108]⟩] 146)) 1) hb1; clear hb1 hd1)
        repeat (go_quiet (fail); try go_wp2)
        go_ret2
        refine ⟨?_, by first | exact B1.out | exact pw_below_drewN B1.out _⟩
        have hcc := hc.out
        rw [← hcc]
        show _ = Ending.returned (.tuple #[.int .u8 (compF ((8, ⟨#[115, 121, 115, 116, 101, 109, 46, 114, 105, 99, 104, 97, 99, 108]⟩) :: pfx.drop 3) s).1, .string (compF ((8, ⟨#[115, 121, 115, 116, 101, 109, 46, 114, 105, 99, 104, 97, 99, 108]⟩) :: pfx.drop 3) s).2])
        unfold compF
        rw [if_pos HB.out]
        rfl
      | false =>
        have HB := Lib.hid hb
        clear hb
        go_wp2_with (go_at_call 70; (refine (strings_HasPrefix.calls s ⟨#[115, 121, 115, 116, 101, 109, 46, 114, 105, 99, 104, 97, 99, 108]⟩ false _ (by rw [begins, HB.out])).mono ?_); rintro e w1 ⟨rfl, hd1⟩; have hb1 := hd1.below; have B1 := Lib.hid (below_then BI.out BI.out.size (below_then (below_alloc (Below.refl _ _) _) (by simp) hb1)); clear hb1 hd1)
        go_roundw
        case rel => exact ⟨3, by first | rfl | (push_cast; rfl), by decide, Lib.hid (by
          have hcc := hc.out
          rw [← hcc]
          show _ = compF ((8, ⟨#[115, 121, 115, 116, 101, 109, 46, 114, 105, 99, 104, 97, 99, 108]⟩) :: pfx.drop 3) s
          conv => rhs; unfold compF
          rw [if_neg (by rw [HB.out]; decide)]), B1⟩
        case measure => simp only [intOf]; omega
    · have i0 := fun w => idx3 w
      cases hb : beg s ⟨#[115, 121, 115, 116, 101, 109, 46]⟩ with
      | true =>
        have HB := Lib.hid hb
        have hl : ((⟨#[115, 121, 115, 116, 101, 109, 46]⟩ : ByteArray).size : Int) ≤ (s.size : Int) := by have := beg_le hb; omega
        have hl2 : (7 : Int) ≤ (s.size : Int) := hl
        clear hb hl
        go_wp2_with (go_at_call 70; (refine (strings_HasPrefix.calls s ⟨#[115, 121, 115, 116, 101, 109, 46]⟩ true _ (by rw [begins, HB.out])).mono ?_); rintro e w1 ⟨rfl, hd1⟩; have hb1 := hd1.below; have B1 := Lib.hid (below_then BI.out BI.out.size (below_then (below_alloc (Below.refl _ _) _) (by simp) hb1)); have HB1 := Lib.hid hb1; have cl0 := cellb0 (blk_cell (blk_new wr (.cells #[.int .u8 7, .string ⟨#[115, 121, 115, 116, 101, 109, 46]⟩] 146)) 0) hb1; have cl1 := cellb0 (blk_cell (blk_new wr (.cells #[.int .u8 7, .string ⟨#[115, 121, 115, 116, 101, 109, 46]⟩] 146)) 1) hb1; clear hb1 hd1)
        repeat (go_quiet (fail); try go_wp2)
        go_ret2
        refine ⟨?_, by first | exact B1.out | exact pw_below_drewN B1.out _⟩
        have hcc := hc.out
        rw [← hcc]
        show _ = Ending.returned (.tuple #[.int .u8 (compF ((7, ⟨#[115, 121, 115, 116, 101, 109, 46]⟩) :: pfx.drop 4) s).1, .string (compF ((7, ⟨#[115, 121, 115, 116, 101, 109, 46]⟩) :: pfx.drop 4) s).2])
        unfold compF
        rw [if_pos HB.out]
        rfl
      | false =>
        have HB := Lib.hid hb
        clear hb
        go_wp2_with (go_at_call 70; (refine (strings_HasPrefix.calls s ⟨#[115, 121, 115, 116, 101, 109, 46]⟩ false _ (by rw [begins, HB.out])).mono ?_); rintro e w1 ⟨rfl, hd1⟩; have hb1 := hd1.below; have B1 := Lib.hid (below_then BI.out BI.out.size (below_then (below_alloc (Below.refl _ _) _) (by simp) hb1)); clear hb1 hd1)
        go_roundw
        case rel => exact ⟨4, by first | rfl | (push_cast; rfl), by decide, Lib.hid (by
          have hcc := hc.out
          rw [← hcc]
          show _ = compF ((7, ⟨#[115, 121, 115, 116, 101, 109, 46]⟩) :: pfx.drop 4) s
          conv => rhs; unfold compF
          rw [if_neg (by rw [HB.out]; decide)]), B1⟩
        case measure => simp only [intOf]; omega
    · have i0 := fun w => idx4 w
      cases hb : beg s ⟨#[117, 115, 101, 114, 46]⟩ with
      | true =>
        have HB := Lib.hid hb
        have hl : ((⟨#[117, 115, 101, 114, 46]⟩ : ByteArray).size : Int) ≤ (s.size : Int) := by have := beg_le hb; omega
        have hl2 : (5 : Int) ≤ (s.size : Int) := hl
        clear hb hl
        go_wp2_with (go_at_call 70; (refine (strings_HasPrefix.calls s ⟨#[117, 115, 101, 114, 46]⟩ true _ (by rw [begins, HB.out])).mono ?_); rintro e w1 ⟨rfl, hd1⟩; have hb1 := hd1.below; have B1 := Lib.hid (below_then BI.out BI.out.size (below_then (below_alloc (Below.refl _ _) _) (by simp) hb1)); have HB1 := Lib.hid hb1; have cl0 := cellb0 (blk_cell (blk_new wr (.cells #[.int .u8 1, .string ⟨#[117, 115, 101, 114, 46]⟩] 146)) 0) hb1; have cl1 := cellb0 (blk_cell (blk_new wr (.cells #[.int .u8 1, .string ⟨#[117, 115, 101, 114, 46]⟩] 146)) 1) hb1; clear hb1 hd1)
        repeat (go_quiet (fail); try go_wp2)
        go_ret2
        refine ⟨?_, by first | exact B1.out | exact pw_below_drewN B1.out _⟩
        have hcc := hc.out
        rw [← hcc]
        show _ = Ending.returned (.tuple #[.int .u8 (compF ((1, ⟨#[117, 115, 101, 114, 46]⟩) :: pfx.drop 5) s).1, .string (compF ((1, ⟨#[117, 115, 101, 114, 46]⟩) :: pfx.drop 5) s).2])
        unfold compF
        rw [if_pos HB.out]
        rfl
      | false =>
        have HB := Lib.hid hb
        clear hb
        go_wp2_with (go_at_call 70; (refine (strings_HasPrefix.calls s ⟨#[117, 115, 101, 114, 46]⟩ false _ (by rw [begins, HB.out])).mono ?_); rintro e w1 ⟨rfl, hd1⟩; have hb1 := hd1.below; have B1 := Lib.hid (below_then BI.out BI.out.size (below_then (below_alloc (Below.refl _ _) _) (by simp) hb1)); clear hb1 hd1)
        go_roundw
        case rel => exact ⟨5, by first | rfl | (push_cast; rfl), by decide, Lib.hid (by
          have hcc := hc.out
          rw [← hcc]
          show _ = compF ((1, ⟨#[117, 115, 101, 114, 46]⟩) :: pfx.drop 5) s
          conv => rhs; unfold compF
          rw [if_neg (by rw [HB.out]; decide)]), B1⟩
        case measure => simp only [intOf]; omega
    · have i0 := fun w => idx5 w
      cases hb : beg s ⟨#[116, 114, 117, 115, 116, 101, 100, 46]⟩ with
      | true =>
        have HB := Lib.hid hb
        have hl : ((⟨#[116, 114, 117, 115, 116, 101, 100, 46]⟩ : ByteArray).size : Int) ≤ (s.size : Int) := by have := beg_le hb; omega
        have hl2 : (8 : Int) ≤ (s.size : Int) := hl
        clear hb hl
        go_wp2_with (go_at_call 70; (refine (strings_HasPrefix.calls s ⟨#[116, 114, 117, 115, 116, 101, 100, 46]⟩ true _ (by rw [begins, HB.out])).mono ?_); rintro e w1 ⟨rfl, hd1⟩; have hb1 := hd1.below; have B1 := Lib.hid (below_then BI.out BI.out.size (below_then (below_alloc (Below.refl _ _) _) (by simp) hb1)); have HB1 := Lib.hid hb1; have cl0 := cellb0 (blk_cell (blk_new wr (.cells #[.int .u8 4, .string ⟨#[116, 114, 117, 115, 116, 101, 100, 46]⟩] 146)) 0) hb1; have cl1 := cellb0 (blk_cell (blk_new wr (.cells #[.int .u8 4, .string ⟨#[116, 114, 117, 115, 116, 101, 100, 46]⟩] 146)) 1) hb1; clear hb1 hd1)
        repeat (go_quiet (fail); try go_wp2)
        go_ret2
        refine ⟨?_, by first | exact B1.out | exact pw_below_drewN B1.out _⟩
        have hcc := hc.out
        rw [← hcc]
        show _ = Ending.returned (.tuple #[.int .u8 (compF ((4, ⟨#[116, 114, 117, 115, 116, 101, 100, 46]⟩) :: pfx.drop 6) s).1, .string (compF ((4, ⟨#[116, 114, 117, 115, 116, 101, 100, 46]⟩) :: pfx.drop 6) s).2])
        unfold compF
        rw [if_pos HB.out]
        rfl
      | false =>
        have HB := Lib.hid hb
        clear hb
        go_wp2_with (go_at_call 70; (refine (strings_HasPrefix.calls s ⟨#[116, 114, 117, 115, 116, 101, 100, 46]⟩ false _ (by rw [begins, HB.out])).mono ?_); rintro e w1 ⟨rfl, hd1⟩; have hb1 := hd1.below; have B1 := Lib.hid (below_then BI.out BI.out.size (below_then (below_alloc (Below.refl _ _) _) (by simp) hb1)); clear hb1 hd1)
        go_roundw
        case rel => exact ⟨6, by first | rfl | (push_cast; rfl), by decide, Lib.hid (by
          have hcc := hc.out
          rw [← hcc]
          show _ = compF ((4, ⟨#[116, 114, 117, 115, 116, 101, 100, 46]⟩) :: pfx.drop 6) s
          conv => rhs; unfold compF
          rw [if_neg (by rw [HB.out]; decide)]), B1⟩
        case measure => simp only [intOf]; omega
    · have i0 := fun w => idx6 w
      cases hb : beg s ⟨#[115, 101, 99, 117, 114, 105, 116, 121, 46]⟩ with
      | true =>
        have HB := Lib.hid hb
        have hl : ((⟨#[115, 101, 99, 117, 114, 105, 116, 121, 46]⟩ : ByteArray).size : Int) ≤ (s.size : Int) := by have := beg_le hb; omega
        have hl2 : (9 : Int) ≤ (s.size : Int) := hl
        clear hb hl
        go_wp2_with (go_at_call 70; (refine (strings_HasPrefix.calls s ⟨#[115, 101, 99, 117, 114, 105, 116, 121, 46]⟩ true _ (by rw [begins, HB.out])).mono ?_); rintro e w1 ⟨rfl, hd1⟩; have hb1 := hd1.below; have B1 := Lib.hid (below_then BI.out BI.out.size (below_then (below_alloc (Below.refl _ _) _) (by simp) hb1)); have HB1 := Lib.hid hb1; have cl0 := cellb0 (blk_cell (blk_new wr (.cells #[.int .u8 6, .string ⟨#[115, 101, 99, 117, 114, 105, 116, 121, 46]⟩] 146)) 0) hb1; have cl1 := cellb0 (blk_cell (blk_new wr (.cells #[.int .u8 6, .string ⟨#[115, 101, 99, 117, 114, 105, 116, 121, 46]⟩] 146)) 1) hb1; clear hb1 hd1)
        repeat (go_quiet (fail); try go_wp2)
        go_ret2
        refine ⟨?_, by first | exact B1.out | exact pw_below_drewN B1.out _⟩
        have hcc := hc.out
        rw [← hcc]
        show _ = Ending.returned (.tuple #[.int .u8 (compF ((6, ⟨#[115, 101, 99, 117, 114, 105, 116, 121, 46]⟩) :: pfx.drop 7) s).1, .string (compF ((6, ⟨#[115, 101, 99, 117, 114, 105, 116, 121, 46]⟩) :: pfx.drop 7) s).2])
        unfold compF
        rw [if_pos HB.out]
        rfl
      | false =>
        have HB := Lib.hid hb
        clear hb
        go_wp2_with (go_at_call 70; (refine (strings_HasPrefix.calls s ⟨#[115, 101, 99, 117, 114, 105, 116, 121, 46]⟩ false _ (by rw [begins, HB.out])).mono ?_); rintro e w1 ⟨rfl, hd1⟩; have hb1 := hd1.below; have B1 := Lib.hid (below_then BI.out BI.out.size (below_then (below_alloc (Below.refl _ _) _) (by simp) hb1)); clear hb1 hd1)
        go_roundw
        case rel => exact ⟨7, by first | rfl | (push_cast; rfl), by decide, Lib.hid (by
          have hcc := hc.out
          rw [← hcc]
          show _ = compF ((6, ⟨#[115, 101, 99, 117, 114, 105, 116, 121, 46]⟩) :: pfx.drop 7) s
          conv => rhs; unfold compF
          rw [if_neg (by rw [HB.out]; decide)]), B1⟩
        case measure => simp only [intOf]; omega
    · go_wp2_with fail
      go_ret2
      exact ⟨by rw [← hc.out]; rfl, BI.out⟩
end Go.Proofs.YtckjbgneblfceaaDoor.Fa
