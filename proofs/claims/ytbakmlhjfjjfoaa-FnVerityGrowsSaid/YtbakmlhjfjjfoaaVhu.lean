/- The contract of impl.VhdFooter. -/
import Derived.Test.YtbakmlhjfjjfoaaVhm
import Derived.Laws.IdiomCopy
import Derived.Laws.CopyRow
import Derived.Deep.WholeRow
namespace Go.Proofs.Ytbakmlhjfjjfoaa.Vh
open Go.RowKit Go.Proofs.YtbakmlhjfjjfoaaW.PrintWords Go.Proofs.YtbakmlhjfjjfoaaW.PrintLast Go.Proofs.YtbakmlhjfjjfoaaW.PrintMore
open Go.Proofs.Ytbakmlhjfjjfoaa.PFnVhdSum
set_option linter.unusedVariables false
set_option linter.unusedSimpArgs false
/-- Bytes that can be read. -/
def BReads (A : Option Addr) (n : Nat) (b : List Int) (w : World) : Prop := b.length = n ∧ (0 < n → ∃ ad, A = some ad ∧ ∀ j x, b[j]? = some x → w.cell? (ad.add j) = some (.int .u8 x))
def pad (b : List Int) : List Int := b.take 16 ++ List.replicate (16 - b.length) 0
theorem pad_len (b : List Int) : (pad b).length = 16 := by simp [pad]; omega
theorem pad_in (b : List Int) (h : InBytes b) : InBytes (pad b) := inb_app (fun x hx => h x (List.mem_of_mem_take hx)) (rep_in _)
theorem sixteen (l : List Int) (h : l.length = 16) : ∃ u0 u1 u2 u3 u4 u5 u6 u7 u8 u9 u10 u11 u12 u13 u14 u15, l = [u0, u1, u2, u3, u4, u5, u6, u7, u8, u9, u10, u11, u12, u13, u14, u15] := by
  match l, h with
  | [u0, u1, u2, u3, u4, u5, u6, u7, u8, u9, u10, u11, u12, u13, u14, u15], _ => exact ⟨u0, u1, u2, u3, u4, u5, u6, u7, u8, u9, u10, u11, u12, u13, u14, u15, rfl⟩
theorem copy_pad (A : Option Addr) (n c : Nat) (b : List Int) (w : World) (hr : BReads A n b w) (hl : n ≤ 100) (o : Obj) :
    ∃ m : Int, (Builtin.copy_ #[27, 27] 3 #[.slice (some ⟨w.heap.size + 1, 0, none⟩) 16 16, .slice A n c]).run Try.prog ((w.alloc o).alloc (.cells #[.int .u8 0, .int .u8 0, .int .u8 0, .int .u8 0, .int .u8 0, .int .u8 0, .int .u8 0, .int .u8 0, .int .u8 0, .int .u8 0, .int .u8 0, .int .u8 0, .int .u8 0, .int .u8 0, .int .u8 0, .int .u8 0] 40)) = .ok (.int .i64 m) ((w.alloc o).alloc (.cells (u8s (pad b)).toArray 40)) := by
  by_cases h0 : n = 0
  · subst h0
    have hb : b = [] := List.eq_nil_of_length_eq_zero hr.1
    subst hb
    refine ⟨0, ?_⟩
    exact run_copy_none _ 27 27 3 5 _ A 16 16 0 c Try.underlying27 (by kernel_rfl) (by simp)
  · obtain ⟨ad, rfl, hc⟩ := hr.2 (by omega)
    have hsz : (w.alloc o).heap.size = w.heap.size + 1 := by simp
    have hbelow : Below w.heap.size w ((w.alloc o).alloc (.cells #[.int .u8 0, .int .u8 0, .int .u8 0, .int .u8 0, .int .u8 0, .int .u8 0, .int .u8 0, .int .u8 0, .int .u8 0, .int .u8 0, .int .u8 0, .int .u8 0, .int .u8 0, .int .u8 0, .int .u8 0, .int .u8 0] 40)) := below_alloc (below_alloc (Below.refl _ _) _) _
    have h := run_copy_row (P := Try.prog) ((w.alloc o).alloc (.cells #[.int .u8 0, .int .u8 0, .int .u8 0, .int .u8 0, .int .u8 0, .int .u8 0, .int .u8 0, .int .u8 0, .int .u8 0, .int .u8 0, .int .u8 0, .int .u8 0, .int .u8 0, .int .u8 0, .int .u8 0, .int .u8 0] 40)) 27 27 3 5 (w.alloc o).heap.size 0 16 16 ad n c #[.int .u8 0, .int .u8 0, .int .u8 0, .int .u8 0, .int .u8 0, .int .u8 0, .int .u8 0, .int .u8 0, .int .u8 0, .int .u8 0, .int .u8 0, .int .u8 0, .int .u8 0, .int .u8 0, .int .u8 0, .int .u8 0] 40 (u8s (b.take 16)) Try.underlying27 (by kernel_rfl) (blk_new _ _) (by show (u8s (b.take 16)).length = min n 16; simp [u8s, hr.1, Nat.min_comm])
      (fun j v hj => by
        simp only [u8s, List.getElem?_map, Option.map_eq_some_iff] at hj
        obtain ⟨x, hx, rfl⟩ := hj
        rw [List.getElem?_take] at hx
        split at hx
        · exact cell_later hbelow (hc j x hx)
        · cases hx) (by simp [u8s]; omega) (by
        intro v hv
        simp only [u8s, List.mem_map] at hv
        obtain ⟨x, _, rfl⟩ := hv
        rfl)
    rw [World.setRow_alloc_new] at h
    rw [hsz] at h
    have hrow : ((#[Value.int IntKind.u8 0, Value.int IntKind.u8 0, Value.int IntKind.u8 0, Value.int IntKind.u8 0, Value.int IntKind.u8 0, Value.int IntKind.u8 0, Value.int IntKind.u8 0, Value.int IntKind.u8 0, Value.int IntKind.u8 0, Value.int IntKind.u8 0, Value.int IntKind.u8 0, Value.int IntKind.u8 0, Value.int IntKind.u8 0, Value.int IntKind.u8 0, Value.int IntKind.u8 0, Value.int IntKind.u8 0] : Array Value).toList.take 0 ++ u8s (b.take 16) ++ (#[Value.int IntKind.u8 0, Value.int IntKind.u8 0, Value.int IntKind.u8 0, Value.int IntKind.u8 0, Value.int IntKind.u8 0, Value.int IntKind.u8 0, Value.int IntKind.u8 0, Value.int IntKind.u8 0, Value.int IntKind.u8 0, Value.int IntKind.u8 0, Value.int IntKind.u8 0, Value.int IntKind.u8 0, Value.int IntKind.u8 0, Value.int IntKind.u8 0, Value.int IntKind.u8 0, Value.int IntKind.u8 0] : Array Value).toList.drop (0 + (u8s (b.take 16)).length)).toArray = (u8s (pad b)).toArray := by
      have hz : (#[Value.int IntKind.u8 0, Value.int IntKind.u8 0, Value.int IntKind.u8 0, Value.int IntKind.u8 0, Value.int IntKind.u8 0, Value.int IntKind.u8 0, Value.int IntKind.u8 0, Value.int IntKind.u8 0, Value.int IntKind.u8 0, Value.int IntKind.u8 0, Value.int IntKind.u8 0, Value.int IntKind.u8 0, Value.int IntKind.u8 0, Value.int IntKind.u8 0, Value.int IntKind.u8 0, Value.int IntKind.u8 0] : Array Value).toList = List.replicate 16 (Value.int .u8 0) := rfl
      rw [hz]
      congr 1
      rw [List.drop_replicate]
      simp only [List.take_zero, List.nil_append, Nat.zero_add, u8s, pad, List.map_append, List.map_replicate, List.length_map, List.length_take]
      congr 2
      omega
    rw [hrow] at h
    exact ⟨_, h⟩
set_option maxHeartbeats 4000000 in
set_option maxRecDepth 100000 in
theorem uuid15 (A : Option Addr) (n c : Nat) (b : List Int) (w : World) (hr : BReads A n b w) (hl : n ≤ 100) :
    Calls Try.prog 15 #[.slice A n c] w fun e w' => e = .returned (.agg (u8s (pad b)).toArray) ∧ Below w.heap.size w w' := by
  obtain ⟨m, hcp⟩ := copy_pad A n c b w hr hl (.cells #[.int .u8 0, .int .u8 0, .int .u8 0, .int .u8 0, .int .u8 0, .int .u8 0, .int .u8 0, .int .u8 0, .int .u8 0, .int .u8 0, .int .u8 0, .int .u8 0, .int .u8 0, .int .u8 0, .int .u8 0, .int .u8 0] 40)
  obtain ⟨u0, u1, u2, u3, u4, u5, u6, u7, u8, u9, u10, u11, u12, u13, u14, u15, hp⟩ := sixteen (pad b) (pad_len b)
  rw [hp] at hcp ⊢
  simp only [u8s, List.map_cons, List.map_nil] at hcp ⊢
  clear hp hr
  go_enter Try.func15, Try.ntmps15
  go_wp2_with fail
  refine bodyPost_ret (results_cell_row rfl _ _ w.heap.size 40 #[.int .u8 u0, .int .u8 u1, .int .u8 u2, .int .u8 u3, .int .u8 u4, .int .u8 u5, .int .u8 u6, .int .u8 u7, .int .u8 u8, .int .u8 u9, .int .u8 u10, .int .u8 u11, .int .u8 u12, .int .u8 u13, .int .u8 u14, .int .u8 u15] (0, 0) _ rfl (by refine blk_alloc ?_ _; exact blk_new _ _) Try.underlying40 rfl (by kernel_rfl)) rfl ?_
  exact ⟨rfl, below_alloc (below_alloc (Below.refl _ _) _) _⟩
set_option maxHeartbeats 4000000 in
set_option maxRecDepth 100000 in
theorem vhd7 (sz : Int) (A : Option Addr) (n c : Nat) (b : List Int) (w : World) (hr : BReads A n b w) (hl : n ≤ 100) (hib : InBytes b) :
    Calls Try.prog 7 #[.int .i64 sz, .slice A n c] w (Gives w (footBytes cookie sz (chkOf sz (pad b)) (pad b))) := by
  have h15 := uuid15 A n c b w hr hl
  have hpi := pad_in b hib
  obtain ⟨u0, u1, u2, u3, u4, u5, u6, u7, u8, u9, u10, u11, u12, u13, u14, u15, hp⟩ := sixteen (pad b) (pad_len b)
  rw [hp] at h15 hpi ⊢
  simp only [u8s, List.map_cons, List.map_nil] at h15
  have H15 := Lib.hid h15
  have H14 := Lib.hid (fun W => door14 sz u0 u1 u2 u3 u4 u5 u6 u7 u8 u9 u10 u11 u12 u13 u14 u15 W hpi)
  clear hp hr hib h15 hpi
  go_enter Try.func7, Try.ntmps7
  go_wp2_with (first | (go_at_call 15; (with_reducible refine H15.out.mono ?_); rintro e w1 ⟨rfl, hb⟩; have HB := Lib.hid hb; clear hb) | (go_at_call 14; (with_reducible refine (H14.out _).mono ?_); rintro e w2 ⟨v, rfl, hr⟩; have HR := Lib.hid hr; clear hr))
  go_ret
  exact ⟨v, rfl, Kd.R_lower HR.out.1 HB.out.size, below_then HB.out HB.out.size HR.out.2⟩
end Go.Proofs.Ytbakmlhjfjjfoaa.Vh
