/- The contract of the digest. -/
import Derived.Test.YtbakmlhjfjjfoaaPFnVerityGrowsx1
import Derived.Test.YtbakmlhjfjjfoaaVhu
namespace Go.Proofs.Ytbakmlhjfjjfoaa.Vg
open Go.RowKit Go.Proofs.YtbakmlhjfjjfoaaW.PrintWords Go.Proofs.YtbakmlhjfjjfoaaW.PrintLast Go.Proofs.YtbakmlhjfjjfoaaW.PrintMore
open Go.Proofs.Ytbakmlhjfjjfoaa.PFnVerityGrows Go.Proofs.Ytbakmlhjfjjfoaa.Vh
set_option linter.unusedVariables false
set_option linter.unusedSimpArgs false
/-- One word, mixed with bytes; its eight bytes, the highest first. -/
def mixB (x : Int) (b : List Int) : Int := b.foldl (fun w c => IntKind.u64.wrap (bits BinOp.xor IntKind.u64 w c * 1099511628211)) x
def byteAt (x : Int) (k : Nat) : Int := x / 2 ^ (8 * k) % 256
def bytes8 (x : Int) (k : Nat) : List Int := (List.range k).map fun j => byteAt x (7 - j)
def digTo (ws : List Int) (b : List Int) (i : Nat) : List Int := (ws.take i).flatMap fun x => bytes8 (mixB x b) 8
theorem index4_0 (A B C D : Int) (W : World) : (Instr.index 54 (.agg #[.int .u64 A, .int .u64 B, .int .u64 C, .int .u64 D]) (.int .i64 0)).run Try.prog W = .ok (.int .u64 A) W := by kernel_rfl
theorem index4_1 (A B C D : Int) (W : World) : (Instr.index 54 (.agg #[.int .u64 A, .int .u64 B, .int .u64 C, .int .u64 D]) (.int .i64 1)).run Try.prog W = .ok (.int .u64 B) W := by kernel_rfl
theorem index4_2 (A B C D : Int) (W : World) : (Instr.index 54 (.agg #[.int .u64 A, .int .u64 B, .int .u64 C, .int .u64 D]) (.int .i64 2)).run Try.prog W = .ok (.int .u64 C) W := by kernel_rfl
theorem index4_3 (A B C D : Int) (W : World) : (Instr.index 54 (.agg #[.int .u64 A, .int .u64 B, .int .u64 C, .int .u64 D]) (.int .i64 3)).run Try.prog W = .ok (.int .u64 D) W := by kernel_rfl
theorem index4 (A B C D : Int) (i : Nat) (x : Int) (hx : [A, B, C, D][i]? = some x) (W : World) : (Instr.index 54 (.agg #[.int .u64 A, .int .u64 B, .int .u64 C, .int .u64 D]) (.int .i64 i)).run Try.prog W = .ok (.int .u64 x) W := by
  match i, hx with
  | 0, hx => simp at hx; subst hx; exact index4_0 _ _ _ _ W
  | 1, hx => simp at hx; subst hx; exact index4_1 _ _ _ _ W
  | 2, hx => simp at hx; subst hx; exact index4_2 _ _ _ _ W
  | 3, hx => simp at hx; subst hx; exact index4_3 _ _ _ _ W
theorem mixB_snoc (x : Int) (b : List Int) (c : Int) : mixB x (b ++ [c]) = IntKind.u64.wrap (bits BinOp.xor IntKind.u64 (mixB x b) c * 1099511628211) := by simp [mixB]
theorem bytes8_len (x : Int) (k : Nat) : (bytes8 x k).length = k := by simp [bytes8]
theorem bytes8_succ (x : Int) (k : Nat) : bytes8 x (k + 1) = bytes8 x k ++ [byteAt x (7 - k)] := by simp [bytes8, List.range_succ]
theorem digTo_len (ws : List Int) (b : List Int) (i : Nat) (h : i ≤ ws.length) : (digTo ws b i).length = 8 * i := by
  have : ∀ l : List Int, (l.flatMap fun x => bytes8 (mixB x b) 8).length = 8 * l.length := by
    intro l
    induction l with
    | nil => rfl
    | cons a t ih => rw [List.flatMap_cons, List.length_append, ih, bytes8_len, List.length_cons]; omega
  unfold digTo
  rw [this, List.length_take]
  omega
theorem digTo_succ (ws : List Int) (b : List Int) (i : Nat) (x : Int) (h : ws[i]? = some x) : digTo ws b (i + 1) = digTo ws b i ++ bytes8 (mixB x b) 8 := by
  unfold digTo
  rw [List.take_add_one, h]
  simp
theorem cell_oneV (w : World) (e : Int) (t : TypeId) (k : Nat) (x : Int) (h : [e][k]? = some x) : (w.alloc (.cells #[.int .u8 e] t)).cell? ⟨w.heap.size, 0 + k, none⟩ = some (.int .u8 x) := by
  match k, h with
  | 0, h => simp at h; subst h; simp
set_option maxHeartbeats 4000000 in
set_option maxRecDepth 100000 in
theorem dig23 (gb nb cb gd : Nat) (b : List Int) (A B C D : Int) (w : World) (hb : b.length = nb) (hn : nb ≤ 100000) (hcell : ∀ j x, b[j]? = some x → w.cell? ⟨gb, j, none⟩ = some (.int .u8 x)) (hib : InBytes b)
    (h0 : w.cell? ⟨gd, 0, none⟩ = some (.int .u64 A)) (h1 : w.cell? ⟨gd, 1, none⟩ = some (.int .u64 B)) (h2 : w.cell? ⟨gd, 2, none⟩ = some (.int .u64 C)) (h3 : w.cell? ⟨gd, 3, none⟩ = some (.int .u64 D)) :
    Calls Try.prog 23 #[.slice (some ⟨gb, 0, none⟩) nb cb, .pointer (some ⟨gd, 0, none⟩)] w (Gives w (digTo [A, B, C, D] b 4)) := by
  have HC := Lib.hid hcell
  have HI := Lib.hid hib
  clear hcell hib
  go_enter Try.func23, Try.ntmps23
  go_wp2_with fail
  go_loopw [4, 19] (fun v4 v19 wr => ∃ (i : Nat), v19 = .int .i64 i ∧ i ≤ 4 ∧ Hid (Row w v4 (digTo [A, B, C, D] b i) wr)) (fun _ i _ => 4 - (intOf i).toNat)
  case atStart => exact ⟨0, rfl, by omega, Lib.hid (Row.nil w)⟩
  case round =>
    obtain ⟨i, rfl, hi, HR⟩ := hrel
    by_cases hlt : i < 4
    · have hc2 := Lib.hid (fun j x hj => cell_later HR.out.2 (HC.out j x hj))
      obtain ⟨x, hx⟩ : ∃ x, [A, B, C, D][i]? = some x := ⟨_, List.getElem?_eq_getElem hlt⟩
      have hix := index4 A B C D i x hx
      have HX := Lib.hid hx
      clear hx
      go_wp2_with fail
      go_loop [6, 24] (fun v6 v24 => ∃ j : Nat, v24 = .int .i64 j ∧ j ≤ nb ∧ v6 = .int .u64 (mixB x (b.take j))) (fun _ j => nb - (intOf j).toNat)
      case atStart => exact ⟨0, rfl, by omega, by simp [mixB]⟩
      case round =>
        obtain ⟨j, rfl, hj, rfl⟩ := hrel
        by_cases hjl : j < nb
        · obtain ⟨c, hc⟩ : ∃ c, b[j]? = some c := ⟨_, List.getElem?_eq_getElem (by omega)⟩
          have hcc := hc2.out j c hc
          have hcr := HI.out c (List.mem_of_getElem? hc)
          have HS := Lib.hid (show mixB x (b.take (j + 1)) = IntKind.u64.wrap (bits BinOp.xor IntKind.u64 (mixB x (b.take j)) c * 1099511628211) by rw [List.take_add_one, hc]; exact mixB_snoc x (b.take j) c)
          generalize mixB x (b.take j) = m at HS
          clear hc
          go_wp2_with fail
          go_round
          case rel => exact ⟨j + 1, by first | rfl | go_num, by omega, by rw [HS.out]⟩
          case measure => simp [intOf] <;> omega
        · obtain rfl : j = nb := by omega
          have HM := Lib.hid (show mixB x (b.take j) = mixB x b by rw [List.take_of_length_le (by omega)])
          generalize mixB x (b.take j) = m at HM
          go_wp2_with fail
          go_loopw [4, 9] (fun v4 v9 w2 => ∃ t : Nat, v9 = .int .i64 (7 - (t : Int)) ∧ t ≤ 8 ∧ Hid (Row w v4 (digTo [A, B, C, D] b i ++ bytes8 m t) w2)) (fun _ k _ => (intOf k + 1).toNat)
          case atStart => exact ⟨0, rfl, by omega, by simpa [bytes8] using HR⟩
          case round =>
            obtain ⟨t, rfl, ht, HR2⟩ := hrel
            by_cases htl : t < 8
            · have HL2 := Lib.hid (show (digTo [A, B, C, D] b i ++ bytes8 m t).length ≤ 100000 by
                rw [List.length_append, digTo_len _ _ _ (by simp; omega), bytes8_len]; omega)
              have HS2 := Lib.hid (bytes8_succ m t)
              go_wp2_with (first | ((with_reducible refine gate_builtin (b := .append) (xs := #[.tmp 38, .tmp 44]) rfl ?_); at_builtin; refine app_row (w := w) rfl _ _ rfl _ _ [byteAt m (7 - t)] _ 0 1 1 rfl rfl rfl (HR2.out.alloc _) (cell_oneV _ _ _) HL2.out (by simp) ?_; intro v3 w3 hr; have HR3 := Lib.hid hr; clear hr))
              go_roundw
              case rel => exact ⟨t + 1, by first | rfl | go_num | (congr 1; omega), by omega, Lib.hid (by rw [HS2.out, ← List.append_assoc]; exact HR3.out)⟩
              case measure => simp [intOf] <;> omega
            · obtain rfl : t = 8 := by omega
              have HD := Lib.hid (digTo_succ [A, B, C, D] b i x HX.out)
              go_wp2_with fail
              go_roundw
              case rel => exact ⟨i + 1, by first | rfl | go_num, by omega, Lib.hid (by rw [HD.out, ← HM.out]; exact HR2.out)⟩
              case measure => simp [intOf] <;> omega
    · obtain rfl : i = 4 := by omega
      go_wp2_with fail
      go_ret
      exact ⟨_, rfl, HR.out⟩
theorem digTo_in (ws : List Int) (b : List Int) (i : Nat) : InBytes (digTo ws b i) := by
  intro x hx
  unfold digTo at hx
  obtain ⟨y, _, hy⟩ := List.mem_flatMap.1 hx
  unfold bytes8 at hy
  obtain ⟨j, _, rfl⟩ := List.mem_map.1 hy
  unfold byteAt
  omega
end Go.Proofs.Ytbakmlhjfjjfoaa.Vg
