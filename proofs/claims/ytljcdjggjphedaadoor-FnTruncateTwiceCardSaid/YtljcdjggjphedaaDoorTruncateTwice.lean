/- Proved: for every file, and every two sizes, FnTruncateTwice answers true: cutting to a size and then to another is cutting to the second one, with zeros from the lesser of the two on. -/
import Derived.Test.YtljcdjggjphedaaDoorRows
import Derived.Test.YtljcdjggjphedaaDoorAdapter
import Derived.Test.YtljcdjggjphedaaDoorCards
import Derived.Test.YtljcdjggjphedaaDoorTie
import Derived.SevenTiedAt
import Derived.ChangeSame
import Derived.ChangeArms
import Derived.OpenShut
import Derived.Test.YtljcdjggjphedaaDoorHm
import Derived.ChangeSlices
import Derived.Lib.SmallJoins
import Derived.Test.YtljcdjggjphedaaDoorHl
import Derived.IntWalk
namespace Go.Proofs.YtljcdjggjphedaaDoor.Tw
open Go.RowKit Go.Proofs.YtljcdjggjphedaaDoorW.PrintWords Go.Proofs.YtljcdjggjphedaaDoorW.PrintLast Go.Proofs.YtljcdjggjphedaaDoorW.PrintMore
open Go.Proofs.YtljcdjggjphedaaDoor.PFnHandleScript Go.Proofs.YtljcdjggjphedaaDoor.Hd
set_option linter.unusedVariables false
set_option linter.unusedSimpArgs false
theorem cut_len (l : List Int) (s : Nat) : (cutTo l s).length = s := by unfold cutTo; simp; omega
theorem cut_at (l : List Int) (s i : Nat) (h : i < s) : (cutTo l s).getD i 0 = l.getD i 0 := by
  unfold cutTo
  rw [List.getD_eq_getElem?_getD, List.getD_eq_getElem?_getD]
  by_cases hi : i < l.length
  · rw [List.getElem?_append_left (by rw [List.length_take]; omega), List.getElem?_take, if_pos h]
  · rw [List.getElem?_append_right (by rw [List.length_take]; omega), List.getElem?_eq_none (l := l) (by omega), List.getElem?_replicate]
    split <;> rfl
theorem cut_out (l : List Int) (s i : Nat) (h : s ≤ i) : (cutTo l s).getD i 0 = 0 := by
  rw [List.getD_eq_getElem?_getD, List.getElem?_eq_none (by rw [cut_len]; omega)]; rfl
theorem get_out (l : List Int) (i : Nat) (h : l.length ≤ i) : l.getD i 0 = 0 := by
  rw [List.getD_eq_getElem?_getD, List.getElem?_eq_none h]; rfl
theorem byte_cell {W : World} {A : Option Addr} {n : Nat} {b : List Int} (h : (Kd.int .u8).C W A n b) (i : Nat) (hi : i < n) : ∃ ad, A = some ad ∧ W.cell? (ad.add i) = some (.int .u8 (b.getD i 0)) := by
  obtain ⟨ad, e, hc⟩ := h.2.2 (by omega)
  have hl : i < b.length := by have := h.1; omega
  obtain ⟨c, h1, h2, h3⟩ := hc i _ (List.getElem?_eq_getElem hl)
  have h2' : c = [.int .u8 b[i]] := h2
  subst h2'
  refine ⟨ad, e, ?_⟩
  have := h3 0 _ rfl
  have h4 : W.cell? (ad.add (i * 1 + 0)) = some (.int .u8 b[i]) := this
  rw [Nat.mul_one, Nat.add_zero] at h4
  rw [h4, List.getD_eq_getElem?_getD, List.getElem?_eq_getElem hl]
  rfl
theorem bytes_of {W : World} {a : Addr} {zs : List Int} {len : Nat} (hcell : ∀ i, i < len → W.cell? (a.add i) = some (.int .u8 (zs.getD i 0))) (hz : len ≤ zs.length) (hl : len ≤ 9223372036854775807) : (Kd.int .u8).C W (some a) len (zs.take len) := by
  refine ⟨by rw [List.length_take]; omega, hl, fun _ => ⟨a, rfl, fun j p hj => ⟨[.int .u8 p], rfl, rfl, fun i u hi => ?_⟩⟩⟩
  have hlt := (List.getElem?_eq_some_iff.1 hj).1
  rw [List.length_take] at hlt
  rw [List.getElem?_take, if_pos (by omega)] at hj
  have h := hcell j (by omega)
  rw [List.getD_eq_getElem?_getD, hj] at h
  match i, hi with
  | 0, hi =>
    simp at hi
    subst hi
    rw [show j * (Kd.int .u8).sz + 0 = j from by show j * 1 + 0 = j; omega]
    exact h
def nd : Nod := ⟨⟨#[47, 102]⟩, .map none, false, 268435456, 0⟩
def hd0 : Hnd := ⟨0, 0, false, false⟩
def datas (data : List Int) (a b : Nat) : Nat → List Int
  | 0 => data
  | 1 => cutTo data a
  | _ => cutTo (cutTo data a) b
set_option maxHeartbeats 2000000 in
set_option maxRecDepth 100000 in
theorem law8in (w : World) (A : Nat → Addr) (hS : Sent A w) (data : List Int) (Ad : Option Addr) (md cd a b : Nat) (hD : Kd.C (Kd.int .u8) w Ad md data) (hm : md ≤ 2000) (ha : a ≤ 4096) (hb : b ≤ 4096) :
    Calls Tryd.prog 8 #[.slice Ad md cd, .int .i64 a, .int .i64 b] w fun e w' => e = .returned (.bool true) ∧ Below w.heap.size w w' := by
  have HD := Lib.hid hD
  have HL := Lib.hid hD.1
  have HO := Lib.hid (fun (W : World) (g : Nat) (hbw : Below w.heap.size w W) (hg : W.heap[g]? = some (.cells #[.int .i64 17, .string ⟨#[]⟩, .string ⟨#[]⟩, .int .i64 0, .int .i64 0, .int .i64 0, .slice none 0 0, .int .i64 a, .int .i64 0, .int .i64 0, .int .i64 17, .string ⟨#[]⟩, .string ⟨#[]⟩, .int .i64 0, .int .i64 0, .int .i64 0, .slice none 0 0, .int .i64 b, .int .i64 0, .int .i64 0] 26 (0, 0))) =>
    (one20 W A (SentB.of (hS.later hbw)) data Ad md cd (Kd.C_below hD hbw) (by omega) _ _ 2 2
      (built26 [(stp 17 a 0 0 [], stpCs 17 a 0 0 (.slice none 0 0)), (stp 17 b 0 0 [], stpCs 17 b 0 0 (.slice none 0 0))] _ 26 hg rfl (by intro p hp; simp at hp; rcases hp with rfl | rfl <;> exact ⟨rfl, stp_nil _ _ _ _ _⟩) (by simp)) (by decide)
      (fun i => (hd0, nd, datas data a b i)) (fun _ => ans 0 0 0 []) rfl
      (fun i hi => by
        match i, hi with
        | 0, _ => exact does_trunc a rfl rfl rfl rfl (by omega) (by show data.length ≤ _; have := hD.1; omega)
        | 1, _ => exact does_trunc b rfl rfl rfl rfl (by omega) (by show (cutTo data a).length ≤ _; rw [cut_len]; omega))
      (by show (cutTo (cutTo data a) b).length ≤ _; rw [cut_len]; omega)).mono (fun e w' ⟨A1, c1, A2, c2, he, _, _, h2, hl, hb⟩ => (⟨A1, c1, A2, c2, by rw [he, show (datas data a b 2).length = b from cut_len _ _], by rwa [show (datas data a b 2).length = b from cut_len _ _] at h2, by rwa [show (datas data a b 2).length = b from cut_len _ _] at hl, hb⟩ : ∃ A1 c1 A2 c2, e = Ending.returned (.tuple #[.slice A1 2 c1, .slice A2 b c2, .bool true]) ∧ (Kd.int .u8).C w' A2 b (cutTo (cutTo data a) b) ∧ b ≤ c2 ∧ Below W.heap.size W w')))
  clear hD hS
  have b1 : (md : Int) ≤ 2147483647 := by omega
  have b2 : (md : Int) ≤ 2000 := by omega
  have b3 : ¬ ((a : Int) < 0) := by omega
  have b4 : (a : Int) ≤ 4096 := by omega
  have b5 : ¬ ((b : Int) < 0) := by omega
  have b6 : (b : Int) ≤ 4096 := by omega
  go_enter Tryd.func8, Tryd.ntmps8
  go_wp2_with (first | (go_at_call 20; (refine (HO.out _ _ ?_ ?_).mono ?_); (repeat (first | exact Below.refl _ _ | apply below_alloc | apply below_drew)); (exact blk_at_ rfl); rintro e w1 ⟨A1, c1, A2, c2, rfl, hc2, hl2, hbw⟩; have HC2 := Lib.hid hc2; have HB := Lib.hid (below_then (below_alloc (Below.refl _ _) _) (Nat.le_of_lt (by simp)) hbw : Below w.heap.size w w1); clear hc2 hbw))
  go_loopw [56] (fun v56 wr => ∃ i : Nat, v56 = .int .i64 i ∧ i ≤ b ∧ Hid (Below w1.heap.size w1 wr)) (fun v56 _ => b - (intOf v56).toNat)
  case atStart => exact ⟨0, rfl, by omega, Lib.hid (Below.refl _ _)⟩
  case round =>
    obtain ⟨i, rfl, hi, HBR⟩ := hrel
    have HBW := Lib.hid (below_then HB.out HB.out.size HBR.out)
    by_cases hlt : i < b
    · obtain ⟨ad2, rfl, k2⟩ := byte_cell (Kd.C_below HC2.out HBR.out) i hlt
      rw [cut_at _ _ _ hlt] at k2
      by_cases hia : i < a
      · rw [cut_at _ _ _ hia] at k2
        have n1 : (i : Int) < (a : Int) := by omega
        by_cases him : i < md
        · obtain ⟨ad1, rfl, k1⟩ := byte_cell (Kd.C_below HD.out HBW.out) i him
          have n2 : (i : Int) < (md : Int) := by omega
          generalize data.getD i 0 = x at *
          go_wp2_with fail
          go_roundw
          case rel => exact ⟨i + 1, by push_cast; rfl, hlt, HBR⟩
          case measure => simp only [intOf]; omega
        · have n2 : ¬ ((i : Int) < (md : Int)) := by omega
          rw [get_out data i (by have := HL.out; omega)] at k2
          go_wp2_with fail
          go_roundw
          case rel => exact ⟨i + 1, by push_cast; rfl, hlt, HBR⟩
          case measure => simp only [intOf]; omega
      · rw [cut_out _ _ _ (by omega)] at k2
        have n1 : ¬ ((i : Int) < (a : Int)) := by omega
        go_wp2_with fail
        go_roundw
        case rel => exact ⟨i + 1, by push_cast; rfl, hlt, HBR⟩
        case measure => simp only [intOf]; omega
    · obtain rfl : i = b := by omega
      go_wp2_with fail
      go_ret
      exact ⟨rfl, HBW.out⟩
set_option maxHeartbeats 1000000 in
set_option maxRecDepth 100000 in
theorem law8 (w : World) (A : Nat → Addr) (hS : Sent A w) (data : List Int) (Ad : Option Addr) (md cd : Nat) (a b : Int) (hD : Kd.C (Kd.int .u8) w Ad md data) :
    Calls Tryd.prog 8 #[.slice Ad md cd, .int .i64 a, .int .i64 b] w fun e w' => e = .returned (.bool true) ∧ Below w.heap.size w w' := by
  by_cases hg : md ≤ 2000 ∧ 0 ≤ a ∧ a ≤ 4096 ∧ 0 ≤ b ∧ b ≤ 4096
  · obtain ⟨h1, h2, h3, h4, h5⟩ := hg
    obtain ⟨a, rfl⟩ := Int.eq_ofNat_of_zero_le h2
    obtain ⟨b, rfl⟩ := Int.eq_ofNat_of_zero_le h4
    exact law8in w A hS data Ad md cd a b hD h1 (by omega) (by omega)
  · have hx : (2147483647 < (md : Int)) ∨ ((md : Int) ≤ 2147483647 ∧ 2000 < (md : Int)) ∨ ((md : Int) ≤ 2147483647 ∧ (md : Int) ≤ 2000 ∧ a < 0) ∨ ((md : Int) ≤ 2147483647 ∧ (md : Int) ≤ 2000 ∧ 0 ≤ a ∧ 4096 < a) ∨ ((md : Int) ≤ 2147483647 ∧ (md : Int) ≤ 2000 ∧ 0 ≤ a ∧ a ≤ 4096 ∧ b < 0) ∨ ((md : Int) ≤ 2147483647 ∧ (md : Int) ≤ 2000 ∧ 0 ≤ a ∧ a ≤ 4096 ∧ 0 ≤ b ∧ 4096 < b) := by omega
    clear hg hD hS
    rcases hx with h1 | ⟨h1, h2⟩ | ⟨h1, h2, h3⟩ | ⟨h1, h2, h3, h4⟩ | ⟨h1, h2, h3, h4, h5⟩ | ⟨h1, h2, h3, h4, h5, h6⟩
    all_goals
      go_enter Tryd.func8, Tryd.ntmps8
      go_wp2_with fail
      go_ret
      exact ⟨rfl, Below.refl _ _⟩

open Go.ChangeShapes Go.WideShapes Go.ChangeAt
theorem own : ownKnob Tryd.prog.godebug = none := by kernel_rfl
theorem laidOut : laidOutB Tryd.prog = true := by kernel_rfl
theorem readable8 : ∀ t ∈ Tryd.f8.params.toList, Tryd.prog.readableRec t = true ∧ t < Tryd.prog.types.size := by
  have h : (Tryd.f8.params.toList.all fun t => Tryd.prog.readableRec t && decide (t < Tryd.prog.types.size)) = true := by kernel_rfl
  intro t ht
  have := List.all_eq_true.1 h t ht
  simpa using this
def laidL : List (String × DataW Unit) := [("pub-marram/pub/afero/inner/os.ErrExist", Rows.laid_pub_marram_pub_afero_inner_os_ErrExist), ("pub-marram/pub/afero/inner/os.ErrNotExist", Rows.laid_pub_marram_pub_afero_inner_os_ErrNotExist), ("pub-marram/pub/afero/inner/os.ENOENT", Rows.laid_pub_marram_pub_afero_inner_os_ENOENT), ("pub-marram/pub/afero/inner/os.ENOTDIR", Rows.laid_pub_marram_pub_afero_inner_os_ENOTDIR), ("pub-marram/pub/afero/inner/os.EPERM", Rows.laid_pub_marram_pub_afero_inner_os_EPERM), ("pub-marram/pub/afero/inner/os.EIO", Rows.laid_pub_marram_pub_afero_inner_os_EIO), ("pub-marram/pub/afero/inner/os.EBADFD", Rows.laid_pub_marram_pub_afero_inner_os_EBADFD), ("io.EOF", Rows.laid_io_EOF), ("io.ErrUnexpectedEOF", Rows.laid_io_ErrUnexpectedEOF), ("pub-marram/pub/afero/mem.ErrFileClosed", Rows.laid_pub_marram_pub_afero_mem_ErrFileClosed), ("pub-marram/pub/afero/mem.ErrOutOfRange", Rows.laid_pub_marram_pub_afero_mem_ErrOutOfRange)]
set_option maxRecDepth 100000 in
theorem lifted (os : Os) (started : os.Started) (H : Type) (enc : TypeId × Value → H) :
    ReturnsInHanded {} Tryd.checked os 8 .any (fun w args => (Rows.fnTruncateTwiceSpec.pre enc Tryd.prog Tryd.f8 Rows.fnTruncateTwiceRow.domain false w args ∧ laidMetH Tryd.prog laidL w) ∧ sizedMet enc Tryd.prog Tryd.f8 (OpenSpec.ofChange Rows.fnTruncateTwiceSpec) false w args) (Rows.fnTruncateTwiceSpec.post enc Tryd.prog Tryd.f8 false true false false) := by
  refine Adapter.law_lifted_tied (C := Tryd.checked) (X := fun w => laidMetH Tryd.prog laidL w) (fun _ _ hh h => h.of_heap hh) own started (by kernel_rfl) Tryd.func8
    (ChangeSpec.witness_shaped (enc := enc) (C := Tryd.checked) (os := os) (X := fun w _ => laidMetH Tryd.prog laidL w) false (World.laidAll Tryd.prog os laidL) #[.slice none 0 0, .int .i64 0, .int .i64 0] 8 (World.laidAll_os _ _ _)
      (World.shaped_of_ZipB (by kernel_rfl) (by kernel_rfl)) (by kernel_rfl) (by kernel_rfl) (by kernel_rfl)
      (by rw [MakeChecks.laidMetH_plain _ _ _ (by kernel_rfl)]; exact laidMet_laidAll _ (by kernel_rfl) (by kernel_rfl)))
    laidOut readable8 (tb := 4) (by kernel_rfl) (by kernel_rfl) rfl ?_ ?_
  · intro ds hds
    rw [show Tryd.f8.params.size = 3 from by kernel_rfl] at hds
    match ds, hds with
    | [d1, d2, d3], _ => rfl
  · intro W base args ds p hval hA _ _ hL0
    have hL : laidMet Tryd.prog laidL W := by rw [MakeChecks.laidMetH_plain _ _ _ (by kernel_rfl)] at hL0; exact hL0
    rw [Tryd.params8] at hA hval
    obtain ⟨v0, vs0, d0, ds0, p0, q0, hargs, rfl, rfl, h0, r0⟩ := trodAll_cons hA
    obtain ⟨v1, vs1, d1, ds1, p1, q1, rfl, rfl, rfl, h1, r1⟩ := trodAll_cons r0
    obtain ⟨v2, vs2, d2, ds2, p2, q2, rfl, rfl, rfl, h2, r2⟩ := trodAll_cons r1
    obtain ⟨rfl, rfl, rfl⟩ := trodAll_nil r2
    obtain rfl : args = #[v0, v1, v2] := by cases args; simp_all
    obtain ⟨A, hS⟩ := sent_of_laid (show laidMet Tryd.prog errsL W from hL)
    obtain ⟨x, rfl, rfl, rfl, wx⟩ := open_int Tryd.underlying3 (hval 1 3 v1 rfl rfl) h1
    obtain ⟨y, rfl, rfl, rfl, wy⟩ := open_int Tryd.underlying3 (hval 2 3 v2 rfl rfl) h2
    obtain ⟨a0, len, cap, rfl⟩ := okWide_slice Tryd.underlying22 (hval 0 22 v0 rfl rfl)
    obtain ⟨fuel, hf⟩ := h0
    rcases Go.ChangeShapes.open_ints Tryd.underlying22 Tryd.underlying5 (by kernel_rfl) hf with ⟨hcs, hx⟩ | ⟨a, len', cap', zs, hcs, _, hl, hm, hz, hx, hcell, hwz⟩
    · simp [Value.cells] at hcs
      obtain ⟨rfl, rfl, rfl⟩ := hcs
      exact law8 W A hS [] none 0 0 x y (Kd.C_nil _ _)
    · simp [Value.cells] at hcs
      obtain ⟨rfl, rfl, rfl⟩ := hcs
      unfold maxLen at hm
      have hzl : len ≤ zs.length := by rw [hz]; split <;> omega
      exact law8 W A hS (zs.take len) (some a) len cap x y (bytes_of (fun i hi => hcell i (by omega)) hzl (by omega))

theorem over : Rows.fnTruncateTwiceRow.holds Tryd.pinned (OpenSpec.ofChange Rows.fnTruncateTwiceSpec) :=
  OpenClaim.holds_of_wide 8 Tryd.f8 rfl rfl rfl rfl rfl rfl rfl ⟨rfl, rfl, rfl, rfl, rfl⟩ rfl rfl rfl rfl rfl (by kernel_rfl) Tryd.func8 (by kernel_rfl)
    (of_decide_eq_true (by kernel_rfl)) (by unfold Func.isWrapper; first | (rw [if_pos (by decide +kernel)]; kernel_rfl) | (rw [if_neg (by decide +kernel)]; exact ⟨rfl, rfl⟩))
    (fun os started H enc _ => lifted os started H enc)
theorem card_holds : Rows.FnTruncateTwiceCardSaid :=
  Claim7.holds_tied_plain_at .later [] [.sentinel, .sentinel, .sentinel, .sentinel, .sentinel, .sentinel, .sentinel, .sentinel, .sentinel, .sentinel, .sentinel] true (true, "082d05495341c122149ceada623044fc8a0a6c8a5b30945a55a332597f3648b7") true over (fun _ h => by cases h) (by kernel_rfl) (fun _ h => by cases h) fnTruncateTwice_row_tie rfl ⟨rfl, rfl⟩ (by kernel_rfl) rfl
    (fun f fn hf hfn => by
      obtain rfl : f = 8 := Option.some.inj ((show Tryd.prog.funcNamed "pub-marram/laws.FnTruncateTwice" = some 8 by kernel_rfl).symm.trans hf) |>.symm
      obtain rfl : fn = Tryd.f8 := (Option.some.inj (Tryd.func8.symm.trans hfn)).symm
      exact ⟨by kernel_rfl, fun j t ht => by
        rw [Tryd.params8] at ht
        have hm : t ∈ [22, 3, 3] := by simpa using Array.mem_of_getElem? ht
        have hall : ([22, 3, 3].all fun u => !Tryd.prog.wantsStandIn u) = true := by kernel_rfl
        exact (show Tryd.prog.wantsStandIn t = false by simpa using List.all_eq_true.1 hall t hm)⟩)
    (by kernel_rfl)
#print axioms card_holds
end Go.Proofs.YtljcdjggjphedaaDoor.Tw
