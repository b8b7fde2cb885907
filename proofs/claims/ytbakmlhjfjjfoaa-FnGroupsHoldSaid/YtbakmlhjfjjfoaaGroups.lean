/- Proved: for every number of blocks and of inodes FnGroupsHold answers true: the groups that are made have room for all inodes and blocks, and one group fewer has not (blocks from 1 to 2^31, inodes from 1 to 2^20; else the law answers true at once). -/
import Derived.Test.YtbakmlhjfjjfoaaProg
import Derived.WalkKit
import Derived.WalkSpells
import Derived.Lib.Hide
import Derived.Handy
import Derived.Test.YtbakmlhjfjjfoaaRows
import Derived.Test.YtbakmlhjfjjfoaaAdapter
import Derived.LoopTactic
namespace Go.Proofs.Ytbakmlhjfjjfoaa.Gh
open Go.RowKit
theorem ret_int {k : IntKind} {a b : Int} (h : a = b) : Ending.returned (.int k a) = .returned (.int k b) := by rw [h]
theorem ret_bool {a b : Bool} (h : a = b) : Ending.returned (.bool a) = .returned (.bool b) := by rw [h]
theorem prod_bd (a b A B : Int) (h0 : 0 ≤ a) (h1 : a ≤ A) (h2 : 0 ≤ b) (h3 : b ≤ B) : 0 ≤ a * b ∧ a * b ≤ A * B :=
  ⟨Int.mul_nonneg h0 h2, Int.mul_le_mul h1 h3 h2 (by omega)⟩
def gcM (i n : Int) : Int := ((i - 1) / n * (32768 - n * 256 / 4096 - 2) % 4294967296 + 1) % 4294967296
def gcN (b i n : Int) : Int :=
  if b < gcM i n then ((i - 1) / n * (32768 - n * 256 / 4096 - 2) % 4294967296 + 1 + (32768 - n * 256 / 4096 - 2) - 1) % 4294967296 / (32768 - n * 256 / 4096 - 2)
  else (b + (32768 - n * 256 / 4096 - 2) - 1) / (32768 - n * 256 / 4096 - 2)
set_option maxHeartbeats 400000 in
theorem gc_calls (b i n : Int) (w : World) (hb1 : 1 ≤ b) (hb2 : b ≤ 2147483648) (hi1 : 1 ≤ i) (hi2 : i ≤ 1048576) (hn1 : 16 ≤ n) (hn2 : n ≤ 32768) :
    Calls Try.prog 24 #[.int .u32 b, .int .u32 i, .int .u32 n] w fun e w' => e = .returned (.int .u32 (gcN b i n)) ∧ w = w' := by
  have c4b0 : (n == 0) = false := beq_eq_false_iff_ne.mpr (by omega)
  by_cases h : b < gcM i n
  · have hf := Lib.hid (if_pos h : gcN b i n = _)
    have h' : b < ((i - 1) / n * (32768 - n * 256 / 4096 - 2) % 4294967296 + 1) % 4294967296 := h
    clear h
    go_enter Try.func24, Try.ntmps24
    go_wp2
    go_ret
    exact ⟨ret_int hf.out.symm, rfl⟩
  · have hf := Lib.hid (if_neg h : gcN b i n = _)
    have h' : ((i - 1) / n * (32768 - n * 256 / 4096 - 2) % 4294967296 + 1) % 4294967296 ≤ b := Int.not_lt.1 h
    clear h
    go_enter Try.func24, Try.ntmps24
    go_wp2
    go_ret
    exact ⟨ret_int hf.out.symm, rfl⟩
/-- What a number of groups, and of inodes for each, is good for. -/
def Good (b i g n : Int) : Prop :=
  ∃ m d : Int, n = 16 * m ∧ d = 32766 - m ∧ 1 ≤ m ∧ m ≤ 2048 ∧ 1 ≤ g ∧ g ≤ 100000 ∧ i ≤ g * n ∧ b ≤ g * d ∧ ((g - 1) * n < i ∨ (g - 1) * d < b)

theorem div_facts (x n : Int) (hn : 0 < n) (hx : 0 ≤ x) : x / n * n ≤ x ∧ x < (x / n + 1) * n ∧ 0 ≤ x / n := by
  refine ⟨Int.ediv_mul_le x (by omega), ?_, Int.ediv_nonneg hx (by omega)⟩
  exact Int.lt_ediv_add_one_mul_self x hn


theorem gc_good (b i m : Int) (hb1 : 1 ≤ b) (hb2 : b ≤ 2147483648) (hi1 : 1 ≤ i) (hi2 : i ≤ 1048576) (hm1 : 1 ≤ m) (hm2 : m ≤ 2048) :
    Good b i (gcN b i (16 * m)) (16 * m) := by
  have e1 : 32768 - (16 * m) * 256 / 4096 - 2 = 32766 - m := by omega
  unfold gcN gcM
  rw [e1]
  obtain ⟨d, hd⟩ : ∃ d, d = 32766 - m := ⟨_, rfl⟩
  rw [← hd]
  have hd1 : 30718 ≤ d := by omega
  have hd2 : d ≤ 32765 := by omega
  obtain ⟨q1, q2, q3⟩ := div_facts (i - 1) (16 * m) (by omega) (by omega)
  obtain ⟨q, hq⟩ : ∃ q, q = (i - 1) / (16 * m) := ⟨_, rfl⟩
  rw [← hq] at q1 q2 q3 ⊢
  have hqm : q * 1 ≤ q * m := Int.mul_le_mul_of_nonneg_left hm1 q3
  have hq5 : q ≤ 65535 := by
    have : q * (16 * m) = 16 * (q * m) := by rw [Int.mul_left_comm]
    omega
  have hqd : q * d ≤ 65535 * 32765 := Int.mul_le_mul hq5 hd2 (by omega) (by omega)
  have hqd0 : 0 ≤ q * d := Int.mul_nonneg q3 (by omega)
  have e4 : ((q * d) % 4294967296 + 1) % 4294967296 = q * d + 1 := by omega
  rw [e4]
  by_cases hc : b < q * d + 1
  · rw [if_pos hc]
    have e5 : (q * d % 4294967296 + 1 + d - 1) % 4294967296 = q * d + d := by omega
    rw [e5]
    have e6 : (q * d + d) / d = q + 1 := by
      have : q * d + d = (q + 1) * d := by rw [Int.add_mul]; omega
      rw [this, Int.mul_ediv_cancel _ (by omega)]
    rw [e6]
    refine ⟨m, d, rfl, hd, hm1, hm2, by omega, by omega, by omega, ?_, ?_⟩
    · rw [Int.add_mul]; omega
    · left; rw [show q + 1 - 1 = q from by omega]; omega
  · rw [if_neg hc]
    obtain ⟨r1, r2, r3⟩ := div_facts (b + d - 1) d (by omega) (by omega)
    obtain ⟨g, hg⟩ : ∃ g, g = (b + d - 1) / d := ⟨_, rfl⟩
    rw [← hg] at r1 r2 r3 ⊢
    have hg1 : 1 ≤ g := by
      by_cases h0 : g = 0
      · rw [h0] at r2; omega
      · omega
    have hg2 : g ≤ 100000 := by
      have h1 : g * 30718 ≤ g * d := Int.mul_le_mul_of_nonneg_left hd1 r3
      omega
    have hgq : q + 1 ≤ g := by
      have h1 : q * d < g * d := by rw [Int.add_mul] at r2; omega
      have h2 : q < g := Int.lt_of_mul_lt_mul_right h1 (by omega)
      omega
    refine ⟨m, d, rfl, hd, hm1, hm2, hg1, hg2, ?_, ?_, ?_⟩
    · have : (q + 1) * (16 * m) ≤ g * (16 * m) := Int.mul_le_mul_of_nonneg_right hgq (by omega)
      omega
    · rw [Int.add_mul] at r2; omega
    · right
      rw [Int.sub_mul]; omega

def GoodPost (b i : Int) (w : World) (e : Ending) (w' : World) : Prop := ∃ g n : Int, Good b i g n ∧ e = .returned (.tuple #[.int .u32 g, .int .u32 n]) ∧ w = w'

set_option maxHeartbeats 1000000 in
theorem best_calls (b i : Int) (w : World) (hb1 : 1 ≤ b) (hb2 : b ≤ 2147483648) (hi1 : 1 ≤ i) (hi2 : i ≤ 1048576) :
    Calls Try.prog 18 #[.int .u32 b, .int .u32 i] w (GoodPost b i w) := by
  go_enter Try.func18, Try.ntmps18
  go_wp2
  go_loop [4, 5, 6] (fun g n x => ∃ G N m : Int, g = .int .u32 G ∧ n = .int .u32 N ∧ x = .int .u32 (16 * m) ∧ 1 ≤ m ∧ m ≤ 2049 ∧ 0 ≤ G ∧ G ≤ 4294967295 ∧ (Good b i G N ∨ (m ≤ 2048 ∧ G = 4294967295)))
    (fun _ _ x => 33000 - (intOf x).toNat)
  case atStart => exact ⟨4294967295, 0, 1, rfl, rfl, rfl, by omega, by omega, by omega, by omega, .inr ⟨by omega, rfl⟩⟩
  case round =>
    obtain ⟨G, N, m, rfl, rfl, rfl, hm1, hm2, hG0, hG1, hor0⟩ := hrel
    have hor := Lib.hid hor0
    clear hor0
    by_cases hlt : m ≤ 2048
    · have hgood0 := gc_good b i m hb1 hb2 hi1 hi2 hm1 hlt
      have hc := fun w => gc_calls b i (16 * m) w hb1 hb2 hi1 hi2 (by omega) (by omega)
      generalize gcN b i (16 * m) = t at hgood0 hc
      have hc' := Lib.hid hc
      clear hc
      have ht : 1 ≤ t ∧ t ≤ 100000 := by
        obtain ⟨_, _, _, _, _, _, h1, h2, _⟩ := hgood0
        exact ⟨h1, h2⟩
      obtain ⟨ht1, ht2⟩ := ht
      have hgood := Lib.hid hgood0
      clear hgood0
      by_cases hcmp : t < G
      · go_wp2_with (go_at_call 24; refine (hc'.out _).mono ?_; rintro e w' ⟨rfl, rfl⟩)
        go_round
        case rel => exact ⟨t, 16 * m, m + 1, rfl, rfl, by rw [show 16 * (m + 1) = 16 * m + 16 by omega], by omega, by omega, by omega, by omega, .inl hgood.out⟩
        case measure => simp [intOf]; omega
      · have hold : Good b i G N := by
          rcases hor.out with h | h
          · exact h
          · omega
        have hold' := Lib.hid hold
        clear hold
        go_wp2_with (go_at_call 24; refine (hc'.out _).mono ?_; rintro e w' ⟨rfl, rfl⟩)
        go_round
        case rel => exact ⟨G, N, m + 1, rfl, rfl, by rw [show 16 * (m + 1) = 16 * m + 16 by omega], by omega, by omega, by omega, by omega, .inl hold'.out⟩
        case measure => simp [intOf]; omega
    · have hold : Good b i G N := by
        rcases hor.out with h | h
        · exact h
        · omega
      have hold' := Lib.hid hold
      clear hold
      go_wp2
      go_ret2
      exact ⟨G, N, hold'.out, rfl, rfl⟩

set_option maxHeartbeats 400000 in
theorem door_calls (b i : Int) (w : World) (hb1 : 1 ≤ b) (hb2 : b ≤ 2147483648) (hi1 : 1 ≤ i) (hi2 : i ≤ 1048576) :
    Calls Try.prog 13 #[.int .u32 b, .int .u32 i] w (GoodPost b i w) := by
  go_enter Try.func13, Try.ntmps13
  go_wp2_with fail
  refine (best_calls b i w hb1 hb2 hi1 hi2).mono ?_
  rintro e w' ⟨g, n, hg, rfl, rfl⟩
  have hg' := Lib.hid hg
  clear hg
  go_wp2
  go_ret2
  exact ⟨g, n, hg'.out, rfl, rfl⟩

set_option maxHeartbeats 400000 in
theorem impl_calls (b i : Int) (w : World) (hb1 : 1 ≤ b) (hb2 : b ≤ 2147483648) (hi1 : 1 ≤ i) (hi2 : i ≤ 1048576) :
    Calls Try.prog 6 #[.int .u32 b, .int .u32 i] w (GoodPost b i w) := by
  go_enter Try.func6, Try.ntmps6
  go_wp2_with fail
  refine (door_calls b i w hb1 hb2 hi1 hi2).mono ?_
  rintro e w' ⟨g, n, hg, rfl, rfl⟩
  have hg' := Lib.hid hg
  clear hg
  go_wp2
  go_ret2
  exact ⟨g, n, hg'.out, rfl, rfl⟩

set_option maxHeartbeats 1000000 in
theorem law_calls (b i : Int) (w : World) (hb0 : 0 ≤ b) (hb3 : b ≤ 4294967295) (hi0 : 0 ≤ i) (hi3 : i ≤ 4294967295) :
    Calls Try.prog 3 #[.int .u32 b, .int .u32 i] w fun e w' => e = .returned (.bool true) ∧ w = w' := by
  by_cases h : 1 ≤ b ∧ b ≤ 2147483648 ∧ 1 ≤ i ∧ i ≤ 1048576
  · obtain ⟨h1, h2, h3, h4⟩ := h
    go_enter Try.func3, Try.ntmps3
    go_wp2_with fail
    refine (impl_calls b i w h1 h2 h3 h4).mono ?_
    rintro e w' ⟨g, n, ⟨m, d, rfl, hd, hm1, hm2, hg1, hg2, hin, hbn, hor⟩, rfl, rfl⟩
    obtain rfl : d = 32768 - m - 2 := by omega
    clear hd
    have p1 := prod_bd g (16 * m) 100000 32768 (by omega) hg2 (by omega) (by omega)
    have p2 := prod_bd (g - 1) (16 * m) 100000 32768 (by omega) (by omega) (by omega) (by omega)
    have p3 := prod_bd g (32768 - m - 2) 100000 32768 (by omega) hg2 (by omega) (by omega)
    have p4 := prod_bd (g - 1) (32768 - m - 2) 100000 32768 (by omega) (by omega) (by omega) (by omega)
    obtain ⟨p10, p11⟩ := p1
    obtain ⟨p20, p21⟩ := p2
    obtain ⟨p30, p31⟩ := p3
    obtain ⟨p40, p41⟩ := p4
    rcases hor with hor | hor
    · go_wp2
      all_goals (go_ret; exact ⟨ret_bool (by first | rfl | simp [hor] | omega), rfl⟩)
    · by_cases hx : (g - 1) * (16 * m) < i
      · go_wp2
        all_goals (go_ret; exact ⟨ret_bool (by first | rfl | simp [hor] | omega), rfl⟩)
      · go_wp2
        all_goals (go_ret; exact ⟨ret_bool (by first | rfl | simp [hor] | omega), rfl⟩)
  · go_enter Try.func3, Try.ntmps3
    go_wp2
    all_goals (go_ret; exact ⟨rfl, rfl⟩)

open Go.ChangeShapes Go.WideShapes Go.ChangeAt
theorem own : ownKnob Try.prog.godebug = none := by kernel_rfl
theorem laidOut : laidOutB Try.prog = true := by kernel_rfl
theorem readable3 : ∀ t ∈ Try.f3.params.toList, Try.prog.readableRec t = true ∧ t < Try.prog.types.size := by
  have h : (Try.f3.params.toList.all fun t => Try.prog.readableRec t && decide (t < Try.prog.types.size)) = true := by kernel_rfl
  intro t ht
  have := List.all_eq_true.1 h t ht
  simpa using this
set_option maxRecDepth 100000 in
theorem lifted (os : Os) (started : os.Started) (H : Type) (enc : TypeId × Value → H) :
    ReturnsInHanded {} Try.checked os 3 .any (Rows.fnGroupsHoldSpec.pre6 enc Try.prog Try.f3 Rows.fnGroupsHoldRow.domain false) (Rows.fnGroupsHoldSpec.post enc Try.prog Try.f3 false true false false) := by
  refine Adapter.law_lifted (C := Try.checked) own started (by kernel_rfl) Try.func3
    (ChangeSpec.witness6 (enc := enc) (C := Try.checked) false ⟨#[], #[.int .u32 0, .int .u32 0], []⟩ 8 (by kernel_rfl) (by kernel_rfl) (by kernel_rfl) (by kernel_rfl))
    laidOut readable3 (tb := 4) (by kernel_rfl) (by kernel_rfl) rfl ?_ ?_
  · intro ds hds
    rw [show Try.f3.params.size = 2 from by kernel_rfl] at hds
    match ds, hds with
    | [d1, d2], _ => rfl
  · intro W base args ds p hval hA _ _
    rw [Try.params3] at hA hval
    obtain ⟨v0, vs0, d0, ds0, p0, q0, hargs, rfl, rfl, h0, r0⟩ := trodAll_cons hA
    obtain ⟨v1, vs1, d1, ds1, p1, q1, rfl, rfl, rfl, h1, r1⟩ := trodAll_cons r0
    obtain ⟨rfl, rfl, rfl⟩ := trodAll_nil r1
    obtain rfl : args = #[v0, v1] := by cases args; simp_all
    obtain ⟨a0, rfl, rfl, rfl, w0⟩ := open_int Try.underlying22 (hval 0 22 v0 rfl rfl) h0
    obtain ⟨a1, rfl, rfl, rfl, w1⟩ := open_int Try.underlying22 (hval 1 22 v1 rfl rfl) h1
    have b0 : 0 ≤ a0 ∧ a0 ≤ 4294967295 := by simpa [Lit.wf, IntKind.min, IntKind.max, IntKind.bits, IntKind.signed] using w0
    have b1 : 0 ≤ a1 ∧ a1 ≤ 4294967295 := by simpa [Lit.wf, IntKind.min, IntKind.max, IntKind.bits, IntKind.signed] using w1
    refine (law_calls a0 a1 W b0.1 b0.2 b1.1 b1.2).mono fun e W' ⟨he, hw⟩ => ⟨he, ?_⟩
    subst hw
    exact Below.refl _ _
theorem over : Rows.fnGroupsHoldRow.holds Try.pinned (OpenSpec.ofChange Rows.fnGroupsHoldSpec) :=
  OpenClaim.holds_of_wide 3 Try.f3 rfl rfl rfl rfl rfl rfl rfl ⟨rfl, rfl, rfl, rfl, rfl⟩ rfl rfl rfl rfl rfl (by kernel_rfl) Try.func3 (by kernel_rfl)
    (of_decide_eq_true (by kernel_rfl)) (by unfold Func.isWrapper; first | (rw [if_pos (by decide +kernel)]; kernel_rfl) | (rw [if_neg (by decide +kernel)]; exact ⟨rfl, rfl⟩))
    (fun os started H enc _ => lifted os started H enc)
theorem holds : Rows.FnGroupsHoldSaid := over
#print axioms holds
end Go.Proofs.Ytbakmlhjfjjfoaa.Gh
