/- Proved: for every two times FnTimeOrder answers true: of two times that are laid the later one has the greater seconds, or the same and the greater nanoseconds (both set, seconds from 0 to the last one, nanoseconds from 0 to 999999999; else the law answers true at once). -/
import Derived.Test.YtlmkmippmjfagaaRows
import Derived.Test.YtlmkmippmjfagaaAdapter
import Derived.Test.YtlmkmippmjfagaaPFnTimeLaidx1
import Derived.Lib.SmallJoins
import Derived.WalkSpells
import Derived.Lib.Hide
import Derived.Handy
import Derived.LoopTactic
import Derived.Deep.RegionHeld3
import Derived.Laws.BitsLemmas
namespace Go.Proofs.Ytlmkmippmjfagaa.To
open Go.RowKit Go.Joins
set_option linter.unusedVariables false
open Go.Proofs.Ytlmkmippmjfagaa.PFnTimeLaid Go.Proofs.YtlmkmippmjfagaaW.PrintWords
theorem pw_bcell {W w1 : World} (hb : Below W.heap.size W w1) : (∀ b o, b < W.heap.size → w1.cell? ⟨b, o, none⟩ = W.cell? ⟨b, o, none⟩) ∧ (∀ b o, b < W.heap.size → w1.frozen? ⟨b, o, none⟩ = W.frozen? ⟨b, o, none⟩) :=
  ⟨fun b o h => hb.cell (p := ⟨b, o, none⟩) h, fun b o h => hb.frozen (p := ⟨b, o, none⟩) h⟩
theorem keepS {w W w2 : World} {sa na sb nb : Int} (h : W.cell? ⟨w.heap.size, 0, none⟩ = some (.bool true) ∧ W.cell? ⟨w.heap.size, 1, none⟩ = some (.int .i64 sa) ∧ W.cell? ⟨w.heap.size, 2, none⟩ = some (.int .i64 na) ∧ W.cell? ⟨w.heap.size + 1, 0, none⟩ = some (.bool true) ∧ W.cell? ⟨w.heap.size + 1, 1, none⟩ = some (.int .i64 sb) ∧ W.cell? ⟨w.heap.size + 1, 2, none⟩ = some (.int .i64 nb) ∧ Below w.heap.size w W) (k : Below W.heap.size W w2) :
    w2.cell? ⟨w.heap.size, 0, none⟩ = some (.bool true) ∧ w2.cell? ⟨w.heap.size, 1, none⟩ = some (.int .i64 sa) ∧ w2.cell? ⟨w.heap.size, 2, none⟩ = some (.int .i64 na) ∧ w2.cell? ⟨w.heap.size + 1, 0, none⟩ = some (.bool true) ∧ w2.cell? ⟨w.heap.size + 1, 1, none⟩ = some (.int .i64 sb) ∧ w2.cell? ⟨w.heap.size + 1, 2, none⟩ = some (.int .i64 nb) ∧ Below w.heap.size w w2 :=
  ⟨pw_cell_below k h.1, pw_cell_below k h.2.1, pw_cell_below k h.2.2.1, pw_cell_below k h.2.2.2.1, pw_cell_below k h.2.2.2.2.1, pw_cell_below k h.2.2.2.2.2.1, below_then h.2.2.2.2.2.2 h.2.2.2.2.2.2.size k⟩
theorem lastS {a b c d e f g : Prop} (h : a ∧ b ∧ c ∧ d ∧ e ∧ f ∧ g) : g := h.2.2.2.2.2.2
def laid (s n : Int) : Int := Go.bits .or .u64 (IntKind.u64.wrap s) (IntKind.u64.wrap (IntKind.u64.wrap n * 17179869184))
theorem fs_calls (s n : Int) (w : World) (ha1 : 0 ≤ s) (ha2 : s ≤ 15032385535) :
    Calls Try.prog 9 #[.agg #[.bool true, .int .i64 s, .int .i64 n]] w fun e w' => e = .returned (.int .u64 (laid s n)) ∧ Below w.heap.size w w' := by
  refine impl_TimeToFs.calls true s n _ w ?_
  unfold impl_TimeToFs.f impl_toTime.f compactext4_DoorTimeToFs.f compactext4_timeToFsTime.f laid
  simp only [if_true, Option.bind_some]
  rw [if_neg (by omega), if_neg (by omega)]
  rfl
theorem ret_bool {a b : Bool} (h : a = b) : Ending.returned (.bool a) = .returned (.bool b) := by rw [h]
theorem u64_id (x : Int) (h0 : 0 ≤ x) (h1 : x < 18446744073709551616) : Go.IntKind.u64.wrap x = x := by
  simp [Go.IntKind.wrap, Go.IntKind.bits, Go.IntKind.signed]; omega
theorem wraps_u64 (n : Int) (h₀ : 0 ≤ n) (h₁ : n < 2 ^ 64) : IntKind.u64.wrap n = n := u64_id n h₀ (by omega)
theorem laid_is (s n : Int) (h1 : 0 ≤ s) (h2 : s ≤ 15032385535) (h3 : 0 ≤ n) (h4 : n < 1000000000) : laid s n = n * 17179869184 + s := by
  unfold laid
  rw [u64_id s (by omega) (by omega), u64_id n (by omega) (by omega), u64_id (n * 17179869184) (by omega) (by omega)]
  have hc : Go.bits .or .u64 s (n * 17179869184) = Go.bits .or .u64 (n * 17179869184) s := by
    unfold Go.bits
    simp only [BitVec.or_comm]
  rw [hc]
  exact bits_join .u64 64 (by decide) wraps_u64 34 (n * 17179869184) s (by omega) (by omega) (by omega) (by omega) (by omega) (by omega)
theorem low_is (s n : Int) (h1 : 0 ≤ s) (h2 : s ≤ 15032385535) (h3 : 0 ≤ n) (h4 : n < 1000000000) : Go.bits .and .u64 (n * 17179869184 + s) 17179869183 = s := by
  have h := bits_mask .u64 64 (by decide) wraps_u64 34 (by decide) (n * 17179869184 + s) (by omega) (by omega)
  have e : ((2 : Int) ^ 34 - 1) = 17179869183 := by decide
  rw [e] at h
  rw [h]
  omega
theorem fs_facts (s n : Int) (h1 : 0 ≤ s) (h2 : s ≤ 15032385535) (h3 : 0 ≤ n) (h4 : n < 1000000000) :
    Go.bits .and .u64 (laid s n) 17179869183 = s ∧ laid s n / 17179869184 = n := by
  rw [laid_is s n h1 h2 h3 h4]
  exact ⟨low_is s n h1 h2 h3 h4, by omega⟩
set_option maxHeartbeats 1000000 in
theorem walk_lt (sa na : Int) (sb nb : Int) (w : World) (ha1 : 0 ≤ sa) (ha2 : sa ≤ 15032385535) (ha3 : 0 ≤ na) (ha4 : na < 1000000000) (hb1 : 0 ≤ sb) (hb2 : sb ≤ 15032385535) (hb3 : 0 ≤ nb) (hb4 : nb < 1000000000) (h : sa < sb) :
    Calls Try.prog 4 #[.agg #[.bool true, .int .i64 sa, .int .i64 na], .agg #[.bool true, .int .i64 sb, .int .i64 nb]] w fun e w' => e = .returned (.bool true) ∧ Below w.heap.size w w' := by
  go_enter Try.func4, Try.ntmps4
  go_wp2_with fail
  refine wp_loop_rounds 3 ?_; repeat any_goals (rw [rounds_succ]; go_wp2_with fail)
  have c1 := fun W => fs_calls sa na W ha1 ha2
  have c2 := fun W => fs_calls sb nb W hb1 hb2
  obtain ⟨f1, f2⟩ := fs_facts sa na ha1 ha2 ha3 ha4
  obtain ⟨f3, f4⟩ := fs_facts sb nb hb1 hb2 hb3 hb4
  generalize laid sa na = x at c1 f1 f2
  generalize laid sb nb = y at c2 f3 f4
  have C1 := Lib.hid c1
  have C2 := Lib.hid c2
  clear c1 c2
  go_region_held3 (fun W' => W'.cell? ⟨w.heap.size, 0, none⟩ = some (.bool true) ∧ W'.cell? ⟨w.heap.size, 1, none⟩ = some (.int .i64 sa) ∧ W'.cell? ⟨w.heap.size, 2, none⟩ = some (.int .i64 na) ∧ W'.cell? ⟨w.heap.size + 1, 0, none⟩ = some (.bool true) ∧ W'.cell? ⟨w.heap.size + 1, 1, none⟩ = some (.int .i64 sb) ∧ W'.cell? ⟨w.heap.size + 1, 2, none⟩ = some (.int .i64 nb) ∧ Below w.heap.size w W')
    (first | exact keepS (by assumption) hb | exact keepS (by (refine ⟨?_, ?_, ?_, ?_, ?_, ?_, ?_⟩ <;> first | (simp [go_sem]; done) | go_grown)) hb | (refine ⟨?_, ?_, ?_, ?_, ?_, ?_, ?_⟩ <;> first | (simp [go_sem]; done) | go_grown))
    (first | (go_at_call 9; (with_reducible refine (C1.out _).mono ?_); rintro e w' ⟨rfl, hb⟩) | (go_at_call 9; (with_reducible refine (C2.out _).mono ?_); rintro e w' ⟨rfl, hb⟩))
  go_wp2_with fail
  all_goals (go_ret; exact ⟨ret_bool (by simp), lastS (by assumption)⟩)
set_option maxHeartbeats 1000000 in
theorem walk_gt (sa na : Int) (sb nb : Int) (w : World) (ha1 : 0 ≤ sa) (ha2 : sa ≤ 15032385535) (ha3 : 0 ≤ na) (ha4 : na < 1000000000) (hb1 : 0 ≤ sb) (hb2 : sb ≤ 15032385535) (hb3 : 0 ≤ nb) (hb4 : nb < 1000000000) (h : sb < sa) :
    Calls Try.prog 4 #[.agg #[.bool true, .int .i64 sa, .int .i64 na], .agg #[.bool true, .int .i64 sb, .int .i64 nb]] w fun e w' => e = .returned (.bool true) ∧ Below w.heap.size w w' := by
  go_enter Try.func4, Try.ntmps4
  go_wp2_with fail
  refine wp_loop_rounds 3 ?_; repeat any_goals (rw [rounds_succ]; go_wp2_with fail)
  have c1 := fun W => fs_calls sa na W ha1 ha2
  have c2 := fun W => fs_calls sb nb W hb1 hb2
  obtain ⟨f1, f2⟩ := fs_facts sa na ha1 ha2 ha3 ha4
  obtain ⟨f3, f4⟩ := fs_facts sb nb hb1 hb2 hb3 hb4
  generalize laid sa na = x at c1 f1 f2
  generalize laid sb nb = y at c2 f3 f4
  have C1 := Lib.hid c1
  have C2 := Lib.hid c2
  clear c1 c2
  go_region_held3 (fun W' => W'.cell? ⟨w.heap.size, 0, none⟩ = some (.bool true) ∧ W'.cell? ⟨w.heap.size, 1, none⟩ = some (.int .i64 sa) ∧ W'.cell? ⟨w.heap.size, 2, none⟩ = some (.int .i64 na) ∧ W'.cell? ⟨w.heap.size + 1, 0, none⟩ = some (.bool true) ∧ W'.cell? ⟨w.heap.size + 1, 1, none⟩ = some (.int .i64 sb) ∧ W'.cell? ⟨w.heap.size + 1, 2, none⟩ = some (.int .i64 nb) ∧ Below w.heap.size w W')
    (first | exact keepS (by assumption) hb | exact keepS (by (refine ⟨?_, ?_, ?_, ?_, ?_, ?_, ?_⟩ <;> first | (simp [go_sem]; done) | go_grown)) hb | (refine ⟨?_, ?_, ?_, ?_, ?_, ?_, ?_⟩ <;> first | (simp [go_sem]; done) | go_grown))
    (first | (go_at_call 9; (with_reducible refine (C1.out _).mono ?_); rintro e w' ⟨rfl, hb⟩) | (go_at_call 9; (with_reducible refine (C2.out _).mono ?_); rintro e w' ⟨rfl, hb⟩))
  go_wp2_with fail
  all_goals (go_ret; exact ⟨ret_bool (by simp), lastS (by assumption)⟩)
set_option maxHeartbeats 1000000 in
theorem walk_eqlt (sa na : Int) (nb : Int) (w : World) (ha1 : 0 ≤ sa) (ha2 : sa ≤ 15032385535) (ha3 : 0 ≤ na) (ha4 : na < 1000000000) (hb3 : 0 ≤ nb) (hb4 : nb < 1000000000) (h : na < nb) :
    Calls Try.prog 4 #[.agg #[.bool true, .int .i64 sa, .int .i64 na], .agg #[.bool true, .int .i64 sa, .int .i64 nb]] w fun e w' => e = .returned (.bool true) ∧ Below w.heap.size w w' := by
  go_enter Try.func4, Try.ntmps4
  go_wp2_with fail
  refine wp_loop_rounds 3 ?_; repeat any_goals (rw [rounds_succ]; go_wp2_with fail)
  have c1 := fun W => fs_calls sa na W ha1 ha2
  have c2 := fun W => fs_calls sa nb W ha1 ha2
  obtain ⟨f1, f2⟩ := fs_facts sa na ha1 ha2 ha3 ha4
  obtain ⟨f3, f4⟩ := fs_facts sa nb ha1 ha2 hb3 hb4
  generalize laid sa na = x at c1 f1 f2
  generalize laid sa nb = y at c2 f3 f4
  have C1 := Lib.hid c1
  have C2 := Lib.hid c2
  clear c1 c2
  go_region_held3 (fun W' => W'.cell? ⟨w.heap.size, 0, none⟩ = some (.bool true) ∧ W'.cell? ⟨w.heap.size, 1, none⟩ = some (.int .i64 sa) ∧ W'.cell? ⟨w.heap.size, 2, none⟩ = some (.int .i64 na) ∧ W'.cell? ⟨w.heap.size + 1, 0, none⟩ = some (.bool true) ∧ W'.cell? ⟨w.heap.size + 1, 1, none⟩ = some (.int .i64 sa) ∧ W'.cell? ⟨w.heap.size + 1, 2, none⟩ = some (.int .i64 nb) ∧ Below w.heap.size w W')
    (first | exact keepS (by assumption) hb | exact keepS (by (refine ⟨?_, ?_, ?_, ?_, ?_, ?_, ?_⟩ <;> first | (simp [go_sem]; done) | go_grown)) hb | (refine ⟨?_, ?_, ?_, ?_, ?_, ?_, ?_⟩ <;> first | (simp [go_sem]; done) | go_grown))
    (first | (go_at_call 9; (with_reducible refine (C1.out _).mono ?_); rintro e w' ⟨rfl, hb⟩) | (go_at_call 9; (with_reducible refine (C2.out _).mono ?_); rintro e w' ⟨rfl, hb⟩))
  go_wp2_with fail
  all_goals (go_ret; exact ⟨ret_bool (by simp), lastS (by assumption)⟩)
set_option maxHeartbeats 1000000 in
theorem walk_eqgt (sa na : Int) (nb : Int) (w : World) (ha1 : 0 ≤ sa) (ha2 : sa ≤ 15032385535) (ha3 : 0 ≤ na) (ha4 : na < 1000000000) (hb3 : 0 ≤ nb) (hb4 : nb < 1000000000) (h : nb < na) :
    Calls Try.prog 4 #[.agg #[.bool true, .int .i64 sa, .int .i64 na], .agg #[.bool true, .int .i64 sa, .int .i64 nb]] w fun e w' => e = .returned (.bool true) ∧ Below w.heap.size w w' := by
  go_enter Try.func4, Try.ntmps4
  go_wp2_with fail
  refine wp_loop_rounds 3 ?_; repeat any_goals (rw [rounds_succ]; go_wp2_with fail)
  have c1 := fun W => fs_calls sa na W ha1 ha2
  have c2 := fun W => fs_calls sa nb W ha1 ha2
  obtain ⟨f1, f2⟩ := fs_facts sa na ha1 ha2 ha3 ha4
  obtain ⟨f3, f4⟩ := fs_facts sa nb ha1 ha2 hb3 hb4
  generalize laid sa na = x at c1 f1 f2
  generalize laid sa nb = y at c2 f3 f4
  have C1 := Lib.hid c1
  have C2 := Lib.hid c2
  clear c1 c2
  go_region_held3 (fun W' => W'.cell? ⟨w.heap.size, 0, none⟩ = some (.bool true) ∧ W'.cell? ⟨w.heap.size, 1, none⟩ = some (.int .i64 sa) ∧ W'.cell? ⟨w.heap.size, 2, none⟩ = some (.int .i64 na) ∧ W'.cell? ⟨w.heap.size + 1, 0, none⟩ = some (.bool true) ∧ W'.cell? ⟨w.heap.size + 1, 1, none⟩ = some (.int .i64 sa) ∧ W'.cell? ⟨w.heap.size + 1, 2, none⟩ = some (.int .i64 nb) ∧ Below w.heap.size w W')
    (first | exact keepS (by assumption) hb | exact keepS (by (refine ⟨?_, ?_, ?_, ?_, ?_, ?_, ?_⟩ <;> first | (simp [go_sem]; done) | go_grown)) hb | (refine ⟨?_, ?_, ?_, ?_, ?_, ?_, ?_⟩ <;> first | (simp [go_sem]; done) | go_grown))
    (first | (go_at_call 9; (with_reducible refine (C1.out _).mono ?_); rintro e w' ⟨rfl, hb⟩) | (go_at_call 9; (with_reducible refine (C2.out _).mono ?_); rintro e w' ⟨rfl, hb⟩))
  go_wp2_with fail
  all_goals (go_ret; exact ⟨ret_bool (by simp), lastS (by assumption)⟩)
set_option maxHeartbeats 1000000 in
theorem walk_eq (sa na : Int) (w : World) (ha1 : 0 ≤ sa) (ha2 : sa ≤ 15032385535) (ha3 : 0 ≤ na) (ha4 : na < 1000000000) :
    Calls Try.prog 4 #[.agg #[.bool true, .int .i64 sa, .int .i64 na], .agg #[.bool true, .int .i64 sa, .int .i64 na]] w fun e w' => e = .returned (.bool true) ∧ Below w.heap.size w w' := by
  go_enter Try.func4, Try.ntmps4
  go_wp2_with fail
  refine wp_loop_rounds 3 ?_; repeat any_goals (rw [rounds_succ]; go_wp2_with fail)
  have c1 := fun W => fs_calls sa na W ha1 ha2
  have c2 := fun W => fs_calls sa na W ha1 ha2
  obtain ⟨f1, f2⟩ := fs_facts sa na ha1 ha2 ha3 ha4
  obtain ⟨f3, f4⟩ := fs_facts sa na ha1 ha2 ha3 ha4
  generalize laid sa na = x at c1 c2 f3 f4 f1 f2
  have C1 := Lib.hid c1
  have C2 := Lib.hid c2
  clear c1 c2
  go_region_held3 (fun W' => W'.cell? ⟨w.heap.size, 0, none⟩ = some (.bool true) ∧ W'.cell? ⟨w.heap.size, 1, none⟩ = some (.int .i64 sa) ∧ W'.cell? ⟨w.heap.size, 2, none⟩ = some (.int .i64 na) ∧ W'.cell? ⟨w.heap.size + 1, 0, none⟩ = some (.bool true) ∧ W'.cell? ⟨w.heap.size + 1, 1, none⟩ = some (.int .i64 sa) ∧ W'.cell? ⟨w.heap.size + 1, 2, none⟩ = some (.int .i64 na) ∧ Below w.heap.size w W')
    (first | exact keepS (by assumption) hb | exact keepS (by (refine ⟨?_, ?_, ?_, ?_, ?_, ?_, ?_⟩ <;> first | (simp [go_sem]; done) | go_grown)) hb | (refine ⟨?_, ?_, ?_, ?_, ?_, ?_, ?_⟩ <;> first | (simp [go_sem]; done) | go_grown))
    (first | (go_at_call 9; (with_reducible refine (C1.out _).mono ?_); rintro e w' ⟨rfl, hb⟩) | (go_at_call 9; (with_reducible refine (C2.out _).mono ?_); rintro e w' ⟨rfl, hb⟩))
  go_wp2_with fail
  all_goals (go_ret; exact ⟨ret_bool (by simp), lastS (by assumption)⟩)
set_option maxHeartbeats 1000000 in
theorem walk_a0 (sa na : Int) (bb : Bool) (sb nb : Int) (w : World) :
    Calls Try.prog 4 #[.agg #[.bool false, .int .i64 sa, .int .i64 na], .agg #[.bool bb, .int .i64 sb, .int .i64 nb]] w fun e w' => e = .returned (.bool true) ∧ Below w.heap.size w w' := by
  go_enter Try.func4, Try.ntmps4
  go_wp2
  go_rounds 2
  go_ret
  exact ⟨rfl, by go_grown⟩
set_option maxHeartbeats 1000000 in
theorem walk_a1 (sa na : Int) (bb : Bool) (sb nb : Int) (w : World) (h : ¬ (0 ≤ sa ∧ sa ≤ 15032385535 ∧ 0 ≤ na ∧ na < 1000000000)) :
    Calls Try.prog 4 #[.agg #[.bool true, .int .i64 sa, .int .i64 na], .agg #[.bool bb, .int .i64 sb, .int .i64 nb]] w fun e w' => e = .returned (.bool true) ∧ Below w.heap.size w w' := by
  by_cases h1 : sa < 0
  all_goals by_cases h2 : 15032385535 < sa
  all_goals try omega
  all_goals by_cases h3 : na < 0
  all_goals try omega
  all_goals by_cases h4 : 1000000000 ≤ na
  all_goals try omega
  all_goals
    clear h
    go_enter Try.func4, Try.ntmps4
    go_wp2
    go_rounds 2
    go_ret
    exact ⟨rfl, by go_grown⟩
set_option maxHeartbeats 1000000 in
theorem walk_b0 (sa na sb nb : Int) (w : World) (ha1 : 0 ≤ sa) (ha2 : sa ≤ 15032385535) (ha3 : 0 ≤ na) (ha4 : na < 1000000000) :
    Calls Try.prog 4 #[.agg #[.bool true, .int .i64 sa, .int .i64 na], .agg #[.bool false, .int .i64 sb, .int .i64 nb]] w fun e w' => e = .returned (.bool true) ∧ Below w.heap.size w w' := by
  go_enter Try.func4, Try.ntmps4
  go_wp2
  go_rounds 2
  go_ret
  exact ⟨rfl, by go_grown⟩
set_option maxHeartbeats 1000000 in
theorem walk_b1 (sa na sb nb : Int) (w : World) (ha1 : 0 ≤ sa) (ha2 : sa ≤ 15032385535) (ha3 : 0 ≤ na) (ha4 : na < 1000000000) (h : ¬ (0 ≤ sb ∧ sb ≤ 15032385535 ∧ 0 ≤ nb ∧ nb < 1000000000)) :
    Calls Try.prog 4 #[.agg #[.bool true, .int .i64 sa, .int .i64 na], .agg #[.bool true, .int .i64 sb, .int .i64 nb]] w fun e w' => e = .returned (.bool true) ∧ Below w.heap.size w w' := by
  by_cases h1 : sb < 0
  all_goals by_cases h2 : 15032385535 < sb
  all_goals try omega
  all_goals by_cases h3 : nb < 0
  all_goals try omega
  all_goals by_cases h4 : 1000000000 ≤ nb
  all_goals try omega
  all_goals
    clear h
    go_enter Try.func4, Try.ntmps4
    go_wp2
    go_rounds 2
    go_ret
    exact ⟨rfl, by go_grown⟩
theorem law_calls (ba : Bool) (sa na : Int) (bb : Bool) (sb nb : Int) (w : World) :
    Calls Try.prog 4 #[.agg #[.bool ba, .int .i64 sa, .int .i64 na], .agg #[.bool bb, .int .i64 sb, .int .i64 nb]] w fun e w' => e = .returned (.bool true) ∧ Below w.heap.size w w' := by
  cases ba with
  | false => exact walk_a0 sa na bb sb nb w
  | true =>
    by_cases ha : 0 ≤ sa ∧ sa ≤ 15032385535 ∧ 0 ≤ na ∧ na < 1000000000
    · obtain ⟨ha1, ha2, ha3, ha4⟩ := ha
      cases bb with
      | false => exact walk_b0 sa na sb nb w ha1 ha2 ha3 ha4
      | true =>
        by_cases hb : 0 ≤ sb ∧ sb ≤ 15032385535 ∧ 0 ≤ nb ∧ nb < 1000000000
        · obtain ⟨hb1, hb2, hb3, hb4⟩ := hb
          by_cases h1 : sa < sb
          · exact walk_lt sa na sb nb w ha1 ha2 ha3 ha4 hb1 hb2 hb3 hb4 h1
          · by_cases h2 : sb < sa
            · exact walk_gt sa na sb nb w ha1 ha2 ha3 ha4 hb1 hb2 hb3 hb4 h2
            · obtain rfl : sb = sa := by omega
              by_cases h3 : na < nb
              · exact walk_eqlt sb na nb w ha1 ha2 ha3 ha4 hb3 hb4 h3
              · by_cases h4 : nb < na
                · exact walk_eqgt sb na nb w ha1 ha2 ha3 ha4 hb3 hb4 h4
                · obtain rfl : nb = na := by omega
                  exact walk_eq sb nb w ha1 ha2 ha3 ha4
        · exact walk_b1 sa na sb nb w ha1 ha2 ha3 ha4 hb
    · exact walk_a1 sa na bb sb nb w ha

open Go.ChangeShapes Go.WideShapes Go.ChangeAt
theorem own : ownKnob Try.prog.godebug = none := by kernel_rfl
theorem laidOut : laidOutB Try.prog = true := by kernel_rfl
theorem readable4 : ∀ t ∈ Try.f4.params.toList, Try.prog.readableRec t = true ∧ t < Try.prog.types.size := by
  have h : (Try.f4.params.toList.all fun t => Try.prog.readableRec t && decide (t < Try.prog.types.size)) = true := by kernel_rfl
  intro t ht
  have := List.all_eq_true.1 h t ht
  simpa using this
set_option maxRecDepth 100000 in
theorem lifted (os : Os) (started : os.Started) (H : Type) (enc : TypeId × Value → H) :
    ReturnsInHanded {} Try.checked os 4 .any (Rows.fnTimeOrderSpec.pre6 enc Try.prog Try.f4 Rows.fnTimeOrderRow.domain false) (Rows.fnTimeOrderSpec.post enc Try.prog Try.f4 false true false false) := by
  refine Adapter.law_lifted (C := Try.checked) own started (by kernel_rfl) Try.func4
    (ChangeSpec.witness6 (enc := enc) (C := Try.checked) false ⟨#[], #[.agg #[.bool false, .int .i64 0, .int .i64 0], .agg #[.bool false, .int .i64 0, .int .i64 0]], []⟩ 8 (by kernel_rfl) (by kernel_rfl) (by kernel_rfl) (by kernel_rfl))
    laidOut readable4 (tb := 4) (by kernel_rfl) (by kernel_rfl) rfl ?_ ?_
  · intro ds hds
    rw [show Try.f4.params.size = 2 from by kernel_rfl] at hds
    match ds, hds with
    | [d1, d2], _ => rfl
  · intro W base args ds p hval hA _ _
    rw [Try.params4] at hA hval
    obtain ⟨v0, vs0, d0, ds0, p0, q0, hargs, rfl, rfl, h0, r0⟩ := trodAll_cons hA
    obtain ⟨v1, vs1, d1, ds1, p1, q1, rfl, rfl, rfl, h1, r1⟩ := trodAll_cons r0
    obtain ⟨rfl, rfl, rfl⟩ := trodAll_nil r1
    obtain rfl : args = #[v0, v1] := by cases args; simp_all
    obtain ⟨c00, c01, c02, y00, y01, y02, m0, rfl, rfl, rfl, hy00, hy01, hy02⟩ := open_agg3 Try.underlying23 (by kernel_rfl) (by kernel_rfl) (hval 0 23 v0 rfl rfl) h0
    obtain ⟨b0, e00, rfl⟩ := DataW.trod_bool Try.underlying4 hy00
    obtain ⟨s0, e01, rfl, ws0⟩ := DataW.trod_int Try.underlying2 hy01
    obtain ⟨n0, e02, rfl, wn0⟩ := DataW.trod_int Try.underlying3 hy02
    simp only [List.cons.injEq, and_true] at e00 e01 e02
    subst e00 e01 e02
    obtain ⟨c10, c11, c12, y10, y11, y12, m1, rfl, rfl, rfl, hy10, hy11, hy12⟩ := open_agg3 Try.underlying23 (by kernel_rfl) (by kernel_rfl) (hval 1 23 v1 rfl rfl) h1
    obtain ⟨b1, e10, rfl⟩ := DataW.trod_bool Try.underlying4 hy10
    obtain ⟨s1, e11, rfl, ws1⟩ := DataW.trod_int Try.underlying2 hy11
    obtain ⟨n1, e12, rfl, wn1⟩ := DataW.trod_int Try.underlying3 hy12
    simp only [List.cons.injEq, and_true] at e10 e11 e12
    subst e10 e11 e12
    exact law_calls b0 s0 n0 b1 s1 n1 W
theorem over : Rows.fnTimeOrderRow.holds Try.pinned (OpenSpec.ofChange Rows.fnTimeOrderSpec) :=
  OpenClaim.holds_of_wide 4 Try.f4 rfl rfl rfl rfl rfl rfl rfl ⟨rfl, rfl, rfl, rfl, rfl⟩ rfl rfl rfl rfl rfl (by kernel_rfl) Try.func4 (by kernel_rfl)
    (of_decide_eq_true (by kernel_rfl)) (by unfold Func.isWrapper; first | (rw [if_pos (by decide +kernel)]; kernel_rfl) | (rw [if_neg (by decide +kernel)]; exact ⟨rfl, rfl⟩))
    (fun os started H enc _ => lifted os started H enc)
theorem holds : Rows.FnTimeOrderSaid := over
#print axioms holds
end Go.Proofs.Ytlmkmippmjfagaa.To
