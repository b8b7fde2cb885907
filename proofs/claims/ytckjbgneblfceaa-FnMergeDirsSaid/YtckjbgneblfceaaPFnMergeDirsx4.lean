-- PRINTED BY print.sh 35421559b90ae4d0a3588c463048766b98c2df88dd9212a6774a882060cdf62d: not written by this session
import Derived.Test.YtckjbgneblfceaaPFnMergeDirsx0
import Derived.Test.YtckjbgneblfceaaPFnMergeDirsx1
namespace Go.Proofs.Ytckjbgneblfceaa.PFnMergeDirs
open Go.RowKit Go.Proofs.YtckjbgneblfceaaW.PrintWords Go.Proofs.YtckjbgneblfceaaW.PrintLast Go.Proofs.YtckjbgneblfceaaW.PrintMore
attribute [local go_sem] max2_int min2_int max_two min_two max_three min_three max_four min_four   -- for this text's walks alone
set_option linter.unusedVariables false
set_option linter.unusedSimpArgs false

attribute [local go_sem high] eqA35
-- NOT PRINTED: function 5 (laws_listed)

/-! ### laws_sameInfos: function 6 -/
def laws_sameInfos.l0 : Nat → List (S35) → List (S35) → Int → Int → Option (Bool)
  | 0, _, _, _, _ => none
  | k + 1, x0, x1, x12, x13 => if x13 < x12 then (if 0 ≤ x13 then (if x13 < (x0.length : Int) then (if x13 < (x1.length : Int) then (if (!((((rd_T35 x0 x13).f0).toList) == (((rd_T35 x1 x13).f0).toList)) || (!(((rd_T35 x0 x13).f1) == ((rd_T35 x1 x13).f1)) || (!(((rd_T35 x0 x13).f2) == ((rd_T35 x1 x13).f2)) || (!(((rd_T35 x0 x13).f3) == ((rd_T35 x1 x13).f3)) || (!(((rd_T35 x0 x13).f4) == ((rd_T35 x1 x13).f4))))))) = true then (some false) else (laws_sameInfos.l0 k x0 x1 x12 (wrap64 (x13 + 1)))) else (none)) else (none)) else (none)) else (some true)
def laws_sameInfos.f (k : Nat) (l0 : List (S35)) (l1 : List (S35)) : Option (Bool) := if (l0.length : Int) = (l1.length : Int) then (laws_sameInfos.l0 k l0 l1 (l0.length : Int) 0) else (some false)
theorem laws_sameInfos.mono_l : ∀ k, (∀ y0 y1 y2 y3, LeO (laws_sameInfos.l0 k y0 y1 y2 y3) (laws_sameInfos.l0 (k + 1) y0 y1 y2 y3))
  | 0 => fun _ _ _ _ r h => by simp [laws_sameInfos.l0] at h
  | k + 1 => by
    have ih0 := laws_sameInfos.mono_l k
    · intro y0 y1 y2 y3
      unfold laws_sameInfos.l0
      repeat' first
      | (with_reducible exact ih0 _ _ _ _)
      | (with_reducible exact LeO.refl _)
      | (with_reducible exact LeO.none _)
      | (with_reducible refine LeO.ite ?_ ?_)
      | (with_reducible refine LeO.bind ?_ (fun _ => ?_))
      | exact ih0 _ _ _ _
      | exact LeO.none _
      | refine LeO.ite ?_ ?_
      | refine LeO.bind ?_ (fun _ => ?_)
theorem laws_sameInfos.mono : ∀ a0 a1 k, LeO (laws_sameInfos.f k a0 a1) (laws_sameInfos.f (k + 1) a0 a1) := by
  intro a0 a1 k
  have ih0 := laws_sameInfos.mono_l k
  unfold laws_sameInfos.f
  repeat' first
      | (with_reducible exact ih0 _ _ _ _)
      | (with_reducible exact LeO.refl _)
      | (with_reducible exact LeO.none _)
      | (with_reducible refine LeO.ite ?_ ?_)
      | (with_reducible refine LeO.bind ?_ (fun _ => ?_))
      | exact ih0 _ _ _ _
      | exact LeO.none _
      | refine LeO.ite ?_ ?_
      | refine LeO.bind ?_ (fun _ => ?_)
set_option maxHeartbeats 8000000 in
set_option maxRecDepth 100000 in
theorem laws_sameInfos.calls (k : Nat) (A0 : Option Addr) (c0 : Nat) (l0 : List (S35)) (A1 : Option Addr) (c1 : Nat) (l1 : List (S35)) (r : Bool) (w : World) (hr0 : Kd.C k35 w A0 l0.length l0) (hc0 : l0.length ≤ c0) (hr1 : Kd.C k35 w A1 l1.length l1) (hc1 : l1.length ≤ c1) (h : laws_sameInfos.f k l0 l1 = some r) :
    Calls Try.prog 6 #[.slice A0 l0.length c0, .slice A1 l1.length c1] w fun e w' => e = .returned (.bool r) ∧ Drawn0 w w' := by
  have hu35 := Try.underlying35
  have HR0 := Aside0.mk hr0
  have HC0 := Aside0.mk hc0
  clear hr0 hc0
  have HR1 := Aside0.mk hr1
  have HC1 := Aside0.mk hc1
  clear hr1 hc1
  have H : (if (l0.length : Int) = (l1.length : Int) then (laws_sameInfos.l0 k l0 l1 (l0.length : Int) 0) else (some false)) = some r := h
  clear h
  by_cases c3 : (l0.length : Int) = (l1.length : Int)
  · rw [if_pos c3] at H
    have c3b0 : ((l0.length : Int) == (l1.length : Int)) = true := beq_iff_eq.mpr c3
    have c3b1 : ((l0.length : Int) != (l1.length : Int)) = false := bne_eq_false_iff_eq.mpr c3
    have c3b2 : (l0.length == l1.length) = true := by first | simpa using c3 | (simp at c3 ⊢; omega)
    clear c3
    have H' := Aside0.mk H
    clear H
    go_enter Try.func6, Try.ntmps6
    go_wp2
    repeat (go_quiet (fail); try go_wp2)
    go_loopg [13] k (fun kq v13 w' => ∃ (x13_1 : Int), v13 = .int .i64 x13_1 ∧ Aside0 (laws_sameInfos.l0 kq l0 l1 (l0.length : Int) x13_1 = some r) ∧ Aside0 (kq ≤ k) ∧ Drawn0 w w')
    case atStart => exact ⟨(0), (by first | rfl | (simp; done) | (simp [*]; done)), H', ⟨Nat.le_refl _⟩, by repeat (first | exact Drawn0.refl _ | apply Drawn0.step)⟩
    case round =>
      clear H'
      try clear c1
      try clear p2
      try clear c3
      try clear c3b0
      try clear c3b1
      try clear c3b2
      obtain ⟨x13_1, rfl, HA, HK1, ⟨m1, rfl⟩⟩ := hrel
      cases gk with
      | zero => exact absurd HA.out (by simp [laws_sameInfos.l0])
      | succ k1 =>
        have H := HA.out
        clear HA
        simp only [laws_sameInfos.l0] at H
        by_cases c4 : x13_1 < (l0.length : Int)
        · rw [if_pos c4] at H
          have c4b0 : decide (x13_1 < (l0.length : Int)) = true := decide_eq_true c4
          clear c4
          by_cases c5 : 0 ≤ x13_1
          · rw [if_pos c5] at H
            have c5b0 : decide (0 ≤ x13_1) = true := decide_eq_true c5
            clear c5
            by_cases c6 : x13_1 < (l0.length : Int)
            · rw [if_pos c6] at H
              have c6b0 : decide (x13_1 < (l0.length : Int)) = true := decide_eq_true c6
              clear c6
              by_cases c7 : x13_1 < (l1.length : Int)
              · rw [if_pos c7] at H
                have c7b0 : decide (x13_1 < (l1.length : Int)) = true := decide_eq_true c7
                clear c7
                by_cases c8 : (!((((rd_T35 l0 x13_1).f0).toList) == (((rd_T35 l1 x13_1).f0).toList)) || (!(((rd_T35 l0 x13_1).f1) == ((rd_T35 l1 x13_1).f1)) || (!(((rd_T35 l0 x13_1).f2) == ((rd_T35 l1 x13_1).f2)) || (!(((rd_T35 l0 x13_1).f3) == ((rd_T35 l1 x13_1).f3)) || (!(((rd_T35 l0 x13_1).f4) == ((rd_T35 l1 x13_1).f4))))))) = true
                · rw [if_pos c8] at H
                  have c8b0 : (!((((rd_T35 l0 x13_1).f0).toList) == (((rd_T35 l1 x13_1).f0).toList)) || (!(((rd_T35 l0 x13_1).f1) == ((rd_T35 l1 x13_1).f1)) || (!(((rd_T35 l0 x13_1).f2) == ((rd_T35 l1 x13_1).f2)) || (!(((rd_T35 l0 x13_1).f3) == ((rd_T35 l1 x13_1).f3)) || (!(((rd_T35 l0 x13_1).f4) == ((rd_T35 l1 x13_1).f4))))))) = true := c8
                  clear c8
                  obtain rfl := Option.some.inj H
                  have p123 : 0 ≤ (x13_1 : Int) := of_decide_eq_true (by first | (with_reducible assumption) | assumption)
                  have q123 : x13_1 < (l0.length : Int) := of_decide_eq_true (by first | (with_reducible assumption) | assumption)
                  obtain ⟨ad123, e123, hx123_0, hx123_1, hx123_2, hx123_3, hx123_4⟩ := at_T35 HR0.out x13_1 p123 q123
                  cases e123
                  replace p123 := eq_true p123
                  replace q123 := eq_true q123
                  have p124 : 0 ≤ (x13_1 : Int) := of_decide_eq_true (by first | (with_reducible assumption) | assumption)
                  have q124 : x13_1 < (l1.length : Int) := of_decide_eq_true (by first | (with_reducible assumption) | assumption)
                  obtain ⟨ad124, e124, hx124_0, hx124_1, hx124_2, hx124_3, hx124_4⟩ := at_T35 HR1.out x13_1 p124 q124
                  cases e124
                  replace p124 := eq_true p124
                  replace q124 := eq_true q124
                  go_wp2
                  repeat (go_quiet (fail); try go_wp2)
                  go_ret
                  exact ⟨by first | rfl | (simp; done) | (simp [*]; done), by repeat (first | exact Drawn0.refl _ | apply Drawn0.step)⟩
                · rw [if_neg c8] at H
                  have c8b0 : (!((((rd_T35 l0 x13_1).f0).toList) == (((rd_T35 l1 x13_1).f0).toList)) || (!(((rd_T35 l0 x13_1).f1) == ((rd_T35 l1 x13_1).f1)) || (!(((rd_T35 l0 x13_1).f2) == ((rd_T35 l1 x13_1).f2)) || (!(((rd_T35 l0 x13_1).f3) == ((rd_T35 l1 x13_1).f3)) || (!(((rd_T35 l0 x13_1).f4) == ((rd_T35 l1 x13_1).f4))))))) = false := by simpa using c8
                  clear c8
                  have H' := Aside0.mk H
                  clear H
                  have p123 : 0 ≤ (x13_1 : Int) := of_decide_eq_true (by first | (with_reducible assumption) | assumption)
                  have q123 : x13_1 < (l0.length : Int) := of_decide_eq_true (by first | (with_reducible assumption) | assumption)
                  obtain ⟨ad123, e123, hx123_0, hx123_1, hx123_2, hx123_3, hx123_4⟩ := at_T35 HR0.out x13_1 p123 q123
                  cases e123
                  replace p123 := eq_true p123
                  replace q123 := eq_true q123
                  have p124 : 0 ≤ (x13_1 : Int) := of_decide_eq_true (by first | (with_reducible assumption) | assumption)
                  have q124 : x13_1 < (l1.length : Int) := of_decide_eq_true (by first | (with_reducible assumption) | assumption)
                  obtain ⟨ad124, e124, hx124_0, hx124_1, hx124_2, hx124_3, hx124_4⟩ := at_T35 HR1.out x13_1 p124 q124
                  cases e124
                  replace p124 := eq_true p124
                  replace q124 := eq_true q124
                  go_wp2
                  repeat (go_quiet (fail); try go_wp2)
                  go_roundg k1
                  case measure => have := HK1.out; omega
                  case rel => exact ⟨(wrap64 (x13_1 + 1)), (by first | rfl | (simp; done) | (simp [*]; done)), H', ⟨by have := HK1.out; omega⟩, by repeat (first | exact Drawn0.refl _ | apply Drawn0.step)⟩
              · rw [if_neg c7] at H
                exact absurd H (by simp)
            · rw [if_neg c6] at H
              exact absurd H (by simp)
          · rw [if_neg c5] at H
            exact absurd H (by simp)
        · rw [if_neg c4] at H
          have c4b0 : decide (x13_1 < (l0.length : Int)) = false := decide_eq_false c4
          clear c4
          obtain rfl := Option.some.inj H
          go_wp2
          repeat (go_quiet (fail); try go_wp2)
          go_ret
          exact ⟨by first | rfl | (simp; done) | (simp [*]; done), by repeat (first | exact Drawn0.refl _ | apply Drawn0.step)⟩
  · rw [if_neg c3] at H
    have c3b0 : ((l0.length : Int) == (l1.length : Int)) = false := beq_eq_false_iff_ne.mpr c3
    have c3b1 : ((l0.length : Int) != (l1.length : Int)) = true := bne_iff_ne.mpr c3
    have c3b2 : (l0.length == l1.length) = false := by first | simpa using c3 | (simp at c3 ⊢; omega)
    obtain rfl := Option.some.inj H
    go_enter Try.func6, Try.ntmps6
    go_wp2
    repeat (go_quiet (fail); try go_wp2)
    go_ret
    exact ⟨by first | rfl | (simp; done) | (simp [*]; done), by repeat (first | exact Drawn0.refl _ | apply Drawn0.step)⟩

/-! ### bytealg_LastIndexByteString: function 28 -/
def bytealg_LastIndexByteString.l0 : Nat → ByteArray → Int → Int → Option (Int)
  | 0, _, _, _ => none
  | k + 1, x0, x1, x5 => if x5 ≥ 0 then (if 0 ≤ x5 then (if x5 < (x0.size : Int) then (if (bt x0 x5) = x1 then (some x5) else (bytealg_LastIndexByteString.l0 k x0 x1 (wrap64 (x5 - 1)))) else (none)) else (none)) else (some (-1))
def bytealg_LastIndexByteString.f (k : Nat) (a0 : ByteArray) (a1 : Int) : Option (Int) := bytealg_LastIndexByteString.l0 k a0 a1 (wrap64 ((a0.size : Int) - 1))
theorem bytealg_LastIndexByteString.mono_l : ∀ k, (∀ y0 y1 y2, LeO (bytealg_LastIndexByteString.l0 k y0 y1 y2) (bytealg_LastIndexByteString.l0 (k + 1) y0 y1 y2))
  | 0 => fun _ _ _ r h => by simp [bytealg_LastIndexByteString.l0] at h
  | k + 1 => by
    have ih0 := bytealg_LastIndexByteString.mono_l k
    · intro y0 y1 y2
      unfold bytealg_LastIndexByteString.l0
      repeat' first
      | (with_reducible exact ih0 _ _ _)
      | (with_reducible exact LeO.refl _)
      | (with_reducible exact LeO.none _)
      | (with_reducible refine LeO.ite ?_ ?_)
      | (with_reducible refine LeO.bind ?_ (fun _ => ?_))
      | exact ih0 _ _ _
      | exact LeO.none _
      | refine LeO.ite ?_ ?_
      | refine LeO.bind ?_ (fun _ => ?_)
theorem bytealg_LastIndexByteString.mono : ∀ a0 a1 k, LeO (bytealg_LastIndexByteString.f k a0 a1) (bytealg_LastIndexByteString.f (k + 1) a0 a1) := by
  intro a0 a1 k
  have ih0 := bytealg_LastIndexByteString.mono_l k
  unfold bytealg_LastIndexByteString.f
  repeat' first
      | (with_reducible exact ih0 _ _ _)
      | (with_reducible exact LeO.refl _)
      | (with_reducible exact LeO.none _)
      | (with_reducible refine LeO.ite ?_ ?_)
      | (with_reducible refine LeO.bind ?_ (fun _ => ?_))
      | exact ih0 _ _ _
      | exact LeO.none _
      | refine LeO.ite ?_ ?_
      | refine LeO.bind ?_ (fun _ => ?_)
set_option maxHeartbeats 8000000 in
set_option maxRecDepth 100000 in
theorem bytealg_LastIndexByteString.calls (k : Nat) (a0 : ByteArray) (a1 : Int) (r : Int) (w : World) (h : bytealg_LastIndexByteString.f k a0 a1 = some r) :
    Calls Try.prog 28 #[.string a0, .int .u8 a1] w fun e w' => e = .returned (.int .i64 r) ∧ Drawn0 w w' := by
  have H : (bytealg_LastIndexByteString.l0 k a0 a1 (wrap64 ((a0.size : Int) - 1))) = some r := h
  clear h
  have H' := Aside0.mk H
  clear H
  go_enter Try.func28, Try.ntmps28
  go_wp2
  go_loopg [5] k (fun kq v5 w' => ∃ (x5_1 : Int), v5 = .int .i64 x5_1 ∧ Aside0 (bytealg_LastIndexByteString.l0 kq a0 a1 x5_1 = some r) ∧ Aside0 (kq ≤ k) ∧ Drawn0 w w')
  case atStart => exact ⟨(wrap64 ((a0.size : Int) - 1)), (by first | rfl | (simp; done) | (simp [*]; done)), H', ⟨Nat.le_refl _⟩, by repeat (first | exact Drawn0.refl _ | apply Drawn0.step)⟩
  case round =>
    clear H'
    try clear c2
    try clear p2
    obtain ⟨x5_1, rfl, HA, HK1, ⟨m1, rfl⟩⟩ := hrel
    cases gk with
    | zero => exact absurd HA.out (by simp [bytealg_LastIndexByteString.l0])
    | succ k1 =>
      have H := HA.out
      clear HA
      simp only [bytealg_LastIndexByteString.l0] at H
      by_cases c3 : x5_1 ≥ 0
      · rw [if_pos c3] at H
        have c3b0 : decide (0 ≤ x5_1) = true := decide_eq_true c3
        clear c3
        by_cases c4 : 0 ≤ x5_1
        · rw [if_pos c4] at H
          have c4b0 : decide (0 ≤ x5_1) = true := decide_eq_true c4
          clear c4
          by_cases c5 : x5_1 < (a0.size : Int)
          · rw [if_pos c5] at H
            have c5b0 : decide (x5_1 < (a0.size : Int)) = true := decide_eq_true c5
            clear c5
            by_cases c7 : (bt a0 x5_1) = a1
            · rw [if_pos c7] at H
              have c7b0 : ((bt a0 x5_1) == a1) = true := beq_iff_eq.mpr c7
              have c7b1 : ((bt a0 x5_1) != a1) = false := bne_eq_false_iff_eq.mpr c7
              clear c7
              obtain rfl := Option.some.inj H
              have p6 : 0 ≤ (x5_1 : Int) := of_decide_eq_true (by first | (with_reducible assumption) | assumption)
              have q6 : x5_1 < (a0.size : Int) := of_decide_eq_true (by first | (with_reducible assumption) | assumption)
              have hx6 := bt_at a0 x5_1
              replace p6 := eq_true p6
              replace q6 := eq_true q6
              go_wp2
              go_ret
              exact ⟨by first | rfl | (simp; done) | (simp [*]; done), by repeat (first | exact Drawn0.refl _ | apply Drawn0.step)⟩
            · rw [if_neg c7] at H
              have c7b0 : ((bt a0 x5_1) == a1) = false := beq_eq_false_iff_ne.mpr c7
              have c7b1 : ((bt a0 x5_1) != a1) = true := bne_iff_ne.mpr c7
              have H' := Aside0.mk H
              clear H
              have p6 : 0 ≤ (x5_1 : Int) := of_decide_eq_true (by first | (with_reducible assumption) | assumption)
              have q6 : x5_1 < (a0.size : Int) := of_decide_eq_true (by first | (with_reducible assumption) | assumption)
              have hx6 := bt_at a0 x5_1
              replace p6 := eq_true p6
              replace q6 := eq_true q6
              go_wp2
              go_roundg k1
              case measure => have := HK1.out; omega
              case rel => exact ⟨(wrap64 (x5_1 - 1)), (by first | rfl | (simp; done) | (simp [*]; done)), H', ⟨by have := HK1.out; omega⟩, by repeat (first | exact Drawn0.refl _ | apply Drawn0.step)⟩
          · rw [if_neg c5] at H
            exact absurd H (by simp)
        · rw [if_neg c4] at H
          exact absurd H (by simp)
      · rw [if_neg c3] at H
        have c3b0 : decide (0 ≤ x5_1) = false := decide_eq_false c3
        clear c3
        obtain rfl := Option.some.inj H
        go_wp2
        go_ret
        exact ⟨by first | rfl | (simp; done) | (simp [*]; done), by repeat (first | exact Drawn0.refl _ | apply Drawn0.step)⟩

/-! ### path_Split: function 27 -/
def path_Split.f (k : Nat) (a0 : ByteArray) : Option (ByteArray × ByteArray) := (bytealg_LastIndexByteString.f k a0 47).bind fun t125 => (if 0 ≤ (wrap64 (t125 + 1)) then (if (wrap64 (t125 + 1)) ≤ (a0.size : Int) then (some (a0.extract 0 ((wrap64 (t125 + 1)) : Int).toNat, a0.extract ((wrap64 (t125 + 1)) : Int).toNat a0.size)) else (none)) else (none))
theorem path_Split.mono : ∀ a0 k, LeO (path_Split.f k a0) (path_Split.f (k + 1) a0) := by
  intro a0 k
  unfold path_Split.f
  repeat' first
      | (with_reducible exact bytealg_LastIndexByteString.mono _ _ _)
      | (with_reducible exact LeO.refl _)
      | (with_reducible exact LeO.none _)
      | (with_reducible refine LeO.ite ?_ ?_)
      | (with_reducible refine LeO.bind ?_ (fun _ => ?_))
      | exact bytealg_LastIndexByteString.mono _ _ _
      | exact LeO.none _
      | refine LeO.ite ?_ ?_
      | refine LeO.bind ?_ (fun _ => ?_)
set_option maxHeartbeats 8000000 in
set_option maxRecDepth 100000 in
theorem path_Split.calls (k : Nat) (a0 : ByteArray) (r1 : ByteArray) (r2 : ByteArray) (w : World) (h : path_Split.f k a0 = some (r1, r2)) :
    Calls Try.prog 27 #[.string a0] w fun e w' => e = .returned (.tuple #[.string r1, .string r2]) ∧ Drawn0 w w' := by
  have H : ((bytealg_LastIndexByteString.f k a0 47).bind fun t125 => (if 0 ≤ (wrap64 (t125 + 1)) then (if (wrap64 (t125 + 1)) ≤ (a0.size : Int) then (some (a0.extract 0 ((wrap64 (t125 + 1)) : Int).toNat, a0.extract ((wrap64 (t125 + 1)) : Int).toNat a0.size)) else (none)) else (none))) = some (r1, r2) := h
  clear h
  replace H := Option.bind_eq_some_iff.mp H
  obtain ⟨t125, A20, H⟩ := H
  replace H : (if 0 ≤ (wrap64 (t125 + 1)) then (if (wrap64 (t125 + 1)) ≤ (a0.size : Int) then (some (a0.extract 0 ((wrap64 (t125 + 1)) : Int).toNat, a0.extract ((wrap64 (t125 + 1)) : Int).toNat a0.size)) else (none)) else (none)) = some (r1, r2) := H
  have A2 := Aside0.mk A20
  clear A20
  obtain ⟨ji3, hji3⟩ : ∃ j_ : Int, (wrap64 (t125 + 1)) = j_ := ⟨_, rfl⟩
  replace H : (if 0 ≤ (ji3) then (if (ji3) ≤ (a0.size : Int) then (some (a0.extract 0 ((ji3) : Int).toNat, a0.extract ((ji3) : Int).toNat a0.size)) else (none)) else (none)) = some (r1, r2) := by first | (rw [hji3] at H; exact H) | (simp only [hji3] at H ⊢; exact H)
  (try rw [hji3] at A2)
  have hji3w : (IntKind.i64.wrap (t125 + 1)) = ji3 := (i64_w _).trans hji3
  by_cases c4 : 0 ≤ (ji3)
  · rw [if_pos c4] at H
    have c4b0 := eq_true c4
    have c4b1 : decide (0 ≤ (ji3)) = true := decide_eq_true c4
    clear c4
    by_cases c5 : (ji3) ≤ (a0.size : Int)
    · rw [if_pos c5] at H
      have c5b0 := eq_true c5
      have c5b1 : decide ((ji3) ≤ (a0.size : Int)) = true := decide_eq_true c5
      clear c5
      have c6b0 := eq_true (of_decide_eq_true (by first | (with_reducible assumption) | assumption) : 0 ≤ (ji3))
      have c7b0 := eq_true (of_decide_eq_true (by first | (with_reducible assumption) | assumption) : (ji3) ≤ (a0.size : Int))
      simp only [Option.some.injEq, Prod.mk.injEq] at H
      obtain ⟨rfl, rfl⟩ := H
      go_enter Try.func27, Try.ntmps27
      go_wp2_with (first | (go_at_call 28; (with_reducible refine (bytealg_LastIndexByteString.calls k a0 47 t125 _ A2.out).mono ?_); rintro e w' ⟨rfl, ⟨nd, rfl⟩⟩; (try first | exact ⟨rfl, _, World.drewN_drewN _ _ _⟩ | exact ⟨rfl, _, Eq.trans (World.drewN_drewN _ _ _) (congrArg (World.drewN _) (Nat.add_assoc _ _ _))⟩)))
      repeat (go_quiet (first | (go_at_call 28; (with_reducible refine (bytealg_LastIndexByteString.calls k a0 47 t125 _ A2.out).mono ?_); rintro e w' ⟨rfl, ⟨nd, rfl⟩⟩; (try first | exact ⟨rfl, _, World.drewN_drewN _ _ _⟩ | exact ⟨rfl, _, Eq.trans (World.drewN_drewN _ _ _) (congrArg (World.drewN _) (Nat.add_assoc _ _ _))⟩))); try go_wp2_with (first | (go_at_call 28; (with_reducible refine (bytealg_LastIndexByteString.calls k a0 47 t125 _ A2.out).mono ?_); rintro e w' ⟨rfl, ⟨nd, rfl⟩⟩; (try first | exact ⟨rfl, _, World.drewN_drewN _ _ _⟩ | exact ⟨rfl, _, Eq.trans (World.drewN_drewN _ _ _) (congrArg (World.drewN _) (Nat.add_assoc _ _ _))⟩))))
      go_ret2
      exact ⟨by first | rfl | (simp; done) | (simp only [← hji3] <;> (first | rfl | simp)) | (simp [*]; done), by repeat (first | exact Drawn0.refl _ | apply Drawn0.step)⟩
    · rw [if_neg c5] at H
      exact absurd H (by simp)
  · rw [if_neg c4] at H
    exact absurd H (by simp)

-- NOT PRINTED: function 21 (mem_FileInfo_Name)

end Go.Proofs.Ytckjbgneblfceaa.PFnMergeDirs
