-- PRINTED BY print.sh 35421559b90ae4d0a3588c463048766b98c2df88dd9212a6774a882060cdf62d: not written by this session
import Derived.Test.YtlmkmippmjfagaaPFnTypeAlonex0
namespace Go.Proofs.Ytlmkmippmjfagaa.PFnTypeAlone
open Go.RowKit Go.Proofs.YtlmkmippmjfagaaW.PrintWords Go.Proofs.YtlmkmippmjfagaaW.PrintLast Go.Proofs.YtlmkmippmjfagaaW.PrintMore
attribute [local go_sem] max2_int min2_int max_two min_two max_three min_three max_four min_four   -- for this text's walks alone
set_option linter.unusedVariables false
set_option linter.unusedSimpArgs false

/-! ### spec_kindOf: function 19 -/
def spec_kindOf.f (a0 : Int) : Option (Int) := if (Go.bits .and .u16 a0 61440) = 32768 then (some 1) else (if (Go.bits .and .u16 a0 61440) = 16384 then (some 2) else (if (Go.bits .and .u16 a0 61440) = 8192 then (some 3) else (if (Go.bits .and .u16 a0 61440) = 24576 then (some 4) else (if (Go.bits .and .u16 a0 61440) = 4096 then (some 5) else (if (Go.bits .and .u16 a0 61440) = 49152 then (some 6) else (if (Go.bits .and .u16 a0 61440) = 40960 then (some 7) else (some 0)))))))
set_option maxHeartbeats 8000000 in
set_option maxRecDepth 100000 in
theorem spec_kindOf.calls (a0 : Int) (r : Int) (w : World) (h : spec_kindOf.f a0 = some r) :
    Calls Try.prog 19 #[.int .u16 a0] w fun e w' => e = .returned (.int .u64 r) ∧ Drawn0 w w' := by
  have H : (if (Go.bits .and .u16 a0 61440) = 32768 then (some 1) else (if (Go.bits .and .u16 a0 61440) = 16384 then (some 2) else (if (Go.bits .and .u16 a0 61440) = 8192 then (some 3) else (if (Go.bits .and .u16 a0 61440) = 24576 then (some 4) else (if (Go.bits .and .u16 a0 61440) = 4096 then (some 5) else (if (Go.bits .and .u16 a0 61440) = 49152 then (some 6) else (if (Go.bits .and .u16 a0 61440) = 40960 then (some 7) else (some 0)))))))) = some r := h
  clear h
  by_cases c2 : (Go.bits .and .u16 a0 61440) = 32768
  · rw [if_pos c2] at H
    have c2b0 : ((Go.bits .and .u16 a0 61440) == 32768) = true := beq_iff_eq.mpr c2
    have c2b1 : ((Go.bits .and .u16 a0 61440) != 32768) = false := bne_eq_false_iff_eq.mpr c2
    clear c2
    obtain rfl := Option.some.inj H
    go_enter Try.func19, Try.ntmps19
    go_wp2
    go_ret
    exact ⟨by first | rfl | (simp; done) | (simp [*]; done), by repeat (first | exact Drawn0.refl _ | apply Drawn0.step)⟩
  · rw [if_neg c2] at H
    have c2b0 : ((Go.bits .and .u16 a0 61440) == 32768) = false := beq_eq_false_iff_ne.mpr c2
    have c2b1 : ((Go.bits .and .u16 a0 61440) != 32768) = true := bne_iff_ne.mpr c2
    by_cases c3 : (Go.bits .and .u16 a0 61440) = 16384
    · rw [if_pos c3] at H
      have c3b0 : ((Go.bits .and .u16 a0 61440) == 16384) = true := beq_iff_eq.mpr c3
      have c3b1 : ((Go.bits .and .u16 a0 61440) != 16384) = false := bne_eq_false_iff_eq.mpr c3
      clear c3
      obtain rfl := Option.some.inj H
      go_enter Try.func19, Try.ntmps19
      go_wp2
      go_ret
      exact ⟨by first | rfl | (simp; done) | (simp [*]; done), by repeat (first | exact Drawn0.refl _ | apply Drawn0.step)⟩
    · rw [if_neg c3] at H
      have c3b0 : ((Go.bits .and .u16 a0 61440) == 16384) = false := beq_eq_false_iff_ne.mpr c3
      have c3b1 : ((Go.bits .and .u16 a0 61440) != 16384) = true := bne_iff_ne.mpr c3
      by_cases c4 : (Go.bits .and .u16 a0 61440) = 8192
      · rw [if_pos c4] at H
        have c4b0 : ((Go.bits .and .u16 a0 61440) == 8192) = true := beq_iff_eq.mpr c4
        have c4b1 : ((Go.bits .and .u16 a0 61440) != 8192) = false := bne_eq_false_iff_eq.mpr c4
        clear c4
        obtain rfl := Option.some.inj H
        go_enter Try.func19, Try.ntmps19
        go_wp2
        go_ret
        exact ⟨by first | rfl | (simp; done) | (simp [*]; done), by repeat (first | exact Drawn0.refl _ | apply Drawn0.step)⟩
      · rw [if_neg c4] at H
        have c4b0 : ((Go.bits .and .u16 a0 61440) == 8192) = false := beq_eq_false_iff_ne.mpr c4
        have c4b1 : ((Go.bits .and .u16 a0 61440) != 8192) = true := bne_iff_ne.mpr c4
        by_cases c5 : (Go.bits .and .u16 a0 61440) = 24576
        · rw [if_pos c5] at H
          have c5b0 : ((Go.bits .and .u16 a0 61440) == 24576) = true := beq_iff_eq.mpr c5
          have c5b1 : ((Go.bits .and .u16 a0 61440) != 24576) = false := bne_eq_false_iff_eq.mpr c5
          clear c5
          obtain rfl := Option.some.inj H
          go_enter Try.func19, Try.ntmps19
          go_wp2
          go_ret
          exact ⟨by first | rfl | (simp; done) | (simp [*]; done), by repeat (first | exact Drawn0.refl _ | apply Drawn0.step)⟩
        · rw [if_neg c5] at H
          have c5b0 : ((Go.bits .and .u16 a0 61440) == 24576) = false := beq_eq_false_iff_ne.mpr c5
          have c5b1 : ((Go.bits .and .u16 a0 61440) != 24576) = true := bne_iff_ne.mpr c5
          by_cases c6 : (Go.bits .and .u16 a0 61440) = 4096
          · rw [if_pos c6] at H
            have c6b0 : ((Go.bits .and .u16 a0 61440) == 4096) = true := beq_iff_eq.mpr c6
            have c6b1 : ((Go.bits .and .u16 a0 61440) != 4096) = false := bne_eq_false_iff_eq.mpr c6
            clear c6
            obtain rfl := Option.some.inj H
            go_enter Try.func19, Try.ntmps19
            go_wp2
            go_ret
            exact ⟨by first | rfl | (simp; done) | (simp [*]; done), by repeat (first | exact Drawn0.refl _ | apply Drawn0.step)⟩
          · rw [if_neg c6] at H
            have c6b0 : ((Go.bits .and .u16 a0 61440) == 4096) = false := beq_eq_false_iff_ne.mpr c6
            have c6b1 : ((Go.bits .and .u16 a0 61440) != 4096) = true := bne_iff_ne.mpr c6
            by_cases c7 : (Go.bits .and .u16 a0 61440) = 49152
            · rw [if_pos c7] at H
              have c7b0 : ((Go.bits .and .u16 a0 61440) == 49152) = true := beq_iff_eq.mpr c7
              have c7b1 : ((Go.bits .and .u16 a0 61440) != 49152) = false := bne_eq_false_iff_eq.mpr c7
              clear c7
              obtain rfl := Option.some.inj H
              go_enter Try.func19, Try.ntmps19
              go_wp2
              go_ret
              exact ⟨by first | rfl | (simp; done) | (simp [*]; done), by repeat (first | exact Drawn0.refl _ | apply Drawn0.step)⟩
            · rw [if_neg c7] at H
              have c7b0 : ((Go.bits .and .u16 a0 61440) == 49152) = false := beq_eq_false_iff_ne.mpr c7
              have c7b1 : ((Go.bits .and .u16 a0 61440) != 49152) = true := bne_iff_ne.mpr c7
              by_cases c8 : (Go.bits .and .u16 a0 61440) = 40960
              · rw [if_pos c8] at H
                have c8b0 : ((Go.bits .and .u16 a0 61440) == 40960) = true := beq_iff_eq.mpr c8
                have c8b1 : ((Go.bits .and .u16 a0 61440) != 40960) = false := bne_eq_false_iff_eq.mpr c8
                clear c8
                obtain rfl := Option.some.inj H
                go_enter Try.func19, Try.ntmps19
                go_wp2
                go_ret
                exact ⟨by first | rfl | (simp; done) | (simp [*]; done), by repeat (first | exact Drawn0.refl _ | apply Drawn0.step)⟩
              · rw [if_neg c8] at H
                have c8b0 : ((Go.bits .and .u16 a0 61440) == 40960) = false := beq_eq_false_iff_ne.mpr c8
                have c8b1 : ((Go.bits .and .u16 a0 61440) != 40960) = true := bne_iff_ne.mpr c8
                obtain rfl := Option.some.inj H
                go_enter Try.func19, Try.ntmps19
                go_wp2
                go_ret
                exact ⟨by first | rfl | (simp; done) | (simp [*]; done), by repeat (first | exact Drawn0.refl _ | apply Drawn0.step)⟩

/-! ### spec_TypeOf: function 13 -/
def spec_TypeOf.f (a0 : Int) : Option (Int) := (spec_kindOf.f a0).bind fun t101 => (some t101)
set_option maxHeartbeats 8000000 in
set_option maxRecDepth 100000 in
theorem spec_TypeOf.calls (a0 : Int) (r : Int) (w : World) (h : spec_TypeOf.f a0 = some r) :
    Calls Try.prog 13 #[.int .u16 a0] w fun e w' => e = .returned (.int .u64 r) ∧ Drawn0 w w' := by
  have H : ((spec_kindOf.f a0).bind fun t101 => (some t101)) = some r := h
  clear h
  replace H := Option.bind_eq_some_iff.mp H
  obtain ⟨t101, A20, H⟩ := H
  replace H : (some t101) = some r := H
  have A2 := Aside0.mk A20
  clear A20
  obtain rfl := Option.some.inj H
  go_enter Try.func13, Try.ntmps13
  go_wp2_with (first | ((with_reducible refine gate_callee (f := 19) rfl ?_); refine goesL_ (some 4) rfl rfl Try.func19 (by kernel_rfl) rfl #[.int .u16 a0] rfl (by (try simp only [List.map_toArray, List.map_cons, List.map_nil]); first | done | rfl | (simp only [List.length_drop, List.length_take]; rfl)) ?_; (with_reducible refine (spec_kindOf.calls a0 t101 _ A2.out).mono ?_); rintro e w' ⟨rfl, ⟨nd, rfl⟩⟩; refine ⟨_, rfl, ?_⟩))
  go_ret
  exact ⟨by first | rfl | (simp; done) | (simp [*]; done), by repeat (first | exact Drawn0.refl _ | apply Drawn0.step)⟩

/-! ### compactext4_modeToFileType: function 23 -/
def compactext4_modeToFileType.f (a0 : Int) : Option (Int) := if (Go.bits .and .u16 a0 61440) = 32768 then (some 1) else (if (Go.bits .and .u16 a0 61440) = 16384 then (some 2) else (if (Go.bits .and .u16 a0 61440) = 8192 then (some 3) else (if (Go.bits .and .u16 a0 61440) = 24576 then (some 4) else (if (Go.bits .and .u16 a0 61440) = 4096 then (some 5) else (if (Go.bits .and .u16 a0 61440) = 49152 then (some 6) else (if (Go.bits .and .u16 a0 61440) = 40960 then (some 7) else (some 0)))))))
set_option maxHeartbeats 8000000 in
set_option maxRecDepth 100000 in
theorem compactext4_modeToFileType.calls (a0 : Int) (r : Int) (w : World) (h : compactext4_modeToFileType.f a0 = some r) :
    Calls Try.prog 23 #[.int .u16 a0] w fun e w' => e = .returned (.int .u8 r) ∧ Drawn0 w w' := by
  have H : (if (Go.bits .and .u16 a0 61440) = 32768 then (some 1) else (if (Go.bits .and .u16 a0 61440) = 16384 then (some 2) else (if (Go.bits .and .u16 a0 61440) = 8192 then (some 3) else (if (Go.bits .and .u16 a0 61440) = 24576 then (some 4) else (if (Go.bits .and .u16 a0 61440) = 4096 then (some 5) else (if (Go.bits .and .u16 a0 61440) = 49152 then (some 6) else (if (Go.bits .and .u16 a0 61440) = 40960 then (some 7) else (some 0)))))))) = some r := h
  clear h
  by_cases c2 : (Go.bits .and .u16 a0 61440) = 32768
  · rw [if_pos c2] at H
    have c2b0 : ((Go.bits .and .u16 a0 61440) == 32768) = true := beq_iff_eq.mpr c2
    have c2b1 : ((Go.bits .and .u16 a0 61440) != 32768) = false := bne_eq_false_iff_eq.mpr c2
    clear c2
    obtain rfl := Option.some.inj H
    go_enter Try.func23, Try.ntmps23
    go_wp2
    go_ret
    exact ⟨by first | rfl | (simp; done) | (simp [*]; done), by repeat (first | exact Drawn0.refl _ | apply Drawn0.step)⟩
  · rw [if_neg c2] at H
    have c2b0 : ((Go.bits .and .u16 a0 61440) == 32768) = false := beq_eq_false_iff_ne.mpr c2
    have c2b1 : ((Go.bits .and .u16 a0 61440) != 32768) = true := bne_iff_ne.mpr c2
    by_cases c3 : (Go.bits .and .u16 a0 61440) = 16384
    · rw [if_pos c3] at H
      have c3b0 : ((Go.bits .and .u16 a0 61440) == 16384) = true := beq_iff_eq.mpr c3
      have c3b1 : ((Go.bits .and .u16 a0 61440) != 16384) = false := bne_eq_false_iff_eq.mpr c3
      clear c3
      obtain rfl := Option.some.inj H
      go_enter Try.func23, Try.ntmps23
      go_wp2
      go_ret
      exact ⟨by first | rfl | (simp; done) | (simp [*]; done), by repeat (first | exact Drawn0.refl _ | apply Drawn0.step)⟩
    · rw [if_neg c3] at H
      have c3b0 : ((Go.bits .and .u16 a0 61440) == 16384) = false := beq_eq_false_iff_ne.mpr c3
      have c3b1 : ((Go.bits .and .u16 a0 61440) != 16384) = true := bne_iff_ne.mpr c3
      by_cases c4 : (Go.bits .and .u16 a0 61440) = 8192
      · rw [if_pos c4] at H
        have c4b0 : ((Go.bits .and .u16 a0 61440) == 8192) = true := beq_iff_eq.mpr c4
        have c4b1 : ((Go.bits .and .u16 a0 61440) != 8192) = false := bne_eq_false_iff_eq.mpr c4
        clear c4
        obtain rfl := Option.some.inj H
        go_enter Try.func23, Try.ntmps23
        go_wp2
        go_ret
        exact ⟨by first | rfl | (simp; done) | (simp [*]; done), by repeat (first | exact Drawn0.refl _ | apply Drawn0.step)⟩
      · rw [if_neg c4] at H
        have c4b0 : ((Go.bits .and .u16 a0 61440) == 8192) = false := beq_eq_false_iff_ne.mpr c4
        have c4b1 : ((Go.bits .and .u16 a0 61440) != 8192) = true := bne_iff_ne.mpr c4
        by_cases c5 : (Go.bits .and .u16 a0 61440) = 24576
        · rw [if_pos c5] at H
          have c5b0 : ((Go.bits .and .u16 a0 61440) == 24576) = true := beq_iff_eq.mpr c5
          have c5b1 : ((Go.bits .and .u16 a0 61440) != 24576) = false := bne_eq_false_iff_eq.mpr c5
          clear c5
          obtain rfl := Option.some.inj H
          go_enter Try.func23, Try.ntmps23
          go_wp2
          go_ret
          exact ⟨by first | rfl | (simp; done) | (simp [*]; done), by repeat (first | exact Drawn0.refl _ | apply Drawn0.step)⟩
        · rw [if_neg c5] at H
          have c5b0 : ((Go.bits .and .u16 a0 61440) == 24576) = false := beq_eq_false_iff_ne.mpr c5
          have c5b1 : ((Go.bits .and .u16 a0 61440) != 24576) = true := bne_iff_ne.mpr c5
          by_cases c6 : (Go.bits .and .u16 a0 61440) = 4096
          · rw [if_pos c6] at H
            have c6b0 : ((Go.bits .and .u16 a0 61440) == 4096) = true := beq_iff_eq.mpr c6
            have c6b1 : ((Go.bits .and .u16 a0 61440) != 4096) = false := bne_eq_false_iff_eq.mpr c6
            clear c6
            obtain rfl := Option.some.inj H
            go_enter Try.func23, Try.ntmps23
            go_wp2
            go_ret
            exact ⟨by first | rfl | (simp; done) | (simp [*]; done), by repeat (first | exact Drawn0.refl _ | apply Drawn0.step)⟩
          · rw [if_neg c6] at H
            have c6b0 : ((Go.bits .and .u16 a0 61440) == 4096) = false := beq_eq_false_iff_ne.mpr c6
            have c6b1 : ((Go.bits .and .u16 a0 61440) != 4096) = true := bne_iff_ne.mpr c6
            by_cases c7 : (Go.bits .and .u16 a0 61440) = 49152
            · rw [if_pos c7] at H
              have c7b0 : ((Go.bits .and .u16 a0 61440) == 49152) = true := beq_iff_eq.mpr c7
              have c7b1 : ((Go.bits .and .u16 a0 61440) != 49152) = false := bne_eq_false_iff_eq.mpr c7
              clear c7
              obtain rfl := Option.some.inj H
              go_enter Try.func23, Try.ntmps23
              go_wp2
              go_ret
              exact ⟨by first | rfl | (simp; done) | (simp [*]; done), by repeat (first | exact Drawn0.refl _ | apply Drawn0.step)⟩
            · rw [if_neg c7] at H
              have c7b0 : ((Go.bits .and .u16 a0 61440) == 49152) = false := beq_eq_false_iff_ne.mpr c7
              have c7b1 : ((Go.bits .and .u16 a0 61440) != 49152) = true := bne_iff_ne.mpr c7
              by_cases c8 : (Go.bits .and .u16 a0 61440) = 40960
              · rw [if_pos c8] at H
                have c8b0 : ((Go.bits .and .u16 a0 61440) == 40960) = true := beq_iff_eq.mpr c8
                have c8b1 : ((Go.bits .and .u16 a0 61440) != 40960) = false := bne_eq_false_iff_eq.mpr c8
                clear c8
                obtain rfl := Option.some.inj H
                go_enter Try.func23, Try.ntmps23
                go_wp2
                go_ret
                exact ⟨by first | rfl | (simp; done) | (simp [*]; done), by repeat (first | exact Drawn0.refl _ | apply Drawn0.step)⟩
              · rw [if_neg c8] at H
                have c8b0 : ((Go.bits .and .u16 a0 61440) == 40960) = false := beq_eq_false_iff_ne.mpr c8
                have c8b1 : ((Go.bits .and .u16 a0 61440) != 40960) = true := bne_iff_ne.mpr c8
                obtain rfl := Option.some.inj H
                go_enter Try.func23, Try.ntmps23
                go_wp2
                go_ret
                exact ⟨by first | rfl | (simp; done) | (simp [*]; done), by repeat (first | exact Drawn0.refl _ | apply Drawn0.step)⟩

/-! ### compactext4_DoorType: function 20 -/
def compactext4_DoorType.f (a0 : Int) : Option (Int) := (compactext4_modeToFileType.f a0).bind fun t102 => (some t102)
set_option maxHeartbeats 8000000 in
set_option maxRecDepth 100000 in
theorem compactext4_DoorType.calls (a0 : Int) (r : Int) (w : World) (h : compactext4_DoorType.f a0 = some r) :
    Calls Try.prog 20 #[.int .u16 a0] w fun e w' => e = .returned (.int .u8 r) ∧ Drawn0 w w' := by
  have H : ((compactext4_modeToFileType.f a0).bind fun t102 => (some t102)) = some r := h
  clear h
  replace H := Option.bind_eq_some_iff.mp H
  obtain ⟨t102, A20, H⟩ := H
  replace H : (some t102) = some r := H
  have A2 := Aside0.mk A20
  clear A20
  obtain rfl := Option.some.inj H
  go_enter Try.func20, Try.ntmps20
  go_wp2_with (first | ((with_reducible refine gate_callee (f := 23) rfl ?_); refine goesL_ (some 4) rfl rfl Try.func23 (by kernel_rfl) rfl #[.int .u16 a0] rfl (by (try simp only [List.map_toArray, List.map_cons, List.map_nil]); first | done | rfl | (simp only [List.length_drop, List.length_take]; rfl)) ?_; (with_reducible refine (compactext4_modeToFileType.calls a0 t102 _ A2.out).mono ?_); rintro e w' ⟨rfl, ⟨nd, rfl⟩⟩; refine ⟨_, rfl, ?_⟩))
  go_ret
  exact ⟨by first | rfl | (simp; done) | (simp [*]; done), by repeat (first | exact Drawn0.refl _ | apply Drawn0.step)⟩

/-! ### impl_ModeToType: function 14 -/
def impl_ModeToType.f (a0 : Int) : Option (Int) := (compactext4_DoorType.f a0).bind fun t103 => (some t103)
set_option maxHeartbeats 8000000 in
set_option maxRecDepth 100000 in
theorem impl_ModeToType.calls (a0 : Int) (r : Int) (w : World) (h : impl_ModeToType.f a0 = some r) :
    Calls Try.prog 14 #[.int .u16 a0] w fun e w' => e = .returned (.int .u8 r) ∧ Drawn0 w w' := by
  have H : ((compactext4_DoorType.f a0).bind fun t103 => (some t103)) = some r := h
  clear h
  replace H := Option.bind_eq_some_iff.mp H
  obtain ⟨t103, A20, H⟩ := H
  replace H : (some t103) = some r := H
  have A2 := Aside0.mk A20
  clear A20
  obtain rfl := Option.some.inj H
  go_enter Try.func14, Try.ntmps14
  go_wp2_with (first | ((with_reducible refine gate_callee (f := 20) rfl ?_); refine goesL_ (some 4) rfl rfl Try.func20 (by kernel_rfl) rfl #[.int .u16 a0] rfl (by (try simp only [List.map_toArray, List.map_cons, List.map_nil]); first | done | rfl | (simp only [List.length_drop, List.length_take]; rfl)) ?_; (with_reducible refine (compactext4_DoorType.calls a0 t103 _ A2.out).mono ?_); rintro e w' ⟨rfl, ⟨nd, rfl⟩⟩; refine ⟨_, rfl, ?_⟩))
  go_ret
  exact ⟨by first | rfl | (simp; done) | (simp [*]; done), by repeat (first | exact Drawn0.refl _ | apply Drawn0.step)⟩

/-! ### laws_FnTypeAlone: function 7 -/
def laws_FnTypeAlone.f (a0 : Int) (a1 : Int) : Option (Bool) := (spec_TypeOf.f a0).bind fun t104 => (if t104 = 0 then (some true) else ((impl_ModeToType.f a0).bind fun t105 => (if t105 ≥ 1 then (if t105 ≤ 7 then ((impl_ModeToType.f (Go.bits .or .u16 (Go.bits .and .u16 a0 61440) (Go.bits .andNot .u16 a1 61440))).bind fun t106 => (some (t106 == t105))) else (some false)) else (some false))))
set_option maxHeartbeats 8000000 in
set_option maxRecDepth 100000 in
theorem laws_FnTypeAlone.calls (a0 : Int) (a1 : Int) (r : Bool) (w : World) (h : laws_FnTypeAlone.f a0 a1 = some r) :
    Calls Try.prog 7 #[.int .u16 a0, .int .u16 a1] w fun e w' => e = .returned (.bool r) ∧ Drawn0 w w' := by
  have H : ((spec_TypeOf.f a0).bind fun t104 => (if t104 = 0 then (some true) else ((impl_ModeToType.f a0).bind fun t105 => (if t105 ≥ 1 then (if t105 ≤ 7 then ((impl_ModeToType.f (Go.bits .or .u16 (Go.bits .and .u16 a0 61440) (Go.bits .andNot .u16 a1 61440))).bind fun t106 => (some (t106 == t105))) else (some false)) else (some false))))) = some r := h
  clear h
  replace H := Option.bind_eq_some_iff.mp H
  obtain ⟨t104, A30, H⟩ := H
  replace H : (if t104 = 0 then (some true) else ((impl_ModeToType.f a0).bind fun t105 => (if t105 ≥ 1 then (if t105 ≤ 7 then ((impl_ModeToType.f (Go.bits .or .u16 (Go.bits .and .u16 a0 61440) (Go.bits .andNot .u16 a1 61440))).bind fun t106 => (some (t106 == t105))) else (some false)) else (some false)))) = some r := H
  have A3 := Aside0.mk A30
  clear A30
  by_cases c4 : t104 = 0
  · rw [if_pos c4] at H
    have c4b0 : (t104 == 0) = true := beq_iff_eq.mpr c4
    have c4b1 : (t104 != 0) = false := bne_eq_false_iff_eq.mpr c4
    clear c4
    obtain rfl := Option.some.inj H
    go_enter Try.func7, Try.ntmps7
    go_wp2_with (first | ((with_reducible refine gate_callee (f := 13) rfl ?_); refine goesL_ (some 7) rfl rfl Try.func13 (by kernel_rfl) rfl #[.int .u16 a0] rfl (by (try simp only [List.map_toArray, List.map_cons, List.map_nil]); first | done | rfl | (simp only [List.length_drop, List.length_take]; rfl)) ?_; (with_reducible refine (spec_TypeOf.calls a0 t104 _ A3.out).mono ?_); rintro e w' ⟨rfl, ⟨nd, rfl⟩⟩; refine ⟨_, rfl, ?_⟩))
    go_ret
    exact ⟨by first | rfl | (simp; done) | (simp [*]; done), by repeat (first | exact Drawn0.refl _ | apply Drawn0.step)⟩
  · rw [if_neg c4] at H
    have c4b0 : (t104 == 0) = false := beq_eq_false_iff_ne.mpr c4
    have c4b1 : (t104 != 0) = true := bne_iff_ne.mpr c4
    replace H := Option.bind_eq_some_iff.mp H
    obtain ⟨t105, A50, H⟩ := H
    replace H : (if t105 ≥ 1 then (if t105 ≤ 7 then ((impl_ModeToType.f (Go.bits .or .u16 (Go.bits .and .u16 a0 61440) (Go.bits .andNot .u16 a1 61440))).bind fun t106 => (some (t106 == t105))) else (some false)) else (some false)) = some r := H
    have A5 := Aside0.mk A50
    clear A50
    by_cases c6 : t105 ≥ 1
    · rw [if_pos c6] at H
      have c6b0 : decide (1 ≤ t105) = true := decide_eq_true c6
      clear c6
      by_cases c7 : t105 ≤ 7
      · rw [if_pos c7] at H
        have c7b0 : decide (t105 ≤ 7) = true := decide_eq_true c7
        clear c7
        replace H := Option.bind_eq_some_iff.mp H
        obtain ⟨t106, A80, H⟩ := H
        replace H : (some (t106 == t105)) = some r := H
        have A8 := Aside0.mk A80
        clear A80
        obtain rfl := Option.some.inj H
        go_enter Try.func7, Try.ntmps7
        go_wp2_with (first | ((with_reducible refine gate_callee (f := 13) rfl ?_); refine goesL_ (some 7) rfl rfl Try.func13 (by kernel_rfl) rfl #[.int .u16 a0] rfl (by (try simp only [List.map_toArray, List.map_cons, List.map_nil]); first | done | rfl | (simp only [List.length_drop, List.length_take]; rfl)) ?_; (with_reducible refine (spec_TypeOf.calls a0 t104 _ A3.out).mono ?_); rintro e w' ⟨rfl, ⟨nd, rfl⟩⟩; refine ⟨_, rfl, ?_⟩) | ((with_reducible refine gate_callee (f := 14) rfl ?_); refine goesL_ (some 10) rfl rfl Try.func14 (by kernel_rfl) rfl #[.int .u16 a0] rfl (by (try simp only [List.map_toArray, List.map_cons, List.map_nil]); first | done | rfl | (simp only [List.length_drop, List.length_take]; rfl)) ?_; (with_reducible refine (impl_ModeToType.calls a0 t105 _ A5.out).mono ?_); rintro e w' ⟨rfl, ⟨nd, rfl⟩⟩; refine ⟨_, rfl, ?_⟩) | (go_at_call 14; (with_reducible refine (impl_ModeToType.calls (Go.bits .or .u16 (Go.bits .and .u16 a0 61440) (Go.bits .andNot .u16 a1 61440)) t106 _ A8.out).mono ?_); rintro e w' ⟨rfl, ⟨nd, rfl⟩⟩))
        go_ret
        exact ⟨by first | rfl | (simp; done) | (simp [*]; done), by repeat (first | exact Drawn0.refl _ | apply Drawn0.step)⟩
      · rw [if_neg c7] at H
        have c7b0 : decide (t105 ≤ 7) = false := decide_eq_false c7
        clear c7
        obtain rfl := Option.some.inj H
        go_enter Try.func7, Try.ntmps7
        go_wp2_with (first | ((with_reducible refine gate_callee (f := 13) rfl ?_); refine goesL_ (some 7) rfl rfl Try.func13 (by kernel_rfl) rfl #[.int .u16 a0] rfl (by (try simp only [List.map_toArray, List.map_cons, List.map_nil]); first | done | rfl | (simp only [List.length_drop, List.length_take]; rfl)) ?_; (with_reducible refine (spec_TypeOf.calls a0 t104 _ A3.out).mono ?_); rintro e w' ⟨rfl, ⟨nd, rfl⟩⟩; refine ⟨_, rfl, ?_⟩) | ((with_reducible refine gate_callee (f := 14) rfl ?_); refine goesL_ (some 10) rfl rfl Try.func14 (by kernel_rfl) rfl #[.int .u16 a0] rfl (by (try simp only [List.map_toArray, List.map_cons, List.map_nil]); first | done | rfl | (simp only [List.length_drop, List.length_take]; rfl)) ?_; (with_reducible refine (impl_ModeToType.calls a0 t105 _ A5.out).mono ?_); rintro e w' ⟨rfl, ⟨nd, rfl⟩⟩; refine ⟨_, rfl, ?_⟩))
        go_ret
        exact ⟨by first | rfl | (simp; done) | (simp [*]; done), by repeat (first | exact Drawn0.refl _ | apply Drawn0.step)⟩
    · rw [if_neg c6] at H
      have c6b0 : decide (1 ≤ t105) = false := decide_eq_false c6
      clear c6
      obtain rfl := Option.some.inj H
      go_enter Try.func7, Try.ntmps7
      go_wp2_with (first | ((with_reducible refine gate_callee (f := 13) rfl ?_); refine goesL_ (some 7) rfl rfl Try.func13 (by kernel_rfl) rfl #[.int .u16 a0] rfl (by (try simp only [List.map_toArray, List.map_cons, List.map_nil]); first | done | rfl | (simp only [List.length_drop, List.length_take]; rfl)) ?_; (with_reducible refine (spec_TypeOf.calls a0 t104 _ A3.out).mono ?_); rintro e w' ⟨rfl, ⟨nd, rfl⟩⟩; refine ⟨_, rfl, ?_⟩) | ((with_reducible refine gate_callee (f := 14) rfl ?_); refine goesL_ (some 10) rfl rfl Try.func14 (by kernel_rfl) rfl #[.int .u16 a0] rfl (by (try simp only [List.map_toArray, List.map_cons, List.map_nil]); first | done | rfl | (simp only [List.length_drop, List.length_take]; rfl)) ?_; (with_reducible refine (impl_ModeToType.calls a0 t105 _ A5.out).mono ?_); rintro e w' ⟨rfl, ⟨nd, rfl⟩⟩; refine ⟨_, rfl, ?_⟩))
      go_ret
      exact ⟨by first | rfl | (simp; done) | (simp [*]; done), by repeat (first | exact Drawn0.refl _ | apply Drawn0.step)⟩

/-- THE ONE PURE STATEMENT of laws_FnTypeAlone: yours. -/
def laws_FnTypeAlone.Pure : Prop := ∀ (a0 : Int) (a1 : Int), (Lit.int .u16 a0).wf = true → (Lit.int .u16 a1).wf = true → laws_FnTypeAlone.f a0 a1 = some true
theorem laws_FnTypeAlone.walk (P : laws_FnTypeAlone.Pure) (a0 : Int) (a1 : Int) (w : World) (w0 : (Lit.int .u16 a0).wf = true) (w1 : (Lit.int .u16 a1).wf = true) :
    Calls Try.prog 7 #[.int .u16 a0, .int .u16 a1] w fun e w' => e = .returned (.bool true) ∧ Below w.heap.size w w' := by
  have h := P a0 a1 w0 w1
  refine (laws_FnTypeAlone.calls a0 a1 true w h).mono ?_
  rintro e w' ⟨rfl, hd⟩
  exact ⟨rfl, hd.below⟩

end Go.Proofs.Ytlmkmippmjfagaa.PFnTypeAlone
