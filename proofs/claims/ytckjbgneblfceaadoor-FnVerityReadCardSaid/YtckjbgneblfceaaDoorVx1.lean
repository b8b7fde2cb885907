-- PRINTED BY print.sh 35421559b90ae4d0a3588c463048766b98c2df88dd9212a6774a882060cdf62d: not written by this session
import Derived.Test.YtckjbgneblfceaaDoorPFnVerityReadx0
namespace Go.Proofs.YtckjbgneblfceaaDoor.PFnVerityRead
open Go.RowKit Go.Proofs.YtckjbgneblfceaaDoorW.PrintWords Go.Proofs.YtckjbgneblfceaaDoorW.PrintLast Go.Proofs.YtckjbgneblfceaaDoorW.PrintMore
attribute [local go_sem] max2_int min2_int max_two min_two max_three min_three max_four min_four   -- for this text's walks alone
set_option linter.unusedVariables false
set_option linter.unusedSimpArgs false

/-! ### laws_deviceFair: function 12 -/
def laws_deviceFair.f (l0 : List Int) : Option (Bool) := some (decide ((l0.length : Int) ≤ 1228800))
set_option maxHeartbeats 8000000 in
set_option maxRecDepth 100000 in
theorem laws_deviceFair.calls (A0 : Option Addr) (c0 : Nat) (l0 : List Int) (r : Bool) (w : World) (hr0 : Kd.C (Kd.int .u8) w A0 l0.length l0) (hc0 : l0.length ≤ c0) (h : laws_deviceFair.f l0 = some r) :
    Calls Tryd.prog 12 #[.slice A0 l0.length c0] w fun e w' => e = .returned (.bool r) ∧ Drawn0 w w' := by
  have HR0 := Aside0.mk hr0
  have HC0 := Aside0.mk hc0
  clear hr0 hc0
  have H : (some (decide ((l0.length : Int) ≤ 1228800))) = some r := h
  clear h
  obtain rfl := Option.some.inj H
  go_enter Tryd.func12, Tryd.ntmps12
  go_wp2
  go_ret
  exact ⟨by first | rfl | (simp; done) | (simp [*]; done), by repeat (first | exact Drawn0.refl _ | apply Drawn0.step)⟩

/-! ### dmverity_get32: function 67 -/
def dmverity_get32.f (l0 : List Int) : Option (Int) := if 0 < (l0.length : Int) then (if 1 < (l0.length : Int) then (if 2 < (l0.length : Int) then (if 3 < (l0.length : Int) then (some (Go.bits .or .u32 (Go.bits .or .u32 (Go.bits .or .u32 ((rd l0 0) % 4294967296) ((((rd l0 1) % 4294967296) * 256) % 4294967296)) ((((rd l0 2) % 4294967296) * 65536) % 4294967296)) ((((rd l0 3) % 4294967296) * 16777216) % 4294967296))) else (none)) else (none)) else (none)) else (none)
set_option maxHeartbeats 8000000 in
set_option maxRecDepth 100000 in
theorem dmverity_get32.calls (A0 : Option Addr) (c0 : Nat) (l0 : List Int) (r : Int) (w : World) (hr0 : Kd.C (Kd.int .u8) w A0 l0.length l0) (hc0 : l0.length ≤ c0) (h : dmverity_get32.f l0 = some r) :
    Calls Tryd.prog 67 #[.slice A0 l0.length c0] w fun e w' => e = .returned (.int .u32 r) ∧ Drawn0 w w' := by
  have HR0 := Aside0.mk hr0
  have HC0 := Aside0.mk hc0
  clear hr0 hc0
  have H : (if 0 < (l0.length : Int) then (if 1 < (l0.length : Int) then (if 2 < (l0.length : Int) then (if 3 < (l0.length : Int) then (some (Go.bits .or .u32 (Go.bits .or .u32 (Go.bits .or .u32 ((rd l0 0) % 4294967296) ((((rd l0 1) % 4294967296) * 256) % 4294967296)) ((((rd l0 2) % 4294967296) * 65536) % 4294967296)) ((((rd l0 3) % 4294967296) * 16777216) % 4294967296))) else (none)) else (none)) else (none)) else (none)) = some r := h
  clear h
  by_cases c2 : 0 < (l0.length : Int)
  · rw [if_pos c2] at H
    have c2b0 : decide (0 < (l0.length : Int)) = true := decide_eq_true c2
    have c2b1 : decide (0 < l0.length) = true := decide_eq_true (by omega)
    clear c2
    by_cases c3 : 1 < (l0.length : Int)
    · rw [if_pos c3] at H
      have c3b0 : decide (1 < (l0.length : Int)) = true := decide_eq_true c3
      have c3b1 : decide (1 < l0.length) = true := decide_eq_true (by omega)
      clear c3
      by_cases c4 : 2 < (l0.length : Int)
      · rw [if_pos c4] at H
        have c4b0 : decide (2 < (l0.length : Int)) = true := decide_eq_true c4
        have c4b1 : decide (2 < l0.length) = true := decide_eq_true (by omega)
        clear c4
        by_cases c5 : 3 < (l0.length : Int)
        · rw [if_pos c5] at H
          have c5b0 : decide (3 < (l0.length : Int)) = true := decide_eq_true c5
          have c5b1 : decide (3 < l0.length) = true := decide_eq_true (by omega)
          clear c5
          obtain rfl := Option.some.inj H
          have p101 : 0 ≤ (0 : Int) := (by omega)
          have q101 : 0 < (l0.length : Int) := of_decide_eq_true (by first | (with_reducible assumption) | assumption)
          obtain ⟨ad101, e101, hx101_0⟩ := Kd.at_int HR0.out 0 p101 q101
          cases e101
          have qi101 : (0 < l0.length) = True := eq_true (by omega)
          (try rw [show ((0 : Int)).toNat = 0 from rfl] at hx101_0)
          (try rw [Addr.add_zero'] at hx101_0)
          replace p101 := eq_true p101
          replace q101 := eq_true q101
          have p102 : 0 ≤ (1 : Int) := (by omega)
          have q102 : 1 < (l0.length : Int) := of_decide_eq_true (by first | (with_reducible assumption) | assumption)
          obtain ⟨ad102, e102, hx102_0⟩ := Kd.at_int HR0.out 1 p102 q102
          obtain rfl : ad101 = ad102 := (by injection e102)
          (try simp only [show (1 : Int).toNat = 1 from rfl, Nat.reduceMul, Nat.reduceEqDiff, Go.Addr.add, ↓reduceIte] at hx102_0)
          have qi102 : (1 < l0.length) = True := eq_true (by omega)
          (try rw [show ((1 : Int)).toNat = 1 from rfl] at hx102_0)
          replace p102 := eq_true p102
          replace q102 := eq_true q102
          have p103 : 0 ≤ (2 : Int) := (by omega)
          have q103 : 2 < (l0.length : Int) := of_decide_eq_true (by first | (with_reducible assumption) | assumption)
          obtain ⟨ad103, e103, hx103_0⟩ := Kd.at_int HR0.out 2 p103 q103
          obtain rfl : ad101 = ad103 := (by injection e103)
          (try simp only [show (2 : Int).toNat = 2 from rfl, Nat.reduceMul, Nat.reduceEqDiff, Go.Addr.add, ↓reduceIte] at hx103_0)
          have qi103 : (2 < l0.length) = True := eq_true (by omega)
          (try rw [show ((2 : Int)).toNat = 2 from rfl] at hx103_0)
          replace p103 := eq_true p103
          replace q103 := eq_true q103
          have p104 : 0 ≤ (3 : Int) := (by omega)
          have q104 : 3 < (l0.length : Int) := of_decide_eq_true (by first | (with_reducible assumption) | assumption)
          obtain ⟨ad104, e104, hx104_0⟩ := Kd.at_int HR0.out 3 p104 q104
          obtain rfl : ad101 = ad104 := (by injection e104)
          (try simp only [show (3 : Int).toNat = 3 from rfl, Nat.reduceMul, Nat.reduceEqDiff, Go.Addr.add, ↓reduceIte] at hx104_0)
          have qi104 : (3 < l0.length) = True := eq_true (by omega)
          (try rw [show ((3 : Int)).toNat = 3 from rfl] at hx104_0)
          replace p104 := eq_true p104
          replace q104 := eq_true q104
          go_enter Tryd.func67, Tryd.ntmps67
          go_wp2
          repeat (go_quiet (fail); try go_wp2)
          go_ret
          exact ⟨by first | rfl | (simp; done) | (simp [*]; done), by repeat (first | exact Drawn0.refl _ | apply Drawn0.step)⟩
        · rw [if_neg c5] at H
          exact absurd H (by simp)
      · rw [if_neg c4] at H
        exact absurd H (by simp)
    · rw [if_neg c3] at H
      exact absurd H (by simp)
  · rw [if_neg c2] at H
    exact absurd H (by simp)

-- NOT PRINTED: function 52 (dmverity_dmveritySuperblock_parse)

/-! ### dmverity_hex: function 55 -/
def dmverity_hex.l0 : Nat → ByteArray → List Int → Int → Int → Option (ByteArray)
  | 0, _, _, _, _ => none
  | k + 1, x3, x6, x7, x8 => if x8 < x7 then (if 0 ≤ x8 then (if x8 < (x6.length : Int) then (if 0 ≤ ((rd x6 x8) / 16) then (if ((rd x6 x8) / 16) ≤ ((((rd x6 x8) / 16) + 1) % 256) then (if ((((rd x6 x8) / 16) + 1) % 256) ≤ 16 then (if 0 ≤ (Go.bits .and .u8 (rd x6 x8) 15) then (if (Go.bits .and .u8 (rd x6 x8) 15) ≤ (((Go.bits .and .u8 (rd x6 x8) 15) + 1) % 256) then (if (((Go.bits .and .u8 (rd x6 x8) 15) + 1) % 256) ≤ 16 then (if ((⟨#[48, 49, 50, 51, 52, 53, 54, 55, 56, 57, 97, 98, 99, 100, 101, 102]⟩ : ByteArray).extract (((rd x6 x8) / 16) : Int).toNat (((((rd x6 x8) / 16) + 1) % 256) : Int).toNat).size + ((⟨#[48, 49, 50, 51, 52, 53, 54, 55, 56, 57, 97, 98, 99, 100, 101, 102]⟩ : ByteArray).extract ((Go.bits .and .u8 (rd x6 x8) 15) : Int).toNat ((((Go.bits .and .u8 (rd x6 x8) 15) + 1) % 256) : Int).toNat).size ≤ 9223372036854775807 then (if x3.size + (((⟨#[48, 49, 50, 51, 52, 53, 54, 55, 56, 57, 97, 98, 99, 100, 101, 102]⟩ : ByteArray).extract (((rd x6 x8) / 16) : Int).toNat (((((rd x6 x8) / 16) + 1) % 256) : Int).toNat) ++ ((⟨#[48, 49, 50, 51, 52, 53, 54, 55, 56, 57, 97, 98, 99, 100, 101, 102]⟩ : ByteArray).extract ((Go.bits .and .u8 (rd x6 x8) 15) : Int).toNat ((((Go.bits .and .u8 (rd x6 x8) 15) + 1) % 256) : Int).toNat)).size ≤ 9223372036854775807 then (dmverity_hex.l0 k (x3 ++ (((⟨#[48, 49, 50, 51, 52, 53, 54, 55, 56, 57, 97, 98, 99, 100, 101, 102]⟩ : ByteArray).extract (((rd x6 x8) / 16) : Int).toNat (((((rd x6 x8) / 16) + 1) % 256) : Int).toNat) ++ ((⟨#[48, 49, 50, 51, 52, 53, 54, 55, 56, 57, 97, 98, 99, 100, 101, 102]⟩ : ByteArray).extract ((Go.bits .and .u8 (rd x6 x8) 15) : Int).toNat ((((Go.bits .and .u8 (rd x6 x8) 15) + 1) % 256) : Int).toNat))) x6 x7 (wrap64 (x8 + 1))) else (none)) else (none)) else (none)) else (none)) else (none)) else (none)) else (none)) else (none)) else (none)) else (none)) else (some x3)
def dmverity_hex.f (k : Nat) (l0 : List Int) : Option (ByteArray) := dmverity_hex.l0 k (⟨#[]⟩ : ByteArray) l0 (l0.length : Int) 0
theorem dmverity_hex.mono_l : ∀ k, (∀ y0 y1 y2 y3, LeO (dmverity_hex.l0 k y0 y1 y2 y3) (dmverity_hex.l0 (k + 1) y0 y1 y2 y3))
  | 0 => fun _ _ _ _ r h => by simp [dmverity_hex.l0] at h
  | k + 1 => by
    have ih0 := dmverity_hex.mono_l k
    · intro y0 y1 y2 y3
      unfold dmverity_hex.l0
      repeat' first
      | (with_reducible exact ih0 _ _ _ _)
      | (with_reducible exact LeO.refl _)
      | (with_reducible exact LeO.none _)
      | (with_reducible refine LeO.ite ?_ ?_)
      | (with_reducible refine LeO.bind ?_ (fun _ => ?_))
      | exact ih0 _ _ _ _
      | exact LeO.none _
      | refine LeO.ite ?_ ?_
      | refine LeO.bind ?_ (fun _ => ?_)
theorem dmverity_hex.mono : ∀ a0 k, LeO (dmverity_hex.f k a0) (dmverity_hex.f (k + 1) a0) := by
  intro a0 k
  have ih0 := dmverity_hex.mono_l k
  unfold dmverity_hex.f
  repeat' first
      | (with_reducible exact ih0 _ _ _ _)
      | (with_reducible exact LeO.refl _)
      | (with_reducible exact LeO.none _)
      | (with_reducible refine LeO.ite ?_ ?_)
      | (with_reducible refine LeO.bind ?_ (fun _ => ?_))
      | exact ih0 _ _ _ _
      | exact LeO.none _
      | refine LeO.ite ?_ ?_
      | refine LeO.bind ?_ (fun _ => ?_)
set_option maxHeartbeats 8000000 in
set_option maxRecDepth 100000 in
theorem dmverity_hex.calls (k : Nat) (A0 : Option Addr) (c0 : Nat) (l0 : List Int) (r : ByteArray) (w : World) (hr0 : Kd.C (Kd.int .u8) w A0 l0.length l0) (hc0 : l0.length ≤ c0) (h : dmverity_hex.f k l0 = some r) :
    Calls Tryd.prog 55 #[.slice A0 l0.length c0] w fun e w' => e = .returned (.string r) ∧ Drawn0 w w' := by
  have HR0 := Aside0.mk hr0
  have HC0 := Aside0.mk hc0
  clear hr0 hc0
  have H : (dmverity_hex.l0 k (⟨#[]⟩ : ByteArray) l0 (l0.length : Int) 0) = some r := h
  clear h
  have H' := Aside0.mk H
  clear H
  go_enter Tryd.func55, Tryd.ntmps55
  go_wp2
  repeat (go_quiet (fail); try go_wp2)
  go_loopg [3, 8] k (fun kq v3 v8 w' => ∃ (x3_1 : ByteArray) (x8_1 : Int), v3 = .string x3_1 ∧ v8 = .int .i64 x8_1 ∧ Aside0 (dmverity_hex.l0 kq x3_1 l0 (l0.length : Int) x8_1 = some r) ∧ Aside0 (kq ≤ k) ∧ Drawn0 w w')
  case atStart => exact ⟨((⟨#[]⟩ : ByteArray)), (0), (by first | rfl | (simp; done) | (simp [*]; done)), (by first | rfl | (simp; done) | (simp [*]; done)), H', ⟨Nat.le_refl _⟩, by repeat (first | exact Drawn0.refl _ | apply Drawn0.step)⟩
  case round =>
    clear H'
    obtain ⟨x3_1, x8_1, rfl, rfl, HA, HK1, ⟨m1, rfl⟩⟩ := hrel
    cases gk with
    | zero => exact absurd HA.out (by simp [dmverity_hex.l0])
    | succ k1 =>
      have H := HA.out
      clear HA
      simp only [dmverity_hex.l0] at H
      by_cases c2 : x8_1 < (l0.length : Int)
      · rw [if_pos c2] at H
        have c2b0 : decide (x8_1 < (l0.length : Int)) = true := decide_eq_true c2
        clear c2
        by_cases c3 : 0 ≤ x8_1
        · rw [if_pos c3] at H
          have c3b0 : decide (0 ≤ x8_1) = true := decide_eq_true c3
          clear c3
          by_cases c4 : x8_1 < (l0.length : Int)
          · rw [if_pos c4] at H
            have c4b0 : decide (x8_1 < (l0.length : Int)) = true := decide_eq_true c4
            clear c4
            obtain ⟨ji5, hji5⟩ : ∃ j_ : Int, ((rd l0 x8_1) / 16) = j_ := ⟨_, rfl⟩
            replace H : (if 0 ≤ (ji5) then (if (ji5) ≤ (((ji5) + 1) % 256) then (if (((ji5) + 1) % 256) ≤ 16 then (if 0 ≤ (Go.bits .and .u8 (rd l0 x8_1) 15) then (if (Go.bits .and .u8 (rd l0 x8_1) 15) ≤ (((Go.bits .and .u8 (rd l0 x8_1) 15) + 1) % 256) then (if (((Go.bits .and .u8 (rd l0 x8_1) 15) + 1) % 256) ≤ 16 then (if ((⟨#[48, 49, 50, 51, 52, 53, 54, 55, 56, 57, 97, 98, 99, 100, 101, 102]⟩ : ByteArray).extract ((ji5) : Int).toNat ((((ji5) + 1) % 256) : Int).toNat).size + ((⟨#[48, 49, 50, 51, 52, 53, 54, 55, 56, 57, 97, 98, 99, 100, 101, 102]⟩ : ByteArray).extract ((Go.bits .and .u8 (rd l0 x8_1) 15) : Int).toNat ((((Go.bits .and .u8 (rd l0 x8_1) 15) + 1) % 256) : Int).toNat).size ≤ 9223372036854775807 then (if x3_1.size + (((⟨#[48, 49, 50, 51, 52, 53, 54, 55, 56, 57, 97, 98, 99, 100, 101, 102]⟩ : ByteArray).extract ((ji5) : Int).toNat ((((ji5) + 1) % 256) : Int).toNat) ++ ((⟨#[48, 49, 50, 51, 52, 53, 54, 55, 56, 57, 97, 98, 99, 100, 101, 102]⟩ : ByteArray).extract ((Go.bits .and .u8 (rd l0 x8_1) 15) : Int).toNat ((((Go.bits .and .u8 (rd l0 x8_1) 15) + 1) % 256) : Int).toNat)).size ≤ 9223372036854775807 then (dmverity_hex.l0 k1 (x3_1 ++ (((⟨#[48, 49, 50, 51, 52, 53, 54, 55, 56, 57, 97, 98, 99, 100, 101, 102]⟩ : ByteArray).extract ((ji5) : Int).toNat ((((ji5) + 1) % 256) : Int).toNat) ++ ((⟨#[48, 49, 50, 51, 52, 53, 54, 55, 56, 57, 97, 98, 99, 100, 101, 102]⟩ : ByteArray).extract ((Go.bits .and .u8 (rd l0 x8_1) 15) : Int).toNat ((((Go.bits .and .u8 (rd l0 x8_1) 15) + 1) % 256) : Int).toNat))) l0 (l0.length : Int) (wrap64 (x8_1 + 1))) else (none)) else (none)) else (none)) else (none)) else (none)) else (none)) else (none)) else (none)) = some r := by first | (rw [hji5] at H; exact H) | (simp only [hji5] at H ⊢; exact H)
            by_cases c6 : 0 ≤ (ji5)
            · rw [if_pos c6] at H
              have c6b0 := eq_true c6
              have c6b1 : decide (0 ≤ (ji5)) = true := decide_eq_true c6
              clear c6
              by_cases c7 : (ji5) ≤ (((ji5) + 1) % 256)
              · rw [if_pos c7] at H
                have c7b0 := eq_true c7
                have c7b1 : decide ((ji5) ≤ (((ji5) + 1) % 256)) = true := decide_eq_true c7
                by_cases c8 : (((ji5) + 1) % 256) ≤ 16
                · rw [if_pos c8] at H
                  have c8b0 := eq_true c8
                  have c8b1 : decide ((((ji5) + 1) % 256) ≤ 16) = true := decide_eq_true c8
                  by_cases c9 : 0 ≤ (Go.bits .and .u8 (rd l0 x8_1) 15)
                  · rw [if_pos c9] at H
                    have c9b0 := eq_true c9
                    have c9b1 : decide (0 ≤ (Go.bits .and .u8 (rd l0 x8_1) 15)) = true := decide_eq_true c9
                    clear c9
                    by_cases c10 : (Go.bits .and .u8 (rd l0 x8_1) 15) ≤ (((Go.bits .and .u8 (rd l0 x8_1) 15) + 1) % 256)
                    · rw [if_pos c10] at H
                      have c10b0 := eq_true c10
                      have c10b1 : decide ((Go.bits .and .u8 (rd l0 x8_1) 15) ≤ (((Go.bits .and .u8 (rd l0 x8_1) 15) + 1) % 256)) = true := decide_eq_true c10
                      by_cases c11 : (((Go.bits .and .u8 (rd l0 x8_1) 15) + 1) % 256) ≤ 16
                      · rw [if_pos c11] at H
                        have c11b0 := eq_true c11
                        have c11b1 : decide ((((Go.bits .and .u8 (rd l0 x8_1) 15) + 1) % 256) ≤ 16) = true := decide_eq_true c11
                        by_cases c12 : ((⟨#[48, 49, 50, 51, 52, 53, 54, 55, 56, 57, 97, 98, 99, 100, 101, 102]⟩ : ByteArray).extract ((ji5) : Int).toNat ((((ji5) + 1) % 256) : Int).toNat).size + ((⟨#[48, 49, 50, 51, 52, 53, 54, 55, 56, 57, 97, 98, 99, 100, 101, 102]⟩ : ByteArray).extract ((Go.bits .and .u8 (rd l0 x8_1) 15) : Int).toNat ((((Go.bits .and .u8 (rd l0 x8_1) 15) + 1) % 256) : Int).toNat).size ≤ 9223372036854775807
                        · rw [if_pos c12] at H
                          have c12b0 := eq_true c12
                          have c12b1 : decide (((⟨#[48, 49, 50, 51, 52, 53, 54, 55, 56, 57, 97, 98, 99, 100, 101, 102]⟩ : ByteArray).extract ((ji5) : Int).toNat ((((ji5) + 1) % 256) : Int).toNat).size + ((⟨#[48, 49, 50, 51, 52, 53, 54, 55, 56, 57, 97, 98, 99, 100, 101, 102]⟩ : ByteArray).extract ((Go.bits .and .u8 (rd l0 x8_1) 15) : Int).toNat ((((Go.bits .and .u8 (rd l0 x8_1) 15) + 1) % 256) : Int).toNat).size ≤ 9223372036854775807) = true := decide_eq_true c12
                          try have c12b2 : (9223372036854775807 < ((⟨#[48, 49, 50, 51, 52, 53, 54, 55, 56, 57, 97, 98, 99, 100, 101, 102]⟩ : ByteArray).extract ((ji5) : Int).toNat ((((ji5) + 1) % 256) : Int).toNat).size + ((⟨#[48, 49, 50, 51, 52, 53, 54, 55, 56, 57, 97, 98, 99, 100, 101, 102]⟩ : ByteArray).extract ((Go.bits .and .u8 (rd l0 x8_1) 15) : Int).toNat ((((Go.bits .and .u8 (rd l0 x8_1) 15) + 1) % 256) : Int).toNat).size) = False := eq_false (Nat.not_lt.2 c12)
                          by_cases c13 : x3_1.size + (((⟨#[48, 49, 50, 51, 52, 53, 54, 55, 56, 57, 97, 98, 99, 100, 101, 102]⟩ : ByteArray).extract ((ji5) : Int).toNat ((((ji5) + 1) % 256) : Int).toNat) ++ ((⟨#[48, 49, 50, 51, 52, 53, 54, 55, 56, 57, 97, 98, 99, 100, 101, 102]⟩ : ByteArray).extract ((Go.bits .and .u8 (rd l0 x8_1) 15) : Int).toNat ((((Go.bits .and .u8 (rd l0 x8_1) 15) + 1) % 256) : Int).toNat)).size ≤ 9223372036854775807
                          · rw [if_pos c13] at H
                            have c13b0 := eq_true c13
                            have c13b1 : decide (x3_1.size + (((⟨#[48, 49, 50, 51, 52, 53, 54, 55, 56, 57, 97, 98, 99, 100, 101, 102]⟩ : ByteArray).extract ((ji5) : Int).toNat ((((ji5) + 1) % 256) : Int).toNat) ++ ((⟨#[48, 49, 50, 51, 52, 53, 54, 55, 56, 57, 97, 98, 99, 100, 101, 102]⟩ : ByteArray).extract ((Go.bits .and .u8 (rd l0 x8_1) 15) : Int).toNat ((((Go.bits .and .u8 (rd l0 x8_1) 15) + 1) % 256) : Int).toNat)).size ≤ 9223372036854775807) = true := decide_eq_true c13
                            try have c13b2 : (9223372036854775807 < x3_1.size + (((⟨#[48, 49, 50, 51, 52, 53, 54, 55, 56, 57, 97, 98, 99, 100, 101, 102]⟩ : ByteArray).extract ((ji5) : Int).toNat ((((ji5) + 1) % 256) : Int).toNat) ++ ((⟨#[48, 49, 50, 51, 52, 53, 54, 55, 56, 57, 97, 98, 99, 100, 101, 102]⟩ : ByteArray).extract ((Go.bits .and .u8 (rd l0 x8_1) 15) : Int).toNat ((((Go.bits .and .u8 (rd l0 x8_1) 15) + 1) % 256) : Int).toNat)).size) = False := eq_false (Nat.not_lt.2 c13)
                            have H' := Aside0.mk H
                            clear H
                            have p117 : 0 ≤ (x8_1 : Int) := of_decide_eq_true (by first | (with_reducible assumption) | assumption)
                            have q117 : x8_1 < (l0.length : Int) := of_decide_eq_true (by first | (with_reducible assumption) | assumption)
                            obtain ⟨ad117, e117, hx117_0⟩ := Kd.at_int HR0.out x8_1 p117 q117
                            cases e117
                            replace p117 := eq_true p117
                            replace q117 := eq_true q117
                            go_wp2
                            repeat (go_quiet (fail); try go_wp2)
                            go_roundg k1
                            case measure => have := HK1.out; omega
                            case rel => exact ⟨(x3_1 ++ (((⟨#[48, 49, 50, 51, 52, 53, 54, 55, 56, 57, 97, 98, 99, 100, 101, 102]⟩ : ByteArray).extract ((ji5) : Int).toNat ((((ji5) + 1) % 256) : Int).toNat) ++ ((⟨#[48, 49, 50, 51, 52, 53, 54, 55, 56, 57, 97, 98, 99, 100, 101, 102]⟩ : ByteArray).extract ((Go.bits .and .u8 (rd l0 x8_1) 15) : Int).toNat ((((Go.bits .and .u8 (rd l0 x8_1) 15) + 1) % 256) : Int).toNat))), (wrap64 (x8_1 + 1)), (by first | rfl | (simp; done) | (simp only [← hji5] <;> (first | rfl | simp)) | (simp [*]; done)), (by first | rfl | (simp; done) | (simp [*]; done)), H', ⟨by have := HK1.out; omega⟩, by repeat (first | exact Drawn0.refl _ | apply Drawn0.step)⟩
                          · rw [if_neg c13] at H
                            exact absurd H (by simp)
                        · rw [if_neg c12] at H
                          exact absurd H (by simp)
                      · rw [if_neg c11] at H
                        exact absurd H (by simp)
                    · rw [if_neg c10] at H
                      exact absurd H (by simp)
                  · rw [if_neg c9] at H
                    exact absurd H (by simp)
                · rw [if_neg c8] at H
                  exact absurd H (by simp)
              · rw [if_neg c7] at H
                exact absurd H (by simp)
            · rw [if_neg c6] at H
              exact absurd H (by simp)
          · rw [if_neg c4] at H
            exact absurd H (by simp)
        · rw [if_neg c3] at H
          exact absurd H (by simp)
      · rw [if_neg c2] at H
        have c2b0 : decide (x8_1 < (l0.length : Int)) = false := decide_eq_false c2
        clear c2
        obtain rfl := Option.some.inj H
        go_wp2
        repeat (go_quiet (fail); try go_wp2)
        go_ret
        exact ⟨by first | rfl | (simp; done) | (simp [*]; done), by repeat (first | exact Drawn0.refl _ | apply Drawn0.step)⟩

-- NOT PRINTED: function 30 (dmverity_ReadDMVerityInfoReader)

-- NOT PRINTED: function 31 (impl_digest)

-- NOT PRINTED: function 13 (impl_VerityRead)

/-! ### laws_dup: function 14 -/
def laws_dup.f (l0 : List Int) : Option (List Int) := (some (([] : List Int) : List Int)).bind fun y120 => (if y120.length + l0.length < 140737488355328 then (some (y120 ++ l0)) else (none))
set_option maxHeartbeats 8000000 in
set_option maxRecDepth 100000 in
theorem laws_dup.calls (A0 : Option Addr) (c0 : Nat) (l0 : List Int) (r : List Int) (w : World) (hr0 : Kd.C (Kd.int .u8) w A0 l0.length l0) (hc0 : l0.length ≤ c0) (h : laws_dup.f l0 = some r) :
    Calls Tryd.prog 14 #[.slice A0 l0.length c0] w fun e w' => ∃ v0_ : Value, e = .returned (v0_) ∧ Kd.R (Kd.int .u8) 5 w' w.heap.size (fun _ => True) v0_ r ∧ Below w.heap.size w w' := by
  have HR0 := Aside0.mk hr0
  have HC0 := Aside0.mk hc0
  clear hr0 hc0
  have HB := Aside0.mk (Below.refl w.heap.size w)
  have H : ((some (([] : List Int) : List Int)).bind fun y120 => (if y120.length + l0.length < 140737488355328 then (some (y120 ++ l0)) else (none))) = some r := h
  clear h
  obtain ⟨y120, hy120⟩ : ∃ y_ : List Int, y_ = (([] : List Int)) := ⟨_, rfl⟩
  replace H : (if y120.length + l0.length < 140737488355328 then (some (y120 ++ l0)) else (none)) = some r := by first | (rw [hy120]; with_reducible exact H) | (have H2_ := (Option.bind_some _ _).symm.trans H; rw [hy120]; with_reducible exact H2_) | (have H2_ := (Option.bind_some _ _).symm.trans H; with_reducible exact H2_) | with_reducible exact H | (rw [hy120]; exact H) | exact H
  have Ny120 := Aside0.mk hy120
  clear hy120
  by_cases c2 : y120.length + l0.length < 140737488355328
  · rw [if_pos c2] at H
    have LMc2 := Aside0.mk c2
    clear c2
    obtain ⟨y123, hy123⟩ : ∃ y_ : List Int, y_ = (y120 ++ l0) := ⟨_, rfl⟩
    replace H : (some y123) = some r := by first | (rw [hy123]; with_reducible exact H) | (have H2_ := (Option.bind_some _ _).symm.trans H; rw [hy123]; with_reducible exact H2_) | (have H2_ := (Option.bind_some _ _).symm.trans H; with_reducible exact H2_) | with_reducible exact H | (rw [hy123]; exact H) | exact H
    have Ny123 := Aside0.mk hy123
    clear hy123
    obtain rfl := Option.some.inj H
    go_enter Tryd.func14, Tryd.ntmps14
    go_wp2_with (first | ((with_reducible refine gate_dst (N := 3) rfl ?_); refine Kd.R_lit (Kd.int .u8) _ 5 ?hg (N := 3) ?hd (xs := ([] : List Int)) (inner := []) (ok := fun _ => True) (okp := fun _ => True) ?hr ?hp (fun _ hk => hk) trivial (Below.refl _ _) (Nat.le_refl _) (by simp) ?_; (case hd => rfl); (case hg => rfl); (case hr => first | (go_simp; done) | (go_simp; rfl)); (case hp => exact (Reps.none _ _)); intro v121 w3 ho4 hb hg_ hnew_; clear hg_ hnew_; (first | rw [← Ny120.out] at ho4 | (simp only [Int.reduceToNat] at ho4; rw [← Ny120.out] at ho4)); have n0_ := Aside0.mk (Kd.R_lower ho4 (below_size (by repeat (first | (with_reducible first | exact HB.out | apply below_alloc | apply pw_below_drewN | apply below_drew1) | exact HB.out)))); have n1_ := Aside0.mk (below_step (by repeat (first | (with_reducible first | exact HB.out | apply below_alloc | apply pw_below_drewN | apply below_drew1) | exact HB.out)) hb); clear HB; have HO122 := n0_; have HB := n1_; clear n0_ n1_; clear hb ho4) | ((with_reducible refine gate_builtin (b := .append) (xs := #[.tmp 3, .tmp 4]) rfl ?_); at_builtin; refine Kd.R_append_rows (Kd.int .u8) (w0 := w) w.heap.size rfl (.tmp 3) (.tmp 4) 33 5 (.int .u8 0) 1 rfl Tryd.underlying33 info5 rfl (by decide) (by omega) v121 y120 l0 _ _ _ (fun _ => True) (fun _ => False) rfl rfl ?aO ?aR (fun _ _ h => h) (fun _ h => h.elim) ?aF ?aB ?aS ?aL ?_; (case aR => repeat (first | exact (Kd.C_below HR0.out HB.out) | (with_reducible refine Kd.C_alloc ?_ _) | (with_reducible refine Kd.C_drewN ?_ _) | (with_reducible refine Kd.C_drew ?_))); (case aB => exact (by repeat (first | (with_reducible first | exact HB.out | apply below_alloc | apply pw_below_drewN | apply below_drew1) | exact HB.out))); (case aF => exact (fun _ _ => trivial)); (case aO => exact (by (with_reducible repeat (first | apply Kd.R_alloc | apply Kd.R_drewN | apply Kd.R_drew)); exact HO122.out)); (case aS => exact (below_size (by repeat (first | (with_reducible first | exact HB.out | apply below_alloc | apply pw_below_drewN | apply below_drew1) | exact HB.out)))); (case aL => have := LMc2.out; omega); intro v124 w5 ho hb hg hat; rw [← Ny123.out] at ho; have n0_ := Aside0.mk (hb); have n1_ := Aside0.mk (ho); clear HB; clear HO122; have HB := n0_; have HO125 := n1_; clear n0_ n1_; clear ho hb hg hat))
    go_ret
    exact ⟨_, by first | rfl | (simp [errW_none, errW_some] <;> rfl) | (simp [*, errW_none, errW_some] <;> rfl), by (with_reducible repeat (first | apply Kd.R_alloc | apply Kd.R_drewN | apply Kd.R_drew)); exact HO125.out, by repeat (first | (with_reducible first | exact HB.out | apply below_alloc | apply pw_below_drewN | apply below_drew1) | exact HB.out)⟩
  · rw [if_neg c2] at H
    exact absurd H (by simp)

end Go.Proofs.YtckjbgneblfceaaDoor.PFnVerityRead
