/- A part of the proof that FnAttributesPut answers true for all attributes, sizes and offsets. -/
import Derived.Test.YtckjbgneblfceaaDoorProg
import Derived.Below
import Derived.Deep.Draws
import Derived.Deep.AppendLies
import Derived.Maps.AppendAt
import Derived.OwnWalk
import Derived.Laws.BytesArg
import Derived.Laws.MakeOwn
import Derived.Laws.OwnMore
import Derived.Deep.OwnRows
import Derived.Tactics
import Derived.Lib.ConvBytes
import Derived.Laws.Slices
import Derived.WalkKit
import Derived.KernelRfl
import Derived.RowKit3
import Derived.Deep.LoopGhost
import Derived.Deep.QuietTactic
import Derived.BigQuiet
import Derived.WideLaws
import Derived.Deep.DeepCutAuto
import Derived.Deep.CutBlock
import Derived.Deep.RegionHeld3
import Derived.Laws.Rows
import Derived.Lib.AppendStr
import Derived.ArgAppend
import Derived.Laws.IdiomCopy
import Derived.OrdersHeld
import Derived.Laws.BitsLemmas
import Derived.RowKit
import Derived.Test.YtckjbgneblfceaaDoorUA
import Derived.WalkSpells
import Derived.Test.YtckjbgneblfceaaDoorUB
import Derived.IntWalk
import Derived.Deep.RegionHeld
namespace Go.Proofs.YtckjbgneblfceaaDoor.PFnVerityRead
open Go.RowKit Go.Proofs.YtckjbgneblfceaaDoorW.PrintWords Go.Proofs.YtckjbgneblfceaaDoorW.PrintLast Go.Proofs.YtckjbgneblfceaaDoorW.PrintMore
attribute [local go_sem] max2_int min2_int max_two min_two max_three min_three max_four min_four   -- for this text's walks alone
set_option linter.unusedVariables false
set_option linter.unusedSimpArgs false
def errW : Option Int → Value
  | none => .nilIface
  | some c => .iface 0 (.int .i64 c)
theorem errW_none : errW none = .nilIface := rfl
theorem errW_some (c : Int) : errW (some c) = .iface 0 (.int .i64 c) := rfl
theorem info5 : (Tryd.prog.info? 5).map (fun i => (i.zero, i.size, i.bytes)) = some (some (.int .u8 0), 1, 1) := by kernel_rfl
end Go.Proofs.YtckjbgneblfceaaDoor.PFnVerityRead
namespace Go.Proofs.YtckjbgneblfceaaDoor.PFnVerityRead
open Go.RowKit Go.Proofs.YtckjbgneblfceaaDoorW.PrintWords Go.Proofs.YtckjbgneblfceaaDoorW.PrintLast Go.Proofs.YtckjbgneblfceaaDoorW.PrintMore
attribute [local go_sem] max2_int min2_int max_two min_two max_three min_three max_four min_four   -- for this text's walks alone
set_option linter.unusedVariables false
set_option linter.unusedSimpArgs false
def dmverity_get32.f (l0 : List Int) : Option (Int) := if 0 < (l0.length : Int) then (if 1 < (l0.length : Int) then (if 2 < (l0.length : Int) then (if 3 < (l0.length : Int) then (some (Go.bits .or .u32 (Go.bits .or .u32 (Go.bits .or .u32 ((rd l0 0) % 4294967296) ((((rd l0 1) % 4294967296) * 256) % 4294967296)) ((((rd l0 2) % 4294967296) * 65536) % 4294967296)) ((((rd l0 3) % 4294967296) * 16777216) % 4294967296))) else (none)) else (none)) else (none)) else (none)
set_option maxHeartbeats 8000000 in
set_option maxRecDepth 100000 in
theorem dmverity_get32.calls (A0 : Option Addr) (c0 : Nat) (l0 : List Int) (r : Int) (w : World) (hr0 : Kd.C (Kd.int .u8) w A0 l0.length l0) (hc0 : l0.length ≤ c0) (h : dmverity_get32.f l0 = some r) :
    Calls Tryd.prog 67 #[.slice A0 l0.length c0] w fun e w' => e = .returned (.int .u32 r) ∧ Drawn0 w w' := by
  have HR0 := Aside0.mk hr0
  have HC0 := Aside0.mk hc0
  clear hr0 hc0
  have H : (if 0 < (l0.length : Int) then (if 1 < (l0.length : Int) then (if 2 < (l0.length : Int) then (if 3 < (l0.length : Int) then (some (Go.bits .or .u32 (Go.bits .or .u32 (Go.bits .or .u32 ((rd l0 0) % 4294967296) ((((rd l0 1) % 4294967296) * 256) % 4294967296)) ((((rd l0 2) % 4294967296) * 65536) % 4294967296)) ((((rd l0 3) % 4294967296) * 16777216) % 4294967296))) else (none)) else (none)) else (none)) else (none)) = some r := h
  clear h
  by_cases c2 : 0 < (l0.length : Int)
  · rw [if_pos c2] at H
    have c2b0 : decide (0 < (l0.length : Int)) = true := decide_eq_true c2
    have c2b1 : decide (0 < l0.length) = true := decide_eq_true (by omega)
    clear c2
    by_cases c3 : 1 < (l0.length : Int)
    · rw [if_pos c3] at H
      have c3b0 : decide (1 < (l0.length : Int)) = true := decide_eq_true c3
      have c3b1 : decide (1 < l0.length) = true := decide_eq_true (by omega)
      clear c3
      by_cases c4 : 2 < (l0.length : Int)
      · rw [if_pos c4] at H
        have c4b0 : decide (2 < (l0.length : Int)) = true := decide_eq_true c4
        have c4b1 : decide (2 < l0.length) = true := decide_eq_true (by omega)
        clear c4
        by_cases c5 : 3 < (l0.length : Int)
        · rw [if_pos c5] at H
          have c5b0 : decide (3 < (l0.length : Int)) = true := decide_eq_true c5
          have c5b1 : decide (3 < l0.length) = true := decide_eq_true (by omega)
          clear c5
          obtain rfl := Option.some.inj H
          have p101 : 0 ≤ (0 : Int) := (by omega)
          have q101 : 0 < (l0.length : Int) := of_decide_eq_true (by first | (with_reducible assumption) | assumption)
          obtain ⟨ad101, e101, hx101_0⟩ := Kd.at_int HR0.out 0 p101 q101
          cases e101
          have qi101 : (0 < l0.length) = True := eq_true (by omega)
          (try rw [show ((0 : Int)).toNat = 0 from rfl] at hx101_0)
          (try rw [Addr.add_zero'] at hx101_0)
          replace p101 := eq_true p101
          replace q101 := eq_true q101
          have p102 : 0 ≤ (1 : Int) := (by omega)
          have q102 : 1 < (l0.length : Int) := of_decide_eq_true (by first | (with_reducible assumption) | assumption)
          obtain ⟨ad102, e102, hx102_0⟩ := Kd.at_int HR0.out 1 p102 q102
          obtain rfl : ad101 = ad102 := (by injection e102)
          (try simp only [show (1 : Int).toNat = 1 from rfl, Nat.reduceMul, Nat.reduceEqDiff, Go.Addr.add, ↓reduceIte] at hx102_0)
          have qi102 : (1 < l0.length) = True := eq_true (by omega)
          (try rw [show ((1 : Int)).toNat = 1 from rfl] at hx102_0)
          replace p102 := eq_true p102
          replace q102 := eq_true q102
          have p103 : 0 ≤ (2 : Int) := (by omega)
          have q103 : 2 < (l0.length : Int) := of_decide_eq_true (by first | (with_reducible assumption) | assumption)
          obtain ⟨ad103, e103, hx103_0⟩ := Kd.at_int HR0.out 2 p103 q103
          obtain rfl : ad101 = ad103 := (by injection e103)
          (try simp only [show (2 : Int).toNat = 2 from rfl, Nat.reduceMul, Nat.reduceEqDiff, Go.Addr.add, ↓reduceIte] at hx103_0)
          have qi103 : (2 < l0.length) = True := eq_true (by omega)
          (try rw [show ((2 : Int)).toNat = 2 from rfl] at hx103_0)
          replace p103 := eq_true p103
          replace q103 := eq_true q103
          have p104 : 0 ≤ (3 : Int) := (by omega)
          have q104 : 3 < (l0.length : Int) := of_decide_eq_true (by first | (with_reducible assumption) | assumption)
          obtain ⟨ad104, e104, hx104_0⟩ := Kd.at_int HR0.out 3 p104 q104
          obtain rfl : ad101 = ad104 := (by injection e104)
          (try simp only [show (3 : Int).toNat = 3 from rfl, Nat.reduceMul, Nat.reduceEqDiff, Go.Addr.add, ↓reduceIte] at hx104_0)
          have qi104 : (3 < l0.length) = True := eq_true (by omega)
          (try rw [show ((3 : Int)).toNat = 3 from rfl] at hx104_0)
          replace p104 := eq_true p104
          replace q104 := eq_true q104
          go_enter Tryd.func67, Tryd.ntmps67
          go_wp2
          repeat (go_quiet (fail); try go_wp2)
          go_ret
          exact ⟨by first | rfl | (simp; done) | (simp [*]; done), by repeat (first | exact Drawn0.refl _ | apply Drawn0.step)⟩
        · rw [if_neg c5] at H
          exact absurd H (by simp)
      · rw [if_neg c4] at H
        exact absurd H (by simp)
    · rw [if_neg c3] at H
      exact absurd H (by simp)
  · rw [if_neg c2] at H
    exact absurd H (by simp)
def dmverity_hex.l0 : Nat → ByteArray → List Int → Int → Int → Option (ByteArray)
  | 0, _, _, _, _ => none
  | k + 1, x3, x6, x7, x8 => if x8 < x7 then (if 0 ≤ x8 then (if x8 < (x6.length : Int) then (if 0 ≤ ((rd x6 x8) / 16) then (if ((rd x6 x8) / 16) ≤ ((((rd x6 x8) / 16) + 1) % 256) then (if ((((rd x6 x8) / 16) + 1) % 256) ≤ 16 then (if 0 ≤ (Go.bits .and .u8 (rd x6 x8) 15) then (if (Go.bits .and .u8 (rd x6 x8) 15) ≤ (((Go.bits .and .u8 (rd x6 x8) 15) + 1) % 256) then (if (((Go.bits .and .u8 (rd x6 x8) 15) + 1) % 256) ≤ 16 then (if ((⟨#[48, 49, 50, 51, 52, 53, 54, 55, 56, 57, 97, 98, 99, 100, 101, 102]⟩ : ByteArray).extract (((rd x6 x8) / 16) : Int).toNat (((((rd x6 x8) / 16) + 1) % 256) : Int).toNat).size + ((⟨#[48, 49, 50, 51, 52, 53, 54, 55, 56, 57, 97, 98, 99, 100, 101, 102]⟩ : ByteArray).extract ((Go.bits .and .u8 (rd x6 x8) 15) : Int).toNat ((((Go.bits .and .u8 (rd x6 x8) 15) + 1) % 256) : Int).toNat).size ≤ 9223372036854775807 then (if x3.size + (((⟨#[48, 49, 50, 51, 52, 53, 54, 55, 56, 57, 97, 98, 99, 100, 101, 102]⟩ : ByteArray).extract (((rd x6 x8) / 16) : Int).toNat (((((rd x6 x8) / 16) + 1) % 256) : Int).toNat) ++ ((⟨#[48, 49, 50, 51, 52, 53, 54, 55, 56, 57, 97, 98, 99, 100, 101, 102]⟩ : ByteArray).extract ((Go.bits .and .u8 (rd x6 x8) 15) : Int).toNat ((((Go.bits .and .u8 (rd x6 x8) 15) + 1) % 256) : Int).toNat)).size ≤ 9223372036854775807 then (dmverity_hex.l0 k (x3 ++ (((⟨#[48, 49, 50, 51, 52, 53, 54, 55, 56, 57, 97, 98, 99, 100, 101, 102]⟩ : ByteArray).extract (((rd x6 x8) / 16) : Int).toNat (((((rd x6 x8) / 16) + 1) % 256) : Int).toNat) ++ ((⟨#[48, 49, 50, 51, 52, 53, 54, 55, 56, 57, 97, 98, 99, 100, 101, 102]⟩ : ByteArray).extract ((Go.bits .and .u8 (rd x6 x8) 15) : Int).toNat ((((Go.bits .and .u8 (rd x6 x8) 15) + 1) % 256) : Int).toNat))) x6 x7 (wrap64 (x8 + 1))) else (none)) else (none)) else (none)) else (none)) else (none)) else (none)) else (none)) else (none)) else (none)) else (none)) else (some x3)
def dmverity_hex.f (k : Nat) (l0 : List Int) : Option (ByteArray) := dmverity_hex.l0 k (⟨#[]⟩ : ByteArray) l0 (l0.length : Int) 0
theorem dmverity_hex.mono_l : ∀ k, (∀ y0 y1 y2 y3, LeO (dmverity_hex.l0 k y0 y1 y2 y3) (dmverity_hex.l0 (k + 1) y0 y1 y2 y3))
  | 0 => fun _ _ _ _ r h => by simp [dmverity_hex.l0] at h
  | k + 1 => by
    have ih0 := dmverity_hex.mono_l k
    · intro y0 y1 y2 y3
      unfold dmverity_hex.l0
      repeat' first
      | (with_reducible exact ih0 _ _ _ _)
      | (with_reducible exact LeO.refl _)
      | (with_reducible exact LeO.none _)
      | (with_reducible refine LeO.ite ?_ ?_)
      | (with_reducible refine LeO.bind ?_ (fun _ => ?_))
      | exact ih0 _ _ _ _
      | exact LeO.none _
      | refine LeO.ite ?_ ?_
      | refine LeO.bind ?_ (fun _ => ?_)
theorem dmverity_hex.mono : ∀ a0 k, LeO (dmverity_hex.f k a0) (dmverity_hex.f (k + 1) a0) := by
  intro a0 k
  have ih0 := dmverity_hex.mono_l k
  unfold dmverity_hex.f
  repeat' first
      | (with_reducible exact ih0 _ _ _ _)
      | (with_reducible exact LeO.refl _)
      | (with_reducible exact LeO.none _)
      | (with_reducible refine LeO.ite ?_ ?_)
      | (with_reducible refine LeO.bind ?_ (fun _ => ?_))
      | exact ih0 _ _ _ _
      | exact LeO.none _
      | refine LeO.ite ?_ ?_
      | refine LeO.bind ?_ (fun _ => ?_)
set_option maxHeartbeats 8000000 in
set_option maxRecDepth 100000 in
theorem dmverity_hex.calls (k : Nat) (A0 : Option Addr) (c0 : Nat) (l0 : List Int) (r : ByteArray) (w : World) (hr0 : Kd.C (Kd.int .u8) w A0 l0.length l0) (hc0 : l0.length ≤ c0) (h : dmverity_hex.f k l0 = some r) :
    Calls Tryd.prog 55 #[.slice A0 l0.length c0] w fun e w' => e = .returned (.string r) ∧ Drawn0 w w' := by
  have HR0 := Aside0.mk hr0
  have HC0 := Aside0.mk hc0
  clear hr0 hc0
  have H : (dmverity_hex.l0 k (⟨#[]⟩ : ByteArray) l0 (l0.length : Int) 0) = some r := h
  clear h
  have H' := Aside0.mk H
  clear H
  go_enter Tryd.func55, Tryd.ntmps55
  go_wp2
  repeat (go_quiet (fail); try go_wp2)
  go_loopg [3, 8] k (fun kq v3 v8 w' => ∃ (x3_1 : ByteArray) (x8_1 : Int), v3 = .string x3_1 ∧ v8 = .int .i64 x8_1 ∧ Aside0 (dmverity_hex.l0 kq x3_1 l0 (l0.length : Int) x8_1 = some r) ∧ Aside0 (kq ≤ k) ∧ Drawn0 w w')
  case atStart => exact ⟨((⟨#[]⟩ : ByteArray)), (0), (by first | rfl | (simp; done) | (simp [*]; done)), (by first | rfl | (simp; done) | (simp [*]; done)), H', ⟨Nat.le_refl _⟩, by repeat (first | exact Drawn0.refl _ | apply Drawn0.step)⟩
  case round =>
    clear H'
    obtain ⟨x3_1, x8_1, rfl, rfl, HA, HK1, ⟨m1, rfl⟩⟩ := hrel
    cases gk with
    | zero => exact absurd HA.out (by simp [dmverity_hex.l0])
    | succ k1 =>
      have H := HA.out
      clear HA
      simp only [dmverity_hex.l0] at H
      by_cases c2 : x8_1 < (l0.length : Int)
      · rw [if_pos c2] at H
        have c2b0 : decide (x8_1 < (l0.length : Int)) = true := decide_eq_true c2
        clear c2
        by_cases c3 : 0 ≤ x8_1
        · rw [if_pos c3] at H
          have c3b0 : decide (0 ≤ x8_1) = true := decide_eq_true c3
          clear c3
          by_cases c4 : x8_1 < (l0.length : Int)
          · rw [if_pos c4] at H
            have c4b0 : decide (x8_1 < (l0.length : Int)) = true := decide_eq_true c4
            clear c4
            obtain ⟨ji5, hji5⟩ : ∃ j_ : Int, ((rd l0 x8_1) / 16) = j_ := ⟨_, rfl⟩
            replace H : (if 0 ≤ (ji5) then (if (ji5) ≤ (((ji5) + 1) % 256) then (if (((ji5) + 1) % 256) ≤ 16 then (if 0 ≤ (Go.bits .and .u8 (rd l0 x8_1) 15) then (if (Go.bits .and .u8 (rd l0 x8_1) 15) ≤ (((Go.bits .and .u8 (rd l0 x8_1) 15) + 1) % 256) then (if (((Go.bits .and .u8 (rd l0 x8_1) 15) + 1) % 256) ≤ 16 then (if ((⟨#[48, 49, 50, 51, 52, 53, 54, 55, 56, 57, 97, 98, 99, 100, 101, 102]⟩ : ByteArray).extract ((ji5) : Int).toNat ((((ji5) + 1) % 256) : Int).toNat).size + ((⟨#[48, 49, 50, 51, 52, 53, 54, 55, 56, 57, 97, 98, 99, 100, 101, 102]⟩ : ByteArray).extract ((Go.bits .and .u8 (rd l0 x8_1) 15) : Int).toNat ((((Go.bits .and .u8 (rd l0 x8_1) 15) + 1) % 256) : Int).toNat).size ≤ 9223372036854775807 then (if x3_1.size + (((⟨#[48, 49, 50, 51, 52, 53, 54, 55, 56, 57, 97, 98, 99, 100, 101, 102]⟩ : ByteArray).extract ((ji5) : Int).toNat ((((ji5) + 1) % 256) : Int).toNat) ++ ((⟨#[48, 49, 50, 51, 52, 53, 54, 55, 56, 57, 97, 98, 99, 100, 101, 102]⟩ : ByteArray).extract ((Go.bits .and .u8 (rd l0 x8_1) 15) : Int).toNat ((((Go.bits .and .u8 (rd l0 x8_1) 15) + 1) % 256) : Int).toNat)).size ≤ 9223372036854775807 then (dmverity_hex.l0 k1 (x3_1 ++ (((⟨#[48, 49, 50, 51, 52, 53, 54, 55, 56, 57, 97, 98, 99, 100, 101, 102]⟩ : ByteArray).extract ((ji5) : Int).toNat ((((ji5) + 1) % 256) : Int).toNat) ++ ((⟨#[48, 49, 50, 51, 52, 53, 54, 55, 56, 57, 97, 98, 99, 100, 101, 102]⟩ : ByteArray).extract ((Go.bits .and .u8 (rd l0 x8_1) 15) : Int).toNat ((((Go.bits .and .u8 (rd l0 x8_1) 15) + 1) % 256) : Int).toNat))) l0 (l0.length : Int) (wrap64 (x8_1 + 1))) else (none)) else (none)) else (none)) else (none)) else (none)) else (none)) else (none)) else (none)) = some r := by first | (rw [hji5] at H; exact H) | (simp only [hji5] at H ⊢; exact H)
            by_cases c6 : 0 ≤ (ji5)
            · rw [if_pos c6] at H
              have c6b0 := eq_true c6
              have c6b1 : decide (0 ≤ (ji5)) = true := decide_eq_true c6
              clear c6
              by_cases c7 : (ji5) ≤ (((ji5) + 1) % 256)
              · rw [if_pos c7] at H
                have c7b0 := eq_true c7
                have c7b1 : decide ((ji5) ≤ (((ji5) + 1) % 256)) = true := decide_eq_true c7
                by_cases c8 : (((ji5) + 1) % 256) ≤ 16
                · rw [if_pos c8] at H
                  have c8b0 := eq_true c8
                  have c8b1 : decide ((((ji5) + 1) % 256) ≤ 16) = true := decide_eq_true c8
                  by_cases c9 : 0 ≤ (Go.bits .and .u8 (rd l0 x8_1) 15)
                  · rw [if_pos c9] at H
                    have c9b0 := eq_true c9
                    have c9b1 : decide (0 ≤ (Go.bits .and .u8 (rd l0 x8_1) 15)) = true := decide_eq_true c9
                    clear c9
                    by_cases c10 : (Go.bits .and .u8 (rd l0 x8_1) 15) ≤ (((Go.bits .and .u8 (rd l0 x8_1) 15) + 1) % 256)
                    · rw [if_pos c10] at H
                      have c10b0 := eq_true c10
                      have c10b1 : decide ((Go.bits .and .u8 (rd l0 x8_1) 15) ≤ (((Go.bits .and .u8 (rd l0 x8_1) 15) + 1) % 256)) = true := decide_eq_true c10
                      by_cases c11 : (((Go.bits .and .u8 (rd l0 x8_1) 15) + 1) % 256) ≤ 16
                      · rw [if_pos c11] at H
                        have c11b0 := eq_true c11
                        have c11b1 : decide ((((Go.bits .and .u8 (rd l0 x8_1) 15) + 1) % 256) ≤ 16) = true := decide_eq_true c11
                        by_cases c12 : ((⟨#[48, 49, 50, 51, 52, 53, 54, 55, 56, 57, 97, 98, 99, 100, 101, 102]⟩ : ByteArray).extract ((ji5) : Int).toNat ((((ji5) + 1) % 256) : Int).toNat).size + ((⟨#[48, 49, 50, 51, 52, 53, 54, 55, 56, 57, 97, 98, 99, 100, 101, 102]⟩ : ByteArray).extract ((Go.bits .and .u8 (rd l0 x8_1) 15) : Int).toNat ((((Go.bits .and .u8 (rd l0 x8_1) 15) + 1) % 256) : Int).toNat).size ≤ 9223372036854775807
                        · rw [if_pos c12] at H
                          have c12b0 := eq_true c12
                          have c12b1 : decide (((⟨#[48, 49, 50, 51, 52, 53, 54, 55, 56, 57, 97, 98, 99, 100, 101, 102]⟩ : ByteArray).extract ((ji5) : Int).toNat ((((ji5) + 1) % 256) : Int).toNat).size + ((⟨#[48, 49, 50, 51, 52, 53, 54, 55, 56, 57, 97, 98, 99, 100, 101, 102]⟩ : ByteArray).extract ((Go.bits .and .u8 (rd l0 x8_1) 15) : Int).toNat ((((Go.bits .and .u8 (rd l0 x8_1) 15) + 1) % 256) : Int).toNat).size ≤ 9223372036854775807) = true := decide_eq_true c12
                          try have c12b2 : (9223372036854775807 < ((⟨#[48, 49, 50, 51, 52, 53, 54, 55, 56, 57, 97, 98, 99, 100, 101, 102]⟩ : ByteArray).extract ((ji5) : Int).toNat ((((ji5) + 1) % 256) : Int).toNat).size + ((⟨#[48, 49, 50, 51, 52, 53, 54, 55, 56, 57, 97, 98, 99, 100, 101, 102]⟩ : ByteArray).extract ((Go.bits .and .u8 (rd l0 x8_1) 15) : Int).toNat ((((Go.bits .and .u8 (rd l0 x8_1) 15) + 1) % 256) : Int).toNat).size) = False := eq_false (Nat.not_lt.2 c12)
                          by_cases c13 : x3_1.size + (((⟨#[48, 49, 50, 51, 52, 53, 54, 55, 56, 57, 97, 98, 99, 100, 101, 102]⟩ : ByteArray).extract ((ji5) : Int).toNat ((((ji5) + 1) % 256) : Int).toNat) ++ ((⟨#[48, 49, 50, 51, 52, 53, 54, 55, 56, 57, 97, 98, 99, 100, 101, 102]⟩ : ByteArray).extract ((Go.bits .and .u8 (rd l0 x8_1) 15) : Int).toNat ((((Go.bits .and .u8 (rd l0 x8_1) 15) + 1) % 256) : Int).toNat)).size ≤ 9223372036854775807
                          · rw [if_pos c13] at H
                            have c13b0 := eq_true c13
                            have c13b1 : decide (x3_1.size + (((⟨#[48, 49, 50, 51, 52, 53, 54, 55, 56, 57, 97, 98, 99, 100, 101, 102]⟩ : ByteArray).extract ((ji5) : Int).toNat ((((ji5) + 1) % 256) : Int).toNat) ++ ((⟨#[48, 49, 50, 51, 52, 53, 54, 55, 56, 57, 97, 98, 99, 100, 101, 102]⟩ : ByteArray).extract ((Go.bits .and .u8 (rd l0 x8_1) 15) : Int).toNat ((((Go.bits .and .u8 (rd l0 x8_1) 15) + 1) % 256) : Int).toNat)).size ≤ 9223372036854775807) = true := decide_eq_true c13
                            try have c13b2 : (9223372036854775807 < x3_1.size + (((⟨#[48, 49, 50, 51, 52, 53, 54, 55, 56, 57, 97, 98, 99, 100, 101, 102]⟩ : ByteArray).extract ((ji5) : Int).toNat ((((ji5) + 1) % 256) : Int).toNat) ++ ((⟨#[48, 49, 50, 51, 52, 53, 54, 55, 56, 57, 97, 98, 99, 100, 101, 102]⟩ : ByteArray).extract ((Go.bits .and .u8 (rd l0 x8_1) 15) : Int).toNat ((((Go.bits .and .u8 (rd l0 x8_1) 15) + 1) % 256) : Int).toNat)).size) = False := eq_false (Nat.not_lt.2 c13)
                            have H' := Aside0.mk H
                            clear H
                            have p117 : 0 ≤ (x8_1 : Int) := of_decide_eq_true (by first | (with_reducible assumption) | assumption)
                            have q117 : x8_1 < (l0.length : Int) := of_decide_eq_true (by first | (with_reducible assumption) | assumption)
                            obtain ⟨ad117, e117, hx117_0⟩ := Kd.at_int HR0.out x8_1 p117 q117
                            cases e117
                            replace p117 := eq_true p117
                            replace q117 := eq_true q117
                            go_wp2
                            repeat (go_quiet (fail); try go_wp2)
                            go_roundg k1
                            case measure => have := HK1.out; omega
                            case rel => exact ⟨(x3_1 ++ (((⟨#[48, 49, 50, 51, 52, 53, 54, 55, 56, 57, 97, 98, 99, 100, 101, 102]⟩ : ByteArray).extract ((ji5) : Int).toNat ((((ji5) + 1) % 256) : Int).toNat) ++ ((⟨#[48, 49, 50, 51, 52, 53, 54, 55, 56, 57, 97, 98, 99, 100, 101, 102]⟩ : ByteArray).extract ((Go.bits .and .u8 (rd l0 x8_1) 15) : Int).toNat ((((Go.bits .and .u8 (rd l0 x8_1) 15) + 1) % 256) : Int).toNat))), (wrap64 (x8_1 + 1)), (by first | rfl | (simp; done) | (simp only [← hji5] <;> (first | rfl | simp)) | (simp [*]; done)), (by first | rfl | (simp; done) | (simp [*]; done)), H', ⟨by have := HK1.out; omega⟩, by repeat (first | exact Drawn0.refl _ | apply Drawn0.step)⟩
                          · rw [if_neg c13] at H
                            exact absurd H (by simp)
                        · rw [if_neg c12] at H
                          exact absurd H (by simp)
                      · rw [if_neg c11] at H
                        exact absurd H (by simp)
                    · rw [if_neg c10] at H
                      exact absurd H (by simp)
                  · rw [if_neg c9] at H
                    exact absurd H (by simp)
                · rw [if_neg c8] at H
                  exact absurd H (by simp)
              · rw [if_neg c7] at H
                exact absurd H (by simp)
            · rw [if_neg c6] at H
              exact absurd H (by simp)
          · rw [if_neg c4] at H
            exact absurd H (by simp)
        · rw [if_neg c3] at H
          exact absurd H (by simp)
      · rw [if_neg c2] at H
        have c2b0 : decide (x8_1 < (l0.length : Int)) = false := decide_eq_false c2
        clear c2
        obtain rfl := Option.some.inj H
        go_wp2
        repeat (go_quiet (fail); try go_wp2)
        go_ret
        exact ⟨by first | rfl | (simp; done) | (simp [*]; done), by repeat (first | exact Drawn0.refl _ | apply Drawn0.step)⟩
def laws_dup.f (l0 : List Int) : Option (List Int) := (some (([] : List Int) : List Int)).bind fun y120 => (if y120.length + l0.length < 140737488355328 then (some (y120 ++ l0)) else (none))
set_option maxHeartbeats 8000000 in
set_option maxRecDepth 100000 in
theorem laws_dup.calls (A0 : Option Addr) (c0 : Nat) (l0 : List Int) (r : List Int) (w : World) (hr0 : Kd.C (Kd.int .u8) w A0 l0.length l0) (hc0 : l0.length ≤ c0) (h : laws_dup.f l0 = some r) :
    Calls Tryd.prog 14 #[.slice A0 l0.length c0] w fun e w' => ∃ v0_ : Value, e = .returned (v0_) ∧ Kd.R (Kd.int .u8) 5 w' w.heap.size (fun _ => True) v0_ r ∧ Below w.heap.size w w' := by
  have HR0 := Aside0.mk hr0
  have HC0 := Aside0.mk hc0
  clear hr0 hc0
  have HB := Aside0.mk (Below.refl w.heap.size w)
  have H : ((some (([] : List Int) : List Int)).bind fun y120 => (if y120.length + l0.length < 140737488355328 then (some (y120 ++ l0)) else (none))) = some r := h
  clear h
  obtain ⟨y120, hy120⟩ : ∃ y_ : List Int, y_ = (([] : List Int)) := ⟨_, rfl⟩
  replace H : (if y120.length + l0.length < 140737488355328 then (some (y120 ++ l0)) else (none)) = some r := by first | (rw [hy120]; with_reducible exact H) | (have H2_ := (Option.bind_some _ _).symm.trans H; rw [hy120]; with_reducible exact H2_) | (have H2_ := (Option.bind_some _ _).symm.trans H; with_reducible exact H2_) | with_reducible exact H | (rw [hy120]; exact H) | exact H
  have Ny120 := Aside0.mk hy120
  clear hy120
  by_cases c2 : y120.length + l0.length < 140737488355328
  · rw [if_pos c2] at H
    have LMc2 := Aside0.mk c2
    clear c2
    obtain ⟨y123, hy123⟩ : ∃ y_ : List Int, y_ = (y120 ++ l0) := ⟨_, rfl⟩
    replace H : (some y123) = some r := by first | (rw [hy123]; with_reducible exact H) | (have H2_ := (Option.bind_some _ _).symm.trans H; rw [hy123]; with_reducible exact H2_) | (have H2_ := (Option.bind_some _ _).symm.trans H; with_reducible exact H2_) | with_reducible exact H | (rw [hy123]; exact H) | exact H
    have Ny123 := Aside0.mk hy123
    clear hy123
    obtain rfl := Option.some.inj H
    go_enter Tryd.func14, Tryd.ntmps14
    go_wp2_with (first | ((with_reducible refine gate_dst (N := 3) rfl ?_); refine Kd.R_lit (Kd.int .u8) _ 5 ?hg (N := 3) ?hd (xs := ([] : List Int)) (inner := []) (ok := fun _ => True) (okp := fun _ => True) ?hr ?hp (fun _ hk => hk) trivial (Below.refl _ _) (Nat.le_refl _) (by simp) ?_; (case hd => rfl); (case hg => rfl); (case hr => first | (go_simp; done) | (go_simp; rfl)); (case hp => exact (Reps.none _ _)); intro v121 w3 ho4 hb hg_ hnew_; clear hg_ hnew_; (first | rw [← Ny120.out] at ho4 | (simp only [Int.reduceToNat] at ho4; rw [← Ny120.out] at ho4)); have n0_ := Aside0.mk (Kd.R_lower ho4 (below_size (by repeat (first | (with_reducible first | exact HB.out | apply below_alloc | apply pw_below_drewN | apply below_drew1) | exact HB.out)))); have n1_ := Aside0.mk (below_step (by repeat (first | (with_reducible first | exact HB.out | apply below_alloc | apply pw_below_drewN | apply below_drew1) | exact HB.out)) hb); clear HB; have HO122 := n0_; have HB := n1_; clear n0_ n1_; clear hb ho4) | ((with_reducible refine gate_builtin (b := .append) (xs := #[.tmp 3, .tmp 4]) rfl ?_); at_builtin; refine Kd.R_append_rows (Kd.int .u8) (w0 := w) w.heap.size rfl (.tmp 3) (.tmp 4) 33 5 (.int .u8 0) 1 rfl Tryd.underlying33 info5 rfl (by decide) (by omega) v121 y120 l0 _ _ _ (fun _ => True) (fun _ => False) rfl rfl ?aO ?aR (fun _ _ h => h) (fun _ h => h.elim) ?aF ?aB ?aS ?aL ?_; (case aR => repeat (first | exact (Kd.C_below HR0.out HB.out) | (with_reducible refine Kd.C_alloc ?_ _) | (with_reducible refine Kd.C_drewN ?_ _) | (with_reducible refine Kd.C_drew ?_))); (case aB => exact (by repeat (first | (with_reducible first | exact HB.out | apply below_alloc | apply pw_below_drewN | apply below_drew1) | exact HB.out))); (case aF => exact (fun _ _ => trivial)); (case aO => exact (by (with_reducible repeat (first | apply Kd.R_alloc | apply Kd.R_drewN | apply Kd.R_drew)); exact HO122.out)); (case aS => exact (below_size (by repeat (first | (with_reducible first | exact HB.out | apply below_alloc | apply pw_below_drewN | apply below_drew1) | exact HB.out)))); (case aL => have := LMc2.out; omega); intro v124 w5 ho hb hg hat; rw [← Ny123.out] at ho; have n0_ := Aside0.mk (hb); have n1_ := Aside0.mk (ho); clear HB; clear HO122; have HB := n0_; have HO125 := n1_; clear n0_ n1_; clear ho hb hg hat))
    go_ret
    exact ⟨_, by first | rfl | (simp [errW_none, errW_some] <;> rfl) | (simp [*, errW_none, errW_some] <;> rfl), by (with_reducible repeat (first | apply Kd.R_alloc | apply Kd.R_drewN | apply Kd.R_drew)); exact HO125.out, by repeat (first | (with_reducible first | exact HB.out | apply below_alloc | apply pw_below_drewN | apply below_drew1) | exact HB.out)⟩
  · rw [if_neg c2] at H
    exact absurd H (by simp)
end Go.Proofs.YtckjbgneblfceaaDoor.PFnVerityRead
namespace Go.Proofs.YtckjbgneblfceaaDoor.PFnVerityRead
open Go.RowKit Go.Proofs.YtckjbgneblfceaaDoorW.PrintWords Go.Proofs.YtckjbgneblfceaaDoorW.PrintLast Go.Proofs.YtckjbgneblfceaaDoorW.PrintMore
attribute [local go_sem] max2_int min2_int max_two min_two max_three min_three max_four min_four   -- for this text's walks alone
set_option linter.unusedVariables false
set_option linter.unusedSimpArgs false
def spec_le.l0 : Nat → List Int → Int → Int → Int → Option (Int)
  | 0, _, _, _, _ => none
  | k + 1, x0, x1, x7, x8 => if x8 > 0 then (if (IntKind.u64.wrap ((IntKind.u64.wrap (x1 + x8)) - 1)) ≥ x1 then (if (IntKind.u64.wrap ((IntKind.u64.wrap (x1 + x8)) - 1)) < (IntKind.u64.wrap ((x0.length : Int))) then (if 0 ≤ (IntKind.u64.wrap ((IntKind.u64.wrap (x1 + x8)) - 1)) then (if (IntKind.u64.wrap ((IntKind.u64.wrap (x1 + x8)) - 1)) < (x0.length : Int) then (spec_le.l0 k x0 x1 (Go.bits .or .u64 (IntKind.u64.wrap (x7 * 256)) (IntKind.u64.wrap (rd x0 (IntKind.u64.wrap ((IntKind.u64.wrap (x1 + x8)) - 1))))) (IntKind.u64.wrap (x8 - 1))) else (none)) else (none)) else (spec_le.l0 k x0 x1 (IntKind.u64.wrap (x7 * 256)) (IntKind.u64.wrap (x8 - 1)))) else (spec_le.l0 k x0 x1 (IntKind.u64.wrap (x7 * 256)) (IntKind.u64.wrap (x8 - 1)))) else (some x7)
def spec_le.f (k : Nat) (l0 : List Int) (a1 : Int) (a2 : Int) : Option (Int) := spec_le.l0 k l0 a1 0 a2
theorem spec_le.mono_l : ∀ k, (∀ y0 y1 y2 y3, LeO (spec_le.l0 k y0 y1 y2 y3) (spec_le.l0 (k + 1) y0 y1 y2 y3))
  | 0 => fun _ _ _ _ r h => by simp [spec_le.l0] at h
  | k + 1 => by
    have ih0 := spec_le.mono_l k
    · intro y0 y1 y2 y3
      unfold spec_le.l0
      repeat' first
      | (with_reducible exact ih0 _ _ _ _)
      | (with_reducible exact LeO.refl _)
      | (with_reducible exact LeO.none _)
      | (with_reducible refine LeO.ite ?_ ?_)
      | (with_reducible refine LeO.bind ?_ (fun _ => ?_))
      | exact ih0 _ _ _ _
      | exact LeO.none _
      | refine LeO.ite ?_ ?_
      | refine LeO.bind ?_ (fun _ => ?_)
theorem spec_le.mono : ∀ a0 a1 a2 k, LeO (spec_le.f k a0 a1 a2) (spec_le.f (k + 1) a0 a1 a2) := by
  intro a0 a1 a2 k
  have ih0 := spec_le.mono_l k
  unfold spec_le.f
  repeat' first
      | (with_reducible exact ih0 _ _ _ _)
      | (with_reducible exact LeO.refl _)
      | (with_reducible exact LeO.none _)
      | (with_reducible refine LeO.ite ?_ ?_)
      | (with_reducible refine LeO.bind ?_ (fun _ => ?_))
      | exact ih0 _ _ _ _
      | exact LeO.none _
      | refine LeO.ite ?_ ?_
      | refine LeO.bind ?_ (fun _ => ?_)
set_option maxHeartbeats 8000000 in
set_option maxRecDepth 100000 in
theorem spec_le.calls (k : Nat) (A0 : Option Addr) (c0 : Nat) (l0 : List Int) (a1 : Int) (a2 : Int) (r : Int) (w : World) (hr0 : Kd.C (Kd.int .u8) w A0 l0.length l0) (hc0 : l0.length ≤ c0) (h : spec_le.f k l0 a1 a2 = some r) :
    Calls Tryd.prog 33 #[.slice A0 l0.length c0, .int .u64 a1, .int .u64 a2] w fun e w' => e = .returned (.int .u64 r) ∧ Drawn0 w w' := by
  have HR0 := Aside0.mk hr0
  have HC0 := Aside0.mk hc0
  clear hr0 hc0
  have H : (spec_le.l0 k l0 a1 0 a2) = some r := h
  clear h
  have H' := Aside0.mk H
  clear H
  go_enter Tryd.func33, Tryd.ntmps33
  go_wp2
  go_loopg [7, 8] k (fun kq v7 v8 w' => ∃ (x7_1 : Int) (x8_1 : Int), v7 = .int .u64 x7_1 ∧ v8 = .int .u64 x8_1 ∧ Aside0 (spec_le.l0 kq l0 a1 x7_1 x8_1 = some r) ∧ Aside0 (kq ≤ k) ∧ Drawn0 w w')
  case atStart => exact ⟨(0), (a2), (by first | rfl | (simp; done) | (simp [*]; done)), (by first | rfl | (simp; done) | (simp [*]; done)), H', ⟨Nat.le_refl _⟩, by repeat (first | exact Drawn0.refl _ | apply Drawn0.step)⟩
  case round =>
    clear H'
    try clear p2
    try clear c3
    obtain ⟨x7_1, x8_1, rfl, rfl, HA, HK1, ⟨m1, rfl⟩⟩ := hrel
    cases gk with
    | zero => exact absurd HA.out (by simp [spec_le.l0])
    | succ k1 =>
      have H := HA.out
      clear HA
      simp only [spec_le.l0] at H
      by_cases c4 : x8_1 > 0
      · rw [if_pos c4] at H
        have c4b0 : decide (0 < x8_1) = true := decide_eq_true c4
        clear c4
        by_cases c5 : (IntKind.u64.wrap ((IntKind.u64.wrap (a1 + x8_1)) - 1)) ≥ a1
        · rw [if_pos c5] at H
          have c5b0 : decide (a1 ≤ (IntKind.u64.wrap ((IntKind.u64.wrap (a1 + x8_1)) - 1))) = true := decide_eq_true c5
          clear c5
          by_cases c6 : (IntKind.u64.wrap ((IntKind.u64.wrap (a1 + x8_1)) - 1)) < (IntKind.u64.wrap ((l0.length : Int)))
          · rw [if_pos c6] at H
            have c6b0 : decide ((IntKind.u64.wrap ((IntKind.u64.wrap (a1 + x8_1)) - 1)) < (IntKind.u64.wrap ((l0.length : Int)))) = true := decide_eq_true c6
            clear c6
            obtain ⟨ji7, hji7⟩ : ∃ j_ : Int, (IntKind.u64.wrap ((IntKind.u64.wrap (a1 + x8_1)) - 1)) = j_ := ⟨_, rfl⟩
            replace H : (if 0 ≤ (ji7) then (if (ji7) < (l0.length : Int) then (spec_le.l0 k1 l0 a1 (Go.bits .or .u64 (IntKind.u64.wrap (x7_1 * 256)) (IntKind.u64.wrap (rd l0 (ji7)))) (IntKind.u64.wrap (x8_1 - 1))) else (none)) else (none)) = some r := by first | (rw [hji7] at H; exact H) | (simp only [hji7] at H ⊢; exact H)
            (try rw [hji7] at c5b0)
            (try rw [hji7] at c6b0)
            by_cases c8 : 0 ≤ (ji7)
            · rw [if_pos c8] at H
              have c8b0 : decide (0 ≤ (ji7)) = true := decide_eq_true c8
              clear c8
              by_cases c9 : (ji7) < (l0.length : Int)
              · rw [if_pos c9] at H
                have c9b0 : decide ((ji7) < (l0.length : Int)) = true := decide_eq_true c9
                clear c9
                have H' := Aside0.mk H
                clear H
                have p138 : 0 ≤ ((ji7) : Int) := of_decide_eq_true (by first | (with_reducible assumption) | assumption)
                have q138 : (ji7) < (l0.length : Int) := of_decide_eq_true (by first | (with_reducible assumption) | assumption)
                obtain ⟨ad138, e138, hx138_0⟩ := Kd.at_int HR0.out (ji7) p138 q138
                cases e138
                replace p138 := eq_true p138
                replace q138 := eq_true q138
                go_wp2
                go_roundg k1
                case measure => have := HK1.out; omega
                case rel => exact ⟨(Go.bits .or .u64 (IntKind.u64.wrap (x7_1 * 256)) (IntKind.u64.wrap (rd l0 (ji7)))), (IntKind.u64.wrap (x8_1 - 1)), (by first | rfl | (simp; done) | (simp only [← hji7] <;> (first | rfl | simp)) | (simp [*]; done)), (by first | rfl | (simp; done) | (simp [*]; done)), H', ⟨by have := HK1.out; omega⟩, by repeat (first | exact Drawn0.refl _ | apply Drawn0.step)⟩
              · rw [if_neg c9] at H
                exact absurd H (by simp)
            · rw [if_neg c8] at H
              exact absurd H (by simp)
          · rw [if_neg c6] at H
            have c6b0 : decide ((IntKind.u64.wrap ((IntKind.u64.wrap (a1 + x8_1)) - 1)) < (IntKind.u64.wrap ((l0.length : Int)))) = false := decide_eq_false c6
            clear c6
            have H' := Aside0.mk H
            clear H
            go_wp2
            go_roundg k1
            case measure => have := HK1.out; omega
            case rel => exact ⟨(IntKind.u64.wrap (x7_1 * 256)), (IntKind.u64.wrap (x8_1 - 1)), (by first | rfl | (simp; done) | (simp [*]; done)), (by first | rfl | (simp; done) | (simp [*]; done)), H', ⟨by have := HK1.out; omega⟩, by repeat (first | exact Drawn0.refl _ | apply Drawn0.step)⟩
        · rw [if_neg c5] at H
          have c5b0 : decide (a1 ≤ (IntKind.u64.wrap ((IntKind.u64.wrap (a1 + x8_1)) - 1))) = false := decide_eq_false c5
          clear c5
          have H' := Aside0.mk H
          clear H
          go_wp2
          go_roundg k1
          case measure => have := HK1.out; omega
          case rel => exact ⟨(IntKind.u64.wrap (x7_1 * 256)), (IntKind.u64.wrap (x8_1 - 1)), (by first | rfl | (simp; done) | (simp [*]; done)), (by first | rfl | (simp; done) | (simp [*]; done)), H', ⟨by have := HK1.out; omega⟩, by repeat (first | exact Drawn0.refl _ | apply Drawn0.step)⟩
      · rw [if_neg c4] at H
        have c4b0 : decide (0 < x8_1) = false := decide_eq_false c4
        clear c4
        obtain rfl := Option.some.inj H
        go_wp2
        go_ret
        exact ⟨by first | rfl | (simp; done) | (simp [*]; done), by repeat (first | exact Drawn0.refl _ | apply Drawn0.step)⟩
end Go.Proofs.YtckjbgneblfceaaDoor.PFnVerityRead
namespace Go.Proofs.YtckjbgneblfceaaDoor.Da
open Go.RowKit Go.Maps Go.Proofs.YtckjbgneblfceaaDoorW.PrintWords Go.Proofs.YtckjbgneblfceaaDoorW.PrintLast Go.Proofs.YtckjbgneblfceaaDoorW.PrintMore
open Go.Proofs.YtckjbgneblfceaaDoor.PFnVerityRead Go.Proofs.YtckjbgneblfceaaDoor.Fa
set_option linter.unusedVariables false
set_option linter.unusedSimpArgs false
/-- A row of bytes of the call's own. -/
def Row (w : World) (v : Value) (l : List Int) (W : World) : Prop := Kd.R (Kd.int .u8) 5 W w.heap.size (fun _ => True) v l ∧ Below w.heap.size w W
theorem Row.nil (w : World) : Row w (.slice none 0 0) [] w := ⟨Kd.R_nil _ _ _ _ _, Below.refl _ _⟩
theorem Row.drew {w W : World} {v : Value} {l : List Int} (h : Row w v l W) : Row w v l W.drew := ⟨Kd.R_drew h.1, below_drew h.2⟩
theorem Row.alloc {w W : World} {v : Value} {l : List Int} (h : Row w v l W) (o : Obj) : Row w v l (W.alloc o) := ⟨Kd.R_alloc h.1 o, below_alloc h.2 o⟩
theorem Row.drewN {w W : World} {v : Value} {l : List Int} (h : Row w v l W) (n : Nat) : Row w v l (W.drewN n) := ⟨Kd.R_drewN h.1 n, pw_below_drewN h.2 n⟩
section
variable {ops : Array Oper} {rest : List Oper} {o : Oper} {a : Act} {Q : Exit → Act → World → Prop}
end
def InBytes (l : List Int) : Prop := ∀ x ∈ l, 0 ≤ x ∧ x < 256
theorem inb_app {a b : List Int} (ha : InBytes a) (hb : InBytes b) : InBytes (a ++ b) := by
  intro x hx; rcases List.mem_append.1 hx with h | h
  · exact ha x h
  · exact hb x h
theorem rep_in (n : Nat) : InBytes (List.replicate n 0) := by intro x hx; rw [List.eq_of_mem_replicate hx]; omega
theorem row_u8L (W : World) (g o : Nat) (l : List Int) (hl : l.length ≤ 10000000) (h : ∀ k x, l[k]? = some x → W.cell? ⟨g, o + k, none⟩ = some (.int .u8 x)) :
    ReadsRow (fun (x : Int) (cs : List Value) => cs = [.int .u8 x]) 1 W (some ⟨g, o, none⟩) l.length l := by
  refine ⟨rfl, by omega, fun _ => ⟨_, rfl, fun j p hj => ⟨[.int .u8 p], rfl, rfl, fun i u hi => ?_⟩⟩⟩
  match i, hi with
  | 0, hi =>
    simp at hi
    subst hi
    have h1 := h j p hj
    have h2 : (⟨g, o, none⟩ : Addr).add (j * 1 + 0) = ⟨g, o + j, none⟩ := by
      simp [Addr.add]
    rw [h2]; exact h1
section
variable {ops : Array Oper} {rest : List Oper} {o : Oper} {a : Act} {Q : Exit → Act → World → Prop}
end
/-- The digest's cells. -/
def Dig (gd : Nat) (A B C D : Int) (w : World) : Prop := w.cell? ⟨gd, 0, none⟩ = some (.int .u64 A) ∧ w.cell? ⟨gd, 1, none⟩ = some (.int .u64 B) ∧ w.cell? ⟨gd, 2, none⟩ = some (.int .u64 C) ∧ w.cell? ⟨gd, 3, none⟩ = some (.int .u64 D)
theorem Dig.later {gd : Nat} {A B C D : Int} {w W : World} (h : Dig gd A B C D w) (hb : Below w.heap.size w W) : Dig gd A B C D W := ⟨cell_later hb h.1, cell_later hb h.2.1, cell_later hb h.2.2.1, cell_later hb h.2.2.2⟩
/-- Bytes that lie at a place. -/
def Lies (g o : Nat) (b : List Int) (w : World) : Prop := ∀ k x, b[k]? = some x → w.cell? ⟨g, o + k, none⟩ = some (.int .u8 x)
theorem Lies.later {g o : Nat} {b : List Int} {w W : World} (h : Lies g o b w) (hb : Below w.heap.size w W) : Lies g o b W := fun k x hk => cell_later hb (h k x hk)
end Go.Proofs.YtckjbgneblfceaaDoor.Da
namespace Go.Proofs.YtckjbgneblfceaaDoor.Da
open Go.RowKit Go.Maps Go.Proofs.YtckjbgneblfceaaDoorW.PrintWords Go.Proofs.YtckjbgneblfceaaDoorW.PrintLast Go.Proofs.YtckjbgneblfceaaDoorW.PrintMore
open Go.Proofs.YtckjbgneblfceaaDoor.PFnVerityRead Go.Proofs.YtckjbgneblfceaaDoor.Fa
set_option linter.unusedVariables false
set_option linter.unusedSimpArgs false
def lenOf : Value → Nat
  | .slice _ m _ => m
  | _ => 0
/-- Four words, not frozen. -/
def D4 (gd : Nat) (l : List Int) (W : World) : Prop := ∀ j x, l[j]? = some x → W.cell? ⟨gd, j, none⟩ = some (.int .u64 x) ∧ W.frozen? ⟨gd, j, none⟩ = false
theorem D4.set {gd : Nat} {l : List Int} {W : World} (h : D4 gd l W) (i : Nat) (y : Int) (hi : i < l.length) : D4 gd (l.set i y) (W.setCell ⟨gd, i, none⟩ (.int .u64 y)) := by
  intro j x hj
  have hjl : j < l.length := by have := (List.getElem?_eq_some_iff.1 hj).1; simpa using this
  by_cases he : j = i
  · subst he
    rw [List.getElem?_set_self hi] at hj
    obtain rfl := Option.some.inj hj
    have h1 := h j _ (List.getElem?_eq_getElem hi)
    exact ⟨World.cell?_setCell_same (w := W) (a := _) (v := _) h1.1, by simpa using h1.2⟩
  · rw [List.getElem?_set_ne (fun e => he e.symm)] at hj
    have h1 := h j x hj
    exact ⟨by rw [World.cell?_setCell_other (w := W) (a := ⟨gd, i, none⟩) (b := ⟨gd, j, none⟩) (v := _) (by intro e; simp at e; first | omega | done)]; exact h1.1, by simpa using h1.2⟩
/-- Parts that lie at places. -/
def Parts (gp : Nat) (L : List (List Int)) (pl : Nat → Nat × Nat × Nat) (W : World) : Prop := ∀ k b, L[k]? = some b → W.cell? ⟨gp, k, none⟩ = some (.slice (some ⟨(pl k).1, (pl k).2.1, none⟩) b.length (pl k).2.2) ∧ Lies (pl k).1 (pl k).2.1 b W ∧ InBytes b ∧ b.length ≤ 100000
theorem Parts.later {gp : Nat} {L : List (List Int)} {pl} {w W : World} (h : Parts gp L pl w) (hb : Below w.heap.size w W) : Parts gp L pl W := fun k b hk => ⟨cell_later hb (h k b hk).1, (h k b hk).2.1.later hb, (h k b hk).2.2⟩
end Go.Proofs.YtckjbgneblfceaaDoor.Da
namespace Go.Proofs.YtckjbgneblfceaaDoor.Da
open Go.RowKit Go.Maps Go.Proofs.YtckjbgneblfceaaDoorW.PrintWords Go.Proofs.YtckjbgneblfceaaDoorW.PrintLast Go.Proofs.YtckjbgneblfceaaDoorW.PrintMore
open Go.Proofs.YtckjbgneblfceaaDoor.PFnVerityRead Go.Proofs.YtckjbgneblfceaaDoor.Fa
set_option linter.unusedVariables false
set_option linter.unusedSimpArgs false
theorem C_of_lies {W : World} {g o : Nat} {l : List Int} (h : Lies g o l W) (hl : l.length ≤ 10000000) : Kd.C (Kd.int .u8) W (some ⟨g, o, none⟩) l.length l := row_u8L W g o l hl h
theorem Lies.part {g o : Nat} {b : List Int} {w : World} (h : Lies g o b w) (i m : Nat) : Lies g (o + i) ((b.drop i).take m) w := by
  intro k x hk
  rw [Nat.add_assoc]
  refine h (i + k) x ?_
  rw [List.getElem?_take] at hk
  split at hk
  · rwa [List.getElem?_drop] at hk
  · cases hk
theorem Lies.tail {g o : Nat} {b : List Int} {w : World} (h : Lies g o b w) (i : Nat) : Lies g (o + i) (b.drop i) w := by
  intro k x hk
  rw [Nat.add_assoc]
  exact h (i + k) x (by rwa [List.getElem?_drop] at hk)
theorem InBytes.drop {b : List Int} (h : InBytes b) (i : Nat) : InBytes (b.drop i) := fun x hx => h x (List.mem_of_mem_drop hx)
theorem InBytes.take {b : List Int} (h : InBytes b) (i : Nat) : InBytes (b.take i) := fun x hx => h x (List.mem_of_mem_take hx)
theorem InBytes.at {b : List Int} (h : InBytes b) (i : Nat) : 0 ≤ b.getD i 0 ∧ b.getD i 0 < 256 := by
  rw [List.getD_eq_getElem?_getD]
  by_cases hi : i < b.length
  · rw [List.getElem?_eq_getElem hi]; exact h _ (List.getElem_mem hi)
  · rw [List.getElem?_eq_none (by omega)]; decide
/-- The number of n bytes from a place on, the lowest first. -/
def leF (b : List Int) (o : Nat) : Nat → Int
  | 0 => 0
  | n + 1 => b.getD o 0 + 256 * leF b (o + 1) n
theorem leF_range {b : List Int} (h : InBytes b) : ∀ n o, 0 ≤ leF b o n ∧ leF b o n < 256 ^ n
  | 0, o => by simp [leF]
  | n + 1, o => by
    have h1 := leF_range h n (o + 1)
    have h2 := h.at o
    simp only [leF, Int.pow_succ]
    omega
theorem bor_comm (k : IntKind) (a b : Int) : bits .or k a b = bits .or k b a := by
  simp only [bits, BitVec.or_comm]
theorem w16 (n : Int) (h : 0 ≤ n) (h1 : n < 2 ^ 16) : IntKind.u16.wrap n = n := by simp only [IntKind.wrap, IntKind.bits, IntKind.signed]; simp; omega
theorem w32 (n : Int) (h : 0 ≤ n) (h1 : n < 2 ^ 32) : IntKind.u32.wrap n = n := by rw [IntKind.wrap_u32]; omega
theorem w64 (n : Int) (h : 0 ≤ n) (h1 : n < 2 ^ 64) : IntKind.u64.wrap n = n := by simp only [IntKind.wrap, IntKind.bits, IntKind.signed]; simp; omega
theorem or64 (x y : Int) (hx : 0 ≤ x) (hx1 : x * 256 < 2 ^ 64) (hy : 0 ≤ y) (hy1 : y < 256) : bits .or .u64 (x * 256) y = y + 256 * x := by
  rw [bits_join .u64 64 (by decide) w64 8 _ _ (by omega) (by omega) hx1 hy (by omega) (by omega)]; omega
theorem drawn_below {w w' : World} (h : Drawn0 w w') : Below w.heap.size w w' := h.below
end Go.Proofs.YtckjbgneblfceaaDoor.Da
namespace Go.Proofs.YtckjbgneblfceaaDoor.Dr
open Go
section
variable {P : Program} {ops : Array Oper} {Q : Exit → Act → World → Prop} {md : Region.Mode}
def left (ops : Array Oper) (listed : Array Bool) : Nat := (List.range ops.size).countP fun i => !listed.getD i true
end
end Go.Proofs.YtckjbgneblfceaaDoor.Dr
namespace Go.Proofs.YtckjbgneblfceaaDoor.Da
open Go.RowKit Go.Maps Go.Proofs.YtckjbgneblfceaaDoorW.PrintWords Go.Proofs.YtckjbgneblfceaaDoorW.PrintLast Go.Proofs.YtckjbgneblfceaaDoorW.PrintMore
open Go.Proofs.YtckjbgneblfceaaDoor.PFnVerityRead Go.Proofs.YtckjbgneblfceaaDoor.Fa Go.Proofs.YtckjbgneblfceaaDoor.Fm
set_option linter.unusedVariables false
set_option linter.unusedSimpArgs false
def Sb (g : Nat) (f : Nat → Value) (W : World) : Prop := ∀ j, j < 318 → W.cell? ⟨g, j, none⟩ = some (f j) ∧ W.frozen? ⟨g, j, none⟩ = false
/-- Cells laid over. -/
def lay (o n : Nat) (e : Nat → Value) (f : Nat → Value) : Nat → Value := fun j => if o ≤ j ∧ j < o + n then e (j - o) else f j
structure Pst (g gs : Nat) (b : List Int) (w0 : World) (f : Nat → Value) (W : World) : Prop where
  sb : Sb g f W
  src : Lies gs 0 b W
  mv : Moves (fun k => k = g) w0 W
  ne : gs ≠ g
section
variable {g gs : Nat} {b : List Int} {w0 W V : World} {f : Nat → Value}
theorem Pst.lt (h : Pst g gs b w0 f W) : g < W.heap.size := World.block_lt_of_cell? _ _ (h.sb 0 (by omega)).1
theorem Pst.below (h : Pst g gs b w0 f W) (hb : Below W.heap.size W V) : Pst g gs b w0 f V :=
  ⟨fun j hj => ⟨cell_later hb (h.sb j hj).1, (hb.frozen (p := ⟨g, j, none⟩) h.lt).trans (h.sb j hj).2⟩, h.src.later hb, h.mv.below hb, h.ne⟩
theorem Pst.drew (h : Pst g gs b w0 f W) : Pst g gs b w0 f W.drew := h.below (below_drew (Below.refl _ _))
theorem Pst.drewN (h : Pst g gs b w0 f W) (n : Nat) : Pst g gs b w0 f (W.drewN n) := h.below (pw_below_drewN (Below.refl _ _) n)
theorem Pst.set (h : Pst g gs b w0 f W) (i : Nat) (hi : i < 318) (v : Value) : Pst g gs b w0 (lay i 1 (fun _ => v) f) (W.setCell ⟨g, i, none⟩ v) := by
  refine ⟨fun j hj => ⟨?_, by simpa using (h.sb j hj).2⟩, fun k x hk => ?_, h.mv.setCell (.inl rfl) v, h.ne⟩
  · unfold lay
    by_cases he : j = i
    · subst he
      rw [if_pos (by omega)]
      exact World.cell?_setCell_same (w := W) (a := _) (v := _) (h.sb j hj).1
    · rw [if_neg (by omega), World.cell?_setCell_other (w := W) (a := ⟨g, i, none⟩) (b := ⟨g, j, none⟩) (v := _) (by intro e; simp at e <;> omega)]
      exact (h.sb j hj).1
  · rw [World.cell?_setCell_other (w := W) (a := ⟨g, i, none⟩) (b := ⟨gs, 0 + k, none⟩) (v := _) (by intro e; simp at e; exact h.ne e.1.symm)]
    exact h.src k x hk
theorem Moves.setCells {S : Nat → Prop} {w W : World} (h : Moves S w W) {g : Nat} (hp : S g) (o : Nat) (vs : List Value) : Moves S w (W.setCells g o vs) := by
  obtain ⟨s1, s2, s3, s4⟩ := setCells_same g vs o W
  exact ⟨s1.trans h.os, s2.trans h.tape, s3.trans h.output, by rw [s4]; exact h.size, fun k hk hn => (setCells_far vs o k (fun e => hn (e ▸ hp))).trans (h.block k hk hn)⟩
theorem Pst.laid (h : Pst g gs b w0 f W) (o : Nat) (ys : List Int) (ho : o + ys.length ≤ 318) : Pst g gs b w0 (lay o ys.length (fun k => .int .u8 (ys.getD k 0)) f) (W.setCells g o (encs (Value.int .u8) ys)) := by
  refine ⟨fun j hj => ⟨?_, by rw [World.frozen?_setCells]; exact (h.sb j hj).2⟩, fun k x hk => ?_, Moves.setCells h.mv rfl o _, h.ne⟩
  · unfold lay
    by_cases hin : o ≤ j ∧ j < o + ys.length
    · rw [if_pos hin]
      obtain ⟨i, rfl⟩ : ∃ i, j = o + i := ⟨j - o, by omega⟩
      have hil : i < (encs (Value.int .u8) ys).length := by rw [encs_length]; omega
      rw [World.cell?_setCells_in g _ o W (fun q hq => by rw [encs_length] at hq; rw [(h.sb (o + q) (by omega)).1]; rfl) i hil, Nat.add_sub_cancel_left]
      congr 1
      have := encs_get (enc := Value.int .u8) (d := (0 : Int)) ys i (by omega)
      rw [List.getElem?_eq_getElem hil] at this
      exact Option.some.inj this
    · rw [if_neg hin, World.cell?_setCells_out g _ o W _ (fun _ _ => by rw [encs_length]; show j < o ∨ o + ys.length ≤ j; omega)]
      exact (h.sb j hj).1
  · rw [World.cell?_setCells_out g _ o W _ (fun e _ => absurd e h.ne)]
    exact h.src k x hk
variable {ops : Array Oper} {rest : List Oper} {o : Oper} {a : Act} {Q : Exit → Act → World → Prop} {Kc : Act → World → Prop}
end
theorem leF_drop (b : List Int) (i : Nat) : ∀ n o, leF (b.drop i) o n = leF b (i + o) n
  | 0, _ => rfl
  | n + 1, o => by
    rw [leF, leF, leF_drop b i n (o + 1), List.getD_eq_getElem?_getD, List.getD_eq_getElem?_getD, List.getElem?_drop]; rfl
/-- What the superblock tells of the bytes. -/
structure Told (b : List Int) (f : Nat → Value) : Prop where
  sig : ∀ k, k < 8 → f (0 + k) = .int .u8 (b.getD (0 + k) 0)
  ver : f 8 = .int .u32 (leF b 8 4)
  alg : ∀ k, k < 32 → f (26 + k) = .int .u8 (b.getD (32 + k) 0)
  dbs : f 58 = .int .u32 (leF b 64 4)
  blk : f 60 = .int .u64 (leF b 72 8)
  siz : f 61 = .int .u16 (leF b 80 2)
  slt : ∀ k, k < 256 → f (62 + k) = .int .u8 (b.getD (88 + k) 0)
end Go.Proofs.YtckjbgneblfceaaDoor.Da
namespace Go.Proofs.YtckjbgneblfceaaDoor.Da
open Go.RowKit Go.Maps Go.Proofs.YtckjbgneblfceaaDoorW.PrintWords Go.Proofs.YtckjbgneblfceaaDoorW.PrintLast Go.Proofs.YtckjbgneblfceaaDoorW.PrintMore
open Go.Proofs.YtckjbgneblfceaaDoor.PFnVerityRead Go.Proofs.YtckjbgneblfceaaDoor.Fa Go.Proofs.YtckjbgneblfceaaDoor.Fm
set_option linter.unusedVariables false
set_option linter.unusedSimpArgs false
theorem leF_take (b : List Int) (m : Nat) : ∀ n o, o + n ≤ m → leF (b.take m) o n = leF b o n
  | 0, _, _ => rfl
  | n + 1, o, h => by
    rw [leF, leF, leF_take b m n (o + 1) (by omega), List.getD_eq_getElem?_getD, List.getD_eq_getElem?_getD, List.getElem?_take_of_lt (by omega)]
/-- The superblock as read of b, in block g. -/
structure Dv (g : Nat) (b : List Int) (w W : World) : Prop where
  sig : Lies g 0 (b.take 8) W
  alg : Lies g 26 ((b.drop 32).take 32) W
  slt : Lies g 62 ((b.drop 88).take 256) W
  c8 : W.cell? ⟨g, 8, none⟩ = some (.int .u32 (leF b 8 4))
  c58 : W.cell? ⟨g, 58, none⟩ = some (.int .u32 (leF b 64 4))
  c60 : W.cell? ⟨g, 60, none⟩ = some (.int .u64 (leF b 72 8))
  c61 : W.cell? ⟨g, 61, none⟩ = some (.int .u16 (leF b 80 2))
  bel : Below w.heap.size w W
theorem Dv.later {g : Nat} {b : List Int} {w W V : World} (h : Dv g b w W) (hb : Below W.heap.size W V) : Dv g b w V :=
  ⟨h.sig.later hb, h.alg.later hb, h.slt.later hb, cell_later hb h.c8, cell_later hb h.c58, cell_later hb h.c60, cell_later hb h.c61, below_then h.bel h.bel.size hb⟩
theorem Dv.four {g : Nat} {b : List Int} {w W : World} (h : Dv g b w W) {m : Nat} {x60 x58 x8 : Int} (hm : leF b 80 2 = m) (h60 : x60 = leF b 72 8) (h58 : x58 = leF b 64 4) (h8 : x8 = leF b 8 4) :
    W.cell? ⟨g, 61, none⟩ = some (.int .u16 m) ∧ W.cell? ⟨g, 60, none⟩ = some (.int .u64 x60) ∧ W.cell? ⟨g, 58, none⟩ = some (.int .u32 x58) ∧ W.cell? ⟨g, 8, none⟩ = some (.int .u32 x8) := by
  rw [h60, h58, h8, ← hm]
  exact ⟨h.c61, h.c60, h.c58, h.c8⟩
end Go.Proofs.YtckjbgneblfceaaDoor.Da
namespace Go.Proofs.YtckjbgneblfceaaDoor.Da
open Go.RowKit Go.Maps Go.Proofs.YtckjbgneblfceaaDoorW.PrintWords Go.Proofs.YtckjbgneblfceaaDoorW.PrintLast Go.Proofs.YtckjbgneblfceaaDoorW.PrintMore
open Go.Proofs.YtckjbgneblfceaaDoor.PFnVerityRead Go.Proofs.YtckjbgneblfceaaDoor.Fa Go.Proofs.YtckjbgneblfceaaDoor.Fm
set_option linter.unusedVariables false
set_option linter.unusedSimpArgs false
def zeroC : Array Value := #[.string ⟨#[]⟩, .string ⟨#[]⟩, .string ⟨#[]⟩, .int .u32 0, .int .u32 0, .int .u64 0, .int .u32 0, .int .i64 0]
def digC (A B C D : Int) : Array Value := #[.int .u64 A, .int .u64 B, .int .u64 C, .int .u64 D]
/-- The two blocks of the body: the words of the hash, and the result. -/
structure Own2 (A B C D : Int) (w W : World) : Prop where
  dg : W.heap[w.heap.size]? = some (.cells (digC A B C D) 32 (0, 0))
  vr : W.heap[w.heap.size + 1]? = some (.cells zeroC 37 (0, 0))
  bel : Below w.heap.size w W
theorem blk_lt {W : World} {g : Nat} {x : Obj} (h : W.heap[g]? = some x) : g < W.heap.size := by
  rcases Nat.lt_or_ge g W.heap.size with h1 | h1
  · exact h1
  · rw [Array.getElem?_eq_none h1] at h; cases h
theorem Own2.later {A B C D : Int} {w W V : World} (h : Own2 A B C D w W) (hb : Below W.heap.size W V) : Own2 A B C D w V :=
  ⟨by rw [hb.block _ (blk_lt h.dg)]; exact h.dg, by rw [hb.block _ (blk_lt h.vr)]; exact h.vr, below_then h.bel h.bel.size hb⟩
theorem cell_blk {W : World} {g : Nat} {cs : Array Value} {t : TypeId} (h : W.heap[g]? = some (.cells cs t (0, 0))) (i : Nat) (v : Value) (hv : cs[i]? = some v) : W.cell? ⟨g, i, none⟩ = some v ∧ W.frozen? ⟨g, i, none⟩ = false := by
  refine ⟨?_, by simp [World.frozen?, h]⟩
  unfold World.cell?
  simp only [h]
  rw [hv]; rfl
theorem Own2.four {A B C D : Int} {w W : World} (h : Own2 A B C D w W) : W.cell? ⟨w.heap.size, 0, none⟩ = some (.int .u64 A) ∧ W.cell? ⟨w.heap.size, 1, none⟩ = some (.int .u64 B) ∧ W.cell? ⟨w.heap.size, 2, none⟩ = some (.int .u64 C) ∧ W.cell? ⟨w.heap.size, 3, none⟩ = some (.int .u64 D) :=
  ⟨(cell_blk h.dg 0 _ rfl).1, (cell_blk h.dg 1 _ rfl).1, (cell_blk h.dg 2 _ rfl).1, (cell_blk h.dg 3 _ rfl).1⟩
end Go.Proofs.YtckjbgneblfceaaDoor.Da
namespace Go.Proofs.YtckjbgneblfceaaDoor.Da
open Go.RowKit Go.Maps Go.Proofs.YtckjbgneblfceaaDoorW.PrintWords Go.Proofs.YtckjbgneblfceaaDoorW.PrintLast Go.Proofs.YtckjbgneblfceaaDoorW.PrintMore
open Go.Proofs.YtckjbgneblfceaaDoor.PFnVerityRead Go.Proofs.YtckjbgneblfceaaDoor.Fa Go.Proofs.YtckjbgneblfceaaDoor.Fm
set_option linter.unusedVariables false
set_option linter.unusedSimpArgs false
/-- The four errors of the package's. -/
structure Errs (a : Nat → Addr) (w : World) : Prop where
  cell : ∀ k, k < 4 → w.cell? ⟨k, 0, none⟩ = some (.iface 156 (.pointer (some (a k))))
  blk : ∀ k, k < 4 → ∃ c t, w.heap[(a k).block]? = some (.cells c t (0, 0))
  ne : ∀ i j, i < 4 → j < 4 → i ≠ j → a i ≠ a j
theorem Errs.later {a : Nat → Addr} {w W : World} (h : Errs a w) (hb : Below w.heap.size w W) : Errs a W :=
  ⟨fun k hk => cell_later hb (h.cell k hk), fun k hk => by
    obtain ⟨c, t, hh⟩ := h.blk k hk
    exact ⟨c, t, by rw [hb.block _ (blk_lt hh)]; exact hh⟩, h.ne⟩
section
open Go.Proofs.YtckjbgneblfceaaDoorW
variable {ops : Array Oper} {o : Oper} {a : Act} {Kc : Act → World → Prop} {Q : Exit → Act → World → Prop}
end
end Go.Proofs.YtckjbgneblfceaaDoor.Da
namespace Go.Proofs.YtckjbgneblfceaaDoor.Da
open Go.RowKit Go.Maps Go.Proofs.YtckjbgneblfceaaDoorW.PrintWords Go.Proofs.YtckjbgneblfceaaDoorW.PrintLast Go.Proofs.YtckjbgneblfceaaDoorW.PrintMore
open Go.Proofs.YtckjbgneblfceaaDoor.PFnVerityRead Go.Proofs.YtckjbgneblfceaaDoor.Fa Go.Proofs.YtckjbgneblfceaaDoor.Fm
set_option linter.unusedVariables false
set_option linter.unusedSimpArgs false
structure Own1 (A B C D : Int) (w W : World) : Prop where
  dg : W.heap[w.heap.size]? = some (.cells (digC A B C D) 32 (0, 0))
  bel : Below w.heap.size w W
theorem Own1.later {A B C D : Int} {w W V : World} (h : Own1 A B C D w W) (hb : Below W.heap.size W V) : Own1 A B C D w V :=
  ⟨by rw [hb.block _ (blk_lt h.dg)]; exact h.dg, below_then h.bel h.bel.size hb⟩
theorem Own1.four {A B C D : Int} {w W : World} (h : Own1 A B C D w W) : W.cell? ⟨w.heap.size, 0, none⟩ = some (.int .u64 A) ∧ W.cell? ⟨w.heap.size, 1, none⟩ = some (.int .u64 B) ∧ W.cell? ⟨w.heap.size, 2, none⟩ = some (.int .u64 C) ∧ W.cell? ⟨w.heap.size, 3, none⟩ = some (.int .u64 D) :=
  ⟨(cell_blk h.dg 0 _ rfl).1, (cell_blk h.dg 1 _ rfl).1, (cell_blk h.dg 2 _ rfl).1, (cell_blk h.dg 3 _ rfl).1⟩
theorem lies_of_C {A : Option Addr} {n : Nat} {b : List Int} {w : World} (hC : (Kd.int .u8).C w A n b) (hn : 0 < n) : ∃ g o, A = some ⟨g, o, none⟩ ∧ Lies g o b w := by
  have hl : b.length = n := Kd.C_len hC
  have hrd := Kd.reads_of_C (d := (0 : Int)) hC
  obtain ⟨ad, hA, hcell⟩ := hrd.2.2 hn
  subst hA
  obtain ⟨g, o, sp⟩ := ad
  have h0 := hcell 0 (by omega)
  rw [show (⟨g, o, sp⟩ : Addr).add 0 = ⟨g, o, sp⟩ from rfl] at h0
  have hsp : sp = none := by
    cases sp with
    | none => rfl
    | some q =>
      exfalso
      unfold World.cell? at h0
      revert h0
      split <;> simp
  subst hsp
  refine ⟨g, o, rfl, fun k x hk => ?_⟩
  have hlt := (List.getElem?_eq_some_iff.1 hk).1
  have h1 := hcell k (by omega)
  rw [List.getD_eq_getElem?_getD, hk] at h1
  have h2 : (⟨g, o, none⟩ : Addr).add k = ⟨g, o + k, none⟩ := by
    unfold Addr.add
    by_cases hk0 : k = 0
    · subst hk0; rfl
    · rw [if_neg hk0]
  rw [h2] at h1; exact h1
end Go.Proofs.YtckjbgneblfceaaDoor.Da
