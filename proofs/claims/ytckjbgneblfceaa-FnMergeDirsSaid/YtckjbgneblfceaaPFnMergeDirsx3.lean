-- PRINTED BY print.sh 35421559b90ae4d0a3588c463048766b98c2df88dd9212a6774a882060cdf62d: not written by this session
import Derived.Test.YtckjbgneblfceaaPFnMergeDirsx0
namespace Go.Proofs.Ytckjbgneblfceaa.PFnMergeDirs
open Go.RowKit Go.Proofs.YtckjbgneblfceaaW.PrintWords Go.Proofs.YtckjbgneblfceaaW.PrintLast Go.Proofs.YtckjbgneblfceaaW.PrintMore
attribute [local go_sem] max2_int min2_int max_two min_two max_three min_three max_four min_four   -- for this text's walks alone
set_option linter.unusedVariables false
set_option linter.unusedSimpArgs false

/-! ### spec_MemName: function 11 -/
mutual
def spec_MemName.j0 : Nat → ByteArray → List ByteArray → Bool → Option (ByteArray)
  | 0, _, _, _ => none
  | k + 1, x0, x3, x4 => spec_MemName.l0 k x0 x3 x4 0
def spec_MemName.l0 : Nat → ByteArray → List ByteArray → Bool → Int → Option (ByteArray)
  | 0, _, _, _, _ => none
  | k + 1, x0, x3, x4, x5 => if x5 < (x0.size : Int) then (spec_MemName.l1 k x0 x3 x4 x5 x5) else (spec_MemName.l2 k x4 (⟨#[]⟩ : ByteArray) x3 (x3.length : Int) 0)
def spec_MemName.j3 : Nat → ByteArray → List ByteArray → Bool → Int → Int → Option (ByteArray)
  | 0, _, _, _, _, _ => none
  | k + 1, x0, x3, x4, x5, x6 => if 0 ≤ x5 then (if x5 ≤ x6 then (if x6 ≤ (x0.size : Int) then (if (x0.extract (x5 : Int).toNat (x6 : Int).toNat).toList = ([] : List UInt8) then (spec_MemName.j4 k x0 x3 x4 x6 (x0.extract (x5 : Int).toNat (x6 : Int).toNat) true) else (spec_MemName.j4 k x0 x3 x4 x6 (x0.extract (x5 : Int).toNat (x6 : Int).toNat) ((x0.extract (x5 : Int).toNat (x6 : Int).toNat).toList == ([46] : List UInt8)))) else (none)) else (none)) else (none)
def spec_MemName.j4 : Nat → ByteArray → List ByteArray → Bool → Int → ByteArray → Bool → Option (ByteArray)
  | 0, _, _, _, _, _, _ => none
  | k + 1, x0, x3, x4, x6, x7, x41 => if x41 = true then (spec_MemName.l0 k x0 x3 x4 (wrap64 (x6 + 1))) else (if x7.toList = ([46, 46] : List UInt8) then (if (x3.length : Int) > 0 then (if 0 ≤ (wrap64 ((x3.length : Int) - 1)) then (if (wrap64 ((x3.length : Int) - 1)) < (x3.length : Int) then (spec_MemName.j5 k x0 x3 x4 x6 x7 ((rdOf ByteArray.empty x3 (wrap64 ((x3.length : Int) - 1))).toList != ([46, 46] : List UInt8))) else (none)) else (none)) else (spec_MemName.j5 k x0 x3 x4 x6 x7 false)) else (if x3.length < 8796093022208 then (spec_MemName.l0 k x0 (x3 ++ [x7]) x4 (wrap64 (x6 + 1))) else (none)))
def spec_MemName.j5 : Nat → ByteArray → List ByteArray → Bool → Int → ByteArray → Bool → Option (ByteArray)
  | 0, _, _, _, _, _, _ => none
  | k + 1, x0, x3, x4, x6, x7, x55 => if x55 = true then (if 0 ≤ (wrap64 ((x3.length : Int) - 1)) then (if (wrap64 ((x3.length : Int) - 1)) ≤ (x3.length : Int) then (spec_MemName.l0 k x0 (x3.take ((wrap64 ((x3.length : Int) - 1)) : Int).toNat) x4 (wrap64 (x6 + 1))) else (none)) else (none)) else (if x4 = true then (spec_MemName.l0 k x0 x3 x4 (wrap64 (x6 + 1))) else (if x3.length < 8796093022208 then (spec_MemName.l0 k x0 (x3 ++ [x7]) x4 (wrap64 (x6 + 1))) else (none)))
def spec_MemName.l1 : Nat → ByteArray → List ByteArray → Bool → Int → Int → Option (ByteArray)
  | 0, _, _, _, _, _ => none
  | k + 1, x0, x3, x4, x5, x6 => if x6 < (x0.size : Int) then (if 0 ≤ x6 then (if (bt x0 x6) = 47 then (spec_MemName.j3 k x0 x3 x4 x5 x6) else (spec_MemName.l1 k x0 x3 x4 x5 (wrap64 (x6 + 1)))) else (none)) else (spec_MemName.j3 k x0 x3 x4 x5 x6)
def spec_MemName.l2 : Nat → Bool → ByteArray → List ByteArray → Int → Int → Option (ByteArray)
  | 0, _, _, _, _, _ => none
  | k + 1, x4, x8, x82, x83, x84 => if x84 < x83 then (if 0 ≤ x84 then (if x84 < (x82.length : Int) then (if x84 > 0 then (if x8.size + 1 ≤ 9223372036854775807 then (if (x8 ++ (⟨#[47]⟩ : ByteArray)).size + (rdOf ByteArray.empty x82 x84).size ≤ 9223372036854775807 then (spec_MemName.l2 k x4 ((x8 ++ (⟨#[47]⟩ : ByteArray)) ++ (rdOf ByteArray.empty x82 x84)) x82 x83 (wrap64 (x84 + 1))) else (none)) else (none)) else (if x4 = true then (if x8.size + 1 ≤ 9223372036854775807 then (if (x8 ++ (⟨#[47]⟩ : ByteArray)).size + (rdOf ByteArray.empty x82 x84).size ≤ 9223372036854775807 then (spec_MemName.l2 k x4 ((x8 ++ (⟨#[47]⟩ : ByteArray)) ++ (rdOf ByteArray.empty x82 x84)) x82 x83 (wrap64 (x84 + 1))) else (none)) else (none)) else (if x8.size + (rdOf ByteArray.empty x82 x84).size ≤ 9223372036854775807 then (spec_MemName.l2 k x4 (x8 ++ (rdOf ByteArray.empty x82 x84)) x82 x83 (wrap64 (x84 + 1))) else (none)))) else (none)) else (none)) else (if x8.toList = ([] : List UInt8) then (some (⟨#[47]⟩ : ByteArray)) else (if x8.toList = ([46, 46] : List UInt8) then (some (⟨#[47]⟩ : ByteArray)) else (some x8)))
end
def spec_MemName.f (k : Nat) (a0 : ByteArray) : Option (ByteArray) := (some (([] : List ByteArray) : List ByteArray)).bind fun y105 => (if (a0.size : Int) > 0 then (if 0 < (a0.size : Int) then (spec_MemName.j0 k a0 y105 ((bt a0 0) == 47)) else (none)) else (spec_MemName.j0 k a0 y105 false))
theorem spec_MemName.mono_l : ∀ k, (∀ y0 y1 y2, LeO (spec_MemName.j0 k y0 y1 y2) (spec_MemName.j0 (k + 1) y0 y1 y2)) ∧ (∀ y0 y1 y2 y3, LeO (spec_MemName.l0 k y0 y1 y2 y3) (spec_MemName.l0 (k + 1) y0 y1 y2 y3)) ∧ (∀ y0 y1 y2 y3 y4, LeO (spec_MemName.j3 k y0 y1 y2 y3 y4) (spec_MemName.j3 (k + 1) y0 y1 y2 y3 y4)) ∧ (∀ y0 y1 y2 y3 y4 y5, LeO (spec_MemName.j4 k y0 y1 y2 y3 y4 y5) (spec_MemName.j4 (k + 1) y0 y1 y2 y3 y4 y5)) ∧ (∀ y0 y1 y2 y3 y4 y5, LeO (spec_MemName.j5 k y0 y1 y2 y3 y4 y5) (spec_MemName.j5 (k + 1) y0 y1 y2 y3 y4 y5)) ∧ (∀ y0 y1 y2 y3 y4, LeO (spec_MemName.l1 k y0 y1 y2 y3 y4) (spec_MemName.l1 (k + 1) y0 y1 y2 y3 y4)) ∧ (∀ y0 y1 y2 y3 y4, LeO (spec_MemName.l2 k y0 y1 y2 y3 y4) (spec_MemName.l2 (k + 1) y0 y1 y2 y3 y4))
  | 0 => ⟨fun _ _ _ r h => by simp [spec_MemName.j0] at h, fun _ _ _ _ r h => by simp [spec_MemName.l0] at h, fun _ _ _ _ _ r h => by simp [spec_MemName.j3] at h, fun _ _ _ _ _ _ r h => by simp [spec_MemName.j4] at h, fun _ _ _ _ _ _ r h => by simp [spec_MemName.j5] at h, fun _ _ _ _ _ r h => by simp [spec_MemName.l1] at h, fun _ _ _ _ _ r h => by simp [spec_MemName.l2] at h⟩
  | k + 1 => by
    obtain ⟨ih0, ih1, ih2, ih3, ih4, ih5, ih6⟩ := spec_MemName.mono_l k
    refine ⟨?_, ?_, ?_, ?_, ?_, ?_, ?_⟩
    · intro y0 y1 y2
      unfold spec_MemName.j0
      repeat' first
      | (with_reducible exact ih0 _ _ _)
      | (with_reducible exact ih1 _ _ _ _)
      | (with_reducible exact ih2 _ _ _ _ _)
      | (with_reducible exact ih3 _ _ _ _ _ _)
      | (with_reducible exact ih4 _ _ _ _ _ _)
      | (with_reducible exact ih5 _ _ _ _ _)
      | (with_reducible exact ih6 _ _ _ _ _)
      | (with_reducible exact LeO.refl _)
      | (with_reducible exact LeO.none _)
      | (with_reducible refine LeO.ite ?_ ?_)
      | (with_reducible refine LeO.bind ?_ (fun _ => ?_))
      | exact ih0 _ _ _
      | exact ih1 _ _ _ _
      | exact ih2 _ _ _ _ _
      | exact ih3 _ _ _ _ _ _
      | exact ih4 _ _ _ _ _ _
      | exact ih5 _ _ _ _ _
      | exact ih6 _ _ _ _ _
      | exact LeO.none _
      | refine LeO.ite ?_ ?_
      | refine LeO.bind ?_ (fun _ => ?_)
    · intro y0 y1 y2 y3
      unfold spec_MemName.l0
      repeat' first
      | (with_reducible exact ih0 _ _ _)
      | (with_reducible exact ih1 _ _ _ _)
      | (with_reducible exact ih2 _ _ _ _ _)
      | (with_reducible exact ih3 _ _ _ _ _ _)
      | (with_reducible exact ih4 _ _ _ _ _ _)
      | (with_reducible exact ih5 _ _ _ _ _)
      | (with_reducible exact ih6 _ _ _ _ _)
      | (with_reducible exact LeO.refl _)
      | (with_reducible exact LeO.none _)
      | (with_reducible refine LeO.ite ?_ ?_)
      | (with_reducible refine LeO.bind ?_ (fun _ => ?_))
      | exact ih0 _ _ _
      | exact ih1 _ _ _ _
      | exact ih2 _ _ _ _ _
      | exact ih3 _ _ _ _ _ _
      | exact ih4 _ _ _ _ _ _
      | exact ih5 _ _ _ _ _
      | exact ih6 _ _ _ _ _
      | exact LeO.none _
      | refine LeO.ite ?_ ?_
      | refine LeO.bind ?_ (fun _ => ?_)
    · intro y0 y1 y2 y3 y4
      unfold spec_MemName.j3
      repeat' first
      | (with_reducible exact ih0 _ _ _)
      | (with_reducible exact ih1 _ _ _ _)
      | (with_reducible exact ih2 _ _ _ _ _)
      | (with_reducible exact ih3 _ _ _ _ _ _)
      | (with_reducible exact ih4 _ _ _ _ _ _)
      | (with_reducible exact ih5 _ _ _ _ _)
      | (with_reducible exact ih6 _ _ _ _ _)
      | (with_reducible exact LeO.refl _)
      | (with_reducible exact LeO.none _)
      | (with_reducible refine LeO.ite ?_ ?_)
      | (with_reducible refine LeO.bind ?_ (fun _ => ?_))
      | exact ih0 _ _ _
      | exact ih1 _ _ _ _
      | exact ih2 _ _ _ _ _
      | exact ih3 _ _ _ _ _ _
      | exact ih4 _ _ _ _ _ _
      | exact ih5 _ _ _ _ _
      | exact ih6 _ _ _ _ _
      | exact LeO.none _
      | refine LeO.ite ?_ ?_
      | refine LeO.bind ?_ (fun _ => ?_)
    · intro y0 y1 y2 y3 y4 y5
      unfold spec_MemName.j4
      repeat' first
      | (with_reducible exact ih0 _ _ _)
      | (with_reducible exact ih1 _ _ _ _)
      | (with_reducible exact ih2 _ _ _ _ _)
      | (with_reducible exact ih3 _ _ _ _ _ _)
      | (with_reducible exact ih4 _ _ _ _ _ _)
      | (with_reducible exact ih5 _ _ _ _ _)
      | (with_reducible exact ih6 _ _ _ _ _)
      | (with_reducible exact LeO.refl _)
      | (with_reducible exact LeO.none _)
      | (with_reducible refine LeO.ite ?_ ?_)
      | (with_reducible refine LeO.bind ?_ (fun _ => ?_))
      | exact ih0 _ _ _
      | exact ih1 _ _ _ _
      | exact ih2 _ _ _ _ _
      | exact ih3 _ _ _ _ _ _
      | exact ih4 _ _ _ _ _ _
      | exact ih5 _ _ _ _ _
      | exact ih6 _ _ _ _ _
      | exact LeO.none _
      | refine LeO.ite ?_ ?_
      | refine LeO.bind ?_ (fun _ => ?_)
    · intro y0 y1 y2 y3 y4 y5
      unfold spec_MemName.j5
      repeat' first
      | (with_reducible exact ih0 _ _ _)
      | (with_reducible exact ih1 _ _ _ _)
      | (with_reducible exact ih2 _ _ _ _ _)
      | (with_reducible exact ih3 _ _ _ _ _ _)
      | (with_reducible exact ih4 _ _ _ _ _ _)
      | (with_reducible exact ih5 _ _ _ _ _)
      | (with_reducible exact ih6 _ _ _ _ _)
      | (with_reducible exact LeO.refl _)
      | (with_reducible exact LeO.none _)
      | (with_reducible refine LeO.ite ?_ ?_)
      | (with_reducible refine LeO.bind ?_ (fun _ => ?_))
      | exact ih0 _ _ _
      | exact ih1 _ _ _ _
      | exact ih2 _ _ _ _ _
      | exact ih3 _ _ _ _ _ _
      | exact ih4 _ _ _ _ _ _
      | exact ih5 _ _ _ _ _
      | exact ih6 _ _ _ _ _
      | exact LeO.none _
      | refine LeO.ite ?_ ?_
      | refine LeO.bind ?_ (fun _ => ?_)
    · intro y0 y1 y2 y3 y4
      unfold spec_MemName.l1
      repeat' first
      | (with_reducible exact ih0 _ _ _)
      | (with_reducible exact ih1 _ _ _ _)
      | (with_reducible exact ih2 _ _ _ _ _)
      | (with_reducible exact ih3 _ _ _ _ _ _)
      | (with_reducible exact ih4 _ _ _ _ _ _)
      | (with_reducible exact ih5 _ _ _ _ _)
      | (with_reducible exact ih6 _ _ _ _ _)
      | (with_reducible exact LeO.refl _)
      | (with_reducible exact LeO.none _)
      | (with_reducible refine LeO.ite ?_ ?_)
      | (with_reducible refine LeO.bind ?_ (fun _ => ?_))
      | exact ih0 _ _ _
      | exact ih1 _ _ _ _
      | exact ih2 _ _ _ _ _
      | exact ih3 _ _ _ _ _ _
      | exact ih4 _ _ _ _ _ _
      | exact ih5 _ _ _ _ _
      | exact ih6 _ _ _ _ _
      | exact LeO.none _
      | refine LeO.ite ?_ ?_
      | refine LeO.bind ?_ (fun _ => ?_)
    · intro y0 y1 y2 y3 y4
      unfold spec_MemName.l2
      repeat' first
      | (with_reducible exact ih0 _ _ _)
      | (with_reducible exact ih1 _ _ _ _)
      | (with_reducible exact ih2 _ _ _ _ _)
      | (with_reducible exact ih3 _ _ _ _ _ _)
      | (with_reducible exact ih4 _ _ _ _ _ _)
      | (with_reducible exact ih5 _ _ _ _ _)
      | (with_reducible exact ih6 _ _ _ _ _)
      | (with_reducible exact LeO.refl _)
      | (with_reducible exact LeO.none _)
      | (with_reducible refine LeO.ite ?_ ?_)
      | (with_reducible refine LeO.bind ?_ (fun _ => ?_))
      | exact ih0 _ _ _
      | exact ih1 _ _ _ _
      | exact ih2 _ _ _ _ _
      | exact ih3 _ _ _ _ _ _
      | exact ih4 _ _ _ _ _ _
      | exact ih5 _ _ _ _ _
      | exact ih6 _ _ _ _ _
      | exact LeO.none _
      | refine LeO.ite ?_ ?_
      | refine LeO.bind ?_ (fun _ => ?_)
theorem spec_MemName.mono : ∀ a0 k, LeO (spec_MemName.f k a0) (spec_MemName.f (k + 1) a0) := by
  intro a0 k
  obtain ⟨ih0, ih1, ih2, ih3, ih4, ih5, ih6⟩ := spec_MemName.mono_l k
  unfold spec_MemName.f
  repeat' first
      | (with_reducible exact ih0 _ _ _)
      | (with_reducible exact ih1 _ _ _ _)
      | (with_reducible exact ih2 _ _ _ _ _)
      | (with_reducible exact ih3 _ _ _ _ _ _)
      | (with_reducible exact ih4 _ _ _ _ _ _)
      | (with_reducible exact ih5 _ _ _ _ _)
      | (with_reducible exact ih6 _ _ _ _ _)
      | (with_reducible exact LeO.refl _)
      | (with_reducible exact LeO.none _)
      | (with_reducible refine LeO.ite ?_ ?_)
      | (with_reducible refine LeO.bind ?_ (fun _ => ?_))
      | exact ih0 _ _ _
      | exact ih1 _ _ _ _
      | exact ih2 _ _ _ _ _
      | exact ih3 _ _ _ _ _ _
      | exact ih4 _ _ _ _ _ _
      | exact ih5 _ _ _ _ _
      | exact ih6 _ _ _ _ _
      | exact LeO.none _
      | refine LeO.ite ?_ ?_
      | refine LeO.bind ?_ (fun _ => ?_)
def spec_MemName.T1 : Bool × List (List Nat × List Nat) := (true, [([], []), ([], []), ([1], [1]), ([2], [2]), ([3], [3]), ([4], [4]), ([5, 4], [4, 5]), ([6, 4], [4, 6]), ([4, 7], [4, 7]), ([0, 4, 0], [0]), ([8, 9, 0, 1, 2, 3, 4, 5, 6, 7, 8, 9], [8])])
def spec_MemName.B1 : List Nat := [0, 0, 2, 6, 14, 30, 62, 126, 254, 31, 1023]
theorem spec_MemName.tab1 : rtab .any (opsOf Try.f11 1) = spec_MemName.T1 := by kernel_rfl
theorem spec_MemName.bits1 : waitsOk spec_MemName.T1.2 spec_MemName.B1 = true := by kernel_rfl
set_option maxHeartbeats 8000000 in
set_option maxRecDepth 100000 in
theorem spec_MemName.calls (k : Nat) (a0 : ByteArray) (r : ByteArray) (w : World) (h : spec_MemName.f k a0 = some r) :
    Calls Try.prog 11 #[.string a0] w fun e w' => e = .returned (.string r) ∧ Below w.heap.size w w' := by
  have HB := Aside0.mk (Below.refl w.heap.size w)
  have H : ((some (([] : List ByteArray) : List ByteArray)).bind fun y105 => (if (a0.size : Int) > 0 then (if 0 < (a0.size : Int) then (spec_MemName.j0 k a0 y105 ((bt a0 0) == 47)) else (none)) else (spec_MemName.j0 k a0 y105 false))) = some r := h
  clear h
  have HC2 := Aside0.mk H
  clear H
  go_enter Try.func11, Try.ntmps11
  go_upto_region 1 with (fail)
  go_cut [3, 4] (fun v3 v4 wc => ∃ (kq : Nat) (x3_1 : List ByteArray) (x4_1 : Bool), v4 = .bool x4_1 ∧ Aside0 (spec_MemName.j0 kq a0 x3_1 x4_1 = some r) ∧ Aside0 (kq ≤ k) ∧ Aside0 (Kd.R Kd.string 9 wc w.heap.size (fun _ => True) v3 x3_1) ∧ Aside0 (Below w.heap.size w wc))
  case first =>
    have H := HC2.out
    clear HC2
    obtain ⟨y105, hy105⟩ : ∃ y_ : List ByteArray, y_ = (([] : List ByteArray)) := ⟨_, rfl⟩
    replace H : (if (a0.size : Int) > 0 then (if 0 < (a0.size : Int) then (spec_MemName.j0 k a0 y105 ((bt a0 0) == 47)) else (none)) else (spec_MemName.j0 k a0 y105 false)) = some r := by first | (rw [hy105]; with_reducible exact H) | (have H2_ := (Option.bind_some _ _).symm.trans H; rw [hy105]; with_reducible exact H2_) | (have H2_ := (Option.bind_some _ _).symm.trans H; with_reducible exact H2_) | with_reducible exact H | (rw [hy105]; exact H) | exact H
    have Ny105 := Aside0.mk hy105
    clear hy105
    by_cases c3 : (a0.size : Int) > 0
    · rw [if_pos c3] at H
      have c3b0 : decide (0 < (a0.size : Int)) = true := decide_eq_true c3
      have c3b1 : decide (0 < a0.size) = true := decide_eq_true (by omega)
      clear c3
      (first | rw [c3b0] | (simp only [i64_w, i32_w]; rw [c3b0]) | skip)
      by_cases c4 : 0 < (a0.size : Int)
      · rw [if_pos c4] at H
        have c4b0 : decide (0 < (a0.size : Int)) = true := decide_eq_true c4
        have c4b1 : decide (0 < a0.size) = true := decide_eq_true (by omega)
        clear c4
        have H' := Aside0.mk H
        clear H
        try go_wp2
        have n0_ := Aside0.mk (below_drew1 HB.out)
        clear HB
        have HB := n0_
        clear n0_
        have p5 : 0 ≤ (0 : Int) := (by omega)
        have q5 : 0 < a0.size := (by have : (0 : Int) < (a0.size : Int) := of_decide_eq_true (by first | (with_reducible assumption) | assumption); omega)
        have hx5 : ∀ h : 0 < a0.size, ((a0[0]'h).toNat : Int) = bt a0 0 := bt_at a0 0
        clear p5
        have qi5 : (0 < (a0.size : Int)) = True := eq_true (of_decide_eq_true (by first | (with_reducible assumption) | assumption))
        replace q5 := eq_true q5
        refine start_ (n := 11) (S := fun w' => True) (ds := []) #[false, false, false, false, false, false, false, false, false, false, false] (by kernel_rfl) rfl rfl trivial (fun hHeld => ?_); refine with_tabW spec_MemName.tab1 spec_MemName.bits1 (fun HT_ HW_ => ?_)
        generalize w.drew = w6 at HB hHeld ⊢
        refine pure_ (i := 1) (N := some 12) (v := ?_) (a' := ?_) #[false, true, false, false, false, false, false, false, false, false, false] rfl rfl (any_of HT_.out (by kernel_rfl)) (fun _ _ _ h => h) (Or.inl ⟨by rfl, ?_⟩) ?_ ?_
        rotate_left
        · intro w'
          go_simp
          with_reducible rfl
        rotate_left
        · simp only [Act.put, List.setIfInBounds_toArray, List.set_cons_zero, List.set_cons_succ, i64_w, i32_w]
          rfl
        refine pure_ (i := 2) (N := some 13) (v := ?_) (a' := ?_) #[false, true, true, false, false, false, false, false, false, false, false] rfl rfl (any_of HT_.out (by kernel_rfl)) (fun _ _ _ h => h) (Or.inl ⟨by rfl, ?_⟩) ?_ ?_
        rotate_left
        · intro w'
          go_simp
          with_reducible rfl
        rotate_left
        · simp only [Act.put, List.setIfInBounds_toArray, List.set_cons_zero, List.set_cons_succ, i64_w, i32_w]
          rfl
        refine pure_ (i := 3) (N := some 14) (v := ?_) (a' := ?_) #[false, true, true, true, false, false, false, false, false, false, false] rfl rfl (any_of HT_.out (by kernel_rfl)) (fun _ _ _ h => h) (Or.inl ⟨by rfl, ?_⟩) ?_ ?_
        rotate_left
        · intro w'
          go_simp
          with_reducible rfl
        rotate_left
        · simp only [Act.put, List.setIfInBounds_toArray, List.set_cons_zero, List.set_cons_succ, i64_w, i32_w]
          rfl
        refine pure_ (i := 4) (N := some 15) (v := ?_) (a' := ?_) #[false, true, true, true, true, false, false, false, false, false, false] rfl rfl (any_of HT_.out (by kernel_rfl)) (fun _ _ _ h => h) (Or.inl ⟨by rfl, ?_⟩) ?_ ?_
        rotate_left
        · intro w'
          go_simp
          with_reducible rfl
        rotate_left
        · simp only [Act.put, List.setIfInBounds_toArray, List.set_cons_zero, List.set_cons_succ, i64_w, i32_w]
          rfl
        refine pure_ (i := 5) (N := some 16) (v := ?_) (a' := ?_) #[false, true, true, true, true, true, false, false, false, false, false] rfl rfl (any_of HT_.out (by kernel_rfl)) (fun _ _ _ h => h) (Or.inl ⟨by rfl, ?_⟩) ?_ ?_
        rotate_left
        · intro w'
          go_simp
          with_reducible rfl
        rotate_left
        · simp only [Act.put, List.setIfInBounds_toArray, List.set_cons_zero, List.set_cons_succ, i64_w, i32_w]
          rfl
        refine take_ (i := 6) (N := some 17) (v := ?_) (a' := ?_) #[false, true, true, true, true, true, true, false, false, false, false] rfl rfl (take_ofW HT_.out HW_.out (by kernel_rfl)) (fun _ _ _ h => h) (Or.inl ⟨by rfl, ?_⟩) hHeld ?_ ?_
        rotate_left
        · intro w' _
          go_simp
          with_reducible rfl
        rotate_left
        · simp only [Act.put, List.setIfInBounds_toArray, List.set_cons_zero, List.set_cons_succ, i64_w, i32_w]
          rfl
        refine pure_ (i := 7) (N := some 18) (v := ?_) (a' := ?_) #[false, true, true, true, true, true, true, true, false, false, false] rfl rfl (any_of HT_.out (by kernel_rfl)) (fun _ _ _ h => h) (Or.inl ⟨by rfl, ?_⟩) ?_ ?_
        rotate_left
        · intro w'
          go_simp
          with_reducible rfl
        rotate_left
        · simp only [Act.put, List.setIfInBounds_toArray, List.set_cons_zero, List.set_cons_succ, i64_w, i32_w]
          rfl
        refine pure_ (i := 8) (N := some 19) (v := ?_) (a' := ?_) #[false, true, true, true, true, true, true, true, true, false, false] rfl rfl (any_of HT_.out (by kernel_rfl)) (fun _ _ _ h => h) (Or.inl ⟨by rfl, ?_⟩) ?_ ?_
        rotate_left
        · intro w'
          go_simp
          with_reducible rfl
        rotate_left
        · simp only [Act.put, List.setIfInBounds_toArray, List.set_cons_zero, List.set_cons_succ, i64_w, i32_w]
          rfl
        refine one_ (i := 0) (N := some 11) #[true, true, true, true, true, true, true, true, true, false, false] rfl rfl (one_of HT_.out (by kernel_rfl)) (by decide) (fun K hK => ?_)
        refine Kd.R_lit_step Kd.string _ 9 ?hg (N := 11) ?hd (xs := ([] : List ByteArray)) (inner := []) (ok := fun _ => True) (okp := fun _ => True) ?hr ?hp (fun _ hk => hk) trivial (Below.refl _ _) (Nat.le_refl _) (by simp) ?_; (case hd => rfl); (case hg => rfl); (case hr => first | (go_simp; done) | (go_simp; rfl)); (case hp => exact (Reps.none _ _))
        intro v106 w7 ho8 hb hg_ hnew_
        clear hg_ hnew_
        (first | rw [← Ny105.out] at ho8 | (simp only [Int.reduceToNat] at ho8; rw [← Ny105.out] at ho8))
        have n0_ := Aside0.mk (Kd.R_lower ho8 (below_size (by repeat (first | (with_reducible first | exact HB.out | apply below_alloc | apply pw_below_drewN | apply below_drew1) | exact HB.out))))
        have n1_ := Aside0.mk (below_step (by repeat (first | (with_reducible first | exact HB.out | apply below_alloc | apply pw_below_drewN | apply below_drew1) | exact HB.out)) hb)
        clear HB
        have HO107 := n0_
        have HB := n1_
        clear n0_ n1_
        clear hb ho8
        refine hK.out _ _ trivial (fun hHeld => ?_)
        clear hK K
        refine norm_ (a' := ?_) ?_ ?_
        rotate_left
        · show Act.put _ (some 11) _ = _
          simp only [Act.put, List.setIfInBounds_toArray, List.set_cons_zero, List.set_cons_succ, i64_w, i32_w]
          rfl
        refine pure_ (i := 9) (N := some 3) (v := ?_) (a' := ?_) #[true, true, true, true, true, true, true, true, true, true, false] rfl rfl (any_of HT_.out (by kernel_rfl)) (fun _ _ _ h => h) (Or.inl ⟨by rfl, ?_⟩) ?_ ?_
        rotate_left
        · intro w'
          go_simp
          with_reducible rfl
        rotate_left
        · simp only [Act.put, List.setIfInBounds_toArray, List.set_cons_zero, List.set_cons_succ, i64_w, i32_w]
          rfl
        refine pure_ (i := 10) (N := some 4) (v := ?_) (a' := ?_) #[true, true, true, true, true, true, true, true, true, true, true] rfl rfl (any_of HT_.out (by kernel_rfl)) (fun _ _ _ h => h) (Or.inl ⟨by rfl, ?_⟩) ?_ ?_
        rotate_left
        · intro w'
          go_simp
          with_reducible rfl
        rotate_left
        · simp only [Act.put, List.setIfInBounds_toArray, List.set_cons_zero, List.set_cons_succ, i64_w, i32_w]
          rfl
        refine done_ (done_of HT_.out (by kernel_rfl)) ?_
        try go_wp2
        go_meet
        case rel => exact ⟨_, (y105), (((bt a0 0) == 47)), (by first | rfl | (simp; done) | (simp [*]; done)), H', ⟨by first | omega | exact Nat.le_refl _⟩, ⟨by (with_reducible repeat (first | apply Kd.R_alloc | apply Kd.R_drewN | apply Kd.R_drew)); exact HO107.out⟩, ⟨by repeat (first | (with_reducible first | exact HB.out | apply below_alloc | apply pw_below_drewN | apply below_drew1) | exact HB.out)⟩⟩
      · rw [if_neg c4] at H
        exact absurd H (by simp)
    · rw [if_neg c3] at H
      have c3b0 : decide (0 < (a0.size : Int)) = false := decide_eq_false c3
      have c3b1 : decide (0 < a0.size) = false := decide_eq_false (by omega)
      clear c3
      (first | rw [c3b0] | (simp only [i64_w, i32_w]; rw [c3b0]) | skip)
      have H' := Aside0.mk H
      clear H
      try go_wp2
      have n0_ := Aside0.mk (below_drew1 HB.out)
      clear HB
      have HB := n0_
      clear n0_
      refine start_ (n := 11) (S := fun w' => True) (ds := []) #[false, false, false, false, false, false, false, false, false, false, false] (by kernel_rfl) rfl rfl trivial (fun hHeld => ?_); refine with_tabW spec_MemName.tab1 spec_MemName.bits1 (fun HT_ HW_ => ?_)
      generalize w.drew = w9 at HB hHeld ⊢
      refine pure_ (i := 1) (N := some 12) (v := ?_) (a' := ?_) #[false, true, false, false, false, false, false, false, false, false, false] rfl rfl (any_of HT_.out (by kernel_rfl)) (fun _ _ _ h => h) (Or.inl ⟨by rfl, ?_⟩) ?_ ?_
      rotate_left
      · intro w'
        go_simp
        with_reducible rfl
      rotate_left
      · simp only [Act.put, List.setIfInBounds_toArray, List.set_cons_zero, List.set_cons_succ, i64_w, i32_w]
        rfl
      refine pure_ (i := 2) (N := some 13) (v := ?_) (a' := ?_) #[false, true, true, false, false, false, false, false, false, false, false] rfl rfl (any_of HT_.out (by kernel_rfl)) (fun _ _ _ h => h) (Or.inl ⟨by rfl, ?_⟩) ?_ ?_
      rotate_left
      · intro w'
        go_simp
        with_reducible rfl
      rotate_left
      · simp only [Act.put, List.setIfInBounds_toArray, List.set_cons_zero, List.set_cons_succ, i64_w, i32_w]
        rfl
      refine pure_ (i := 3) (N := some 14) (v := ?_) (a' := ?_) #[false, true, true, true, false, false, false, false, false, false, false] rfl rfl (any_of HT_.out (by kernel_rfl)) (fun _ _ _ h => h) (Or.inl ⟨by rfl, ?_⟩) ?_ ?_
      rotate_left
      · intro w'
        go_simp
        with_reducible rfl
      rotate_left
      · simp only [Act.put, List.setIfInBounds_toArray, List.set_cons_zero, List.set_cons_succ, i64_w, i32_w]
        rfl
      refine pure_ (i := 4) (N := some 15) (v := ?_) (a' := ?_) #[false, true, true, true, true, false, false, false, false, false, false] rfl rfl (any_of HT_.out (by kernel_rfl)) (fun _ _ _ h => h) (Or.inl ⟨by rfl, ?_⟩) ?_ ?_
      rotate_left
      · intro w'
        go_simp
        with_reducible rfl
      rotate_left
      · simp only [Act.put, List.setIfInBounds_toArray, List.set_cons_zero, List.set_cons_succ, i64_w, i32_w]
        rfl
      refine pure_ (i := 5) (N := some 16) (v := undef) (a' := ?_) #[false, true, true, true, true, true, false, false, false, false, false] rfl rfl (any_of HT_.out (by kernel_rfl)) (fun _ _ _ h => h) (Or.inr ⟨by rfl, rfl⟩) ?_ ?_
      rotate_left
      · simp only [Act.put, List.setIfInBounds_toArray, List.set_cons_zero, List.set_cons_succ, i64_w, i32_w]
        rfl
      refine pure_ (i := 6) (N := some 17) (v := undef) (a' := ?_) #[false, true, true, true, true, true, true, false, false, false, false] rfl rfl (any_of HT_.out (by kernel_rfl)) (fun _ _ _ h => h) (Or.inr ⟨by rfl, rfl⟩) ?_ ?_
      rotate_left
      · simp only [Act.put, List.setIfInBounds_toArray, List.set_cons_zero, List.set_cons_succ, i64_w, i32_w]
        rfl
      refine pure_ (i := 7) (N := some 18) (v := undef) (a' := ?_) #[false, true, true, true, true, true, true, true, false, false, false] rfl rfl (any_of HT_.out (by kernel_rfl)) (fun _ _ _ h => h) (Or.inr ⟨by rfl, rfl⟩) ?_ ?_
      rotate_left
      · simp only [Act.put, List.setIfInBounds_toArray, List.set_cons_zero, List.set_cons_succ, i64_w, i32_w]
        rfl
      refine pure_ (i := 8) (N := some 19) (v := ?_) (a' := ?_) #[false, true, true, true, true, true, true, true, true, false, false] rfl rfl (any_of HT_.out (by kernel_rfl)) (fun _ _ _ h => h) (Or.inl ⟨by rfl, ?_⟩) ?_ ?_
      rotate_left
      · intro w'
        go_simp
        with_reducible rfl
      rotate_left
      · simp only [Act.put, List.setIfInBounds_toArray, List.set_cons_zero, List.set_cons_succ, i64_w, i32_w]
        rfl
      refine one_ (i := 0) (N := some 11) #[true, true, true, true, true, true, true, true, true, false, false] rfl rfl (one_of HT_.out (by kernel_rfl)) (by decide) (fun K hK => ?_)
      refine Kd.R_lit_step Kd.string _ 9 ?hg (N := 11) ?hd (xs := ([] : List ByteArray)) (inner := []) (ok := fun _ => True) (okp := fun _ => True) ?hr ?hp (fun _ hk => hk) trivial (Below.refl _ _) (Nat.le_refl _) (by simp) ?_; (case hd => rfl); (case hg => rfl); (case hr => first | (go_simp; done) | (go_simp; rfl)); (case hp => exact (Reps.none _ _))
      intro v106 w10 ho11 hb hg_ hnew_
      clear hg_ hnew_
      (first | rw [← Ny105.out] at ho11 | (simp only [Int.reduceToNat] at ho11; rw [← Ny105.out] at ho11))
      have n0_ := Aside0.mk (Kd.R_lower ho11 (below_size (by repeat (first | (with_reducible first | exact HB.out | apply below_alloc | apply pw_below_drewN | apply below_drew1) | exact HB.out))))
      have n1_ := Aside0.mk (below_step (by repeat (first | (with_reducible first | exact HB.out | apply below_alloc | apply pw_below_drewN | apply below_drew1) | exact HB.out)) hb)
      clear HB
      have HO107 := n0_
      have HB := n1_
      clear n0_ n1_
      clear hb ho11
      refine hK.out _ _ trivial (fun hHeld => ?_)
      clear hK K
      refine norm_ (a' := ?_) ?_ ?_
      rotate_left
      · show Act.put _ (some 11) _ = _
        simp only [Act.put, List.setIfInBounds_toArray, List.set_cons_zero, List.set_cons_succ, i64_w, i32_w]
        rfl
      refine pure_ (i := 9) (N := some 3) (v := ?_) (a' := ?_) #[true, true, true, true, true, true, true, true, true, true, false] rfl rfl (any_of HT_.out (by kernel_rfl)) (fun _ _ _ h => h) (Or.inl ⟨by rfl, ?_⟩) ?_ ?_
      rotate_left
      · intro w'
        go_simp
        with_reducible rfl
      rotate_left
      · simp only [Act.put, List.setIfInBounds_toArray, List.set_cons_zero, List.set_cons_succ, i64_w, i32_w]
        rfl
      refine pure_ (i := 10) (N := some 4) (v := ?_) (a' := ?_) #[true, true, true, true, true, true, true, true, true, true, true] rfl rfl (any_of HT_.out (by kernel_rfl)) (fun _ _ _ h => h) (Or.inl ⟨by rfl, ?_⟩) ?_ ?_
      rotate_left
      · intro w'
        go_simp
        with_reducible rfl
      rotate_left
      · simp only [Act.put, List.setIfInBounds_toArray, List.set_cons_zero, List.set_cons_succ, i64_w, i32_w]
        rfl
      refine done_ (done_of HT_.out (by kernel_rfl)) ?_
      try go_wp2
      go_meet
      case rel => exact ⟨_, (y105), (false), (by first | rfl | (simp; done) | (simp [*]; done)), H', ⟨by first | omega | exact Nat.le_refl _⟩, ⟨by (with_reducible repeat (first | apply Kd.R_alloc | apply Kd.R_drewN | apply Kd.R_drew)); exact HO107.out⟩, ⟨by repeat (first | (with_reducible first | exact HB.out | apply below_alloc | apply pw_below_drewN | apply below_drew1) | exact HB.out)⟩⟩
  case rest =>
    clear HC2
    try clear c1
    try clear p2
    try clear c3
    try clear c3b0
    try clear c3b1
    try clear c4
    try clear c4b0
    try clear c4b1
    try clear p5
    try clear q5
    try clear hx5
    try clear qi5
    try clear c11
    try clear p5
    try clear q5
    obtain ⟨kq, x3_1, x4_1, rfl, HA, HJ1, HO_3, HB⟩ := hcut
    cases kq with
    | zero => exact absurd HA.out (by simp [spec_MemName.j0])
    | succ kj1 =>
      have H := HA.out
      clear HA
      simp only [spec_MemName.j0] at H
      have H' := Aside0.mk H
      clear H
      go_wp2
      go_loopg [3, 5] kj1 (fun kq v3 v5 w' => ∃ (x3_2 : List ByteArray) (x5_2 : Int), v5 = .int .i64 x5_2 ∧ Aside0 (spec_MemName.l0 kq a0 x3_2 x4_1 x5_2 = some r) ∧ Aside0 (kq ≤ kj1) ∧ Aside0 (Kd.R Kd.string 9 w' w.heap.size (fun _ => True) v3 x3_2) ∧ Aside0 (Below w.heap.size w w'))
      case atStart => exact ⟨(x3_1), (0), (by first | rfl | (simp; done) | (simp [*]; done)), H', ⟨Nat.le_refl _⟩, ⟨by (with_reducible repeat (first | apply Kd.R_alloc | apply Kd.R_drewN | apply Kd.R_drew)); exact HO_3.out⟩, ⟨by repeat (first | (with_reducible first | exact HB.out | apply below_alloc | apply pw_below_drewN | apply below_drew1) | exact HB.out)⟩⟩
      case round =>
        clear H'
        try clear c1
        try clear p2
        try clear c3
        try clear c3b0
        try clear c3b1
        try clear c4
        try clear c4b0
        try clear c4b1
        try clear p5
        try clear q5
        try clear hx5
        try clear qi5
        try clear c11
        try clear p2
        try clear p5
        try clear q5
        obtain ⟨x3_2, x5_2, rfl, HA, HK2, HO_3, HB⟩ := hrel
        cases gk with
        | zero => exact absurd HA.out (by simp [spec_MemName.l0])
        | succ k2 =>
          have H := HA.out
          clear HA
          simp only [spec_MemName.l0] at H
          by_cases c12 : x5_2 < (a0.size : Int)
          · rw [if_pos c12] at H
            have c12b0 : decide (x5_2 < (a0.size : Int)) = true := decide_eq_true c12
            clear c12
            have HC13 := Aside0.mk H
            clear H
            go_upto_block 2 with (fail)
            go_cut [6] (fun v6 wc => ∃ (kq : Nat) (x6_12 : Int), v6 = .int .i64 x6_12 ∧ Aside0 (spec_MemName.j3 kq a0 x3_2 x4_1 x5_2 x6_12 = some r) ∧ Aside0 (kq ≤ k2) ∧ Aside0 (Kd.R Kd.string 9 wc w.heap.size (fun _ => True) u3 x3_2) ∧ Aside0 (Below w.heap.size w wc))
            case first =>
              have H := HC13.out
              clear HC13
              have H' := Aside0.mk H
              clear H
              go_wp2
              go_loopg [6] k2 (fun kq v6 w' => ∃ (x6_3 : Int), v6 = .int .i64 x6_3 ∧ Aside0 (spec_MemName.l1 kq a0 x3_2 x4_1 x5_2 x6_3 = some r) ∧ Aside0 (kq ≤ k2) ∧ Aside0 (Kd.R Kd.string 9 w' w.heap.size (fun _ => True) u3 x3_2) ∧ Aside0 (Below w.heap.size w w'))
              case atStart => exact ⟨(x5_2), (by first | rfl | (simp; done) | (simp [*]; done)), H', ⟨Nat.le_refl _⟩, ⟨by (with_reducible repeat (first | apply Kd.R_alloc | apply Kd.R_drewN | apply Kd.R_drew)); exact HO_3.out⟩, ⟨by repeat (first | (with_reducible first | exact HB.out | apply below_alloc | apply pw_below_drewN | apply below_drew1) | exact HB.out)⟩⟩
              case round =>
                clear H'
                try clear c1
                try clear p2
                try clear c3
                try clear c3b0
                try clear c3b1
                try clear c4
                try clear c4b0
                try clear c4b1
                try clear p5
                try clear q5
                try clear hx5
                try clear qi5
                try clear c11
                try clear c12
                try clear c12b0
                try clear p2
                try clear p5
                try clear q5
                obtain ⟨x6_3, rfl, HA, HK3, HO_3, HB⟩ := hrel
                cases gk with
                | zero => exact absurd HA.out (by simp [spec_MemName.l1])
                | succ k3 =>
                  have H := HA.out
                  clear HA
                  simp only [spec_MemName.l1] at H
                  by_cases c14 : x6_3 < (a0.size : Int)
                  · rw [if_pos c14] at H
                    have c14b0 : decide (x6_3 < (a0.size : Int)) = true := decide_eq_true c14
                    clear c14
                    (first | rw [c14b0] | (simp only [i64_w, i32_w]; rw [c14b0]) | skip)
                    by_cases c15 : 0 ≤ x6_3
                    · rw [if_pos c15] at H
                      have c15b0 : decide (0 ≤ x6_3) = true := decide_eq_true c15
                      clear c15
                      by_cases c17 : (bt a0 x6_3) = 47
                      · rw [if_pos c17] at H
                        have c17b0 : ((bt a0 x6_3) == 47) = true := beq_iff_eq.mpr c17
                        have c17b1 : ((bt a0 x6_3) != 47) = false := bne_eq_false_iff_eq.mpr c17
                        clear c17
                        have H' := Aside0.mk H
                        clear H
                        have p16 : 0 ≤ (x6_3 : Int) := of_decide_eq_true (by first | (with_reducible assumption) | assumption)
                        have q16 : x6_3 < (a0.size : Int) := of_decide_eq_true (by first | (with_reducible assumption) | assumption)
                        have hx16 := bt_at a0 x6_3
                        replace p16 := eq_true p16
                        replace q16 := eq_true q16
                        go_wp2
                        go_meet
                        case rel => exact ⟨_, (x6_3), (by first | rfl | (simp; done) | (simp [*]; done)), H', ⟨by have := HJ1.out; have := HK2.out; have := HK3.out; first | omega | exact Nat.le_refl _⟩, ⟨by (with_reducible repeat (first | apply Kd.R_alloc | apply Kd.R_drewN | apply Kd.R_drew)); exact HO_3.out⟩, ⟨by repeat (first | (with_reducible first | exact HB.out | apply below_alloc | apply pw_below_drewN | apply below_drew1) | exact HB.out)⟩⟩
                      · rw [if_neg c17] at H
                        have c17b0 : ((bt a0 x6_3) == 47) = false := beq_eq_false_iff_ne.mpr c17
                        have c17b1 : ((bt a0 x6_3) != 47) = true := bne_iff_ne.mpr c17
                        have H' := Aside0.mk H
                        clear H
                        have p16 : 0 ≤ (x6_3 : Int) := of_decide_eq_true (by first | (with_reducible assumption) | assumption)
                        have q16 : x6_3 < (a0.size : Int) := of_decide_eq_true (by first | (with_reducible assumption) | assumption)
                        have hx16 := bt_at a0 x6_3
                        replace p16 := eq_true p16
                        replace q16 := eq_true q16
                        go_wp2
                        go_roundg k3
                        case measure => have := HJ1.out; have := HK2.out; have := HK3.out; omega
                        case rel => exact ⟨(wrap64 (x6_3 + 1)), (by first | rfl | (simp; done) | (simp [*]; done)), H', ⟨by have := HJ1.out; have := HK2.out; have := HK3.out; omega⟩, ⟨by (with_reducible repeat (first | apply Kd.R_alloc | apply Kd.R_drewN | apply Kd.R_drew)); exact HO_3.out⟩, ⟨by repeat (first | (with_reducible first | exact HB.out | apply below_alloc | apply pw_below_drewN | apply below_drew1) | exact HB.out)⟩⟩
                    · rw [if_neg c15] at H
                      exact absurd H (by simp)
                  · rw [if_neg c14] at H
                    have c14b0 : decide (x6_3 < (a0.size : Int)) = false := decide_eq_false c14
                    clear c14
                    (first | rw [c14b0] | (simp only [i64_w, i32_w]; rw [c14b0]) | skip)
                    have H' := Aside0.mk H
                    clear H
                    go_wp2
                    go_meet
                    case rel => exact ⟨_, (x6_3), (by first | rfl | (simp; done) | (simp [*]; done)), H', ⟨by have := HJ1.out; have := HK2.out; have := HK3.out; first | omega | exact Nat.le_refl _⟩, ⟨by (with_reducible repeat (first | apply Kd.R_alloc | apply Kd.R_drewN | apply Kd.R_drew)); exact HO_3.out⟩, ⟨by repeat (first | (with_reducible first | exact HB.out | apply below_alloc | apply pw_below_drewN | apply below_drew1) | exact HB.out)⟩⟩
            case rest =>
              clear HC13
              try clear c1
              try clear p1
              try clear q1
              try clear hx1
              try clear p2
              try clear c3
              try clear c3b0
              try clear c3b1
              try clear c4
              try clear c4b0
              try clear c4b1
              try clear p5
              try clear q5
              try clear hx5
              try clear qi5
              try clear p6
              try clear c11
              try clear c12
              try clear c12b0
              try clear c14
              try clear c14b0
              try clear c15
              try clear c15b0
              try clear p16
              try clear q16
              try clear hx16
              try clear c17
              try clear c17b0
              try clear c17b1
              try clear p16
              try clear p2
              try clear p5
              try clear q16
              try clear q5
              obtain ⟨kq, x6_12, rfl, HA, HJ12, HO_3, HB⟩ := hcut
              cases kq with
              | zero => exact absurd HA.out (by simp [spec_MemName.j3])
              | succ kj12 =>
                have H := HA.out
                clear HA
                simp only [spec_MemName.j3] at H
                by_cases c18 : 0 ≤ x5_2
                · rw [if_pos c18] at H
                  have c18b0 := eq_true c18
                  have c18b1 : decide (0 ≤ x5_2) = true := decide_eq_true c18
                  clear c18
                  by_cases c19 : x5_2 ≤ x6_12
                  · rw [if_pos c19] at H
                    have c19b0 := eq_true c19
                    have c19b1 : decide (x5_2 ≤ x6_12) = true := decide_eq_true c19
                    clear c19
                    by_cases c20 : x6_12 ≤ (a0.size : Int)
                    · rw [if_pos c20] at H
                      have c20b0 := eq_true c20
                      have c20b1 : decide (x6_12 ≤ (a0.size : Int)) = true := decide_eq_true c20
                      clear c20
                      have HC21 := Aside0.mk H
                      clear H
                      go_upto_region 8 with (fail)
                      go_cut [41] (fun v41 wc => ∃ (kq : Nat) (x41_20 : Bool), v41 = .bool x41_20 ∧ Aside0 (spec_MemName.j4 kq a0 x3_2 x4_1 x6_12 (a0.extract (x5_2 : Int).toNat (x6_12 : Int).toNat) x41_20 = some r) ∧ Aside0 (kq ≤ kj12) ∧ Aside0 (Kd.R Kd.string 9 wc w.heap.size (fun _ => True) u3 x3_2) ∧ Aside0 (Below w.heap.size w wc))
                      case first =>
                        have H := HC21.out
                        clear HC21
                        by_cases c22 : (a0.extract (x5_2 : Int).toNat (x6_12 : Int).toNat).toList = ([] : List UInt8)
                        · rw [if_pos c22] at H
                          have c22b0 : ((a0.extract (x5_2 : Int).toNat (x6_12 : Int).toNat).toList == ([] : List UInt8)) = true := beq_iff_eq.mpr c22
                          have c22b1 : ((a0.extract (x5_2 : Int).toNat (x6_12 : Int).toNat).toList != ([] : List UInt8)) = false := bne_eq_false_iff_eq.mpr c22
                          clear c22
                          (first | rw [c22b0] | (simp only [i64_w, i32_w]; rw [c22b0]) | skip)
                          have H' := Aside0.mk H
                          clear H
                          go_wp2
                          go_meet
                          case rel => exact ⟨_, (true), (by first | rfl | (simp; done) | (simp [*]; done)), H', ⟨by have := HJ1.out; have := HK2.out; have := HJ12.out; first | omega | exact Nat.le_refl _⟩, ⟨by (with_reducible repeat (first | apply Kd.R_alloc | apply Kd.R_drewN | apply Kd.R_drew)); exact HO_3.out⟩, ⟨by repeat (first | (with_reducible first | exact HB.out | apply below_alloc | apply pw_below_drewN | apply below_drew1) | exact HB.out)⟩⟩
                        · rw [if_neg c22] at H
                          have c22b0 : ((a0.extract (x5_2 : Int).toNat (x6_12 : Int).toNat).toList == ([] : List UInt8)) = false := beq_eq_false_iff_ne.mpr c22
                          have c22b1 : ((a0.extract (x5_2 : Int).toNat (x6_12 : Int).toNat).toList != ([] : List UInt8)) = true := bne_iff_ne.mpr c22
                          (first | rw [c22b0] | (simp only [i64_w, i32_w]; rw [c22b0]) | skip)
                          have H' := Aside0.mk H
                          clear H
                          go_wp2
                          go_meet
                          case rel => exact ⟨_, (((a0.extract (x5_2 : Int).toNat (x6_12 : Int).toNat).toList == ([46] : List UInt8))), (by first | rfl | (simp; done) | (simp [*]; done)), H', ⟨by have := HJ1.out; have := HK2.out; have := HJ12.out; first | omega | exact Nat.le_refl _⟩, ⟨by (with_reducible repeat (first | apply Kd.R_alloc | apply Kd.R_drewN | apply Kd.R_drew)); exact HO_3.out⟩, ⟨by repeat (first | (with_reducible first | exact HB.out | apply below_alloc | apply pw_below_drewN | apply below_drew1) | exact HB.out)⟩⟩
                      case rest =>
                        clear HC21
                        try clear c1
                        try clear p1
                        try clear q1
                        try clear hx1
                        try clear c2
                        try clear p2
                        try clear c3
                        try clear c3b0
                        try clear c3b1
                        try clear c4
                        try clear c4b0
                        try clear c4b1
                        try clear p5
                        try clear q5
                        try clear hx5
                        try clear qi5
                        try clear p6
                        try clear c11
                        try clear c12
                        try clear c12b0
                        try clear c14
                        try clear c14b0
                        try clear c15
                        try clear c15b0
                        try clear p16
                        try clear q16
                        try clear hx16
                        try clear c17
                        try clear c17b0
                        try clear c17b1
                        try clear c18
                        try clear c18b0
                        try clear c18b1
                        try clear c19
                        try clear c19b0
                        try clear c19b1
                        try clear c20
                        try clear c20b0
                        try clear c20b1
                        try clear c22
                        try clear c22b0
                        try clear c22b1
                        try clear p1
                        try clear p16
                        try clear p2
                        try clear p5
                        try clear p6
                        try clear q1
                        try clear q16
                        try clear q5
                        obtain ⟨kq, x41_20, rfl, HA, HJ20, HO_3, HB⟩ := hcut
                        cases kq with
                        | zero => exact absurd HA.out (by simp [spec_MemName.j4])
                        | succ kj20 =>
                          have H := HA.out
                          clear HA
                          simp only [spec_MemName.j4] at H
                          by_cases c23 : x41_20 = true
                          · subst c23
                            have H1 : (spec_MemName.l0 kj20 a0 x3_2 x4_1 (wrap64 (x6_12 + 1))) = some r := by rw [if_pos rfl] at H; exact H
                            clear H
                            have H := H1
                            clear H1
                            have H' := Aside0.mk H
                            clear H
                            go_wp2
                            go_roundg kj20
                            case measure => have := HJ1.out; have := HK2.out; have := HJ12.out; have := HJ20.out; omega
                            case rel => exact ⟨(x3_2), (wrap64 (x6_12 + 1)), (by first | rfl | (simp; done) | (simp [*]; done)), H', ⟨by have := HJ1.out; have := HK2.out; have := HJ12.out; have := HJ20.out; omega⟩, ⟨by (with_reducible repeat (first | apply Kd.R_alloc | apply Kd.R_drewN | apply Kd.R_drew)); exact HO_3.out⟩, ⟨by repeat (first | (with_reducible first | exact HB.out | apply below_alloc | apply pw_below_drewN | apply below_drew1) | exact HB.out)⟩⟩
                          · replace c23 := Bool.eq_false_iff.mpr c23
                            subst c23
                            have H1 : (if (a0.extract (x5_2 : Int).toNat (x6_12 : Int).toNat).toList = ([46, 46] : List UInt8) then (if (x3_2.length : Int) > 0 then (if 0 ≤ (wrap64 ((x3_2.length : Int) - 1)) then (if (wrap64 ((x3_2.length : Int) - 1)) < (x3_2.length : Int) then (spec_MemName.j5 kj20 a0 x3_2 x4_1 x6_12 (a0.extract (x5_2 : Int).toNat (x6_12 : Int).toNat) ((rdOf ByteArray.empty x3_2 (wrap64 ((x3_2.length : Int) - 1))).toList != ([46, 46] : List UInt8))) else (none)) else (none)) else (spec_MemName.j5 kj20 a0 x3_2 x4_1 x6_12 (a0.extract (x5_2 : Int).toNat (x6_12 : Int).toNat) false)) else (if x3_2.length < 8796093022208 then (spec_MemName.l0 kj20 a0 (x3_2 ++ [(a0.extract (x5_2 : Int).toNat (x6_12 : Int).toNat)]) x4_1 (wrap64 (x6_12 + 1))) else (none))) = some r := by rw [if_neg (show ¬ (false = true) by decide)] at H; exact H
                            clear H
                            have H := H1
                            clear H1
                            by_cases c24 : (a0.extract (x5_2 : Int).toNat (x6_12 : Int).toNat).toList = ([46, 46] : List UInt8)
                            · rw [if_pos c24] at H
                              have c24b0 : ((a0.extract (x5_2 : Int).toNat (x6_12 : Int).toNat).toList == ([46, 46] : List UInt8)) = true := beq_iff_eq.mpr c24
                              have c24b1 : ((a0.extract (x5_2 : Int).toNat (x6_12 : Int).toNat).toList != ([46, 46] : List UInt8)) = false := bne_eq_false_iff_eq.mpr c24
                              clear c24
                              have HC25 := Aside0.mk H
                              clear H
                              go_upto_region 11 with (fail)
                              go_cut [55] (fun v55 wc => ∃ (kq : Nat) (x55_24 : Bool), v55 = .bool x55_24 ∧ Aside0 (spec_MemName.j5 kq a0 x3_2 x4_1 x6_12 (a0.extract (x5_2 : Int).toNat (x6_12 : Int).toNat) x55_24 = some r) ∧ Aside0 (kq ≤ kj20) ∧ Aside0 (Kd.R Kd.string 9 wc w.heap.size (fun _ => True) u3 x3_2) ∧ Aside0 (Below w.heap.size w wc))
                              case first =>
                                have H := HC25.out
                                clear HC25
                                by_cases c26 : (x3_2.length : Int) > 0
                                · rw [if_pos c26] at H
                                  have c26b0 : decide (0 < (x3_2.length : Int)) = true := decide_eq_true c26
                                  have c26b1 : decide (0 < x3_2.length) = true := decide_eq_true (by omega)
                                  clear c26
                                  (first | rw [c26b0] | (simp only [i64_w, i32_w]; rw [c26b0]) | skip)
                                  obtain ⟨ji27, hji27⟩ : ∃ j_ : Int, (wrap64 ((x3_2.length : Int) - 1)) = j_ := ⟨_, rfl⟩
                                  replace H : (if 0 ≤ (ji27) then (if (ji27) < (x3_2.length : Int) then (spec_MemName.j5 kj20 a0 x3_2 x4_1 x6_12 (a0.extract (x5_2 : Int).toNat (x6_12 : Int).toNat) ((rdOf ByteArray.empty x3_2 (ji27)).toList != ([46, 46] : List UInt8))) else (none)) else (none)) = some r := by first | (rw [hji27] at H; exact H) | (simp only [hji27] at H ⊢; exact H)
                                  have hji27w : (IntKind.i64.wrap ((x3_2.length : Int) - 1)) = ji27 := (i64_w _).trans hji27
                                  by_cases c28 : 0 ≤ (ji27)
                                  · rw [if_pos c28] at H
                                    have c28b0 : decide (0 ≤ (ji27)) = true := decide_eq_true c28
                                    clear c28
                                    by_cases c29 : (ji27) < (x3_2.length : Int)
                                    · rw [if_pos c29] at H
                                      have c29b0 : decide ((ji27) < (x3_2.length : Int)) = true := decide_eq_true c29
                                      clear c29
                                      have H' := Aside0.mk H
                                      clear H
                                      obtain ⟨Ao30, co30, eo30⟩ := Kd.R_slice HO_3.out
                                      subst eo30
                                      have p108 : 0 ≤ ((ji27) : Int) := of_decide_eq_true (by first | (with_reducible assumption) | assumption)
                                      have q108 : (ji27) < (x3_2.length : Int) := of_decide_eq_true (by first | (with_reducible assumption) | assumption)
                                      obtain ⟨ad108, e108, hx108_0⟩ := Kd.at_string (Kd.R_reads' HO_3.out).2.2 (ji27) p108 q108
                                      cases e108
                                      replace p108 := eq_true p108
                                      replace q108 := eq_true q108
                                      go_wp2
                                      go_meet
                                      case rel => exact ⟨_, (((rdOf ByteArray.empty x3_2 (ji27)).toList != ([46, 46] : List UInt8))), (by first | rfl | (simp; done) | (simp only [← hji27] <;> (first | rfl | simp)) | (simp [*]; done)), H', ⟨by have := HJ1.out; have := HK2.out; have := HJ12.out; have := HJ20.out; first | omega | exact Nat.le_refl _⟩, ⟨by (with_reducible repeat (first | apply Kd.R_alloc | apply Kd.R_drewN | apply Kd.R_drew)); exact HO_3.out⟩, ⟨by repeat (first | (with_reducible first | exact HB.out | apply below_alloc | apply pw_below_drewN | apply below_drew1) | exact HB.out)⟩⟩
                                    · rw [if_neg c29] at H
                                      exact absurd H (by simp)
                                  · rw [if_neg c28] at H
                                    exact absurd H (by simp)
                                · rw [if_neg c26] at H
                                  have c26b0 : decide (0 < (x3_2.length : Int)) = false := decide_eq_false c26
                                  have c26b1 : decide (0 < x3_2.length) = false := decide_eq_false (by omega)
                                  clear c26
                                  (first | rw [c26b0] | (simp only [i64_w, i32_w]; rw [c26b0]) | skip)
                                  have H' := Aside0.mk H
                                  clear H
                                  obtain ⟨Ao31, co31, eo31⟩ := Kd.R_slice HO_3.out
                                  subst eo31
                                  go_wp2
                                  go_meet
                                  case rel => exact ⟨_, (false), (by first | rfl | (simp; done) | (simp [*]; done)), H', ⟨by have := HJ1.out; have := HK2.out; have := HJ12.out; have := HJ20.out; first | omega | exact Nat.le_refl _⟩, ⟨by (with_reducible repeat (first | apply Kd.R_alloc | apply Kd.R_drewN | apply Kd.R_drew)); exact HO_3.out⟩, ⟨by repeat (first | (with_reducible first | exact HB.out | apply below_alloc | apply pw_below_drewN | apply below_drew1) | exact HB.out)⟩⟩
                              case rest =>
                                clear HC25
                                try clear c1
                                try clear p1
                                try clear q1
                                try clear hx1
                                try clear c2
                                try clear p2
                                try clear c3
                                try clear c3b0
                                try clear c3b1
                                try clear c4
                                try clear c4b0
                                try clear c4b1
                                try clear p5
                                try clear q5
                                try clear hx5
                                try clear qi5
                                try clear p6
                                try clear p10
                                try clear q10
                                try clear hx10
                                try clear c11
                                try clear c12
                                try clear c12b0
                                try clear c14
                                try clear c14b0
                                try clear c15
                                try clear c15b0
                                try clear p16
                                try clear q16
                                try clear hx16
                                try clear c17
                                try clear c17b0
                                try clear c17b1
                                try clear c18
                                try clear c18b0
                                try clear c18b1
                                try clear c19
                                try clear c19b0
                                try clear c19b1
                                try clear c20
                                try clear c20b0
                                try clear c20b1
                                try clear c22
                                try clear c22b0
                                try clear c22b1
                                try clear c23
                                try clear c24
                                try clear c24b0
                                try clear c24b1
                                try clear c26
                                try clear c26b0
                                try clear c26b1
                                try clear c28
                                try clear c28b0
                                try clear c29
                                try clear c29b0
                                try clear hx108_0
                                try clear p1
                                try clear p108
                                try clear p16
                                try clear p2
                                try clear p5
                                try clear p6
                                try clear q1
                                try clear q108
                                try clear q16
                                try clear q5
                                obtain ⟨kq, x55_24, rfl, HA, HJ24, HO_3, HB⟩ := hcut
                                cases kq with
                                | zero => exact absurd HA.out (by simp [spec_MemName.j5])
                                | succ kj24 =>
                                  have H := HA.out
                                  clear HA
                                  simp only [spec_MemName.j5] at H
                                  by_cases c32 : x55_24 = true
                                  · subst c32
                                    have H1 : (if 0 ≤ (wrap64 ((x3_2.length : Int) - 1)) then (if (wrap64 ((x3_2.length : Int) - 1)) ≤ (x3_2.length : Int) then (spec_MemName.l0 kj24 a0 (x3_2.take ((wrap64 ((x3_2.length : Int) - 1)) : Int).toNat) x4_1 (wrap64 (x6_12 + 1))) else (none)) else (none)) = some r := by rw [if_pos rfl] at H; exact H
                                    clear H
                                    have H := H1
                                    clear H1
                                    obtain ⟨ji33, hji33⟩ : ∃ j_ : Int, (wrap64 ((x3_2.length : Int) - 1)) = j_ := ⟨_, rfl⟩
                                    replace H : (if 0 ≤ (ji33) then (if (ji33) ≤ (x3_2.length : Int) then (spec_MemName.l0 kj24 a0 (x3_2.take ((ji33) : Int).toNat) x4_1 (wrap64 (x6_12 + 1))) else (none)) else (none)) = some r := by first | (rw [hji33] at H; exact H) | (simp only [hji33] at H ⊢; exact H)
                                    have hji33w : (IntKind.i64.wrap ((x3_2.length : Int) - 1)) = ji33 := (i64_w _).trans hji33
                                    by_cases c34 : 0 ≤ (ji33)
                                    · rw [if_pos c34] at H
                                      have c34b0 := eq_true c34
                                      have c34b1 : decide (0 ≤ (ji33)) = true := decide_eq_true c34
                                      clear c34
                                      by_cases c35 : (ji33) ≤ (x3_2.length : Int)
                                      · rw [if_pos c35] at H
                                        have c35b0 := eq_true c35
                                        have c35b1 : decide ((ji33) ≤ (x3_2.length : Int)) = true := decide_eq_true c35
                                        clear c35
                                        obtain ⟨y109, hy109⟩ : ∃ y_ : List ByteArray, y_ = (x3_2.take ((ji33) : Int).toNat) := ⟨_, rfl⟩
                                        replace H : (spec_MemName.l0 kj24 a0 y109 x4_1 (wrap64 (x6_12 + 1))) = some r := by first | (rw [hy109]; with_reducible exact H) | (have H2_ := (Option.bind_some _ _).symm.trans H; rw [hy109]; with_reducible exact H2_) | (have H2_ := (Option.bind_some _ _).symm.trans H; with_reducible exact H2_) | with_reducible exact H | (rw [hy109]; exact H) | exact H
                                        have Ny109 := Aside0.mk hy109
                                        clear hy109
                                        have H' := Aside0.mk H
                                        clear H
                                        obtain ⟨Ao36, co36, eo36⟩ := Kd.R_slice HO_3.out
                                        subst eo36
                                        have q37 : ((ji33) : Int) ≤ ((x3_2.length : Int) : Int) := of_decide_eq_true (by first | (with_reducible assumption) | assumption)
                                        obtain ⟨i037, hi037, _, hsz37, _⟩ := info_parts info9
                                        have hcut37 := cut_to (P := Try.prog) 45 9 .i64 Try.underlying45 hi037 Ao36 x3_2.length co36 (ji33) (of_decide_eq_true (by first | (with_reducible assumption) | assumption)) q37 (Kd.R_reads' HO_3.out).2.1
                                        have hr37 := Kd.R_take (m := ((ji33) : Int).toNat) HO_3.out (by omega)
                                        have hy37 : y109.length = ((ji33) : Int).toNat := (by rw [Ny109.out, List.length_take]; omega)
                                        rw [← Ny109.out] at hr37
                                        rw [← hy37] at hr37 hcut37
                                        clear hy37 hi037 hsz37 HO_3
                                        have HO111 := Aside0.mk hr37
                                        clear hr37
                                        replace q37 := eq_true q37
                                        go_wp2
                                        go_roundg kj24
                                        case measure => have := HJ1.out; have := HK2.out; have := HJ12.out; have := HJ20.out; have := HJ24.out; omega
                                        case rel => exact ⟨(y109), (wrap64 (x6_12 + 1)), (by first | rfl | (simp; done) | (simp [*]; done)), H', ⟨by have := HJ1.out; have := HK2.out; have := HJ12.out; have := HJ20.out; have := HJ24.out; omega⟩, ⟨by (with_reducible repeat (first | apply Kd.R_alloc | apply Kd.R_drewN | apply Kd.R_drew)); exact HO111.out⟩, ⟨by repeat (first | (with_reducible first | exact HB.out | apply below_alloc | apply pw_below_drewN | apply below_drew1) | exact HB.out)⟩⟩
                                      · rw [if_neg c35] at H
                                        exact absurd H (by simp)
                                    · rw [if_neg c34] at H
                                      exact absurd H (by simp)
                                  · replace c32 := Bool.eq_false_iff.mpr c32
                                    subst c32
                                    have H1 : (if x4_1 = true then (spec_MemName.l0 kj24 a0 x3_2 x4_1 (wrap64 (x6_12 + 1))) else (if x3_2.length < 8796093022208 then (spec_MemName.l0 kj24 a0 (x3_2 ++ [(a0.extract (x5_2 : Int).toNat (x6_12 : Int).toNat)]) x4_1 (wrap64 (x6_12 + 1))) else (none))) = some r := by rw [if_neg (show ¬ (false = true) by decide)] at H; exact H
                                    clear H
                                    have H := H1
                                    clear H1
                                    by_cases c38 : x4_1 = true
                                    · subst c38
                                      have H1 : (spec_MemName.l0 kj24 a0 x3_2 true (wrap64 (x6_12 + 1))) = some r := by rw [if_pos rfl] at H; exact H
                                      clear H
                                      have H := H1
                                      clear H1
                                      have H' := Aside0.mk H
                                      clear H
                                      go_wp2
                                      go_roundg kj24
                                      case measure => have := HJ1.out; have := HK2.out; have := HJ12.out; have := HJ20.out; have := HJ24.out; omega
                                      case rel => exact ⟨(x3_2), (wrap64 (x6_12 + 1)), (by first | rfl | (simp; done) | (simp [*]; done)), H', ⟨by have := HJ1.out; have := HK2.out; have := HJ12.out; have := HJ20.out; have := HJ24.out; omega⟩, ⟨by (with_reducible repeat (first | apply Kd.R_alloc | apply Kd.R_drewN | apply Kd.R_drew)); exact HO_3.out⟩, ⟨by repeat (first | (with_reducible first | exact HB.out | apply below_alloc | apply pw_below_drewN | apply below_drew1) | exact HB.out)⟩⟩
                                    · replace c38 := Bool.eq_false_iff.mpr c38
                                      subst c38
                                      have H1 : (if x3_2.length < 8796093022208 then (spec_MemName.l0 kj24 a0 (x3_2 ++ [(a0.extract (x5_2 : Int).toNat (x6_12 : Int).toNat)]) false (wrap64 (x6_12 + 1))) else (none)) = some r := by rw [if_neg (show ¬ (false = true) by decide)] at H; exact H
                                      clear H
                                      have H := H1
                                      clear H1
                                      by_cases c39 : x3_2.length < 8796093022208
                                      · rw [if_pos c39] at H
                                        have LMc39 := Aside0.mk c39
                                        clear c39
                                        obtain ⟨y112, hy112⟩ : ∃ y_ : List ByteArray, y_ = (x3_2 ++ [(a0.extract (x5_2 : Int).toNat (x6_12 : Int).toNat)]) := ⟨_, rfl⟩
                                        replace H : (spec_MemName.l0 kj24 a0 y112 false (wrap64 (x6_12 + 1))) = some r := by first | (rw [hy112]; with_reducible exact H) | (have H2_ := (Option.bind_some _ _).symm.trans H; rw [hy112]; with_reducible exact H2_) | (have H2_ := (Option.bind_some _ _).symm.trans H; with_reducible exact H2_) | with_reducible exact H | (rw [hy112]; exact H) | exact H
                                        have Ny112 := Aside0.mk hy112
                                        clear hy112
                                        have H' := Aside0.mk H
                                        clear H
                                        go_wp2_with (first | ((with_reducible refine gate_builtin (b := .append) (xs := #[.tmp 76, .tmp 78]) rfl ?_); (try (refine gate_guard (by rfl) ?_; dsimp only)); at_builtin; refine Kd.R_append Kd.string (w0 := w) w.heap.size rfl (.tmp 76) (.tmp 78) 45 9 (.string ⟨#[]⟩) 16 rfl Try.underlying45 info9 rfl (by decide) (by omega) u3 x3_2 (a0.extract (x5_2 : Int).toNat (x6_12 : Int).toNat) [.string (a0.extract (x5_2 : Int).toNat (x6_12 : Int).toNat)] (fun _ => True) (fun _ => False) rfl rfl ?aP (fun _ hk => hk.elim) ?aF ?aO ?aB ?aS ?aL ?_; (case aP => exact rfl); (case aB => exact (by repeat (first | (with_reducible first | exact HB.out | apply below_alloc | apply pw_below_drewN | apply below_drew1) | exact HB.out))); (case aF => exact (fun _ _ => trivial)); (case aO => exact (by (with_reducible repeat (first | apply Kd.R_alloc | apply Kd.R_drewN | apply Kd.R_drew)); exact HO_3.out)); (case aS => exact (below_size (by repeat (first | (with_reducible first | exact HB.out | apply below_alloc | apply pw_below_drewN | apply below_drew1) | exact HB.out)))); (case aL => have := LMc39.out; omega); intro v113 w40 ho hb hg hat; rw [← Ny112.out] at ho; have n0_ := Aside0.mk (hb); have n1_ := Aside0.mk (ho); clear HB; clear HO_3; have HB := n0_; have HO114 := n1_; clear n0_ n1_; clear ho hb hg hat))
                                        go_roundg kj24
                                        case measure => have := HJ1.out; have := HK2.out; have := HJ12.out; have := HJ20.out; have := HJ24.out; omega
                                        case rel => exact ⟨(y112), (wrap64 (x6_12 + 1)), (by first | rfl | (simp; done) | (simp [*]; done)), H', ⟨by have := HJ1.out; have := HK2.out; have := HJ12.out; have := HJ20.out; have := HJ24.out; omega⟩, ⟨by (with_reducible repeat (first | apply Kd.R_alloc | apply Kd.R_drewN | apply Kd.R_drew)); exact HO114.out⟩, ⟨by repeat (first | (with_reducible first | exact HB.out | apply below_alloc | apply pw_below_drewN | apply below_drew1) | exact HB.out)⟩⟩
                                      · rw [if_neg c39] at H
                                        exact absurd H (by simp)
                            · rw [if_neg c24] at H
                              have c24b0 : ((a0.extract (x5_2 : Int).toNat (x6_12 : Int).toNat).toList == ([46, 46] : List UInt8)) = false := beq_eq_false_iff_ne.mpr c24
                              have c24b1 : ((a0.extract (x5_2 : Int).toNat (x6_12 : Int).toNat).toList != ([46, 46] : List UInt8)) = true := bne_iff_ne.mpr c24
                              by_cases c41 : x3_2.length < 8796093022208
                              · rw [if_pos c41] at H
                                have LMc41 := Aside0.mk c41
                                clear c41
                                obtain ⟨y115, hy115⟩ : ∃ y_ : List ByteArray, y_ = (x3_2 ++ [(a0.extract (x5_2 : Int).toNat (x6_12 : Int).toNat)]) := ⟨_, rfl⟩
                                replace H : (spec_MemName.l0 kj20 a0 y115 x4_1 (wrap64 (x6_12 + 1))) = some r := by first | (rw [hy115]; with_reducible exact H) | (have H2_ := (Option.bind_some _ _).symm.trans H; rw [hy115]; with_reducible exact H2_) | (have H2_ := (Option.bind_some _ _).symm.trans H; with_reducible exact H2_) | with_reducible exact H | (rw [hy115]; exact H) | exact H
                                have Ny115 := Aside0.mk hy115
                                clear hy115
                                have H' := Aside0.mk H
                                clear H
                                go_wp2_with (first | ((with_reducible refine gate_builtin (b := .append) (xs := #[.tmp 51, .tmp 53]) rfl ?_); (try (refine gate_guard (by rfl) ?_; dsimp only)); at_builtin; refine Kd.R_append Kd.string (w0 := w) w.heap.size rfl (.tmp 51) (.tmp 53) 45 9 (.string ⟨#[]⟩) 16 rfl Try.underlying45 info9 rfl (by decide) (by omega) u3 x3_2 (a0.extract (x5_2 : Int).toNat (x6_12 : Int).toNat) [.string (a0.extract (x5_2 : Int).toNat (x6_12 : Int).toNat)] (fun _ => True) (fun _ => False) rfl rfl ?aP (fun _ hk => hk.elim) ?aF ?aO ?aB ?aS ?aL ?_; (case aP => exact rfl); (case aB => exact (by repeat (first | (with_reducible first | exact HB.out | apply below_alloc | apply pw_below_drewN | apply below_drew1) | exact HB.out))); (case aF => exact (fun _ _ => trivial)); (case aO => exact (by (with_reducible repeat (first | apply Kd.R_alloc | apply Kd.R_drewN | apply Kd.R_drew)); exact HO_3.out)); (case aS => exact (below_size (by repeat (first | (with_reducible first | exact HB.out | apply below_alloc | apply pw_below_drewN | apply below_drew1) | exact HB.out)))); (case aL => have := LMc41.out; omega); intro v116 w42 ho hb hg hat; rw [← Ny115.out] at ho; have n0_ := Aside0.mk (hb); have n1_ := Aside0.mk (ho); clear HB; clear HO_3; have HB := n0_; have HO117 := n1_; clear n0_ n1_; clear ho hb hg hat))
                                go_roundg kj20
                                case measure => have := HJ1.out; have := HK2.out; have := HJ12.out; have := HJ20.out; omega
                                case rel => exact ⟨(y115), (wrap64 (x6_12 + 1)), (by first | rfl | (simp; done) | (simp [*]; done)), H', ⟨by have := HJ1.out; have := HK2.out; have := HJ12.out; have := HJ20.out; omega⟩, ⟨by (with_reducible repeat (first | apply Kd.R_alloc | apply Kd.R_drewN | apply Kd.R_drew)); exact HO117.out⟩, ⟨by repeat (first | (with_reducible first | exact HB.out | apply below_alloc | apply pw_below_drewN | apply below_drew1) | exact HB.out)⟩⟩
                              · rw [if_neg c41] at H
                                exact absurd H (by simp)
                    · rw [if_neg c20] at H
                      exact absurd H (by simp)
                  · rw [if_neg c19] at H
                    exact absurd H (by simp)
                · rw [if_neg c18] at H
                  exact absurd H (by simp)
          · rw [if_neg c12] at H
            have c12b0 : decide (x5_2 < (a0.size : Int)) = false := decide_eq_false c12
            clear c12
            have H' := Aside0.mk H
            clear H
            obtain ⟨Ao43, co43, eo43⟩ := Kd.R_slice HO_3.out
            subst eo43
            go_wp2
            go_loopg [8, 84] k2 (fun kq v8 v84 w' => ∃ (x8_3 : ByteArray) (x84_3 : Int), v8 = .string x8_3 ∧ v84 = .int .i64 x84_3 ∧ Aside0 (spec_MemName.l2 kq x4_1 x8_3 x3_2 (x3_2.length : Int) x84_3 = some r) ∧ Aside0 (kq ≤ k2) ∧ Aside0 (Kd.R Kd.string 9 w' w.heap.size (fun _ => True) (.slice Ao43 x3_2.length co43) x3_2) ∧ Aside0 (Below w.heap.size w w'))
            case atStart => exact ⟨((⟨#[]⟩ : ByteArray)), (0), (by first | rfl | (simp; done) | (simp [*]; done)), (by first | rfl | (simp; done) | (simp [*]; done)), H', ⟨Nat.le_refl _⟩, ⟨by (with_reducible repeat (first | apply Kd.R_alloc | apply Kd.R_drewN | apply Kd.R_drew)); exact HO_3.out⟩, ⟨by repeat (first | (with_reducible first | exact HB.out | apply below_alloc | apply pw_below_drewN | apply below_drew1) | exact HB.out)⟩⟩
            case round =>
              clear H'
              try clear c1
              try clear p1
              try clear q1
              try clear hx1
              try clear c2
              try clear p2
              try clear c3
              try clear c3b0
              try clear c3b1
              try clear q3
              try clear c4
              try clear c4b0
              try clear c4b1
              try clear p5
              try clear q5
              try clear hx5
              try clear qi5
              try clear p6
              try clear p10
              try clear q10
              try clear hx10
              try clear c11
              try clear c12
              try clear c12b0
              try clear c14
              try clear c14b0
              try clear c15
              try clear c15b0
              try clear p16
              try clear q16
              try clear hx16
              try clear c17
              try clear c17b0
              try clear c17b1
              try clear c18
              try clear c18b0
              try clear c18b1
              try clear c19
              try clear c19b0
              try clear c19b1
              try clear c20
              try clear c20b0
              try clear c20b1
              try clear c22
              try clear c22b0
              try clear c22b1
              try clear c23
              try clear c24
              try clear c24b0
              try clear c24b1
              try clear c26
              try clear c26b0
              try clear c26b1
              try clear c28
              try clear c28b0
              try clear c29
              try clear c29b0
              try clear c32
              try clear c34
              try clear c34b0
              try clear c34b1
              try clear c35
              try clear c35b0
              try clear c35b1
              try clear q37
              try clear c38
              try clear c39
              try clear c41
              try clear hx108_0
              try clear p1
              try clear p10
              try clear p108
              try clear p16
              try clear p2
              try clear p5
              try clear p6
              try clear q1
              try clear q10
              try clear q108
              try clear q16
              try clear q37
              try clear q5
              obtain ⟨x8_3, x84_3, rfl, rfl, HA, HK3, HO_82, HB⟩ := hrel
              cases gk with
              | zero => exact absurd HA.out (by simp [spec_MemName.l2])
              | succ k3 =>
                have H := HA.out
                clear HA
                simp only [spec_MemName.l2] at H
                by_cases c44 : x84_3 < (x3_2.length : Int)
                · rw [if_pos c44] at H
                  have c44b0 : decide (x84_3 < (x3_2.length : Int)) = true := decide_eq_true c44
                  clear c44
                  by_cases c45 : 0 ≤ x84_3
                  · rw [if_pos c45] at H
                    have c45b0 : decide (0 ≤ x84_3) = true := decide_eq_true c45
                    clear c45
                    by_cases c46 : x84_3 < (x3_2.length : Int)
                    · rw [if_pos c46] at H
                      have c46b0 : decide (x84_3 < (x3_2.length : Int)) = true := decide_eq_true c46
                      clear c46
                      by_cases c47 : x84_3 > 0
                      · rw [if_pos c47] at H
                        have c47b0 : decide (0 < x84_3) = true := decide_eq_true c47
                        clear c47
                        by_cases c48 : x8_3.size + 1 ≤ 9223372036854775807
                        · rw [if_pos c48] at H
                          have c48b0 := eq_true c48
                          have c48b1 : decide (x8_3.size + 1 ≤ 9223372036854775807) = true := decide_eq_true c48
                          try have c48b2 : (9223372036854775807 < x8_3.size + 1) = False := eq_false (Nat.not_lt.2 c48)
                          by_cases c49 : (x8_3 ++ (⟨#[47]⟩ : ByteArray)).size + (rdOf ByteArray.empty x3_2 x84_3).size ≤ 9223372036854775807
                          · rw [if_pos c49] at H
                            have c49b0 := eq_true c49
                            have c49b1 : decide ((x8_3 ++ (⟨#[47]⟩ : ByteArray)).size + (rdOf ByteArray.empty x3_2 x84_3).size ≤ 9223372036854775807) = true := decide_eq_true c49
                            try have c49b2 : (9223372036854775807 < (x8_3 ++ (⟨#[47]⟩ : ByteArray)).size + (rdOf ByteArray.empty x3_2 x84_3).size) = False := eq_false (Nat.not_lt.2 c49)
                            have H' := Aside0.mk H
                            clear H
                            have p118 : 0 ≤ (x84_3 : Int) := of_decide_eq_true (by first | (with_reducible assumption) | assumption)
                            have q118 : x84_3 < (x3_2.length : Int) := of_decide_eq_true (by first | (with_reducible assumption) | assumption)
                            obtain ⟨ad118, e118, hx118_0⟩ := Kd.at_string (Kd.R_reads' HO_82.out).2.2 x84_3 p118 q118
                            cases e118
                            replace p118 := eq_true p118
                            replace q118 := eq_true q118
                            go_wp2
                            go_roundg k3
                            case measure => have := HJ1.out; have := HK2.out; have := HK3.out; omega
                            case rel => exact ⟨((x8_3 ++ (⟨#[47]⟩ : ByteArray)) ++ (rdOf ByteArray.empty x3_2 x84_3)), (wrap64 (x84_3 + 1)), (by first | rfl | (simp; done) | (simp [*]; done)), (by first | rfl | (simp; done) | (simp [*]; done)), H', ⟨by have := HJ1.out; have := HK2.out; have := HK3.out; omega⟩, ⟨by (with_reducible repeat (first | apply Kd.R_alloc | apply Kd.R_drewN | apply Kd.R_drew)); exact HO_82.out⟩, ⟨by repeat (first | (with_reducible first | exact HB.out | apply below_alloc | apply pw_below_drewN | apply below_drew1) | exact HB.out)⟩⟩
                          · rw [if_neg c49] at H
                            exact absurd H (by simp)
                        · rw [if_neg c48] at H
                          exact absurd H (by simp)
                      · rw [if_neg c47] at H
                        have c47b0 : decide (0 < x84_3) = false := decide_eq_false c47
                        clear c47
                        by_cases c50 : x4_1 = true
                        · subst c50
                          have H1 : (if x8_3.size + 1 ≤ 9223372036854775807 then (if (x8_3 ++ (⟨#[47]⟩ : ByteArray)).size + (rdOf ByteArray.empty x3_2 x84_3).size ≤ 9223372036854775807 then (spec_MemName.l2 k3 true ((x8_3 ++ (⟨#[47]⟩ : ByteArray)) ++ (rdOf ByteArray.empty x3_2 x84_3)) x3_2 (x3_2.length : Int) (wrap64 (x84_3 + 1))) else (none)) else (none)) = some r := by rw [if_pos rfl] at H; exact H
                          clear H
                          have H := H1
                          clear H1
                          by_cases c51 : x8_3.size + 1 ≤ 9223372036854775807
                          · rw [if_pos c51] at H
                            have c51b0 := eq_true c51
                            have c51b1 : decide (x8_3.size + 1 ≤ 9223372036854775807) = true := decide_eq_true c51
                            try have c51b2 : (9223372036854775807 < x8_3.size + 1) = False := eq_false (Nat.not_lt.2 c51)
                            by_cases c52 : (x8_3 ++ (⟨#[47]⟩ : ByteArray)).size + (rdOf ByteArray.empty x3_2 x84_3).size ≤ 9223372036854775807
                            · rw [if_pos c52] at H
                              have c52b0 := eq_true c52
                              have c52b1 : decide ((x8_3 ++ (⟨#[47]⟩ : ByteArray)).size + (rdOf ByteArray.empty x3_2 x84_3).size ≤ 9223372036854775807) = true := decide_eq_true c52
                              try have c52b2 : (9223372036854775807 < (x8_3 ++ (⟨#[47]⟩ : ByteArray)).size + (rdOf ByteArray.empty x3_2 x84_3).size) = False := eq_false (Nat.not_lt.2 c52)
                              have H' := Aside0.mk H
                              clear H
                              have p118 : 0 ≤ (x84_3 : Int) := of_decide_eq_true (by first | (with_reducible assumption) | assumption)
                              have q118 : x84_3 < (x3_2.length : Int) := of_decide_eq_true (by first | (with_reducible assumption) | assumption)
                              obtain ⟨ad118, e118, hx118_0⟩ := Kd.at_string (Kd.R_reads' HO_82.out).2.2 x84_3 p118 q118
                              cases e118
                              replace p118 := eq_true p118
                              replace q118 := eq_true q118
                              go_wp2
                              go_roundg k3
                              case measure => have := HJ1.out; have := HK2.out; have := HK3.out; omega
                              case rel => exact ⟨((x8_3 ++ (⟨#[47]⟩ : ByteArray)) ++ (rdOf ByteArray.empty x3_2 x84_3)), (wrap64 (x84_3 + 1)), (by first | rfl | (simp; done) | (simp [*]; done)), (by first | rfl | (simp; done) | (simp [*]; done)), H', ⟨by have := HJ1.out; have := HK2.out; have := HK3.out; omega⟩, ⟨by (with_reducible repeat (first | apply Kd.R_alloc | apply Kd.R_drewN | apply Kd.R_drew)); exact HO_82.out⟩, ⟨by repeat (first | (with_reducible first | exact HB.out | apply below_alloc | apply pw_below_drewN | apply below_drew1) | exact HB.out)⟩⟩
                            · rw [if_neg c52] at H
                              exact absurd H (by simp)
                          · rw [if_neg c51] at H
                            exact absurd H (by simp)
                        · replace c50 := Bool.eq_false_iff.mpr c50
                          subst c50
                          have H1 : (if x8_3.size + (rdOf ByteArray.empty x3_2 x84_3).size ≤ 9223372036854775807 then (spec_MemName.l2 k3 false (x8_3 ++ (rdOf ByteArray.empty x3_2 x84_3)) x3_2 (x3_2.length : Int) (wrap64 (x84_3 + 1))) else (none)) = some r := by rw [if_neg (show ¬ (false = true) by decide)] at H; exact H
                          clear H
                          have H := H1
                          clear H1
                          by_cases c53 : x8_3.size + (rdOf ByteArray.empty x3_2 x84_3).size ≤ 9223372036854775807
                          · rw [if_pos c53] at H
                            have c53b0 := eq_true c53
                            have c53b1 : decide (x8_3.size + (rdOf ByteArray.empty x3_2 x84_3).size ≤ 9223372036854775807) = true := decide_eq_true c53
                            try have c53b2 : (9223372036854775807 < x8_3.size + (rdOf ByteArray.empty x3_2 x84_3).size) = False := eq_false (Nat.not_lt.2 c53)
                            have H' := Aside0.mk H
                            clear H
                            have p118 : 0 ≤ (x84_3 : Int) := of_decide_eq_true (by first | (with_reducible assumption) | assumption)
                            have q118 : x84_3 < (x3_2.length : Int) := of_decide_eq_true (by first | (with_reducible assumption) | assumption)
                            obtain ⟨ad118, e118, hx118_0⟩ := Kd.at_string (Kd.R_reads' HO_82.out).2.2 x84_3 p118 q118
                            cases e118
                            replace p118 := eq_true p118
                            replace q118 := eq_true q118
                            go_wp2
                            go_roundg k3
                            case measure => have := HJ1.out; have := HK2.out; have := HK3.out; omega
                            case rel => exact ⟨(x8_3 ++ (rdOf ByteArray.empty x3_2 x84_3)), (wrap64 (x84_3 + 1)), (by first | rfl | (simp; done) | (simp [*]; done)), (by first | rfl | (simp; done) | (simp [*]; done)), H', ⟨by have := HJ1.out; have := HK2.out; have := HK3.out; omega⟩, ⟨by (with_reducible repeat (first | apply Kd.R_alloc | apply Kd.R_drewN | apply Kd.R_drew)); exact HO_82.out⟩, ⟨by repeat (first | (with_reducible first | exact HB.out | apply below_alloc | apply pw_below_drewN | apply below_drew1) | exact HB.out)⟩⟩
                          · rw [if_neg c53] at H
                            exact absurd H (by simp)
                    · rw [if_neg c46] at H
                      exact absurd H (by simp)
                  · rw [if_neg c45] at H
                    exact absurd H (by simp)
                · rw [if_neg c44] at H
                  have c44b0 : decide (x84_3 < (x3_2.length : Int)) = false := decide_eq_false c44
                  clear c44
                  by_cases c54 : x8_3.toList = ([] : List UInt8)
                  · rw [if_pos c54] at H
                    have c54b0 : (x8_3.toList == ([] : List UInt8)) = true := beq_iff_eq.mpr c54
                    have c54b1 : (x8_3.toList != ([] : List UInt8)) = false := bne_eq_false_iff_eq.mpr c54
                    clear c54
                    obtain rfl := Option.some.inj H
                    go_wp2
                    go_ret
                    exact ⟨by first | rfl | (simp [errW_none, errW_some] <;> rfl) | (simp [*, errW_none, errW_some] <;> rfl), by repeat (first | (with_reducible first | exact HB.out | apply below_alloc | apply pw_below_drewN | apply below_drew1) | exact HB.out)⟩
                  · rw [if_neg c54] at H
                    have c54b0 : (x8_3.toList == ([] : List UInt8)) = false := beq_eq_false_iff_ne.mpr c54
                    have c54b1 : (x8_3.toList != ([] : List UInt8)) = true := bne_iff_ne.mpr c54
                    by_cases c55 : x8_3.toList = ([46, 46] : List UInt8)
                    · rw [if_pos c55] at H
                      have c55b0 : (x8_3.toList == ([46, 46] : List UInt8)) = true := beq_iff_eq.mpr c55
                      have c55b1 : (x8_3.toList != ([46, 46] : List UInt8)) = false := bne_eq_false_iff_eq.mpr c55
                      clear c55
                      obtain rfl := Option.some.inj H
                      go_wp2
                      go_ret
                      exact ⟨by first | rfl | (simp [errW_none, errW_some] <;> rfl) | (simp [*, errW_none, errW_some] <;> rfl), by repeat (first | (with_reducible first | exact HB.out | apply below_alloc | apply pw_below_drewN | apply below_drew1) | exact HB.out)⟩
                    · rw [if_neg c55] at H
                      have c55b0 : (x8_3.toList == ([46, 46] : List UInt8)) = false := beq_eq_false_iff_ne.mpr c55
                      have c55b1 : (x8_3.toList != ([46, 46] : List UInt8)) = true := bne_iff_ne.mpr c55
                      obtain rfl := Option.some.inj H
                      go_wp2
                      go_ret
                      exact ⟨by first | rfl | (simp [errW_none, errW_some] <;> rfl) | (simp [*, errW_none, errW_some] <;> rfl), by repeat (first | (with_reducible first | exact HB.out | apply below_alloc | apply pw_below_drewN | apply below_drew1) | exact HB.out)⟩

end Go.Proofs.Ytckjbgneblfceaa.PFnMergeDirs
