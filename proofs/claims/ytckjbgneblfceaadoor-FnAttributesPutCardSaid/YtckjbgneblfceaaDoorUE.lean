/- A part of the proof that FnAttributesPut answers true for all attributes, sizes and offsets. -/
import Derived.Test.YtckjbgneblfceaaDoorUD
import Derived.Lib.ConvBytes
import Derived.Handy
import Derived.Test.YtckjbgneblfceaaDoorUB
import Derived.Maps.OwnSet
import Derived.Maps.RangeWalk
import Derived.Sort.KeysCollected
import Derived.StringKeys
namespace Go.Proofs.YtckjbgneblfceaaDoor.At
open Go.RowKit Go.Maps Go.Proofs.YtckjbgneblfceaaDoorW.PrintWords Go.Proofs.YtckjbgneblfceaaDoorW.PrintLast Go.Proofs.YtckjbgneblfceaaDoorW.PrintMore
open Go.Proofs.YtckjbgneblfceaaDoor.Da Go.Proofs.YtckjbgneblfceaaDoor.Fa Go.Proofs.YtckjbgneblfceaaDoor.Fm Go.Proofs.YtckjbgneblfceaaDoor.PFnFitFirst
open Go.Proofs.YtckjbgneblfceaaDoor.Fb Go.Proofs.YtckjbgneblfceaaDoor.Fc Go.Proofs.YtckjbgneblfceaaDoor.Fe
open Go.Proofs.YtckjbgneblfceaaDoor.Al (up4 roomL room laid40)
set_option linter.unusedVariables false
set_option linter.unusedSimpArgs false
set_option maxRecDepth 100000 in
theorem le_law2 (b : List Int) (h : InBytes b) (o n : Nat) (hn : n ≤ 8) (ho : o ≤ 10000000) (hb : b.length ≤ 10000000) : ∀ i : Nat, i ≤ n → PFnAttributesPut.spec_le.l0 (i + 1) b o (leF b (o + i) (n - i)) i = some (leF b o n)
  | 0, _ => by
    rw [PFnAttributesPut.spec_le.l0, if_neg (by decide)]; rfl
  | i + 1, hi => by
    have h1 := leF_range h (n - (i + 1)) (o + (i + 1))
    have h2 := h.at (o + i)
    have h3 : leF b (o + i) (n - i) = b.getD (o + i) 0 + 256 * leF b (o + (i + 1)) (n - (i + 1)) := by
      rw [show n - i = (n - (i + 1)) + 1 by omega]; rfl
    have hp : (256 : Int) ^ (n - (i + 1)) ≤ 256 ^ 7 := by
      have : (256 : Nat) ^ (n - (i + 1)) ≤ 256 ^ 7 := Nat.pow_le_pow_right (by decide) (by omega)
      exact_mod_cast this
    have hp2 : (256 : Int) ^ 7 * 256 = 2 ^ 64 := by decide
    generalize (256 : Int) ^ (n - (i + 1)) = P at h1 hp
    have e1 : IntKind.u64.wrap ((o : Int) + ((i + 1 : Nat) : Int)) = (o : Int) + (i + 1 : Nat) := w64 _ (by omega) (by omega)
    have e2 : IntKind.u64.wrap ((o : Int) + ((i + 1 : Nat) : Int) - 1) = ((o + i : Nat) : Int) := by rw [w64 _ (by omega) (by omega)]; omega
    have e3 : IntKind.u64.wrap ((b.length : Nat) : Int) = b.length := w64 _ (by omega) (by omega)
    have e4 : IntKind.u64.wrap (leF b (o + (i + 1)) (n - (i + 1)) * 256) = leF b (o + (i + 1)) (n - (i + 1)) * 256 := w64 _ (by omega) (by omega)
    have e5 : rd b ((o + i : Nat) : Int) = b.getD (o + i) 0 := by unfold rd; rw [Int.toNat_natCast]
    have e6 : IntKind.u64.wrap (b.getD (o + i) 0) = b.getD (o + i) 0 := w64 _ (by omega) (by omega)
    have e7 : IntKind.u64.wrap (((i + 1 : Nat) : Int) - 1) = (i : Int) := by rw [w64 _ (by omega) (by omega)]; omega
    rw [PFnAttributesPut.spec_le.l0]
    by_cases hl : o + i < b.length
    · rw [if_pos (by omega), e1, e2, e3, if_pos (by omega), if_pos (by omega), if_pos (by omega), if_pos (by omega), e4, e5, e6, e7, or64 _ _ (by omega) (by omega) (by omega) (by omega), ← h3]
      exact le_law2 b h o n hn ho hb i (by omega)
    · have e8 : b.getD (o + i) 0 = 0 := by rw [List.getD_eq_getElem?_getD, List.getElem?_eq_none (by omega)]; rfl
      rw [e8, Int.zero_add, Int.mul_comm] at h3
      rw [if_pos (by omega), e1, e2, e3, if_pos (by omega), if_neg (by omega), e4, e7, ← h3]
      exact le_law2 b h o n hn ho hb i (by omega)
theorem le4_law (b : List Int) (h : InBytes b) (o : Nat) (ho : o ≤ 10000000) (hb : b.length ≤ 10000000) (k : Nat) : PFnAttributesPut.spec_le.f (k + 5) b (IntKind.u64.wrap o) 4 = some (leF b o 4) := by
  have h0 := le_law2 b h o 4 (by decide) ho hb 4 (by decide)
  rw [w64 _ (by omega) (by omega)]
  have h1 : PFnAttributesPut.spec_le.f 5 b o 4 = some (leF b o 4) := h0
  clear h0
  induction k with
  | zero => exact h1
  | succ k ih => exact PFnAttributesPut.spec_le.mono _ _ _ _ _ ih
theorem attr_l1 (b : List Int) (h : InBytes b) (hb : b.length ≤ 100000) (x : Int) : ∀ (m j k : Nat), (b.length + 3) / 4 = j + m → PFnAttributesPut.spec_attributeHash.l1 (k + m + 5) b (valH b x j) ((4 * j : Nat) : Int) = some (valH b x ((b.length + 3) / 4))
  | 0, j, k, e => by
    rw [PFnAttributesPut.spec_attributeHash.l1, if_neg (by omega), e]; rfl
  | m + 1, j, k, e => by
    have e1 : (wrap64 (((4 * j : Nat) : Int) + 4)) = ((4 * (j + 1) : Nat) : Int) := by unfold wrap64; omega
    have e2 : k + (m + 1) + 5 = (k + m + 5) + 1 := by omega
    have hr := leF_range h 4 (4 * j)
    rw [e2, PFnAttributesPut.spec_attributeHash.l1, if_pos (by omega), show k + m + 5 = (k + m) + 5 from rfl, le4_law b h (4 * j) (by omega) (by omega) (k + m), Option.bind_some, e1]
    exact attr_l1 b h hb x m (j + 1) k (by omega)
theorem attr_l0 (s b : List Int) (h : InBytes b) (hb : b.length ≤ 100000) (hs : s.length ≤ 100000) : ∀ (m i k : Nat), s.length = i + m → PFnAttributesPut.spec_attributeHash.l0 (k + (m + 1) + ((b.length + 3) / 4) + 5) b (nameH (s.take i)) s (s.length : Int) (i : Int) = some (valH b (nameH s) ((b.length + 3) / 4))
  | 0, i, k, e => by
    have e1 : s.take i = s := List.take_of_length_le (by omega)
    have e2 : k + (0 + 1) + ((b.length + 3) / 4) + 5 = (k + ((b.length + 3) / 4) + 5) + 1 := by omega
    rw [e2, PFnAttributesPut.spec_attributeHash.l0, if_neg (by omega), e1]
    exact attr_l1 b h hb (nameH s) ((b.length + 3) / 4) 0 k (by omega)
  | m + 1, i, k, e => by
    have e2 : k + (m + 1 + 1) + ((b.length + 3) / 4) + 5 = (k + (m + 1) + ((b.length + 3) / 4) + 5) + 1 := by omega
    have e3 : wrap64 ((i : Int) + 1) = ((i + 1 : Nat) : Int) := by unfold wrap64; omega
    have e4 : nameH (s.take (i + 1)) = h5 (nameH (s.take i)) (rd s (i : Int)) := by
      rw [List.take_add_one, List.getElem?_eq_getElem (by omega), Option.toList_some, nameH_snoc]
      unfold rd
      rw [Int.toNat_natCast, List.getD_eq_getElem?_getD, List.getElem?_eq_getElem (by omega)]; rfl
    rw [e2, PFnAttributesPut.spec_attributeHash.l0, if_pos (by omega), if_pos (by omega), if_pos (by omega), e3]
    have := attr_l0 s b h hb hs m (i + 1) k (by omega)
    rw [e4] at this
    exact this
theorem attr_law (s b : List Int) (h : InBytes b) (hb : b.length ≤ 100000) (hs : s.length ≤ 100000) : ∃ k, PFnAttributesPut.spec_attributeHash.f k s b = some (valH b (nameH s) ((b.length + 3) / 4)) :=
  ⟨_, attr_l0 s b h hb hs s.length 0 0 (by omega)⟩
theorem lies_bytes (w : World) (s : ByteArray) : Lies w.heap.size 0 (nb s) (Lib.bytesWorld w 5 s) := by
  intro k x hk
  have hl : k < s.size := by have := (List.getElem?_eq_some_iff.1 hk).1; rwa [nb_len] at this
  rw [nb_at s k hl] at hk
  rw [Nat.zero_add, Lib.bytesWorld_cell w 5 s k hl, ← Option.some.inj hk]
  congr 1
  rw [List.getD_eq_getElem?_getD, Array.getElem?_toList, Array.getElem?_eq_getElem (by exact hl)]
  rfl
set_option maxHeartbeats 4000000 in
set_option maxRecDepth 100000 in
theorem hash45 (s : ByteArray) (hs : s.size ≤ 100000) (A : Option Addr) (n c : Nat) (b : List Int) (w : World) (hC : (Kd.int .u8).C w A n b) (hnc : n ≤ c) (hn : n ≤ 100000) (hi : InBytes b) :
    Calls Tryd.prog 45 #[.string s, .slice A n c] w fun e w' => e = .returned (.int .u32 (valH b (nameH (nb s)) ((n + 3) / 4))) ∧ Below w.heap.size w w' := by
  have kc := fun w => Lib.run_convert_string_bytes (P := Tryd.prog) w 9 33 5 s Tryd.underlying9 Tryd.underlying33 Tryd.underlying5
  have hl : b.length = n := Kd.C_len hC
  subst hl
  obtain ⟨k, hk⟩ := attr_law (nb s) b hi hn (by rw [nb_len]; exact hs)
  have hb : Below w.heap.size w (Lib.bytesWorld w 5 s) := bytes_below (Below.refl _ w) (Nat.le_refl _) 5 s
  have h1 := C_of_lies (lies_bytes w s) (by rw [nb_len]; omega)
  have hA := PFnAttributesPut.spec_attributeHash.calls k _ (grownCap w s.size 0 5) (nb s) A c b _ (Lib.bytesWorld w 5 s) h1 (by rw [nb_len]; exact grownCap_ge _ _ _ _) (Kd.C_below hC hb) hnc hk
  rw [nb_len] at hA
  have HA := Lib.hid hA
  have HB := Lib.hid hb
  clear hA hb h1 hC hk
  go_enter Tryd.func45, Tryd.ntmps45
  go_wp2_with (first | (go_at_call 63; (with_reducible refine (HA.out).mono ?_); rintro e w2 ⟨rfl, hd⟩; have B := Lib.hid (below_then HB.out HB.out.size (drawn_below hd)); clear hd))
  go_ret
  exact ⟨rfl, B.out⟩
set_option maxHeartbeats 4000000 in
set_option maxRecDepth 100000 in
theorem put44_1 (g o m c : Nat) (x : Int) (w0 W : World) (f : List Int) (hB : Bst g w0 f W) (hm : o + 1 ≤ m) (hf : m ≤ f.length) (ho : o ≤ 1000000) (h0 : 0 ≤ x) (h1 : x < 256) :
    Calls Tryd.prog 44 #[.slice (some ⟨g, 0, none⟩) m c, .int .i64 (o : Int), .int .i64 1, .int .u64 x] W fun e w' => e = .returned (.tuple #[]) ∧ Bst g w0 (laidL f o [x]) w' := by
  have HB := Lib.hid hB
  obtain ⟨x0, c0, z0⟩ := hB.at o (by omega)
  clear hB
  have m0 : ((o : Int) < (m : Int)) = True := eq_true (by omega)
  have m1 : (0 ≤ (o : Int)) = True := eq_true (by omega)
  have m2 : IntKind.i64.wrap (o : Int) = o := IntWalk.i64_in _ (by omega)
  have m4 : x % 256 = x := by omega
  go_enter Tryd.func44, Tryd.ntmps44
  go_wp2
  go_rounds 2

  go_returns
  exact ⟨rfl, HB.out.set o (by omega) x⟩
set_option maxHeartbeats 4000000 in
set_option maxRecDepth 100000 in
theorem put44_2 (g o m c : Nat) (x : Int) (w0 W : World) (f : List Int) (hB : Bst g w0 f W) (hm : o + 2 ≤ m) (hf : m ≤ f.length) (ho : o ≤ 1000000) (h0 : 0 ≤ x) (h1 : x < 65536) :
    Calls Tryd.prog 44 #[.slice (some ⟨g, 0, none⟩) m c, .int .i64 (o : Int), .int .i64 2, .int .u64 x] W fun e w' => e = .returned (.tuple #[]) ∧ Bst g w0 (laidL f o [x % 256, x / 256 % 256]) w' := by
  have HB := Lib.hid hB
  obtain ⟨x0, c0, z0⟩ := hB.at o (by omega)
  obtain ⟨x1, c1, z1⟩ := hB.at (o + 1) (by omega)
  clear hB
  have m0 : ((o : Int) < (m : Int)) = True := eq_true (by omega)
  have p0 : (0 ≤ (o : Int)) = True := eq_true (by omega)
  have q0 : IntKind.i64.wrap ((o : Int)) = (o : Int) := IntWalk.i64_in _ (by omega)
  have m1 : ((o : Int) + 1 < (m : Int)) = True := eq_true (by omega)
  have p1 : (0 ≤ (o : Int) + 1) = True := eq_true (by omega)
  have q1 : IntKind.i64.wrap ((o : Int) + 1) = (o : Int) + 1 := IntWalk.i64_in _ (by omega)
  go_enter Tryd.func44, Tryd.ntmps44
  go_wp2
  go_rounds 3
  go_returns
  refine ⟨rfl, ?_⟩
  have h2 := (HB.out.set o (by omega) (x % 256)).set (o + 1) (by rw [laidL_len _ _ _ (by simp; omega)]; omega) (x / 256)
  have e1 := laidL_two f o [x % 256] [x / 256] (by simp; omega)
  simp only [List.length_singleton, List.length_cons, List.length_nil, List.cons_append, List.nil_append, Nat.reduceAdd, Nat.zero_add] at e1
  rw [e1] at h2
  rw [show x / 256 % 256 = x / 256 from by omega]
  exact h2
set_option maxHeartbeats 4000000 in
set_option maxRecDepth 100000 in
theorem put44_4 (g o m c : Nat) (x : Int) (w0 W : World) (f : List Int) (hB : Bst g w0 f W) (hm : o + 4 ≤ m) (hf : m ≤ f.length) (ho : o ≤ 1000000) (h0 : 0 ≤ x) (h1 : x < 4294967296) :
    Calls Tryd.prog 44 #[.slice (some ⟨g, 0, none⟩) m c, .int .i64 (o : Int), .int .i64 4, .int .u64 x] W fun e w' => e = .returned (.tuple #[]) ∧ Bst g w0 (laidL f o [x % 256, x / 256 % 256, x / 65536 % 256, x / 16777216 % 256]) w' := by
  have HB := Lib.hid hB
  obtain ⟨x0, c0, z0⟩ := hB.at o (by omega)
  obtain ⟨x1, c1, z1⟩ := hB.at (o + 1) (by omega)
  obtain ⟨x2, c2, z2⟩ := hB.at (o + 2) (by omega)
  obtain ⟨x3, c3, z3⟩ := hB.at (o + 3) (by omega)
  clear hB
  have m0 : ((o : Int) < (m : Int)) = True := eq_true (by omega)
  have p0 : (0 ≤ (o : Int)) = True := eq_true (by omega)
  have q0 : IntKind.i64.wrap ((o : Int)) = (o : Int) := IntWalk.i64_in _ (by omega)
  have m1 : ((o : Int) + 1 < (m : Int)) = True := eq_true (by omega)
  have p1 : (0 ≤ (o : Int) + 1) = True := eq_true (by omega)
  have q1 : IntKind.i64.wrap ((o : Int) + 1) = (o : Int) + 1 := IntWalk.i64_in _ (by omega)
  have m2 : ((o : Int) + 2 < (m : Int)) = True := eq_true (by omega)
  have p2 : (0 ≤ (o : Int) + 2) = True := eq_true (by omega)
  have q2 : IntKind.i64.wrap ((o : Int) + 2) = (o : Int) + 2 := IntWalk.i64_in _ (by omega)
  have m3 : ((o : Int) + 3 < (m : Int)) = True := eq_true (by omega)
  have p3 : (0 ≤ (o : Int) + 3) = True := eq_true (by omega)
  have q3 : IntKind.i64.wrap ((o : Int) + 3) = (o : Int) + 3 := IntWalk.i64_in _ (by omega)
  go_enter Tryd.func44, Tryd.ntmps44
  go_wp2
  go_rounds 5
  go_returns
  refine ⟨rfl, ?_⟩
  have h2 := (((HB.out.set o (by omega) (x % 256)).set (o + 1) (by rw [laidL_len _ _ _ (by simp; omega)]; omega) (x / 256 % 256)).set (o + 2) (by rw [laidL_len _ _ _ (by rw [laidL_len _ _ _ (by simp; omega)]; simp; omega), laidL_len _ _ _ (by simp; omega)]; omega) (x / 65536 % 256)).set (o + 3) (by rw [laidL_len _ _ _ (by rw [laidL_len _ _ _ (by rw [laidL_len _ _ _ (by simp; omega)]; simp; omega), laidL_len _ _ _ (by simp; omega)]; simp; omega), laidL_len _ _ _ (by rw [laidL_len _ _ _ (by simp; omega)]; simp; omega), laidL_len _ _ _ (by simp; omega)]; omega) (x / 16777216)
  have e1 := laidL_two f o [x % 256] [x / 256 % 256] (by simp; omega)
  have e2 := laidL_two f o [x % 256, x / 256 % 256] [x / 65536 % 256] (by simp; omega)
  have e3 := laidL_two f o [x % 256, x / 256 % 256, x / 65536 % 256] [x / 16777216] (by simp; omega)
  simp only [List.length_singleton, List.length_cons, List.length_nil, List.cons_append, List.nil_append, Nat.reduceAdd, Nat.zero_add] at e1 e2 e3
  rw [e1, e2, e3] at h2
  rw [show x / 16777216 % 256 = x / 16777216 from by omega]
  exact h2
theorem begins3 (s p : ByteArray) : spec_Begins.f s p = some (beg s p) := by
  unfold spec_Begins.f beg
  by_cases h : p.size ≤ s.size
  · rw [if_pos (by omega), if_pos (by omega), if_pos (by omega)]
    simp [h]
  · rw [if_neg (by omega)]
    simp [h]
theorem pre_at (i : Nat) (h : i < 7) : ∃ q b, pfx.drop i = q :: pfx.drop (i + 1) ∧ spec_prefix.f (rd ([2, 3, 8, 7, 1, 4, 6] : List Int) (i : Int)) = some (q.2, b) ∧ rd ([2, 3, 8, 7, 1, 4, 6] : List Int) (i : Int) = q.1 := by
  rcases (show i = 0 ∨ i = 1 ∨ i = 2 ∨ i = 3 ∨ i = 4 ∨ i = 5 ∨ i = 6 by omega) with rfl | rfl | rfl | rfl | rfl | rfl | rfl
  all_goals exact ⟨_, _, rfl, rfl, rfl⟩
theorem pre_law (s : ByteArray) : ∀ d i : Nat, i + d = 7 → ∀ k, d < k → spec_Prefixed.l0 k s ([2, 3, 8, 7, 1, 4, 6] : List Int) 7 (i : Int) = some (compF (pfx.drop i) s)
  | 0, i, h, k + 1, hk => by
    obtain rfl : i = 7 := by omega
    unfold spec_Prefixed.l0
    rw [if_neg (by omega)]
    rfl
  | d + 1, i, h, k + 1, hk => by
    unfold spec_Prefixed.l0
    rw [if_pos (by omega), if_pos (by omega), if_pos (by simp; omega)]
    obtain ⟨q, b, e, hp, hq⟩ := pre_at i (by omega)
    rw [hp, Option.bind_some, begins3, Option.bind_some, e]
    unfold compF
    cases hb : beg s q.2
    · rw [if_neg (by decide), if_neg (by decide), show wrap64 ((i : Int) + 1) = ((i + 1 : Nat) : Int) from by unfold wrap64; omega]
      exact pre_law s d (i + 1) (by omega) k (by omega)
    · have := beg_le hb
      rw [if_pos rfl, if_pos rfl, if_pos (by omega), if_pos (by show (q.2.size : Int) ≤ _; omega), hq]
      rfl
theorem prefixed_law (s : ByteArray) : spec_Prefixed.f 8 s = some (comp s) := by
  unfold spec_Prefixed.f
  rw [Option.bind_some]
  exact pre_law s 7 0 rfl 8 (by omega)
theorem prefixed27 (s : ByteArray) (w : World) : Calls Tryd.prog 27 #[.string s] w fun e w' => e = .returned (.tuple #[.int .u64 (comp s).1, .string (comp s).2]) ∧ Below w.heap.size w w' :=
  spec_Prefixed.calls 8 s (comp s).1 (comp s).2 w (prefixed_law s)
theorem up43 (n : Nat) (h : n ≤ 1000000) (w : World) : Calls Tryd.prog 43 #[.int .i64 (n : Int)] w fun e w' => e = .returned (.int .i64 (up4 n : Nat)) ∧ Drawn0 w w' := by
  have e : wrap64 ((wrap64 (Int.tdiv (wrap64 ((n : Int) + 3)) 4)) * 4) = ((up4 n : Nat) : Int) := by
    have h1 : wrap64 ((n : Int) + 3) = ((n + 3 : Nat) : Int) := by unfold wrap64; omega
    rw [h1, Int.tdiv_eq_ediv_of_nonneg (by omega)]
    unfold wrap64 up4
    omega
  exact PFnAttributesPut.spec_up4.calls n _ w (by unfold PFnAttributesPut.spec_up4.f; rw [e])
theorem laidL_comm (f : List Int) (a : Nat) (xs : List Int) (b : Nat) (ys : List Int) (h1 : a + xs.length ≤ f.length) (h2 : b + ys.length ≤ f.length) (hd : a + xs.length ≤ b ∨ b + ys.length ≤ a) :
    laidL (laidL f a xs) b ys = laidL (laidL f b ys) a xs := by
  have l1 := laidL_len f a xs h1
  have l2 := laidL_len f b ys h2
  apply List.ext_getElem?
  intro j
  rw [laidL_get _ _ _ (by omega), laidL_get _ _ _ (by omega), laidL_get _ _ _ (by omega), laidL_get _ _ _ (by omega)]
  by_cases c1 : b ≤ j ∧ j < b + ys.length
  · rw [if_pos c1, if_neg (by omega), if_pos c1]
  · rw [if_neg c1]
    by_cases c2 : a ≤ j ∧ j < a + xs.length
    · rw [if_pos c2, if_pos c2]
    · rw [if_neg c2, if_neg c2, if_neg c1]
theorem lay_one2 (size : Nat) (delta : Int) (s : Lst) (x : S133) (at_ en m : Nat) (off : Int) (ha : s.1.length = at_) (he : en + up4 x.f2.length + s.2.length = size) (hr : at_ + rm x + s.2.length ≤ size) (hoff : off = (en : Int) + delta) :
    laidL (laidL (laidL (laidL (laidL (laidL (laidL (bytesOf size s) en x.f2) at_ [(x.f0.size : Int)]) (at_ + 1) [x.f1]) (at_ + 2) [off % 256, off / 256 % 256]) (at_ + 8) (le4 x.f2.length)) (at_ + 12) (le4 (hashX x))) (at_ + 16) (nb x.f0) = bytesOf size (layS size delta s x) := by
  rw [← lay_one size delta s x at_ en m off ha he hr hoff]
  have u1 := le_up4 x.f0.size
  have u2 := le_up4 x.f2.length
  have hl : (bytesOf size s).length = size := bytesOf_len _ _ (by unfold rm at hr; omega)
  unfold rm at hr
  have l1 : (nb x.f0).length = x.f0.size := nb_len _
  have l4 : ∀ y, (le4 y).length = 4 := fun _ => rfl
  generalize bytesOf size s = f0 at hl ⊢
  obtain ⟨f1, hf1⟩ : ∃ f1, f1 = laidL f0 at_ [(x.f0.size : Int)] := ⟨_, rfl⟩
  have h1 : f1.length = size := by rw [hf1, laidL_len _ _ _ (by simp; omega), hl]
  obtain ⟨f2, hf2⟩ : ∃ f2, f2 = laidL f1 (at_ + 1) [x.f1] := ⟨_, rfl⟩
  have h2 : f2.length = size := by rw [hf2, laidL_len _ _ _ (by simp; omega), h1]
  obtain ⟨f3, hf3⟩ : ∃ f3, f3 = laidL f2 (at_ + 2) [off % 256, off / 256 % 256] := ⟨_, rfl⟩
  have h3 : f3.length = size := by rw [hf3, laidL_len _ _ _ (by simp; omega), h2]
  obtain ⟨f4, hf4⟩ : ∃ f4, f4 = laidL f3 (at_ + 8) (le4 x.f2.length) := ⟨_, rfl⟩
  have h4 : f4.length = size := by rw [hf4, laidL_len _ _ _ (by rw [l4]; omega), h3]
  obtain ⟨f5, hf5⟩ : ∃ f5, f5 = laidL f4 (at_ + 12) (le4 (hashX x)) := ⟨_, rfl⟩
  have h5 : f5.length = size := by rw [hf5, laidL_len _ _ _ (by rw [l4]; omega), h4]
  rw [← hf1, ← hf2, ← hf3, ← hf4, ← hf5, laidL_comm f5 (at_ + 16) (nb x.f0) en x.f2 (by omega) (by omega) (by omega)]
  congr 1
  rw [hf5, laidL_comm f4 (at_ + 12) (le4 (hashX x)) en x.f2 (by rw [l4]; omega) (by omega) (by rw [l4]; omega)]
  congr 1
  rw [hf4, laidL_comm f3 (at_ + 8) _ en x.f2 (by rw [l4]; omega) (by omega) (by rw [l4]; omega)]
  congr 1
  rw [hf3, laidL_comm f2 (at_ + 2) _ en x.f2 (by simp; omega) (by omega) (by simp; omega)]
  congr 1
  rw [hf2, laidL_comm f1 (at_ + 1) _ en x.f2 (by simp; omega) (by omega) (by simp; omega)]
  congr 1
  rw [hf1, laidL_comm f0 at_ _ en x.f2 (by simp; omega) (by omega) (by simp; omega)]
end Go.Proofs.YtckjbgneblfceaaDoor.At
namespace Go.Proofs.YtckjbgneblfceaaDoor.At
open Go.RowKit Go.Maps Go.Proofs.YtckjbgneblfceaaDoorW.PrintWords Go.Proofs.YtckjbgneblfceaaDoorW.PrintLast Go.Proofs.YtckjbgneblfceaaDoorW.PrintMore
open Go.Proofs.YtckjbgneblfceaaDoor.Da Go.Proofs.YtckjbgneblfceaaDoor.Fa Go.Proofs.YtckjbgneblfceaaDoor.Fm Go.Proofs.YtckjbgneblfceaaDoor.PFnFitFirst
open Go.Proofs.YtckjbgneblfceaaDoor.Fb Go.Proofs.YtckjbgneblfceaaDoor.Fc Go.Proofs.YtckjbgneblfceaaDoor.Fe
open Go.Proofs.YtckjbgneblfceaaDoor.Al (up4 roomL room laid40)
set_option linter.unusedVariables false
set_option linter.unusedSimpArgs false
section
variable {g : Nat} {w0 W V : World} {f : List Int} {ops : Array Oper} {rest : List Oper} {o : Oper} {a : Act} {Q : Exit → Act → World → Prop}
theorem copy_strL (hgd : o.guard = none) (s x : Operand) (ho : o.op = .call { callee := .builtin .copy, args := #[s, x], argTypes := #[33, 9] })
    (p l cc : Nat) (t : ByteArray) (hs : a.eval s = .slice (some ⟨g, p, none⟩) l cc) (hx : a.eval x = .string t) (h : Bst g w0 f W) (hle : t.size ≤ l) (hp : p + t.size ≤ f.length)
    (hk : ∀ w1, Bst g w0 (laidL f p (nb t)) w1 → wpList Tryd.prog ops Q rest (a.put o.dst (.int .i64 (t.size : Nat))) w1) :
    wpList Tryd.prog ops Q (o :: rest) a W := by
  have hr := run_copy_string (P := Tryd.prog) W 33 9 o.type 5 g p l cc t Tryd.underlying33 (fun w => by kernel_rfl) hle
    (fun j hj => by obtain ⟨x, hx, _⟩ := h.at (p + j) (by omega); rw [hx]; rfl) (fun j hj => by obtain ⟨x, _, hz⟩ := h.at (p + j) (by omega); exact hz)
  have e : (t.data.toList.map fun x => Value.int .u8 (x.toNat : Int)) = encs (Value.int .u8) (nb t) := by
    unfold encs nb; rw [List.map_map]; rfl
  rw [e] at hr
  refine Kd.event_run hgd ?_ (hk _ (h.laid p (nb t) (by rw [nb_len]; exact hp)))
  unfold execOp
  simp only [ho, resolve, invoke, builtin, Sem.run_bind, Sem.run_pure, Result.andThen_ok, List.map_toArray, List.map_cons, List.map_nil, hs, hx, hr]
  rfl
end
theorem comp_idx (s : ByteArray) : 0 ≤ (comp s).1 ∧ (comp s).1 ≤ 255 := compF_idx s pfx (by intro q hq; simp [pfx] at hq; rcases hq with rfl | rfl | rfl | rfl | rfl | rfl | rfl <;> decide)
set_option maxHeartbeats 8000000 in
set_option maxRecDepth 100000 in
theorem sput22 (l : List S58) (A : Option Addr) (n c size d : Nat) (w : World) (hn : l.length = n) (hl : n ≤ 40) (hnc : n ≤ c) (hC : k70.C w A n (l.map to70))
    (hsz : size ≤ 4096) (hds : d + size ≤ 65535) (hfit : rmL (l.map to133) + 4 ≤ size) (hi : Fine l) :
    Calls Tryd.prog 22 #[.slice A n c, .int .i64 (size : Int), .int .u16 (d : Int)] w fun e w' => ∃ g cb, e = .returned (.slice (some ⟨g, 0, none⟩) size cb) ∧ size ≤ cb ∧ Below w.heap.size w w' ∧ Lies g 0 (bytesOf size (lay size d (l.map to133))) w' := by
  have HC := Lib.hid hC
  have HI := Lib.hid hi
  have HL := Lib.hid hn
  have HF := Lib.hid hfit
  have hs0 : 0 < size := by omega
  clear hC hi hn hfit
  go_enter Tryd.func22, Tryd.ntmps22
  go_upto_block 0 with (first | ((with_reducible refine gate_dst (N := 15) rfl ?_); refine Cd.make_bytes rfl rfl (.tmp 14) (.tmp 14) rfl size rfl rfl hs0 (by omega) ?_; intro g cb w4 hr hcb hb; have R4 := Lib.hid (show Bst g w4 (zs size) w4 ∧ w.heap.size ≤ g from bst_of_R hr); have hcb := hcb; have B4 := Lib.hid hb; clear hr hb))
  go_wp2
  go_loopw [8, 9, 19] (fun v8 v9 v19 wr => ∃ (i at_ nd : Nat), v19 = .int .i64 i ∧ i ≤ n ∧ v8 = .int .i64 at_ ∧ v9 = .int .i64 nd ∧ Hid (at_ = (lay size d ((l.map to133).take i)).1.length) ∧ Hid (nd + (lay size d ((l.map to133).take i)).2.length = size) ∧ Hid (Bst g w4 (bytesOf size (lay size d ((l.map to133).take i))) wr)) (fun _ _ v19 _ => n - (intOf v19).toNat)
  case atStart => exact ⟨0, 0, size, rfl, Nat.zero_le _, rfl, rfl, Lib.hid rfl, Lib.hid rfl, Lib.hid (by have := R4.out.1; simpa [bytesOf, lay] using this)⟩
  case round =>
    obtain ⟨i, at_, nd, rfl, hin, rfl, rfl, HA, HD, B1⟩ := hrel
    have G4 := R4.out.2
    have BW := Lib.hid (show Below w.heap.size w wr from B1.out.mv.toBelow B4.out B4.out.size (fun k hk => by rw [hk]; exact R4.out.2))
    by_cases hlt : i < n
    · have hlt' : (i : Int) < (n : Int) := by omega
      have j1 : decide ((i : Int) < (n : Int)) = true := decide_eq_true hlt'
      have j2 : (0 ≤ (i : Int)) = True := eq_true (by omega)
      have j3 : ((i : Int) < (n : Int)) = True := eq_true hlt'
      have j4 : IntKind.i64.wrap ((i : Int) + 1) = (i : Int) + 1 := IntWalk.i64_in _ (by omega)
      obtain ⟨ad, A2, c2, rfl, k0, k1, hv, hC⟩ := at70b HC.out BW.out i hlt
      obtain ⟨y, hy⟩ : ∃ y, y = l.getD i z58 := ⟨_, rfl⟩
      have hgy : l[i]? = some y := by rw [hy, List.getD_eq_getElem?_getD, List.getElem?_eq_getElem (by rw [HL.out]; exact hlt)]; rfl
      have m0 : (l.map to70).getD i z70 = to70 y := by rw [List.getD_eq_getElem?_getD, List.getElem?_map, hgy]; rfl
      rw [m0] at k0 k1 hv hC
      have T := Lib.hid (show (l.map to133).take (i + 1) = (l.map to133).take i ++ [to133 y] from by rw [List.take_add_one, List.getElem?_map, hgy]; rfl)
      obtain ⟨q1, q2, q3, q4⟩ := HI.out y (List.mem_of_getElem? hgy)
      obtain ⟨x, hx⟩ : ∃ x, x = to133 y := ⟨_, rfl⟩
      obtain ⟨nm, hnm⟩ : ∃ nm, nm = y.f0 := ⟨_, rfl⟩
      have e0 : (to70 y).f0 = nm := hnm.symm
      have e1 : (to70 y).f1 = x.f2 := by rw [hx]; rfl
      have e2 : (comp nm).2 = x.f0 := by rw [hx, hnm]; rfl
      have e3 : (comp nm).1 = x.f1 := by rw [hx, hnm]; rfl
      have e5 : y.f1 = x.f2 := by rw [hx]; rfl
      have hcx := comp_idx nm
      rw [e3] at hcx
      rw [e0] at k0
      rw [e1] at k1 hv hC
      rw [e5] at q1 q4
      rw [← hnm, e2] at q3
      rw [← hnm] at q2
      rw [← hx] at T
      have hfit : rmL ((l.map to133).take i) + rm x + 4 ≤ size := by
        have h1 := rmL_take (l.map to133) (i + 1)
        rw [T.out, rmL_snoc] at h1
        have := HF.out
        omega
      have hll := lay_len size d ((l.map to133).take i)
      have hrm : rm x = 16 + up4 x.f0.size + up4 x.f2.length := rfl
      have lu := le_up4 x.f0.size
      have lv := le_up4 x.f2.length
      obtain ⟨f, hf⟩ : ∃ f, f = bytesOf size (lay size d ((l.map to133).take i)) := ⟨_, rfl⟩
      have hfl : f.length = size := by rw [hf]; exact bytesOf_len _ _ (by omega)
      have HA' := HA.out
      have HD' := HD.out
      obtain ⟨en, hen⟩ : ∃ en, en = nd - up4 x.f2.length := ⟨_, rfl⟩
      obtain ⟨m2, hm2⟩ : ∃ m2, m2 = x.f2.length := ⟨_, rfl⟩
      obtain ⟨m4, hm4⟩ : ∃ m4, m4 = up4 x.f2.length := ⟨_, rfl⟩
      obtain ⟨e4, he4⟩ : ∃ e4, e4 = up4 x.f0.size := ⟨_, rfl⟩
      have b1 : at_ + (16 + e4) + 4 ≤ size := by omega
      have b2 : m4 ≤ nd := by omega
      have b3 : nd ≤ size := by omega
      have b4 : x.f0.size ≤ e4 := by omega
      have b5 : m2 ≤ m4 := by omega
      have b6 : at_ + (16 + e4) ≤ en := by omega
      have b7 : en ≤ nd := by omega
      have EN := Lib.hid (show en + m4 = nd from by omega)
      rw [← hf] at B1
      have L1 := Lib.hid (lay_one2 size d (lay size d ((l.map to133).take i)) x at_ en e4 ((en : Int) + d) HA.out.symm (by omega) (by omega) rfl)
      rw [← hf, ← lay_snoc, ← T.out] at L1
      have NX := Lib.hid (show (lay size d ((l.map to133).take (i + 1))).1.length = at_ + (16 + e4) ∧ (lay size d ((l.map to133).take (i + 1))).2.length = size - en from by
        rw [T.out, lay_snoc]
        unfold layS
        simp only [List.length_append, ent_len, vpad_len]
        omega)
      have FL := Lib.hid hfl
      have HCV := Lib.hid hC
      have HI2 := Lib.hid q1
      have HM2 := Lib.hid hm2
      have HM4 := Lib.hid hm4
      have HE4 := Lib.hid he4
      have HE2 := Lib.hid e2
      have HE3 := Lib.hid e3
      rw [← hm2] at k1 hv q4
      have ng : wr.heap.size ≠ g := Nat.ne_of_gt B1.out.lt
      clear hy hgy m0 hx hnm e0 e1 e2 e3 e5 hfit hll hrm lu lv hf hfl HA' HD' hen hm4 q1 hC hm2 he4
      have N5 := Lib.hid (blk_new wr (.cells #[.string nm, .slice A2 m2 c2] 70))
      have P0 := Lib.hid (B1.out.alloc (.cells #[.string nm, .slice A2 m2 c2] 70)).base
      obtain ⟨w1, hw1⟩ : ∃ w1, w1 = wr.alloc (.cells #[.string nm, .slice A2 m2 c2] 70) := ⟨_, rfl⟩
      have PW := Lib.hid (show Bst g w4 f w1 from by rw [hw1]; exact B1.out.alloc _)
      have D := Lib.hid (show ∀ (f' : List Int) (W : World), Bst g w1 f' W → W.cell? ⟨wr.heap.size, 0, none⟩ = some (.string nm) ∧ W.cell? ⟨wr.heap.size, 1, none⟩ = some (.slice A2 m2 c2) from by
        intro f' W h
        rw [hw1] at h
        have bk := h.mv.blk N5.out ng
        have d0 := blk_cell bk 0
        have d2 := blk_cell bk 1
        simp only [List.getElem?_toArray, List.getElem?_cons_zero, List.getElem?_cons_succ] at d0 d2
        exact ⟨d0, d2⟩)
      have VC := Lib.hid (show ∀ (f' : List Int) (W : World), Bst g w1 f' W → (Kd.int .u8).C W A2 m2 x.f2 from by
        intro f' W h
        rw [HM2.out]
        exact Kd.C_below HCV.out ((PW.out.trans h).mv.toBelow B4.out B4.out.size (fun k hk => by rw [hk]; exact G4)))
      rw [← hw1] at P0
      obtain ⟨f1, hf1⟩ : ∃ f1, f1 = laidL f en x.f2 := ⟨_, rfl⟩
      have F1 := Lib.hid (show f1.length = size from by rw [hf1, laidL_len _ _ _ (by have := EN.out; have := HM2.out; rw [FL.out]; omega), FL.out])
      have O3 := Lib.hid (show ∃ o2, (if cb = en then some (⟨g, 0, none⟩ : Addr) else some ⟨g, en, none⟩) = some ⟨g, o2, none⟩ ∧ o2 + (size - en) ≤ f.length ∧ laidL f o2 (x.f2.take (size - en)) = f1 from by
        have h1 := EN.out
        have h2 := HM2.out
        rw [hf1, FL.out, List.take_of_length_le (by omega)]
        by_cases hce : cb = en
        · refine ⟨0, by rw [if_pos hce], by omega, ?_⟩
          have : x.f2 = [] := List.length_eq_zero_iff.1 (by omega)
          rw [this, laidL_nil, laidL_nil]
        · exact ⟨en, by rw [if_neg hce], by omega, rfl⟩)
      rw [← hf1] at L1
      clear hf1
      obtain ⟨f2, hf2⟩ : ∃ f2, f2 = laidL f1 at_ [(x.f0.size : Int)] := ⟨_, rfl⟩
      have F2 := Lib.hid (show f2.length = size from by rw [hf2, laidL_len _ _ _ (by rw [F1.out]; simp; omega), F1.out])
      rw [← hf2] at L1
      have FF2 := Lib.hid hf2
      clear hf2
      obtain ⟨f3, hf3⟩ : ∃ f3, f3 = laidL f2 (at_ + 1) [x.f1] := ⟨_, rfl⟩
      have F3 := Lib.hid (show f3.length = size from by rw [hf3, laidL_len _ _ _ (by rw [F2.out]; simp; omega), F2.out])
      rw [← hf3] at L1
      have FF3 := Lib.hid hf3
      clear hf3
      obtain ⟨f4, hf4⟩ : ∃ f4, f4 = laidL f3 (at_ + 2) [((en : Int) + d) % 256, ((en : Int) + d) / 256 % 256] := ⟨_, rfl⟩
      have F4 := Lib.hid (show f4.length = size from by rw [hf4, laidL_len _ _ _ (by rw [F3.out]; simp; omega), F3.out])
      rw [← hf4] at L1
      have FF4 := Lib.hid hf4
      clear hf4
      obtain ⟨f5, hf5⟩ : ∃ f5, f5 = laidL f4 (at_ + 8) [(m2 : Int) % 256, (m2 : Int) / 256 % 256, (m2 : Int) / 65536 % 256, (m2 : Int) / 16777216 % 256] := ⟨_, rfl⟩
      have F5 := Lib.hid (show f5.length = size from by rw [hf5, laidL_len _ _ _ (by rw [F4.out]; simp; omega), F4.out])
      rw [← HM2.out, show le4 (m2 : Int) = [(m2 : Int) % 256, (m2 : Int) / 256 % 256, (m2 : Int) / 65536 % 256, (m2 : Int) / 16777216 % 256] from rfl, ← hf5] at L1
      have FF5 := Lib.hid hf5
      clear hf5
      obtain ⟨hx, hhx⟩ : ∃ hx, hx = hashX x := ⟨_, rfl⟩
      have hxr := hashX_range x
      rw [← hhx] at hxr L1
      have H4 := Lib.hid (show hx = valH x.f2 (nameH (nb x.f0)) ((m2 + 3) / 4) from by rw [HM2.out, hhx]; rfl)
      clear hhx
      obtain ⟨f6, hf6⟩ : ∃ f6, f6 = laidL f5 (at_ + 12) [hx % 256, hx / 256 % 256, hx / 65536 % 256, hx / 16777216 % 256] := ⟨_, rfl⟩
      have F6 := Lib.hid (show f6.length = size from by rw [hf6, laidL_len _ _ _ (by rw [F5.out]; simp; omega), F5.out])
      rw [show le4 hx = [hx % 256, hx / 256 % 256, hx / 65536 % 256, hx / 16777216 % 256] from rfl, ← hf6] at L1
      have FF6 := Lib.hid hf6
      clear hf6
      have E43 := Lib.hid (show ((up4 m2 : Nat) : Int) = (m4 : Int) from by rw [HM4.out, HM2.out])
      have E44 := Lib.hid (show ((up4 x.f0.size : Nat) : Int) = (e4 : Int) from by rw [HE4.out])
      have r1 : IntKind.i64.wrap ((nd : Int) - m4) = (en : Int) := by have := EN.out; rw [IntWalk.i64_in _ (by omega)]; omega
      have r2 : (0 ≤ (en : Int)) = True := eq_true (by omega)
      have r3 : ((en : Int) ≤ (size : Int)) = True := eq_true (by omega)
      have r4 : ((size : Int) ≤ (cb : Int)) = True := eq_true (by omega)
      have r5 : ((en : Int) ≤ (cb : Int)) = True := eq_true (by omega)
      go_upto_region 7 with (first | (go_at_call 27; (with_reducible refine (prefixed27 nm _).mono ?_); rw [HE2.out, HE3.out]; rintro e w2 ⟨rfl, hb⟩; rw [← hw1] at hb; have P2 := Lib.hid (P0.out.below hb); clear hb))
      obtain ⟨d0, d1⟩ := D.out _ _ P2.out
      go_upto_region 8 with (first | (go_at_call 43; (with_reducible refine (up43 m2 (by omega) _).mono ?_); rw [E43.out]; rintro e w3 ⟨rfl, hb⟩; have P3 := Lib.hid (P2.out.below (drawn_below hb)); clear hb))
      obtain ⟨d0, d1⟩ := D.out _ _ P3.out
      obtain ⟨o2, O31, O32, O33⟩ := O3.out
      have OA := Lib.hid O31
      have OB := Lib.hid O32
      have OC := Lib.hid O33
      clear O31 O32 O33
      go_region_held3 (fun w' => w'.cell? ⟨wr.heap.size, 1, none⟩ = some (.slice A2 m2 c2)) (go_keep) (first | (refine copy_bst (g := g) (w0 := w1) (f := f) (by rfl) (.tmp 37) (.tmp 39) (by rfl) o2 (size - en) (cb - en) m2 c2 A2 x.f2 (congrArg (fun z => Value.slice z (size - en) (cb - en)) OA.out) (by rfl) P3.out.drew (VC.out _ _ P3.out.drew) OB.out ?_; intro w8 hr; have P8 := Lib.hid hr; obtain ⟨d0, d1⟩ := D.out _ _ hr; clear hr))
      rw [OC.out] at P8
      have v0 : IntKind.u64.wrap ((x.f0.size : Nat) : Int) = (x.f0.size : Int) := w64 _ (by omega) (by omega)
      have v1 : IntKind.i64.wrap ((at_ : Int) + 1) = (at_ : Int) + 1 := IntWalk.i64_in _ (by omega)
      have v2 : IntKind.i64.wrap ((at_ : Int) + 2) = (at_ : Int) + 2 := IntWalk.i64_in _ (by omega)
      have v8 : IntKind.i64.wrap ((at_ : Int) + 8) = (at_ : Int) + 8 := IntWalk.i64_in _ (by omega)
      have v12 : IntKind.i64.wrap ((at_ : Int) + 12) = (at_ : Int) + 12 := IntWalk.i64_in _ (by omega)
      obtain ⟨k6, hk6⟩ : ∃ k6, k6 = at_ + 16 := ⟨_, rfl⟩
      have v16 : IntKind.i64.wrap ((at_ : Int) + 16) = (k6 : Int) := by rw [IntWalk.i64_in _ (by omega)]; omega
      have s1 : (0 ≤ (k6 : Int)) = True := eq_true (by omega)
      have s2 : ((k6 : Int) ≤ (size : Int)) = True := eq_true (by omega)
      have s3 : ((k6 : Int) ≤ (cb : Int)) = True := eq_true (by omega)
      have s4 : (cb = k6) = False := eq_false (by omega)
      have s5 : k6 + x.f0.size ≤ size := by omega
      have s6 : x.f0.size ≤ size - k6 := by omega
      rw [← hk6] at L1
      clear hk6
      have V1 := Lib.hid (show (at_ : Int) + 1 = ((at_ + 1 : Nat) : Int) from by push_cast; rfl)
      have V2 := Lib.hid (show (at_ : Int) + 2 = ((at_ + 2 : Nat) : Int) from by push_cast; rfl)
      have V8 := Lib.hid (show (at_ : Int) + 8 = ((at_ + 8 : Nat) : Int) from by push_cast; rfl)
      have V12 := Lib.hid (show (at_ : Int) + 12 = ((at_ + 12 : Nat) : Int) from by push_cast; rfl)
      have V16 := Lib.hid (show (at_ : Int) + 16 = ((at_ + 16 : Nat) : Int) from by push_cast; rfl)
      have y1 : IntKind.u64.wrap (en : Int) = (en : Int) := w64 _ (by omega) (by omega)
      have y2 : IntKind.u64.wrap (d : Int) = (d : Int) := w64 _ (by omega) (by omega)
      have y3 : IntKind.u64.wrap ((en : Int) + d) = (en : Int) + d := w64 _ (by omega) (by omega)
      have y4 : IntKind.u64.wrap (m2 : Int) = (m2 : Int) := w64 _ (by omega) (by omega)
      have y5 : IntKind.u64.wrap hx = hx := w64 _ (by omega) (by omega)
      go_upto_region 10 with (first | (go_at_call 44; (with_reducible refine (put44_1 g at_ size cb (x.f0.size : Int) w1 _ f1 P8.out (by omega) (by rw [F1.out]; exact Nat.le_refl _) (by omega) (by omega) (by omega)).mono ?_); rintro e w9 ⟨rfl, hb⟩; have P9 := Lib.hid hb; clear hb))
      rw [← FF2.out] at P9
      go_upto_region 11 with (first | (go_at_call 44; (try rw [V1.out]); (with_reducible refine (put44_1 g (at_ + 1) size cb x.f1 w1 _ f2 P9.out (by omega) (by rw [F2.out]; exact Nat.le_refl _) (by omega) hcx.1 (by omega)).mono ?_); rintro e w10 ⟨rfl, hb⟩; have P10 := Lib.hid hb; clear hb))
      rw [← FF3.out] at P10
      go_upto_region 12 with (first | (go_at_call 44; (try rw [V2.out]); (with_reducible refine (put44_2 g (at_ + 2) size cb ((en : Int) + d) w1 _ f3 P10.out (by omega) (by rw [F3.out]; exact Nat.le_refl _) (by omega) (by omega) (by omega)).mono ?_); rintro e w11 ⟨rfl, hb⟩; have P11 := Lib.hid hb; clear hb))
      rw [← FF4.out] at P11
      obtain ⟨d0, d1⟩ := D.out _ _ P11.out
      go_upto_region 13 with (first | (go_at_call 44; (try rw [V8.out]); (with_reducible refine (put44_4 g (at_ + 8) size cb (m2 : Int) w1 _ f4 P11.out (by omega) (by rw [F4.out]; exact Nat.le_refl _) (by omega) (by omega) (by omega)).mono ?_); rintro e w12 ⟨rfl, hb⟩; have P12 := Lib.hid hb; clear hb))
      rw [← FF5.out] at P12
      obtain ⟨d0, d1⟩ := D.out _ _ P12.out
      go_upto_region 14 with (first | (go_at_call 45; (with_reducible refine (hash45 x.f0 (by omega) A2 m2 c2 x.f2 _ (VC.out _ _ P12.out) hv (by omega) HI2.out).mono ?_); rw [← H4.out]; rintro e w13 ⟨rfl, hb⟩; have P13 := Lib.hid (P12.out.below hb); clear hb) | (go_at_call 44; (try rw [V12.out]); (with_reducible refine (put44_4 g (at_ + 12) size cb hx w1 _ f5 P13.out (by omega) (by rw [F5.out]; exact Nat.le_refl _) (by omega) hxr.1 (by omega)).mono ?_); rintro e w14 ⟨rfl, hb⟩; have P14 := Lib.hid hb; clear hb))
      rw [← FF6.out] at P14
      go_upto_region 15 with (first | ((with_reducible refine gate_dst (N := 83) rfl ?_); go_loud (refine copy_strL (g := g) (w0 := w1) (f := f6) rfl (.tmp 81) (.tmp 82) rfl k6 (size - k6) (cb - k6) x.f0 (by rfl) (by rfl) P14.out s6 (by rw [F6.out]; exact s5) ?_); intro w15 hr; have P15 := Lib.hid hr; clear hr))
      rw [L1.out] at P15
      have t1 : IntKind.i64.wrap (16 + (e4 : Int)) = 16 + (e4 : Int) := IntWalk.i64_in _ (by omega)
      have t2 : IntKind.i64.wrap ((at_ : Int) + (16 + (e4 : Int))) = (at_ : Int) + (16 + (e4 : Int)) := IntWalk.i64_in _ (by omega)
      go_wp2_with (first | (go_at_call 43; (with_reducible refine (up43 x.f0.size (by omega) _).mono ?_); rw [E44.out]; rintro e w16 ⟨rfl, hb⟩; have P16 := Lib.hid (P15.out.below (drawn_below hb)); clear hb))
      go_roundw
      case rel => exact ⟨i + 1, at_ + (16 + e4), en, by push_cast; rfl, hlt, by push_cast; rfl, rfl, Lib.hid NX.out.1.symm, Lib.hid (by have := NX.out.2; omega), Lib.hid (PW.out.trans P16.out)⟩
      case measure => simp only [intOf]; omega
    · obtain rfl : i = n := by omega
      have j1 : decide ((i : Int) < (i : Int)) = false := decide_eq_false (by omega)
      have e1 : (l.map to133).take i = l.map to133 := List.take_of_length_le (by rw [List.length_map, HL.out]; exact Nat.le_refl _)
      rw [e1] at B1
      go_wp2
      go_ret
      exact ⟨g, cb, rfl, hcb, BW.out, B1.out.lies⟩
end Go.Proofs.YtckjbgneblfceaaDoor.At
namespace Go.Proofs.YtckjbgneblfceaaDoor.At
open Go.RowKit Go.Maps Go.Proofs.YtckjbgneblfceaaDoorW.PrintWords Go.Proofs.YtckjbgneblfceaaDoorW.PrintLast Go.Proofs.YtckjbgneblfceaaDoorW.PrintMore
open Go.Proofs.YtckjbgneblfceaaDoor.Da Go.Proofs.YtckjbgneblfceaaDoor.Fa Go.Proofs.YtckjbgneblfceaaDoor.Fm Go.Proofs.YtckjbgneblfceaaDoor.PFnFitFirst
open Go.Proofs.YtckjbgneblfceaaDoor.Fb Go.Proofs.YtckjbgneblfceaaDoor.Fc Go.Proofs.YtckjbgneblfceaaDoor.Fe
open Go.Proofs.YtckjbgneblfceaaDoor.Al (up4 roomL room laid40)
set_option linter.unusedVariables false
set_option linter.unusedSimpArgs false
def decF : List (Int × ByteArray) → Int → ByteArray → ByteArray
  | [], _, s => s
  | q :: r, i, s => if i = q.1 then q.2 ++ s else decF r i s
def dec (i : Int) (s : ByteArray) : ByteArray := decF pfx i s
theorem idxq (i : Nat) (h : i < 7) : ∃ q, pfx.drop i = q :: pfx.drop (i + 1) ∧ q ∈ pfx ∧ ∀ w, (Instr.index 147 (.agg cells14) (.int .i64 (i : Int))).run Tryd.prog w = .ok (.agg #[.int .u8 q.1, .string q.2]) w := by
  rcases (show i = 0 ∨ i = 1 ∨ i = 2 ∨ i = 3 ∨ i = 4 ∨ i = 5 ∨ i = 6 by omega) with rfl | rfl | rfl | rfl | rfl | rfl | rfl
  · exact ⟨_, rfl, by simp [pfx], idx0⟩
  · exact ⟨_, rfl, by simp [pfx], idx1⟩
  · exact ⟨_, rfl, by simp [pfx], idx2⟩
  · exact ⟨_, rfl, by simp [pfx], idx3⟩
  · exact ⟨_, rfl, by simp [pfx], idx4⟩
  · exact ⟨_, rfl, by simp [pfx], idx5⟩
  · exact ⟨_, rfl, by simp [pfx], idx6⟩
set_option maxHeartbeats 4000000 in
set_option maxRecDepth 100000 in
theorem dec76 (w : World) (x : Int) (s : ByteArray) (t : TypeId) (fr : Nat × Nat) (hs : s.size ≤ 100000) (hg : w.heap[4]? = some (.cells cells14 t fr)) :
    Calls Tryd.prog 76 #[.int .u8 x, .string s] w fun e w' => e = .returned (.string (dec x s)) ∧ Below w.heap.size w w' := by
  go_enter Tryd.func76, Tryd.ntmps76
  go_wp2_with (refine wpList_load_row rfl 147 _ rfl 4 rfl t _ fr _ hg Tryd.underlying147 rfl (by kernel_rfl) ?_)
  clear hg
  go_loopw [8] (fun v8 wr => ∃ i : Nat, v8 = .int .i64 i ∧ i ≤ 7 ∧ Hid (decF (pfx.drop i) x s = dec x s) ∧ Hid (Below w.heap.size w wr)) (fun v8 _ => 7 - (intOf v8).toNat)
  case atStart => exact ⟨0, rfl, by decide, Lib.hid rfl, Lib.hid (Below.refl _ _)⟩
  case round =>
    obtain ⟨i, rfl, hi, hc, BI⟩ := hrel
    by_cases hlt : i < 7
    · obtain ⟨q, hq, hqm, i0⟩ := idxq i hlt
      have j1 : decide ((i : Int) < 7) = true := decide_eq_true (by omega)
      have j4 : IntKind.i64.wrap ((i : Int) + 1) = (i : Int) + 1 := IntWalk.i64_in _ (by omega)
      have B1 := Lib.hid (below_then BI.out BI.out.size (below_alloc (Below.refl _ _) (.cells #[.int .u8 q.1, .string q.2] 146)))
      have hcc := hc.out
      rw [hq] at hcc
      unfold decF at hcc
      have HC := Lib.hid hcc
      clear hcc hc
      have hqs : q.2.size ≤ 100 := by simp [pfx] at hqm; rcases hqm with rfl | rfl | rfl | rfl | rfl | rfl | rfl <;> decide
      have hsum : (9223372036854775807 : Int) < (q.2.size : Int) + (s.size : Int) ↔ False := ⟨fun h => by omega, fun h => h.elim⟩
      by_cases he : x = q.1
      · have j2 : (x == q.1) = true := by simpa using he
        have e := HC.out
        rw [if_pos he] at e
        have HE := Lib.hid e
        clear e he HC
        go_wp2
        go_ret
        exact ⟨by rw [← HE.out]; rfl, B1.out⟩
      · have j2 : (x == q.1) = false := by simpa using he
        have e := HC.out
        rw [if_neg he] at e
        have HE := Lib.hid e
        clear e HC
        go_wp2
        go_roundw
        case rel => exact ⟨i + 1, by push_cast; rfl, by omega, HE, B1⟩
        case measure => simp only [intOf]; omega
    · obtain rfl : i = 7 := by omega
      go_wp2
      go_ret
      exact ⟨by rw [← hc.out]; rfl, BI.out⟩
theorem ext_app (s p : ByteArray) (h : beg s p = true) : p ++ s.extract p.size s.size = s := by
  unfold beg at h
  simp only [Bool.and_eq_true, decide_eq_true_eq, beq_iff_eq] at h
  obtain ⟨h1, h2⟩ := h
  have h3 : s.extract 0 p.size = p := by
    apply ByteArray.ext
    rw [← Array.toList_inj]
    have e : ∀ a : ByteArray, a.toList = a.data.toList := fun a => ByteArray.toList_eq a
    rw [← e, ← e]
    exact h2
  conv => lhs; lhs; rw [← h3]
  rw [ByteArray.extract_append_extract]
  simp
theorem compF_mem (s : ByteArray) : ∀ l : List (Int × ByteArray), (compF l s).1 = 0 ∨ ∃ p ∈ l, p.1 = (compF l s).1
  | [] => .inl rfl
  | q :: r => by
    unfold compF
    cases hb : beg s q.2
    · rw [if_neg (by decide)]
      rcases compF_mem s r with h | ⟨p, hp, he⟩
      · exact .inl h
      · exact .inr ⟨p, List.mem_cons_of_mem _ hp, he⟩
    · rw [if_pos rfl]
      exact .inr ⟨q, List.mem_cons_self .., rfl⟩
theorem compF_dec0 (s : ByteArray) : ∀ l : List (Int × ByteArray), l.Pairwise (fun a b => a.1 ≠ b.1) → (∀ q ∈ l, q.1 ≠ 0) → decF l (compF l s).1 (compF l s).2 = s
  | [], _, _ => rfl
  | q :: r, h, h0 => by
    rw [List.pairwise_cons] at h
    have hm := compF_mem s r
    unfold compF
    cases hb : beg s q.2
    · rw [if_neg (by decide)]
      unfold decF
      have hne : (compF r s).1 ≠ q.1 := by
        rcases hm with hm | ⟨p, hp, he⟩
        · rw [hm]; exact fun e => h0 q (List.mem_cons_self ..) e.symm
        · rw [← he]; exact fun e => h.1 p hp e.symm
      rw [if_neg hne]
      exact compF_dec0 s r h.2 (fun x hx => h0 x (List.mem_cons_of_mem _ hx))
    · rw [if_pos rfl]
      unfold decF
      rw [if_pos rfl]
      exact ext_app s q.2 hb
theorem dec_comp (s : ByteArray) : dec (comp s).1 (comp s).2 = s := compF_dec0 s pfx (by simp [pfx]) (by intro q hq; simp [pfx] at hq; rcases hq with rfl | rfl | rfl | rfl | rfl | rfl | rfl <;> decide)
theorem lay_split (size : Nat) (d : Int) (a b : List S133) : ∃ F D, lay size d (a ++ b) = ((lay size d a).1 ++ F, D ++ (lay size d a).2) := by
  induction b using snoc_ind with
  | nil => exact ⟨[], [], by simp⟩
  | snoc b x ih =>
    obtain ⟨F, D, e⟩ := ih
    rw [← List.append_assoc, lay_snoc, e]
    unfold layS
    exact ⟨F ++ ent x ((size - (D ++ (lay size d a).2).length - up4 x.f2.length : Nat) + d), vpad x.f2 ++ D, by simp only [List.append_assoc]⟩
theorem drop_len {α : Type} (A B : List α) (o : Nat) (h : A.length = o) : (A ++ B).drop o = B := by subst h; exact List.drop_left
/-- What is read of an entry. -/
theorem entry_at (size d : Nat) (l : List S133) (i : Nat) (x : S133) (hx : l[i]? = some x) (hfit : rmL l + 4 ≤ size) (at_ en : Nat) (ha : at_ = (lay size d (l.take i)).1.length) (he : en + up4 x.f2.length + (lay size d (l.take i)).2.length = size) :
    (∃ r, (bytesOf size (lay size d l)).drop at_ = (x.f0.size : Int) :: x.f1 :: ((en : Int) + d) % 256 :: ((en : Int) + d) / 256 % 256 :: 0 :: 0 :: 0 :: 0 :: (x.f2.length : Int) % 256 :: (x.f2.length : Int) / 256 % 256 :: (x.f2.length : Int) / 65536 % 256 :: (x.f2.length : Int) / 16777216 % 256 ::
      hashX x % 256 :: hashX x / 256 % 256 :: hashX x / 65536 % 256 :: hashX x / 16777216 % 256 :: (nb x.f0 ++ r)) ∧
    (∃ r, (bytesOf size (lay size d l)).drop en = x.f2 ++ r) := by
  have hl : l = (l.take i ++ [x]) ++ l.drop (i + 1) := by
    have h1 := List.take_append_drop (i + 1) l
    rw [List.take_add_one, hx] at h1
    exact h1.symm
  obtain ⟨F, D, e⟩ := lay_split size d (l.take i ++ [x]) (l.drop (i + 1))
  rw [← hl] at e
  have hlen := lay_len size d l
  rw [e] at hlen
  simp only [List.length_append] at hlen
  rw [e, lay_snoc] at *
  have hoff : (size - (lay size d (l.take i)).2.length - up4 x.f2.length : Nat) = en := by omega
  unfold layS at hlen ⊢
  simp only [List.length_append, ent_len, vpad_len] at hlen
  rw [hoff]
  unfold bytesOf
  simp only
  refine ⟨⟨(zs (up4 x.f0.size - x.f0.size)) ++ (F ++ (zs (size - ((lay size d (l.take i)).1 ++ ent x (en + d) ++ F).length - (D ++ (vpad x.f2 ++ (lay size d (l.take i)).2)).length) ++ (D ++ (vpad x.f2 ++ (lay size d (l.take i)).2)))), ?_⟩, ?_⟩
  · rw [List.append_assoc, List.append_assoc, drop_len _ _ at_ ha.symm]
    have e2 : ent x ((en : Int) + d) = (x.f0.size : Int) :: x.f1 :: ((en : Int) + d) % 256 :: ((en : Int) + d) / 256 % 256 :: 0 :: 0 :: 0 :: 0 :: (x.f2.length : Int) % 256 :: (x.f2.length : Int) / 256 % 256 :: (x.f2.length : Int) / 65536 % 256 :: (x.f2.length : Int) / 16777216 % 256 ::
      hashX x % 256 :: hashX x / 256 % 256 :: hashX x / 65536 % 256 :: hashX x / 16777216 % 256 :: (nb x.f0 ++ zs (up4 x.f0.size - x.f0.size)) := rfl
    rw [e2]
    simp only [List.cons_append, List.append_assoc]
  · refine ⟨zs (up4 x.f2.length - x.f2.length) ++ (lay size d (l.take i)).2, ?_⟩
    rw [← List.append_assoc, ← List.append_assoc, ← List.append_assoc]
    unfold vpad
    rw [List.append_assoc (_ ++ D), List.append_assoc x.f2]
    apply drop_len
    simp only [List.length_append, ent_len, zs_len] at hlen ⊢
    have := le_up4 x.f2.length
    rw [← ha]
    omega
theorem end_at (size d : Nat) (l : List S133) (hfit : rmL l + 4 ≤ size) : ∃ r, (bytesOf size (lay size d l)).drop (lay size d l).1.length = 0 :: r := by
  have hlen := lay_len size d l
  unfold bytesOf
  rw [drop_len _ _ _ rfl]
  obtain ⟨k, hk⟩ : ∃ k, size - (lay size d l).1.length - (lay size d l).2.length = k + 1 := ⟨size - (lay size d l).1.length - (lay size d l).2.length - 1, by omega⟩
  rw [hk]
  exact ⟨zs k ++ (lay size d l).2, rfl⟩
end Go.Proofs.YtckjbgneblfceaaDoor.At
namespace Go.Proofs.YtckjbgneblfceaaDoor.At
open Go.RowKit Go.Maps Go.Proofs.YtckjbgneblfceaaDoorW.PrintWords Go.Proofs.YtckjbgneblfceaaDoorW.PrintLast Go.Proofs.YtckjbgneblfceaaDoorW.PrintMore
open Go.Proofs.YtckjbgneblfceaaDoor.Da Go.Proofs.YtckjbgneblfceaaDoor.Fa Go.Proofs.YtckjbgneblfceaaDoor.Fm Go.Proofs.YtckjbgneblfceaaDoor.PFnFitFirst
open Go.Proofs.YtckjbgneblfceaaDoor.Fb Go.Proofs.YtckjbgneblfceaaDoor.Fc Go.Proofs.YtckjbgneblfceaaDoor.Fe
open Go.Proofs.YtckjbgneblfceaaDoor.Al (up4 roomL room laid40)
set_option linter.unusedVariables false
set_option linter.unusedSimpArgs false
def U8 (v : List Int) : List UInt8 := v.map fun z => UInt8.ofNat z.toNat
def I8 (v : List UInt8) : List Int := v.map fun u => (u.toNat : Int)
theorem I8_U8 {v : List Int} (h : InBytes v) : I8 (U8 v) = v := by
  unfold I8 U8
  rw [List.map_map]
  conv => rhs; rw [← List.map_id v]
  apply List.map_congr_left
  intro z hz
  have := h z hz
  simp only [Function.comp, id]
  rw [UInt8.toNat_ofNat']
  omega
theorem U8_inj {a b : List Int} (ha : InBytes a) (hb : InBytes b) (h : U8 a = U8 b) : a = b := by
  rw [← I8_U8 ha, ← I8_U8 hb, h]
/-- A window of the block's bytes, as what it holds. -/
def valR (g : Nat) (f : List Int) (v : Value) : Option (DataW Unit × List MemPlace) := match v with
  | .slice (some a) n c => if a = ⟨g, a.off, none⟩ ∧ a.off + n ≤ f.length ∧ n ≤ c then some (.lit (.string (U8 ((f.drop a.off).take n))), []) else none
  | _ => none
def valV (g : Nat) (p : Nat × Nat × Nat) : Value := .slice (some ⟨g, p.1, none⟩) p.2.1 p.2.2
theorem valR_mk {g : Nat} {f : List Int} {o n c : Nat} {x : List Int} (h1 : o + n ≤ f.length) (h2 : n ≤ c) (h3 : (f.drop o).take n = x) : valR g f (.slice (some ⟨g, o, none⟩) n c) = some (.lit (.string (U8 x)), []) := by
  unfold valR
  simp only
  rw [if_pos ⟨trivial, h1, h2⟩, h3]
theorem valR_shape {g : Nat} {f : List Int} {v : Value} {y : DataW Unit × List MemPlace} (h : valR g f v = some y) : ∃ p, v = valV g p := by
  unfold valR at h
  split at h
  · rename_i a n c
    split at h
    · rename_i hc
      exact ⟨(a.off, n, c), by unfold valV; rw [← hc.1]⟩
    · cases h
  · cases h
theorem valR_inv {g : Nat} {f : List Int} {p : Nat × Nat × Nat} {y : DataW Unit × List MemPlace} (h : valR g f (valV g p) = some y) : p.1 + p.2.1 ≤ f.length ∧ p.2.1 ≤ p.2.2 ∧ y = (.lit (.string (U8 ((f.drop p.1).take p.2.1))), []) := by
  unfold valR valV at h
  simp only at h
  split at h
  · rename_i hc
    exact ⟨hc.2.1, hc.2.2, (Option.some.inj h).symm⟩
  · cases h
theorem key9 : Keyed Tryd.prog 9 := string_keyed Tryd.underlying9
theorem key_mk (s : ByteArray) (h : s.size ≤ maxLen) : keyOf Tryd.prog 9 (.string s) = some (.string s.data.toList) := WideMaps.keyOf_string_mk Tryd.underlying9 h
def kof (s : ByteArray) : List UInt8 := s.data.toList
theorem kof_inj {a b : ByteArray} (h : kof a = kof b) : a = b := by
  apply ByteArray.ext
  rw [← Array.toList_inj]
  exact h
/-- A map of names to windows that hold the values. -/
structure MapB (g : Nat) (f : List Int) (b n : Nat) (D : DataW Unit) (xs : List S58) (w : World) : Prop where
  own : w.ownsMap Tryd.prog 9 (valR g f) b n D
  ent : ∀ x ∈ xs, has D (.string (kof x.f0)) = true ∧ D.atKey (.string (kof x.f0)) .nil = .lit (.string (U8 x.f1))
  non : ∀ s, has D (.string s) = true → ∃ x ∈ xs, kof x.f0 = s
theorem grown_of_below {w W : World} (hb : Below w.heap.size w W) (row : Option Nat) : w.grownBy W row := ⟨hb.os, hb.tape, hb.output, hb.size, fun i hi _ => hb.block i hi⟩
theorem MapB.later {g : Nat} {f : List Int} {b n : Nat} {D : DataW Unit} {xs : List S58} {w W : World} (h : MapB g f b n D xs w) (hb : Below w.heap.size w W) : MapB g f b n D xs W :=
  ⟨h.own.kept (grown_of_below hb none) (by simp), h.ent, h.non⟩
theorem MapB.put {g : Nat} {f : List Int} {b n : Nat} {D : DataW Unit} {xs : List S58} {w W : World} (h : MapB g f b n D xs w) (x : S58) (hx : ∀ y ∈ xs, y.f0 ≠ x.f0) (ho : W.ownsMap Tryd.prog 9 (valR g f) b (n + 1) (D.put (.string (kof x.f0)) (.lit (.string (U8 x.f1))))) :
    MapB g f b (n + 1) (D.put (.string (kof x.f0)) (.lit (.string (U8 x.f1)))) (xs ++ [x]) W := by
  have hD : IsMap D := by
    obtain ⟨es, clock, _, _, _, e⟩ := h.own
    exact ⟨_, e⟩
  have hk : WideAt.IsKeyLit (.string (kof x.f0)) := trivial
  refine ⟨ho, fun y hy => ?_, fun s hs => ?_⟩
  · rcases List.mem_append.1 hy with hy | hy
    · have e' : (Lit.string (kof y.f0)) ≠ Lit.string (kof x.f0) := fun h' => hx y hy (kof_inj (by injection h'))
      obtain ⟨h1, h2⟩ := h.ent y hy
      exact ⟨by rw [has_put_other e']; exact h1, by rw [atKey_put_other e']; exact h2⟩
    · obtain rfl := List.mem_singleton.1 hy
      exact ⟨has_put_same hD hk _, atKey_put_same hD hk _ _⟩
  · by_cases e : s = kof x.f0
    · exact ⟨x, by simp, e.symm⟩
    · have e' : (Lit.string s) ≠ Lit.string (kof x.f0) := fun h' => e (by injection h')
      rw [has_put_other e'] at hs
      obtain ⟨y, hy, hy2⟩ := h.non s hs
      exact ⟨y, List.mem_append_left _ hy, hy2⟩
theorem MapB.made (g : Nat) (f : List Int) (w : World) : MapB g f w.heap.size 0 (.map []) [] (w.alloc (.map #[] 0)) := ⟨World.ownsMap_made w Tryd.prog 9 (valR g f), fun x hx => by simp at hx, fun s hs => by cases hs⟩
theorem get16c_law (b : List Int) (h : InBytes b) (hl : 2 ≤ b.length) : PFnAttributesPut.compactext4_get16.f b = some (leF b 0 2) := by
  have b0 := h.at 0
  have b1 := h.at 1
  have r : ∀ i : Nat, rd b (i : Int) = b.getD i 0 := fun i => by unfold rd; rw [Int.toNat_natCast]
  have r0 : rd b 0 = b.getD 0 0 := r 0
  have r1 : rd b 1 = b.getD 1 0 := r 1
  unfold PFnAttributesPut.compactext4_get16.f
  rw [if_pos (by omega), if_pos (by omega), r0, r1]
  simp only [leF, Nat.zero_add, Nat.reduceAdd]
  generalize b.getD 0 0 = x0 at *
  generalize b.getD 1 0 = x1 at *
  have w16 : ∀ z : Int, 0 ≤ z → z < 65536 → IntKind.u16.wrap z = z := by
    intro z h0 h1
    unfold IntKind.wrap
    simp only [IntKind.signed, IntKind.bits]
    simp; omega
  have e1 : Go.bits .or .u16 (IntKind.u16.wrap x0) (IntKind.u16.wrap (IntKind.u16.wrap x1 * 256)) = x0 + 256 * x1 := by
    rw [w16 x0 (by omega) (by omega), w16 x1 (by omega) (by omega), w16 (x1 * 256) (by omega) (by omega)]
    rw [bor_comm, bits_join .u16 16 (by decide) w16 8 _ _ (by omega) (by omega) (by omega) (by omega) (by omega) (by omega)]; omega
  rw [e1]
  congr 1
  omega
theorem get16c_at (g o n c : Nat) (b : List Int) (w : World) (hb : b.length = n) (hn : n ≤ 10000000) (hnc : n ≤ c) (h4 : 2 ≤ n) (hi : InBytes b) (hl : Lies g o b w) :
    Calls Tryd.prog 74 #[.slice (some ⟨g, o, none⟩) n c] w fun e w' => e = .returned (.int .u16 (leF b 0 2)) ∧ Drawn0 w w' := by
  subst hb
  exact PFnAttributesPut.compactext4_get16.calls _ c b _ w (C_of_lies hl hn) hnc (get16c_law b hi h4)
end Go.Proofs.YtckjbgneblfceaaDoor.At
namespace Go.Proofs.YtckjbgneblfceaaDoor.At
open Go.RowKit Go.Maps Go.Proofs.YtckjbgneblfceaaDoorW.PrintWords Go.Proofs.YtckjbgneblfceaaDoorW.PrintLast Go.Proofs.YtckjbgneblfceaaDoorW.PrintMore
open Go.Proofs.YtckjbgneblfceaaDoor.Da Go.Proofs.YtckjbgneblfceaaDoor.Fa Go.Proofs.YtckjbgneblfceaaDoor.Fm Go.Proofs.YtckjbgneblfceaaDoor.PFnFitFirst
open Go.Proofs.YtckjbgneblfceaaDoor.Fb Go.Proofs.YtckjbgneblfceaaDoor.Fc Go.Proofs.YtckjbgneblfceaaDoor.Fe
open Go.Proofs.YtckjbgneblfceaaDoor.Al (up4 roomL room laid40)
set_option linter.unusedVariables false
set_option linter.unusedSimpArgs false
theorem nb_in (s : ByteArray) : InBytes (nb s) := by
  intro x hx
  unfold nb at hx
  obtain ⟨u, _, rfl⟩ := List.mem_map.1 hx
  have := u.toNat_lt
  omega
theorem str_nb (s : ByteArray) : strOfNums (nb s) = s := by
  apply ByteArray.ext
  rw [← Array.toList_inj, strOfNums_data]
  unfold nb
  rw [List.map_map]
  conv => rhs; rw [← List.map_id s.data.toList]
  apply List.map_congr_left
  intro u _
  simp [Function.comp]
theorem le4_in (x : Int) : InBytes (le4 x) := by intro y hy; unfold le4 at hy; simp at hy; omega
theorem inb_cons {a : Int} {l : List Int} (h : 0 ≤ a ∧ a < 256) (hl : InBytes l) : InBytes (a :: l) := by
  intro y hy
  rcases List.mem_cons.1 hy with rfl | hy
  · exact h
  · exact hl y hy
theorem inb_nil : InBytes [] := fun x hx => by simp at hx
theorem ent_in (x : S133) (off : Int) (h1 : 0 ≤ x.f1 ∧ x.f1 ≤ 255) (h0 : x.f0.size ≤ 255) : InBytes (ent x off) := by
  unfold ent
  refine inb_app (inb_cons (by omega) (inb_cons (by omega) inb_nil)) (inb_app (inb_cons (by omega) (inb_cons (by omega) inb_nil)) (inb_app (rep_in _) (inb_app (le4_in _) (inb_app (le4_in _) (inb_app (nb_in _) (rep_in _))))))
theorem lay_in (size : Nat) (d : Int) (l : List S133) (h : ∀ x ∈ l, InBytes x.f2 ∧ (0 ≤ x.f1 ∧ x.f1 ≤ 255) ∧ x.f0.size ≤ 255) : InBytes (lay size d l).1 ∧ InBytes (lay size d l).2 := by
  induction l using snoc_ind with
  | nil => exact ⟨inb_nil, inb_nil⟩
  | snoc l x ih =>
    obtain ⟨i1, i2⟩ := ih (fun y hy => h y (List.mem_append_left _ hy))
    obtain ⟨a1, a2, a3⟩ := h x (by simp)
    rw [lay_snoc]
    unfold layS vpad
    exact ⟨inb_app i1 (ent_in x _ a2 a3), inb_app (inb_app a1 (rep_in _)) i2⟩
theorem bytesOf_in (size : Nat) (d : Int) (l : List S133) (h : ∀ x ∈ l, InBytes x.f2 ∧ (0 ≤ x.f1 ∧ x.f1 ≤ 255) ∧ x.f0.size ≤ 255) : InBytes (bytesOf size (lay size d l)) := by
  obtain ⟨i1, i2⟩ := lay_in size d l h
  unfold bytesOf
  exact inb_app i1 (inb_app (rep_in _) i2)
theorem drop_get {f : List Int} {o : Nat} {L : List Int} (h : f.drop o = L) (k : Nat) (x : Int) (hx : L[k]? = some x) : f[o + k]? = some x := by
  rw [← h, List.getElem?_drop] at hx
  exact hx
def sliceN : Value → Nat
  | .slice _ n _ => n
  | _ => 0
/-- What is asked of attributes that are read again. -/
structure Read (l : List S58) : Prop where
  fine : Fine l
  some_ : ∀ x ∈ l, 0 < (comp x.f0).2.size ∧ (comp x.f0).2.size < 240
  once : ∀ i j : Nat, i < j → j < l.length → (l.getD i z58).f0 ≠ (l.getD j z58).f0
set_option maxHeartbeats 8000000 in
set_option maxRecDepth 100000 in
theorem get64 (l : List S58) (n g gm cb size d : Nat) (w0 w : World) (f : List Int) (t : TypeId) (fr : Nat × Nat) (hn : l.length = n) (hg4 : w0.heap[4]? = some (.cells cells14 t fr)) (hl : n ≤ 40)
    (hf : f = bytesOf size (lay size d (l.map to133))) (hL : Lies g 0 f w0) (hM : MapB g f gm 0 (.map []) [] w) (hb : Below w0.heap.size w0 w) (hgm : w0.heap.size ≤ gm)
    (hcb : size ≤ cb) (hsz : size ≤ 4096) (hds : d + size ≤ 65535) (hfit : rmL (l.map to133) + 4 ≤ size) (hi : Read l) :
    Calls Tryd.prog 64 #[.slice (some ⟨g, 0, none⟩) size cb, .map (some gm), .int .u16 (d : Int)] w fun e w' => e = .returned (.tuple #[]) ∧ ∃ D, MapB g f gm n D l w' ∧ Below w0.heap.size w0 w' := by
  have HL := Lib.hid hn
  have H4 := Lib.hid hg4
  have HF := Lib.hid hf
  have LL := Lib.hid hL
  have HM := Lib.hid hM
  have HB := Lib.hid hb
  have HG := Lib.hid hgm
  have HFit := Lib.hid hfit
  have HI := Lib.hid hi
  have FL := Lib.hid (show f.length = size from by rw [hf]; exact bytesOf_len _ _ (by rw [lay_len]; omega))
  have FI := Lib.hid (show InBytes f from by
    rw [hf]
    refine bytesOf_in size d _ (fun x hx => ?_)
    obtain ⟨y, hy, rfl⟩ := List.mem_map.1 hx
    obtain ⟨a1, a2, a3, a4⟩ := hi.fine y hy
    exact ⟨a1, comp_idx y.f0, a3⟩)
  clear hn hg4 hf hL hM hb hgm hfit hi
  go_enter Tryd.func64, Tryd.ntmps64
  go_wp2
  go_loopw [6] (fun v6 wr => ∃ (i at_ : Nat) (D : DataW Unit), v6 = .slice (some ⟨g, at_, none⟩) (size - at_) (cb - at_) ∧ i ≤ n ∧ Hid (at_ = (lay size d ((l.map to133).take i)).1.length) ∧ at_ + 4 ≤ size ∧ Hid (MapB g f gm i D (l.take i) wr) ∧ Hid (Below w0.heap.size w0 wr)) (fun v6 _ => sliceN v6)
  case atStart => exact ⟨0, 0, _, rfl, Nat.zero_le _, Lib.hid rfl, by have := HFit.out; omega, HM, HB⟩
  case round =>
    obtain ⟨i, at_, D, rfl, hin, HA, hat, M1, B1⟩ := hrel
    have c0 := (LL.out.later B1.out)
    have LR := Lib.hid c0
    have z1 : ((size - at_ : Nat) : Int) = 0 ↔ False := ⟨fun h => by omega, fun h => h.elim⟩
    by_cases hlt : i < n
    · obtain ⟨y, hy⟩ : ∃ y, y = l.getD i z58 := ⟨_, rfl⟩
      have hgy : l[i]? = some y := by rw [hy, List.getD_eq_getElem?_getD, List.getElem?_eq_getElem (by rw [HL.out]; exact hlt)]; rfl
      obtain ⟨x, hx⟩ : ∃ x, x = to133 y := ⟨_, rfl⟩
      have hgx : (l.map to133)[i]? = some x := by rw [List.getElem?_map, hgy, hx]; rfl
      have T := Lib.hid (show (l.map to133).take (i + 1) = (l.map to133).take i ++ [x] from by rw [List.take_add_one, hgx]; rfl)
      have T2 := Lib.hid (show l.take (i + 1) = l.take i ++ [y] from by rw [List.take_add_one, hgy]; rfl)
      have hmy := List.mem_of_getElem? hgy
      obtain ⟨q1, q2, q3, q4⟩ := HI.out.fine y hmy
      obtain ⟨q5, q6⟩ := HI.out.some_ y hmy
      have UQ := Lib.hid (show ∀ z ∈ l.take i, z.f0 ≠ y.f0 from by
        intro z hz
        obtain ⟨j, hj1, hj2⟩ := List.getElem_of_mem hz
        rw [List.length_take] at hj1
        have := HI.out.once j i (by omega) (by rw [HL.out]; exact hlt)
        rw [← hy] at this
        rw [List.getElem_take] at hj2
        rw [List.getD_eq_getElem?_getD, List.getElem?_eq_getElem (by omega), Option.getD_some, hj2] at this
        exact this)
      have e0 : (comp y.f0).2 = x.f0 := by rw [hx]; rfl
      have e1 : (comp y.f0).1 = x.f1 := by rw [hx]; rfl
      have e2 : y.f1 = x.f2 := by rw [hx]; rfl
      have ED := Lib.hid (show dec x.f1 x.f0 = y.f0 from by rw [← e0, ← e1]; exact dec_comp y.f0)
      rw [e0] at q3 q5 q6
      rw [e2] at q1 q4
      have E2 := Lib.hid e2
      have hfit : rmL ((l.map to133).take i) + rm x + 4 ≤ size := by
        have h1 := rmL_take (l.map to133) (i + 1)
        rw [T.out, rmL_snoc] at h1
        have := HFit.out
        omega
      have hll := lay_len size d ((l.map to133).take i)
      have hrm : rm x = 16 + up4 x.f0.size + up4 x.f2.length := rfl
      have lu := le_up4 x.f0.size
      have lv := le_up4 x.f2.length
      have HA' := HA.out
      obtain ⟨en, hen⟩ : ∃ en, en = size - (lay size d ((l.map to133).take i)).2.length - up4 x.f2.length := ⟨_, rfl⟩
      obtain ⟨⟨r1, h1⟩, ⟨r2, h2⟩⟩ := entry_at size d (l.map to133) i x hgx HFit.out at_ en HA.out (by omega)
      rw [← HF.out] at h1 h2
      obtain ⟨m2, hm2⟩ : ∃ m2, m2 = x.f2.length := ⟨_, rfl⟩
      obtain ⟨nm, hnm⟩ : ∃ nm, nm = x.f0.size := ⟨_, rfl⟩
      obtain ⟨e4, he4⟩ : ∃ e4, e4 = 16 + up4 x.f0.size := ⟨_, rfl⟩
      have b1 : at_ + e4 + 4 ≤ size := by omega
      have b4 : e4 ≥ 16 + nm := by omega
      have b6 : at_ + e4 ≤ en := by omega
      have b7 : en + m2 ≤ size := by omega
      have k0 := LR.out at_ _ (drop_get h1 0 _ rfl)
      have k1 := LR.out (at_ + 1) _ (drop_get h1 1 _ rfl)
      rw [Nat.zero_add] at k0 k1
      have d2 : f.drop (at_ + 2) = ((en : Int) + d) % 256 :: ((en : Int) + d) / 256 % 256 :: (f.drop (at_ + 2)).drop 2 := by
        rw [← List.drop_drop, h1]; rfl
      have d8 : f.drop (at_ + 8) = (x.f2.length : Int) % 256 :: (x.f2.length : Int) / 256 % 256 :: (x.f2.length : Int) / 65536 % 256 :: (x.f2.length : Int) / 16777216 % 256 :: (f.drop (at_ + 8)).drop 4 := by
        rw [← List.drop_drop, h1]; rfl
      have d16 : f.drop (at_ + 16) = nb x.f0 ++ r1 := by
        rw [← List.drop_drop, h1]; rfl
      have E16 := Lib.hid (show leF (f.drop (at_ + 2)) 0 2 = (en : Int) + d from by
        rw [d2]; simp only [leF, List.getD_cons_zero, List.getD_cons_succ, Nat.zero_add]; omega)
      have E32 := Lib.hid (show leF (f.drop (at_ + 8)) 0 4 = (m2 : Int) from by
        rw [d8]; simp only [leF, List.getD_cons_zero, List.getD_cons_succ, Nat.zero_add, Nat.reduceAdd]; omega)
      have LN := Lib.hid (show ∀ W, Below w0.heap.size w0 W → (convert 33 9 (.slice (some ⟨g, at_ + 16, none⟩) nm (cb - at_ - 16))).run Tryd.prog W = .ok (.string x.f0) W from by
        intro W hW
        have h3 := (LL.out.later hW).part (at_ + 16) nm
        rw [d16, List.take_append_of_le_length (by rw [nb_len]; omega), List.take_of_length_le (by rw [nb_len]; omega), Nat.zero_add] at h3
        have h4 := C_of_lies h3 (by rw [nb_len]; omega)
        rw [nb_len, ← hnm] at h4
        have h5 := Kd.C_string (P := Tryd.prog) (dst := 9) (c := cb - at_ - 16) Tryd.underlying33 Tryd.underlying5 Tryd.underlying9 h4
        rw [str_nb] at h5
        exact h5)
      have LV := Lib.hid (show ∃ o2, (if cb = en then some (⟨g, 0, none⟩ : Addr) else some ⟨g, en, none⟩) = some ⟨g, o2, none⟩ ∧ valR g f (.slice (some ⟨g, o2, none⟩) m2 (cb - en)) = some (.lit (.string (U8 x.f2)), []) from by
        by_cases hce : cb = en
        · have hz : x.f2 = [] := List.length_eq_zero_iff.1 (by omega)
          refine ⟨0, by rw [if_pos hce], valR_mk (by rw [FL.out]; omega) (by omega) ?_⟩
          rw [show m2 = 0 by omega, hz]; rfl
        · refine ⟨en, by rw [if_neg hce], valR_mk (by rw [FL.out]; omega) (by omega) ?_⟩
          rw [h2, hm2]
          exact List.take_left)
      have L2 := Lib.hid (show Lies g (at_ + 2) (f.drop (at_ + 2)) w0 from by have h3 := LL.out.tail (at_ + 2); rwa [Nat.zero_add] at h3)
      have L8 := Lib.hid (show Lies g (at_ + 8) (f.drop (at_ + 8)) w0 from by have h3 := LL.out.tail (at_ + 8); rwa [Nat.zero_add] at h3)
      have N2 := Lib.hid (show (f.drop (at_ + 2)).length = size - at_ - 2 from by rw [List.length_drop, FL.out]; omega)
      have N8 := Lib.hid (show (f.drop (at_ + 8)).length = size - at_ - 8 from by rw [List.length_drop, FL.out]; omega)
      have NX := Lib.hid (show (lay size d ((l.map to133).take (i + 1))).1.length = at_ + e4 from by
        rw [T.out, lay_snoc]
        unfold layS
        simp only [List.length_append, ent_len]
        omega)
      have HY := Lib.hid hy
      have HM2 := Lib.hid hm2
      have HNM := Lib.hid hnm
      have HE4 := Lib.hid he4
      clear hy hgy hx hgx hmy e0 e1 e2 hfit hll hrm lu lv HA' hen h1 h2 hm2 he4 d2 d8 d16 q1 c0
      have p1 : ((nm : Int) == 0) = false := by simp; omega
      rw [← hnm] at k0 q3 q5 q6
      clear hnm
      have m1 : ((1 : Int) < ((size - at_ : Nat) : Int)) = True := eq_true (by omega)
      have m2' : ((2 : Int) ≤ ((size - at_ : Nat) : Int)) = True := eq_true (by omega)
      have m8 : ((8 : Int) ≤ ((size - at_ : Nat) : Int)) = True := eq_true (by omega)
      have g2 : (cb - at_ = 2) = False := eq_false (by omega)
      have g8 : (cb - at_ = 8) = False := eq_false (by omega)
      have u16w : IntKind.u16.wrap ((en : Int) + d - d) = (en : Int) := by unfold IntKind.wrap; simp only [IntKind.signed, IntKind.bits]; simp; omega
      obtain ⟨k16, hk16⟩ : ∃ k16, k16 = 16 + nm := ⟨_, rfl⟩
      obtain ⟨k32, hk32⟩ : ∃ k32, k32 = en + m2 := ⟨_, rfl⟩
      have v1 : IntKind.u8.wrap (16 + (nm : Int)) = (k16 : Int) := by unfold IntKind.wrap; simp only [IntKind.signed, IntKind.bits]; simp; omega
      have v2 : IntKind.u32.wrap (en : Int) = (en : Int) := by unfold IntKind.wrap; simp only [IntKind.signed, IntKind.bits]; simp; omega
      have v3 : IntKind.u32.wrap ((en : Int) + m2) = (k32 : Int) := by unfold IntKind.wrap; simp only [IntKind.signed, IntKind.bits]; simp; omega
      have v4 : ((16 : Int) ≤ (k16 : Int)) = True := eq_true (by omega)
      have v5 : ((k16 : Int) ≤ ((cb - at_ : Nat) : Int)) = True := eq_true (by omega)
      have v6 : k16 - 16 = nm := by omega
      have v7 : (cb - at_ = 16) = False := eq_false (by omega)
      have v8 : (0 ≤ (en : Int)) = True := eq_true (by omega)
      have v9 : ((en : Int) ≤ (k32 : Int)) = True := eq_true (by omega)
      have v10 : ((k32 : Int) ≤ (cb : Int)) = True := eq_true (by omega)
      have v11 : k32 - en = m2 := by omega
      have v12 : (16 + (nm : Int)) % 256 = (k16 : Int) := by omega
      have v13 : ((en : Int) + m2) % 4294967296 = (k32 : Int) := by omega
      have v14 : (en : Int) % 4294967296 = (en : Int) := by omega
      clear hk16 hk32
      go_upto_region 6 with (first | (go_at_call 74; (with_reducible refine (get16c_at g (at_ + 2) (size - at_ - 2) (cb - at_ - 2) (f.drop (at_ + 2)) _ N2.out (by omega) (by omega) (by omega) (FI.out.drop (at_ + 2)) (L2.out.later B1.out)).mono ?_); rw [E16.out]; rintro e w2 ⟨rfl, hd⟩; have B2 := Lib.hid (below_then B1.out B1.out.size (drawn_below hd)); have M2 := Lib.hid (M1.out.later (drawn_below hd)); clear hd))
      go_upto_region 7 with (first | (go_at_call 75; (with_reducible refine (get32c_at g (at_ + 8) (size - at_ - 8) (cb - at_ - 8) (f.drop (at_ + 8)) _ N8.out (by omega) (by omega) (by omega) (FI.out.drop (at_ + 8)) (L8.out.later B2.out)).mono ?_); rw [E32.out]; rintro e w3 ⟨rfl, hd⟩; have B3 := Lib.hid (below_then B2.out B2.out.size (drawn_below hd)); have M3 := Lib.hid (M2.out.later (drawn_below hd)); clear hd))
      go_region_held3 (fun w' => (convert 33 9 (.slice (some ⟨g, at_ + 16, none⟩) nm (cb - at_ - 16))).run Tryd.prog w' = .ok (.string x.f0) w') (exact LN.out _ (by repeat (first | exact B3.out | apply below_drew | (refine below_alloc ?_ _)))) (fail)
      obtain ⟨o2, O1, O2⟩ := LV.out
      rw [O1]
      have OR := Lib.hid O2
      clear O1 O2
      have N5 := Lib.hid (show ((w3.alloc (.cells #[.string x.f0, .int .u8 x.f1, .slice (some ⟨g, o2, none⟩) m2 (cb - en)] 133)).drew).heap[w3.heap.size]? = some (.cells #[.string x.f0, .int .u8 x.f1, .slice (some ⟨g, o2, none⟩) m2 (cb - en)] 133 (0, 0)) from blk_new w3 _)
      have B5 := Lib.hid (show Below w0.heap.size w0 ((w3.alloc (.cells #[.string x.f0, .int .u8 x.f1, .slice (some ⟨g, o2, none⟩) m2 (cb - en)] 133)).drew) from below_drew (below_alloc B3.out _))
      have M5 := Lib.hid (M3.out.later (show Below w3.heap.size w3 ((w3.alloc (.cells #[.string x.f0, .int .u8 x.f1, .slice (some ⟨g, o2, none⟩) m2 (cb - en)] 133)).drew) from below_drew (below_alloc (Below.refl _ _) _)))
      have gne : gm ≠ w3.heap.size := Nat.ne_of_lt M3.out.own.lt
      have gn4 : 4 ≠ w3.heap.size := Nat.ne_of_lt (Nat.lt_of_lt_of_le (Da.blk_lt H4.out) B3.out.size)
      obtain ⟨w5, hw5⟩ : ∃ w5, w5 = (w3.alloc (.cells #[.string x.f0, .int .u8 x.f1, .slice (some ⟨g, o2, none⟩) m2 (cb - en)] 133)).drew := ⟨_, rfl⟩
      rw [← hw5] at N5 B5 M5 ⊢
      clear hw5
      have D := Lib.hid (show ∀ W : World, W.heap[w3.heap.size]? = some (.cells #[.string x.f0, .int .u8 x.f1, .slice (some ⟨g, o2, none⟩) m2 (cb - en)] 133 (0, 0)) → W.cell? ⟨w3.heap.size, 0, none⟩ = some (.string x.f0) ∧ W.cell? ⟨w3.heap.size, 2, none⟩ = some (.slice (some ⟨g, o2, none⟩) m2 (cb - en)) from by
        intro W bk
        have d0 := blk_cell bk 0
        have d2 := blk_cell bk 2
        simp only [List.getElem?_toArray, List.getElem?_cons_zero, List.getElem?_cons_succ] at d0 d2
        exact ⟨d0, d2⟩)
      obtain ⟨d0, d2⟩ := D.out _ N5.out
      have G5 := Lib.hid ((B5.out.drew.block 4 (Da.blk_lt H4.out)).trans H4.out)
      have KM := Lib.hid (key_mk y.f0 (by unfold maxLen; omega))
      have KS : i < maxLen := by unfold maxLen; omega
      have HX0 := Lib.hid (show x.f0.size ≤ 100000 from by rw [← HNM.out]; omega)
      have E5 := Lib.hid (show eLen x.f0.size = (e4 : Int) from by rw [eLen_up4 _ (by rw [← HNM.out]; omega), HE4.out])
      go_wp2
      go_region_held3 (fun w' => w'.cell? ⟨w3.heap.size, 0, none⟩ = some (.string x.f0) ∧ w'.cell? ⟨w3.heap.size, 2, none⟩ = some (.slice (some ⟨g, o2, none⟩) m2 (cb - en))) (go_keep) (first | (go_at_call 76; (with_reducible refine (dec76 _ x.f1 x.f0 t fr HX0.out G5.out).mono ?_); rw [ED.out]; rintro e w6 ⟨rfl, hb⟩; have B6 := Lib.hid (below_then (below_drew B5.out) (below_drew B5.out).size hb); have M6 := Lib.hid ((M5.out.later (below_drew (Below.refl _ _))).later hb); have N6 := Lib.hid ((hb.block _ (Da.blk_lt N5.out)).trans N5.out); obtain ⟨d0, d2⟩ := D.out _ N6.out; obtain ⟨w7, hrun, ho, hg⟩ := M6.out.own.update key9 Tryd.underlying99 KS KM.out OR.out; have M7 := Lib.hid (M6.out.put y UQ.out (by rw [E2.out]; exact ho)); have N7 := Lib.hid ((hg.block _ (Da.blk_lt N6.out) (fun e => gne (Option.some.inj e).symm)).trans N6.out); have B7 := Lib.hid (show Below w0.heap.size w0 w7 from B6.out.grown hg B6.out.size (fun k hk => by obtain rfl := Option.some.inj hk; exact HG.out)); obtain ⟨d0, d2⟩ := D.out _ N7.out; clear hb ho hg))
      have s1 : (0 ≤ (e4 : Int)) = True := eq_true (by omega)
      have s2 : ((e4 : Int) ≤ ((size - at_ : Nat) : Int)) = True := eq_true (by omega)
      have s3 : (((size - at_ : Nat) : Int) ≤ ((cb - at_ : Nat) : Int)) = True := eq_true (by omega)
      have s4 : (cb - at_ = e4) = False := eq_false (by omega)
      have HX1 := Lib.hid (show x.f0.size ≤ 2147483647 from Nat.le_trans HX0.out (by decide))
      go_wp2_with (first | (go_at_call 65; (with_reducible refine (entry_len _ _ x.f0 x.f1 (.slice (some ⟨g, o2, none⟩) m2 (cb - en)) N7.out HX1.out).mono ?_); rw [E5.out]; rintro e w8 ⟨rfl, rfl⟩))
      go_roundw
      case rel => exact ⟨i + 1, at_ + e4, _, by rw [Nat.sub_sub, Nat.sub_sub], hlt, Lib.hid NX.out.symm, by omega, Lib.hid (by rw [T2.out]; exact M7.out), B7⟩
      case measure => simp only [sliceN]; omega
    · obtain rfl : i = n := by omega
      have e1 : (l.map to133).take i = l.map to133 := List.take_of_length_le (by rw [List.length_map, HL.out]; exact Nat.le_refl _)
      have e2 : l.take i = l := List.take_of_length_le (by rw [HL.out]; exact Nat.le_refl _)
      have ha := HA.out
      rw [e1] at ha
      rw [e2] at M1
      obtain ⟨r, hr⟩ := end_at size d (l.map to133) HFit.out
      rw [← HF.out, ← ha] at hr
      have k0 := LR.out at_ 0 (drop_get hr 0 0 rfl)
      rw [Nat.zero_add] at k0
      clear hr ha e1 e2 c0
      go_wp2
      go_returns
      exact ⟨rfl, D, M1.out, B1.out⟩
end Go.Proofs.YtckjbgneblfceaaDoor.At
