/- Whether entries are listed as they must be: the walk. -/
import Derived.Test.YtckjbgneblfceaaMq
import Derived.Test.YtckjbgneblfceaaMn
import Derived.Laws.BitsAllLaws
import Derived.Test.YtckjbgneblfceaaPFnMergeDirsx2
namespace Go.Proofs.Ytckjbgneblfceaa.Ma
open Go.RowKit Go.Maps Go.Proofs.YtckjbgneblfceaaW.PrintWords Go.Proofs.YtckjbgneblfceaaW.PrintLast Go.Proofs.YtckjbgneblfceaaW.PrintMore
open Go.Proofs.Ytckjbgneblfceaa.PFnMergeDirs
set_option linter.unusedVariables false
set_option linter.unusedSimpArgs false
def fit1 (x : S30) : Bool := decide (x.f0.size ≤ 2147483647) && decide (x.f3.length ≤ 2147483647)
theorem fit_go : ∀ (r P : List S30), P.length + r.length ≤ 2147483647 → ∃ k, laws_zzFits15.l0 k (P ++ r) ((P ++ r).length : Int) (P.length : Int) = some (r.all fit1)
  | [], P, _ => ⟨1, by rw [laws_zzFits15.l0, List.append_nil, if_neg (by omega)]; rfl⟩
  | z :: r, P, hl => by
    rw [List.length_cons] at hl
    have e1 : P ++ z :: r = (P ++ [z]) ++ r := by simp
    have hw : wrap64 ((P.length : Int) + 1) = (((P ++ [z]).length : Nat) : Int) := by rw [w64s _ (by omega) (by omega)]; simp
    have hn : (((P ++ z :: r).length : Nat) : Int) = (P.length : Int) + 1 + r.length := by simp; omega
    obtain ⟨k, hk⟩ := fit_go r (P ++ [z]) (by simp; omega)
    rw [← e1] at hk
    refine ⟨k + 1, ?_⟩
    have hf : laws_zzFits16.f z.f0 z.f1 z.f2 z.f3 z.f4 = some (fit1 z) := by
      unfold laws_zzFits16.f fit1
      by_cases h1 : z.f0.size ≤ 2147483647
      · by_cases h2 : z.f3.length ≤ 2147483647
        · rw [if_neg (by omega), if_neg (by omega), decide_eq_true h1, decide_eq_true h2]; rfl
        · rw [if_neg (by omega), if_pos (by omega), decide_eq_true h1, decide_eq_false h2]; rfl
      · rw [if_pos (by omega), decide_eq_false h1]; rfl
    rw [laws_zzFits15.l0, rd30 P r z _ rfl, if_pos (by omega), if_pos (by omega), if_pos (by omega), hf, Option.bind_some, hw, hk, List.all_cons]
    cases fit1 z with
    | true => rw [if_pos rfl]; rfl
    | false => rw [if_neg Bool.false_ne_true]; rfl
def fits (l : List S30) : Bool := decide (l.length ≤ 2147483647) && l.all fit1
theorem fits_law (l : List S30) : ∃ k, laws_zzFits15.f k l = some (fits l) := by
  unfold laws_zzFits15.f fits
  by_cases h : l.length ≤ 2147483647
  · obtain ⟨k, hk⟩ := fit_go l [] (by simpa using h)
    refine ⟨k, ?_⟩
    rw [if_neg (by omega), decide_eq_true h]
    simpa using hk
  · exact ⟨0, by rw [if_pos (by omega), decide_eq_false h]; rfl⟩
theorem fits4 (A : Option Addr) (n c : Nat) (l : List S30) (w : World) (hC : k30.C w A n l) (hnc : n ≤ c) : Calls Try.prog 4 #[.slice A n c] w fun e w' => e = .returned (.bool (fits l)) ∧ Below w.heap.size w w' := by
  obtain rfl : l.length = n := Kd.C_len hC
  obtain ⟨k, hk⟩ := fits_law l
  exact laws_zzFits15.calls k A c l _ w hC hnc hk
theorem rooted_law (s : ByteArray) : spec_Rooted.f s = some (Mn.rooted s) := by
  unfold spec_Rooted.f Mn.rooted
  by_cases h : 0 < s.size
  · rw [if_neg (by rw [toL]; intro e; have h2 := congrArg List.length e; unfold bytesOf at h2; rw [Array.length_toList] at h2; have h3 : s.size = 0 := h2; omega), if_pos (by omega), if_pos h]
  · rw [if_pos (by rw [toL]; unfold bytesOf; exact List.eq_nil_of_length_eq_zero (by rw [Array.length_toList]; show s.size = 0; omega)), if_neg h]
theorem sub_mask (x m : BitVec 64) (h : x &&& ~~~m = 0#64) : x &&& m = x := by
  apply BitVec.eq_of_getLsbD_eq
  intro i hi
  have h1 := congrArg (fun y => y.getLsbD i) h
  simp only [BitVec.getLsbD_and, BitVec.getLsbD_not, BitVec.getLsbD_zero] at h1
  rw [BitVec.getLsbD_and]
  cases hx : x.getLsbD i <;> cases hm : m.getLsbD i <;> simp_all
theorem mode_in (a : Int) (h1 : -9223372036854775808 ≤ a) (h2 : a < 9223372036854775808) (h : bits .andNot .i64 a 2161115647 = 0) : 0 ≤ a ∧ a < 4294967296 := by
  have h3 : IntKind.i64.wrap (((BitVec.ofInt 64 a &&& ~~~BitVec.ofInt 64 2161115647).toNat : Nat) : Int) = 0 := h
  have h4 : (BitVec.ofInt 64 a &&& ~~~BitVec.ofInt 64 2161115647).toNat < 18446744073709551616 := (BitVec.ofInt 64 a &&& ~~~BitVec.ofInt 64 2161115647).isLt
  have h5 : (BitVec.ofInt 64 a &&& ~~~BitVec.ofInt 64 2161115647).toNat = 0 := by
    rw [IntKind.wrap_i64] at h3
    omega
  have h6 : BitVec.ofInt 64 a &&& ~~~BitVec.ofInt 64 2161115647 = 0#64 := BitVec.eq_of_toNat_eq (by rw [h5]; rfl)
  have h7 := sub_mask _ _ h6
  have h8 : (BitVec.ofInt 64 a).toNat ≤ 2161115647 := by
    rw [← h7, BitVec.toNat_and]
    exact Nat.le_trans Nat.and_le_right (by decide)
  rw [BitVec.toNat_ofInt] at h8
  omega
def Bs5 : List Nat := [0, 1, 3, 7, 15, 31, 63, 127, 31, 287, 1023, 2047, 4095, 8191, 16383, 32767, 65535, 131071, 262143, 524287, 1048575, 2097151, 4194303, 8388607, 16777215, 33554431, 16777215, 83886079, 218103807, 486539263, 1073741823, 2147483647, 4294967295, 8589934591, 17179869183, 34359738367, 68719476735, 137438953471, 274877906943, 549755813887, 1099511627775, 2199023255551, 4398046511103, 8796093022207, 17592186044415, 35184372088831, 70368744177663, 140737488355327, 281474976710655, 562949953421311, 1125899906842623, 2251799813685247, 4503599627370495, 9007199254740991, 18014398509481983, 36028797018963967, 72057594037927935, 144115188075855871]
def upto (k : Nat) : Array Bool := (List.replicate k true ++ List.replicate (58 - k) false).toArray
def upx (l : List Nat) : Array Bool := ((List.range 58).map fun i => l.contains i).toArray
noncomputable def T5 : Bool × List (List Nat × List Nat) := rtab .any (opsOf Try.f5 6)
theorem tab5 : rtab .any (opsOf Try.f5 6) = T5 := rfl
theorem bits5 : waitsOk T5.2 Bs5 = true := by kernel_rfl
set_option maxHeartbeats 8000000 in
set_option maxRecDepth 100000 in
theorem listed5 (A : Option Addr) (n c : Nat) (l : List S30) (w : World) (hC : k30.C w A n l) (hnc : n ≤ c) (hfit : fits l = true) (hrange : ∀ x ∈ l, -9223372036854775808 ≤ x.f1 ∧ x.f1 < 9223372036854775808) :
    Calls Try.prog 5 #[.slice A n c] w fun e w' => ∃ b, e = .returned (.bool b) ∧ (b = true → l.length ≤ 60 ∧ ∀ x ∈ l, 0 ≤ x.f1 ∧ x.f1 < 4294967296) ∧ Below w.heap.size w w' := by
  have HC := Lib.hid hC
  have HL := Lib.hid (show l.length = n from Kd.C_len hC)
  have HF := Lib.hid hfit
  have HG := Lib.hid hrange
  clear hC hfit hrange
  go_enter Try.func5, Try.ntmps5
  by_cases h60 : n ≤ 60
  · have j0 : decide ((60 : Int) < (n : Int)) = false := decide_eq_false (by omega)
    go_wp2
    go_loopw [10] (fun v10 wr => ∃ (i : Nat), v10 = .int .i64 i ∧ i ≤ n ∧ Hid (∀ x ∈ l.take i, 0 ≤ x.f1 ∧ x.f1 < 4294967296) ∧ Hid (Below w.heap.size w wr)) (fun v10 _ => n - (intOf v10).toNat)
    case atStart => exact ⟨0, rfl, Nat.zero_le _, Lib.hid (fun x hx => by simp at hx), Lib.hid (Below.refl _ _)⟩
    case round =>
      obtain ⟨i, rfl, hin, K1, B1⟩ := hrel
      by_cases hlt : i < n
      · have hlt' : (i : Int) < (n : Int) := by omega
        have j1 : decide ((i : Int) < (n : Int)) = true := decide_eq_true hlt'
        have j2 : (0 ≤ (i : Int)) = True := eq_true (by omega)
        have j3 : ((i : Int) < (n : Int)) = True := eq_true hlt'
        have j4 : IntKind.i64.wrap ((i : Int) + 1) = (i : Int) + 1 := IntWalk.i64_in _ (by omega)
        obtain ⟨ad, A3, c3, eA, k0, k1, k2, k3, k4, m3, g3⟩ := at_T30 HC.out (i : Int) (by omega) hlt'
        have k0 := cellb0 k0 B1.out
        have k1 := cellb0 k1 B1.out
        have k2 := cellb0 k2 B1.out
        have k3 := cellb0 k3 B1.out
        have k4 := cellb0 k4 B1.out
        obtain ⟨x, hx⟩ : ∃ x, x = rd_T30 l (i : Int) := ⟨_, rfl⟩
        have hxl : l[i]? = some x := by
          rw [hx]; unfold rd_T30
          rw [Int.toNat_natCast, List.getD_eq_getElem?_getD, List.getElem?_eq_getElem (by rw [HL.out]; exact hlt)]; rfl
        rw [← hx] at k0 k1 k2 k3 k4 m3 g3
        have HX := Lib.hid hxl
        rw [Int.toNat_natCast] at k0 k1 k2 k3 k4
        subst eA
        obtain ⟨nm, hnm⟩ : ∃ nm, nm = x.f0 := ⟨_, rfl⟩
        obtain ⟨md, hmd⟩ : ∃ md, md = x.f1 := ⟨_, rfl⟩
        obtain ⟨dr, hdr⟩ : ∃ dr, dr = x.f2 := ⟨_, rfl⟩
        obtain ⟨n3, hn3⟩ : ∃ n3, n3 = x.f3.length := ⟨_, rfl⟩
        obtain ⟨tm, htm⟩ : ∃ tm, tm = x.f4 := ⟨_, rfl⟩
        have hsz : nm.size ≤ 2147483647 := by
          have h := HF.out
          unfold fits at h
          rw [Bool.and_eq_true, List.all_eq_true] at h
          have := h.2 x (List.mem_of_getElem? hxl)
          unfold fit1 at this
          rw [Bool.and_eq_true, decide_eq_true_eq, decide_eq_true_eq] at this
          rw [hnm]; exact this.1
        have hwf := HG.out x (List.mem_of_getElem? hxl)
        rw [← hmd] at hwf
        rw [← hnm] at k0
        rw [← hmd] at k1
        rw [← hdr] at k2
        rw [← hn3] at k3
        rw [← htm] at k4
        have HMD := Lib.hid hmd
        clear hx hxl hnm hmd hdr hn3 htm m3 g3
        have N5 := Lib.hid (blk_newM wr #[.string nm, .int .i64 md, .bool dr, .slice A3 n3 c3, .int .i64 tm] 30)
        have B5 := Lib.hid (below_alloc (Below.refl wr.heap.size wr) (.cells #[.string nm, .int .i64 md, .bool dr, .slice A3 n3 c3, .int .i64 tm] 30))
        have HR := Lib.hid (rooted_law nm)
        cases hrt : Mn.rooted nm with
        | false =>
          rw [hrt] at HR
          go_wp2
          generalize hW0 : (wr.alloc (.cells #[.string nm, .int .i64 md, .bool dr, .slice A3 n3 c3, .int .i64 tm] 30)) = W0 at N5 B5 ⊢
          refine start_ (n := 58) (S := fun w' => w'.cell? ⟨wr.heap.size, 0, none⟩ = some (.string nm) ∧ w'.cell? ⟨wr.heap.size, 1, none⟩ = some (.int .i64 md) ∧ w'.cell? ⟨wr.heap.size, 2, none⟩ = some (.bool dr) ∧ w'.cell? ⟨wr.heap.size, 3, none⟩ = some (.slice A3 n3 c3) ∧ w'.cell? ⟨wr.heap.size, 4, none⟩ = some (.int .i64 tm)) (ds := []) (upto 0) (by kernel_rfl) rfl rfl (C_cells (W := W0.drew) N5.out _ _ _ _ _ rfl) (fun hHeld => ?_)
          refine with_tabW tab5 bits5 (fun HT HW => ?_)
          have BW0 := Lib.hid (below_drew B5.out)
          have N0 := Lib.hid (show W0.drew.heap[wr.heap.size]? = _ from N5.out)
          generalize W0.drew = Wd at BW0 N0 hHeld ⊢
          clear N5 B5 hW0
          refine pure_ (i := 0) (N := some 14) (v := ?_) (a' := ?_) (upto 1) rfl rfl (any_of HT.out (by kernel_rfl)) (fun _ _ _ h => h) (Or.inl ⟨by rfl, ?_⟩) ?_ ?_
          rotate_left
          · intro w'; go_simp; with_reducible rfl
          rotate_left
          · simp only [Act.put, List.setIfInBounds_toArray, List.set_cons_zero, List.set_cons_succ]; rfl
          refine take_ (i := 1) (N := some 15) (v := ?_) (a' := ?_) (upto 2) rfl rfl (take_ofW HT.out HW.out (by kernel_rfl)) (fun _ _ _ h => h) (Or.inl ⟨by rfl, ?_⟩) hHeld ?_ ?_
          rotate_left
          · rintro w' ⟨s0, s1, s2, s3, s4⟩; go_simp; with_reducible rfl
          rotate_left
          · simp only [Act.put, List.setIfInBounds_toArray, List.set_cons_zero, List.set_cons_succ]; rfl
          refine one_ (i := 2) (N := some 16) (upto 3) rfl rfl (one_of HT.out (by kernel_rfl)) (by decide) (fun K hK => ?_)
          refine goes_ Try.func10 (by kernel_rfl) rfl #[.string nm] (by rfl) rfl rfl (by simp only [List.map_toArray, List.map_cons, List.map_nil]; rfl) ?_
          refine (spec_Rooted.calls nm _ _ HR.out).mono ?_
          rintro e w10 ⟨rfl, hd⟩
          have hb := hd.below
          have B10 := Lib.hid (show Below wr.heap.size wr w10 from below_then BW0.out BW0.out.size hb)
          have NN := Lib.hid (show w10.heap[wr.heap.size]? = _ from (hb.block _ (blk_ltM N0.out)).trans N0.out)
          have N10 := NN
          refine ⟨_, rfl, hK.out _ _ (C_cells NN.out _ _ _ _ _ rfl) (fun hHeld => ?_)⟩
          clear hd hb hK
          simp only [Act.put, List.setIfInBounds_toArray, List.set_cons_zero, List.set_cons_succ]
          refine pure_ (i := 3) (N := some 17) (v := ?_) (a' := ?_) (upto 4) rfl rfl (any_of HT.out (by kernel_rfl)) (fun _ _ _ h => h) (Or.inl ⟨by rfl, ?_⟩) ?_ ?_
          rotate_left
          · intro w'; go_simp; with_reducible rfl
          rotate_left
          · simp only [Act.put, List.setIfInBounds_toArray, List.set_cons_zero, List.set_cons_succ]; rfl
          refine pure_ (i := 4) (N := some 18) (v := ?_) (a' := ?_) (upto 5) rfl rfl (any_of HT.out (by kernel_rfl)) (fun _ _ _ h => h) (Or.inl ⟨by rfl, ?_⟩) ?_ ?_
          rotate_left
          · intro w'; go_simp; with_reducible rfl
          rotate_left
          · simp only [Act.put, List.setIfInBounds_toArray, List.set_cons_zero, List.set_cons_succ]; rfl
          refine pure_ (i := 5) (N := some 19) (v := undef) (a' := ?_) (upto 6) rfl rfl (any_of HT.out (by kernel_rfl)) (fun _ _ _ h => h) (Or.inr ⟨by rfl, rfl⟩) ?_ ?_
          rotate_left
          · simp only [Act.put, List.setIfInBounds_toArray, List.set_cons_zero, List.set_cons_succ]; rfl
          refine pure_ (i := 6) (N := some 20) (v := undef) (a' := ?_) (upto 7) rfl rfl (any_of HT.out (by kernel_rfl)) (fun _ _ _ h => h) (Or.inr ⟨by rfl, rfl⟩) ?_ ?_
          rotate_left
          · simp only [Act.put, List.setIfInBounds_toArray, List.set_cons_zero, List.set_cons_succ]; rfl
          refine pure_ (i := 8) (N := some 22) (v := undef) (a' := ?_) (upx [0, 1, 2, 3, 4, 5, 6, 8]) rfl rfl (any_of HT.out (by kernel_rfl)) (fun _ _ _ h => h) (Or.inr ⟨by rfl, rfl⟩) ?_ ?_
          rotate_left
          · simp only [Act.put, List.setIfInBounds_toArray, List.set_cons_zero, List.set_cons_succ]; rfl
          refine pure_ (i := 9) (N := some 23) (v := undef) (a' := ?_) (upx [0, 1, 2, 3, 4, 5, 6, 8, 9]) rfl rfl (any_of HT.out (by kernel_rfl)) (fun _ _ _ h => h) (Or.inr ⟨by rfl, rfl⟩) ?_ ?_
          rotate_left
          · simp only [Act.put, List.setIfInBounds_toArray, List.set_cons_zero, List.set_cons_succ]; rfl
          refine pure_ (i := 7) (N := some 21) (v := undef) (a' := ?_) (upto 10) rfl rfl (any_of HT.out (by kernel_rfl)) (fun _ _ _ h => h) (Or.inr ⟨by rfl, rfl⟩) ?_ ?_
          rotate_left
          · simp only [Act.put, List.setIfInBounds_toArray, List.set_cons_zero, List.set_cons_succ]; rfl
          refine pure_ (i := 10) (N := some 24) (v := undef) (a' := ?_) (upto 11) rfl rfl (any_of HT.out (by kernel_rfl)) (fun _ _ _ h => h) (Or.inr ⟨by rfl, rfl⟩) ?_ ?_
          rotate_left
          · simp only [Act.put, List.setIfInBounds_toArray, List.set_cons_zero, List.set_cons_succ]; rfl
          refine pure_ (i := 11) (N := some 25) (v := ?_) (a' := ?_) (upto 12) rfl rfl (any_of HT.out (by kernel_rfl)) (fun _ _ _ h => h) (Or.inl ⟨by rfl, ?_⟩) ?_ ?_
          rotate_left
          · intro w'; go_simp; with_reducible rfl
          rotate_left
          · simp only [Act.put, List.setIfInBounds_toArray, List.set_cons_zero, List.set_cons_succ]; rfl
          refine pure_ (i := 12) (N := some 26) (v := ?_) (a' := ?_) (upto 13) rfl rfl (any_of HT.out (by kernel_rfl)) (fun _ _ _ h => h) (Or.inl ⟨by rfl, ?_⟩) ?_ ?_
          rotate_left
          · intro w'; go_simp; with_reducible rfl
          rotate_left
          · simp only [Act.put, List.setIfInBounds_toArray, List.set_cons_zero, List.set_cons_succ]; rfl
          refine pure_ (i := 13) (N := some 27) (v := undef) (a' := ?_) (upto 14) rfl rfl (any_of HT.out (by kernel_rfl)) (fun _ _ _ h => h) (Or.inr ⟨by rfl, rfl⟩) ?_ ?_
          rotate_left
          · simp only [Act.put, List.setIfInBounds_toArray, List.set_cons_zero, List.set_cons_succ]; rfl
          refine pure_ (i := 14) (N := some 28) (v := undef) (a' := ?_) (upto 15) rfl rfl (any_of HT.out (by kernel_rfl)) (fun _ _ _ h => h) (Or.inr ⟨by rfl, rfl⟩) ?_ ?_
          rotate_left
          · simp only [Act.put, List.setIfInBounds_toArray, List.set_cons_zero, List.set_cons_succ]; rfl
          refine pure_ (i := 15) (N := some 29) (v := undef) (a' := ?_) (upto 16) rfl rfl (any_of HT.out (by kernel_rfl)) (fun _ _ _ h => h) (Or.inr ⟨by rfl, rfl⟩) ?_ ?_
          rotate_left
          · simp only [Act.put, List.setIfInBounds_toArray, List.set_cons_zero, List.set_cons_succ]; rfl
          refine pure_ (i := 16) (N := some 30) (v := ?_) (a' := ?_) (upto 17) rfl rfl (any_of HT.out (by kernel_rfl)) (fun _ _ _ h => h) (Or.inl ⟨by rfl, ?_⟩) ?_ ?_
          rotate_left
          · intro w'; go_simp; with_reducible rfl
          rotate_left
          · simp only [Act.put, List.setIfInBounds_toArray, List.set_cons_zero, List.set_cons_succ]; rfl
          refine pure_ (i := 17) (N := some 31) (v := ?_) (a' := ?_) (upto 18) rfl rfl (any_of HT.out (by kernel_rfl)) (fun _ _ _ h => h) (Or.inl ⟨by rfl, ?_⟩) ?_ ?_
          rotate_left
          · intro w'; go_simp; with_reducible rfl
          rotate_left
          · simp only [Act.put, List.setIfInBounds_toArray, List.set_cons_zero, List.set_cons_succ]; rfl
          refine pure_ (i := 18) (N := some 32) (v := undef) (a' := ?_) (upto 19) rfl rfl (any_of HT.out (by kernel_rfl)) (fun _ _ _ h => h) (Or.inr ⟨by rfl, rfl⟩) ?_ ?_
          rotate_left
          · simp only [Act.put, List.setIfInBounds_toArray, List.set_cons_zero, List.set_cons_succ]; rfl
          refine pure_ (i := 19) (N := some 33) (v := undef) (a' := ?_) (upto 20) rfl rfl (any_of HT.out (by kernel_rfl)) (fun _ _ _ h => h) (Or.inr ⟨by rfl, rfl⟩) ?_ ?_
          rotate_left
          · simp only [Act.put, List.setIfInBounds_toArray, List.set_cons_zero, List.set_cons_succ]; rfl
          refine pure_ (i := 20) (N := some 34) (v := undef) (a' := ?_) (upto 21) rfl rfl (any_of HT.out (by kernel_rfl)) (fun _ _ _ h => h) (Or.inr ⟨by rfl, rfl⟩) ?_ ?_
          rotate_left
          · simp only [Act.put, List.setIfInBounds_toArray, List.set_cons_zero, List.set_cons_succ]; rfl
          refine pure_ (i := 21) (N := some 35) (v := undef) (a' := ?_) (upto 22) rfl rfl (any_of HT.out (by kernel_rfl)) (fun _ _ _ h => h) (Or.inr ⟨by rfl, rfl⟩) ?_ ?_
          rotate_left
          · simp only [Act.put, List.setIfInBounds_toArray, List.set_cons_zero, List.set_cons_succ]; rfl
          refine pure_ (i := 22) (N := some 36) (v := ?_) (a' := ?_) (upto 23) rfl rfl (any_of HT.out (by kernel_rfl)) (fun _ _ _ h => h) (Or.inl ⟨by rfl, ?_⟩) ?_ ?_
          rotate_left
          · intro w'; go_simp; with_reducible rfl
          rotate_left
          · simp only [Act.put, List.setIfInBounds_toArray, List.set_cons_zero, List.set_cons_succ]; rfl
          refine pure_ (i := 23) (N := some 37) (v := ?_) (a' := ?_) (upto 24) rfl rfl (any_of HT.out (by kernel_rfl)) (fun _ _ _ h => h) (Or.inl ⟨by rfl, ?_⟩) ?_ ?_
          rotate_left
          · intro w'; go_simp; with_reducible rfl
          rotate_left
          · simp only [Act.put, List.setIfInBounds_toArray, List.set_cons_zero, List.set_cons_succ]; rfl
          refine pure_ (i := 24) (N := some 38) (v := undef) (a' := ?_) (upto 25) rfl rfl (any_of HT.out (by kernel_rfl)) (fun _ _ _ h => h) (Or.inr ⟨by rfl, rfl⟩) ?_ ?_
          rotate_left
          · simp only [Act.put, List.setIfInBounds_toArray, List.set_cons_zero, List.set_cons_succ]; rfl
          refine pure_ (i := 25) (N := some 39) (v := undef) (a' := ?_) (upto 26) rfl rfl (any_of HT.out (by kernel_rfl)) (fun _ _ _ h => h) (Or.inr ⟨by rfl, rfl⟩) ?_ ?_
          rotate_left
          · simp only [Act.put, List.setIfInBounds_toArray, List.set_cons_zero, List.set_cons_succ]; rfl
          refine pure_ (i := 26) (N := some 40) (v := undef) (a' := ?_) (upto 27) rfl rfl (any_of HT.out (by kernel_rfl)) (fun _ _ _ h => h) (Or.inr ⟨by rfl, rfl⟩) ?_ ?_
          rotate_left
          · simp only [Act.put, List.setIfInBounds_toArray, List.set_cons_zero, List.set_cons_succ]; rfl
          refine pure_ (i := 27) (N := some 41) (v := undef) (a' := ?_) (upto 28) rfl rfl (any_of HT.out (by kernel_rfl)) (fun _ _ _ h => h) (Or.inr ⟨by rfl, rfl⟩) ?_ ?_
          rotate_left
          · simp only [Act.put, List.setIfInBounds_toArray, List.set_cons_zero, List.set_cons_succ]; rfl
          refine pure_ (i := 28) (N := some 42) (v := undef) (a' := ?_) (upto 29) rfl rfl (any_of HT.out (by kernel_rfl)) (fun _ _ _ h => h) (Or.inr ⟨by rfl, rfl⟩) ?_ ?_
          rotate_left
          · simp only [Act.put, List.setIfInBounds_toArray, List.set_cons_zero, List.set_cons_succ]; rfl
          refine pure_ (i := 29) (N := some 43) (v := undef) (a' := ?_) (upto 30) rfl rfl (any_of HT.out (by kernel_rfl)) (fun _ _ _ h => h) (Or.inr ⟨by rfl, rfl⟩) ?_ ?_
          rotate_left
          · simp only [Act.put, List.setIfInBounds_toArray, List.set_cons_zero, List.set_cons_succ]; rfl
          refine pure_ (i := 30) (N := some 44) (v := undef) (a' := ?_) (upto 31) rfl rfl (any_of HT.out (by kernel_rfl)) (fun _ _ _ h => h) (Or.inr ⟨by rfl, rfl⟩) ?_ ?_
          rotate_left
          · simp only [Act.put, List.setIfInBounds_toArray, List.set_cons_zero, List.set_cons_succ]; rfl
          refine pure_ (i := 31) (N := some 45) (v := ?_) (a' := ?_) (upto 32) rfl rfl (any_of HT.out (by kernel_rfl)) (fun _ _ _ h => h) (Or.inl ⟨by rfl, ?_⟩) ?_ ?_
          rotate_left
          · intro w'; go_simp; with_reducible rfl
          rotate_left
          · simp only [Act.put, List.setIfInBounds_toArray, List.set_cons_zero, List.set_cons_succ]; rfl
          refine pure_ (i := 32) (N := some 46) (v := ?_) (a' := ?_) (upto 33) rfl rfl (any_of HT.out (by kernel_rfl)) (fun _ _ _ h => h) (Or.inl ⟨by rfl, ?_⟩) ?_ ?_
          rotate_left
          · intro w'; go_simp; with_reducible rfl
          rotate_left
          · simp only [Act.put, List.setIfInBounds_toArray, List.set_cons_zero, List.set_cons_succ]; rfl
          refine pure_ (i := 33) (N := some 47) (v := undef) (a' := ?_) (upto 34) rfl rfl (any_of HT.out (by kernel_rfl)) (fun _ _ _ h => h) (Or.inr ⟨by rfl, rfl⟩) ?_ ?_
          rotate_left
          · simp only [Act.put, List.setIfInBounds_toArray, List.set_cons_zero, List.set_cons_succ]; rfl
          refine pure_ (i := 34) (N := some 48) (v := undef) (a' := ?_) (upto 35) rfl rfl (any_of HT.out (by kernel_rfl)) (fun _ _ _ h => h) (Or.inr ⟨by rfl, rfl⟩) ?_ ?_
          rotate_left
          · simp only [Act.put, List.setIfInBounds_toArray, List.set_cons_zero, List.set_cons_succ]; rfl
          refine pure_ (i := 35) (N := some 49) (v := undef) (a' := ?_) (upto 36) rfl rfl (any_of HT.out (by kernel_rfl)) (fun _ _ _ h => h) (Or.inr ⟨by rfl, rfl⟩) ?_ ?_
          rotate_left
          · simp only [Act.put, List.setIfInBounds_toArray, List.set_cons_zero, List.set_cons_succ]; rfl
          refine pure_ (i := 36) (N := some 50) (v := undef) (a' := ?_) (upto 37) rfl rfl (any_of HT.out (by kernel_rfl)) (fun _ _ _ h => h) (Or.inr ⟨by rfl, rfl⟩) ?_ ?_
          rotate_left
          · simp only [Act.put, List.setIfInBounds_toArray, List.set_cons_zero, List.set_cons_succ]; rfl
          refine pure_ (i := 37) (N := some 51) (v := ?_) (a' := ?_) (upto 38) rfl rfl (any_of HT.out (by kernel_rfl)) (fun _ _ _ h => h) (Or.inl ⟨by rfl, ?_⟩) ?_ ?_
          rotate_left
          · intro w'; go_simp; with_reducible rfl
          rotate_left
          · simp only [Act.put, List.setIfInBounds_toArray, List.set_cons_zero, List.set_cons_succ]; rfl
          refine pure_ (i := 38) (N := some 52) (v := ?_) (a' := ?_) (upto 39) rfl rfl (any_of HT.out (by kernel_rfl)) (fun _ _ _ h => h) (Or.inl ⟨by rfl, ?_⟩) ?_ ?_
          rotate_left
          · intro w'; go_simp; with_reducible rfl
          rotate_left
          · simp only [Act.put, List.setIfInBounds_toArray, List.set_cons_zero, List.set_cons_succ]; rfl
          refine pure_ (i := 39) (N := some 53) (v := undef) (a' := ?_) (upto 40) rfl rfl (any_of HT.out (by kernel_rfl)) (fun _ _ _ h => h) (Or.inr ⟨by rfl, rfl⟩) ?_ ?_
          rotate_left
          · simp only [Act.put, List.setIfInBounds_toArray, List.set_cons_zero, List.set_cons_succ]; rfl
          refine pure_ (i := 40) (N := some 54) (v := undef) (a' := ?_) (upto 41) rfl rfl (any_of HT.out (by kernel_rfl)) (fun _ _ _ h => h) (Or.inr ⟨by rfl, rfl⟩) ?_ ?_
          rotate_left
          · simp only [Act.put, List.setIfInBounds_toArray, List.set_cons_zero, List.set_cons_succ]; rfl
          refine pure_ (i := 41) (N := some 55) (v := undef) (a' := ?_) (upto 42) rfl rfl (any_of HT.out (by kernel_rfl)) (fun _ _ _ h => h) (Or.inr ⟨by rfl, rfl⟩) ?_ ?_
          rotate_left
          · simp only [Act.put, List.setIfInBounds_toArray, List.set_cons_zero, List.set_cons_succ]; rfl
          refine pure_ (i := 42) (N := some 56) (v := ?_) (a' := ?_) (upto 43) rfl rfl (any_of HT.out (by kernel_rfl)) (fun _ _ _ h => h) (Or.inl ⟨by rfl, ?_⟩) ?_ ?_
          rotate_left
          · intro w'; go_simp; with_reducible rfl
          rotate_left
          · simp only [Act.put, List.setIfInBounds_toArray, List.set_cons_zero, List.set_cons_succ]; rfl
          refine pure_ (i := 43) (N := some 57) (v := ?_) (a' := ?_) (upto 44) rfl rfl (any_of HT.out (by kernel_rfl)) (fun _ _ _ h => h) (Or.inl ⟨by rfl, ?_⟩) ?_ ?_
          rotate_left
          · intro w'; go_simp; with_reducible rfl
          rotate_left
          · simp only [Act.put, List.setIfInBounds_toArray, List.set_cons_zero, List.set_cons_succ]; rfl
          refine pure_ (i := 44) (N := some 58) (v := undef) (a' := ?_) (upto 45) rfl rfl (any_of HT.out (by kernel_rfl)) (fun _ _ _ h => h) (Or.inr ⟨by rfl, rfl⟩) ?_ ?_
          rotate_left
          · simp only [Act.put, List.setIfInBounds_toArray, List.set_cons_zero, List.set_cons_succ]; rfl
          refine pure_ (i := 45) (N := some 59) (v := undef) (a' := ?_) (upto 46) rfl rfl (any_of HT.out (by kernel_rfl)) (fun _ _ _ h => h) (Or.inr ⟨by rfl, rfl⟩) ?_ ?_
          rotate_left
          · simp only [Act.put, List.setIfInBounds_toArray, List.set_cons_zero, List.set_cons_succ]; rfl
          refine pure_ (i := 46) (N := some 60) (v := undef) (a' := ?_) (upto 47) rfl rfl (any_of HT.out (by kernel_rfl)) (fun _ _ _ h => h) (Or.inr ⟨by rfl, rfl⟩) ?_ ?_
          rotate_left
          · simp only [Act.put, List.setIfInBounds_toArray, List.set_cons_zero, List.set_cons_succ]; rfl
          refine pure_ (i := 47) (N := some 61) (v := ?_) (a' := ?_) (upto 48) rfl rfl (any_of HT.out (by kernel_rfl)) (fun _ _ _ h => h) (Or.inl ⟨by rfl, ?_⟩) ?_ ?_
          rotate_left
          · intro w'; go_simp; with_reducible rfl
          rotate_left
          · simp only [Act.put, List.setIfInBounds_toArray, List.set_cons_zero, List.set_cons_succ]; rfl
          refine pure_ (i := 48) (N := some 62) (v := ?_) (a' := ?_) (upto 49) rfl rfl (any_of HT.out (by kernel_rfl)) (fun _ _ _ h => h) (Or.inl ⟨by rfl, ?_⟩) ?_ ?_
          rotate_left
          · intro w'; go_simp; with_reducible rfl
          rotate_left
          · simp only [Act.put, List.setIfInBounds_toArray, List.set_cons_zero, List.set_cons_succ]; rfl
          refine pure_ (i := 49) (N := some 63) (v := undef) (a' := ?_) (upto 50) rfl rfl (any_of HT.out (by kernel_rfl)) (fun _ _ _ h => h) (Or.inr ⟨by rfl, rfl⟩) ?_ ?_
          rotate_left
          · simp only [Act.put, List.setIfInBounds_toArray, List.set_cons_zero, List.set_cons_succ]; rfl
          refine pure_ (i := 50) (N := some 64) (v := undef) (a' := ?_) (upto 51) rfl rfl (any_of HT.out (by kernel_rfl)) (fun _ _ _ h => h) (Or.inr ⟨by rfl, rfl⟩) ?_ ?_
          rotate_left
          · simp only [Act.put, List.setIfInBounds_toArray, List.set_cons_zero, List.set_cons_succ]; rfl
          refine pure_ (i := 51) (N := some 65) (v := undef) (a' := ?_) (upto 52) rfl rfl (any_of HT.out (by kernel_rfl)) (fun _ _ _ h => h) (Or.inr ⟨by rfl, rfl⟩) ?_ ?_
          rotate_left
          · simp only [Act.put, List.setIfInBounds_toArray, List.set_cons_zero, List.set_cons_succ]; rfl
          refine pure_ (i := 52) (N := some 66) (v := undef) (a' := ?_) (upto 53) rfl rfl (any_of HT.out (by kernel_rfl)) (fun _ _ _ h => h) (Or.inr ⟨by rfl, rfl⟩) ?_ ?_
          rotate_left
          · simp only [Act.put, List.setIfInBounds_toArray, List.set_cons_zero, List.set_cons_succ]; rfl
          refine pure_ (i := 53) (N := some 67) (v := undef) (a' := ?_) (upto 54) rfl rfl (any_of HT.out (by kernel_rfl)) (fun _ _ _ h => h) (Or.inr ⟨by rfl, rfl⟩) ?_ ?_
          rotate_left
          · simp only [Act.put, List.setIfInBounds_toArray, List.set_cons_zero, List.set_cons_succ]; rfl
          refine pure_ (i := 54) (N := some 68) (v := undef) (a' := ?_) (upto 55) rfl rfl (any_of HT.out (by kernel_rfl)) (fun _ _ _ h => h) (Or.inr ⟨by rfl, rfl⟩) ?_ ?_
          rotate_left
          · simp only [Act.put, List.setIfInBounds_toArray, List.set_cons_zero, List.set_cons_succ]; rfl
          refine pure_ (i := 55) (N := some 69) (v := undef) (a' := ?_) (upto 56) rfl rfl (any_of HT.out (by kernel_rfl)) (fun _ _ _ h => h) (Or.inr ⟨by rfl, rfl⟩) ?_ ?_
          rotate_left
          · simp only [Act.put, List.setIfInBounds_toArray, List.set_cons_zero, List.set_cons_succ]; rfl
          refine pure_ (i := 56) (N := some 70) (v := undef) (a' := ?_) (upto 57) rfl rfl (any_of HT.out (by kernel_rfl)) (fun _ _ _ h => h) (Or.inr ⟨by rfl, rfl⟩) ?_ ?_
          rotate_left
          · simp only [Act.put, List.setIfInBounds_toArray, List.set_cons_zero, List.set_cons_succ]; rfl
          refine pure_ (i := 57) (N := some 71) (v := ?_) (a' := ?_) (upto 58) rfl rfl (any_of HT.out (by kernel_rfl)) (fun _ _ _ h => h) (Or.inl ⟨by rfl, ?_⟩) ?_ ?_
          rotate_left
          · intro w'; go_simp; with_reducible rfl
          rotate_left
          · simp only [Act.put, List.setIfInBounds_toArray, List.set_cons_zero, List.set_cons_succ]; rfl
          refine done_ (done_of HT.out (by kernel_rfl)) ?_
          go_wp2
          go_returns
          exact ⟨false, rfl, (fun h => by cases h), below_then B1.out B1.out.size B10.out⟩
        | true =>
          rw [hrt] at HR
          go_wp2
          generalize hW0 : (wr.alloc (.cells #[.string nm, .int .i64 md, .bool dr, .slice A3 n3 c3, .int .i64 tm] 30)) = W0 at N5 B5 ⊢
          refine start_ (n := 58) (S := fun w' => w'.cell? ⟨wr.heap.size, 0, none⟩ = some (.string nm) ∧ w'.cell? ⟨wr.heap.size, 1, none⟩ = some (.int .i64 md) ∧ w'.cell? ⟨wr.heap.size, 2, none⟩ = some (.bool dr) ∧ w'.cell? ⟨wr.heap.size, 3, none⟩ = some (.slice A3 n3 c3) ∧ w'.cell? ⟨wr.heap.size, 4, none⟩ = some (.int .i64 tm)) (ds := []) (upto 0) (by kernel_rfl) rfl rfl (C_cells (W := W0.drew) N5.out _ _ _ _ _ rfl) (fun hHeld => ?_)
          refine with_tabW tab5 bits5 (fun HT HW => ?_)
          have BW0 := Lib.hid (below_drew B5.out)
          have N0 := Lib.hid (show W0.drew.heap[wr.heap.size]? = _ from N5.out)
          generalize W0.drew = Wd at BW0 N0 hHeld ⊢
          clear N5 B5 hW0
          refine pure_ (i := 0) (N := some 14) (v := ?_) (a' := ?_) (upto 1) rfl rfl (any_of HT.out (by kernel_rfl)) (fun _ _ _ h => h) (Or.inl ⟨by rfl, ?_⟩) ?_ ?_
          rotate_left
          · intro w'; go_simp; with_reducible rfl
          rotate_left
          · simp only [Act.put, List.setIfInBounds_toArray, List.set_cons_zero, List.set_cons_succ]; rfl
          refine take_ (i := 1) (N := some 15) (v := ?_) (a' := ?_) (upto 2) rfl rfl (take_ofW HT.out HW.out (by kernel_rfl)) (fun _ _ _ h => h) (Or.inl ⟨by rfl, ?_⟩) hHeld ?_ ?_
          rotate_left
          · rintro w' ⟨s0, s1, s2, s3, s4⟩; go_simp; with_reducible rfl
          rotate_left
          · simp only [Act.put, List.setIfInBounds_toArray, List.set_cons_zero, List.set_cons_succ]; rfl
          refine one_ (i := 2) (N := some 16) (upto 3) rfl rfl (one_of HT.out (by kernel_rfl)) (by decide) (fun K hK => ?_)
          refine goes_ Try.func10 (by kernel_rfl) rfl #[.string nm] (by rfl) rfl rfl (by simp only [List.map_toArray, List.map_cons, List.map_nil]; rfl) ?_
          refine (spec_Rooted.calls nm _ _ HR.out).mono ?_
          rintro e w10 ⟨rfl, hd⟩
          have hb := hd.below
          have B10 := Lib.hid (show Below wr.heap.size wr w10 from below_then BW0.out BW0.out.size hb)
          have NN := Lib.hid (show w10.heap[wr.heap.size]? = _ from (hb.block _ (blk_ltM N0.out)).trans N0.out)
          have N10 := NN
          refine ⟨_, rfl, hK.out _ _ (C_cells NN.out _ _ _ _ _ rfl) (fun hHeld => ?_)⟩
          clear hd hb hK
          simp only [Act.put, List.setIfInBounds_toArray, List.set_cons_zero, List.set_cons_succ]
          refine pure_ (i := 3) (N := some 17) (v := ?_) (a' := ?_) (upto 4) rfl rfl (any_of HT.out (by kernel_rfl)) (fun _ _ _ h => h) (Or.inl ⟨by rfl, ?_⟩) ?_ ?_
          rotate_left
          · intro w'; go_simp; with_reducible rfl
          rotate_left
          · simp only [Act.put, List.setIfInBounds_toArray, List.set_cons_zero, List.set_cons_succ]; rfl
          refine pure_ (i := 4) (N := some 18) (v := ?_) (a' := ?_) (upto 5) rfl rfl (any_of HT.out (by kernel_rfl)) (fun _ _ _ h => h) (Or.inl ⟨by rfl, ?_⟩) ?_ ?_
          rotate_left
          · intro w'; go_simp; with_reducible rfl
          rotate_left
          · simp only [Act.put, List.setIfInBounds_toArray, List.set_cons_zero, List.set_cons_succ]; rfl
          refine pure_ (i := 5) (N := some 19) (v := ?_) (a' := ?_) (upto 6) rfl rfl (any_of HT.out (by kernel_rfl)) (fun _ _ _ h => h) (Or.inl ⟨by rfl, ?_⟩) ?_ ?_
          rotate_left
          · intro w'; go_simp; with_reducible rfl
          rotate_left
          · simp only [Act.put, List.setIfInBounds_toArray, List.set_cons_zero, List.set_cons_succ]; rfl
          refine take_ (i := 6) (N := some 20) (v := ?_) (a' := ?_) (upto 7) rfl rfl (take_ofW HT.out HW.out (by kernel_rfl)) (fun _ _ _ h => h) (Or.inl ⟨by rfl, ?_⟩) hHeld ?_ ?_
          rotate_left
          · rintro w' ⟨s0, s1, s2, s3, s4⟩; go_simp; with_reducible rfl
          rotate_left
          · simp only [Act.put, List.setIfInBounds_toArray, List.set_cons_zero, List.set_cons_succ]; rfl
          refine pure_ (i := 8) (N := some 22) (v := ?_) (a' := ?_) (upx [0, 1, 2, 3, 4, 5, 6, 8]) rfl rfl (any_of HT.out (by kernel_rfl)) (fun _ _ _ h => h) (Or.inl ⟨by rfl, ?_⟩) ?_ ?_
          rotate_left
          · intro w'; go_simp; with_reducible rfl
          rotate_left
          · simp only [Act.put, List.setIfInBounds_toArray, List.set_cons_zero, List.set_cons_succ]; rfl
          refine take_ (i := 9) (N := some 23) (v := ?_) (a' := ?_) (upx [0, 1, 2, 3, 4, 5, 6, 8, 9]) rfl rfl (take_ofW HT.out HW.out (by kernel_rfl)) (fun _ _ _ h => h) (Or.inl ⟨by rfl, ?_⟩) hHeld ?_ ?_
          rotate_left
          · rintro w' ⟨s0, s1, s2, s3, s4⟩; go_simp; with_reducible rfl
          rotate_left
          · simp only [Act.put, List.setIfInBounds_toArray, List.set_cons_zero, List.set_cons_succ]; rfl
          refine one_ (i := 7) (N := some 21) (upto 10) rfl rfl (one_of HT.out (by kernel_rfl)) (by decide) (fun K hK => ?_)
          refine goes_ Try.func11 (by kernel_rfl) rfl #[.string nm] (by rfl) rfl rfl (by simp only [List.map_toArray, List.map_cons, List.map_nil]; rfl) ?_
          refine (Mn.memName_any nm hsz _).mono ?_
          rintro e w11 ⟨rfl, hd⟩
          have hb := hd
          have B11 := Lib.hid (show Below wr.heap.size wr w11 from below_then B10.out B10.out.size hb)
          have NN := Lib.hid (show w11.heap[wr.heap.size]? = _ from (hb.block _ (blk_ltM N10.out)).trans N10.out)
          have N11 := NN
          refine ⟨_, rfl, hK.out _ _ (C_cells NN.out _ _ _ _ _ rfl) (fun hHeld => ?_)⟩
          clear hd hb hK
          simp only [Act.put, List.setIfInBounds_toArray, List.set_cons_zero, List.set_cons_succ]
          cases h24 : (Mn.memName nm).toList == nm.toList with
          | true =>
            refine pure_ (i := 10) (N := some 24) (v := ?_) (a' := ?_) (upto 11) rfl rfl (any_of HT.out (by kernel_rfl)) (fun _ _ _ h => h) (Or.inl ⟨by rfl, ?_⟩) ?_ ?_
            rotate_left
            · intro w'; go_simp; with_reducible rfl
            rotate_left
            · simp only [Act.put, List.setIfInBounds_toArray, List.set_cons_zero, List.set_cons_succ]; rfl
            refine pure_ (i := 11) (N := some 25) (v := ?_) (a' := ?_) (upto 12) rfl rfl (any_of HT.out (by kernel_rfl)) (fun _ _ _ h => h) (Or.inl ⟨by rfl, ?_⟩) ?_ ?_
            rotate_left
            · intro w'; go_simp; with_reducible rfl
            rotate_left
            · simp only [Act.put, List.setIfInBounds_toArray, List.set_cons_zero, List.set_cons_succ]; rfl
            refine pure_ (i := 12) (N := some 26) (v := ?_) (a' := ?_) (upto 13) rfl rfl (any_of HT.out (by kernel_rfl)) (fun _ _ _ h => h) (Or.inl ⟨by rfl, ?_⟩) ?_ ?_
            rotate_left
            · intro w'; go_simp; with_reducible rfl
            rotate_left
            · simp only [Act.put, List.setIfInBounds_toArray, List.set_cons_zero, List.set_cons_succ]; rfl
            refine pure_ (i := 13) (N := some 27) (v := ?_) (a' := ?_) (upto 14) rfl rfl (any_of HT.out (by kernel_rfl)) (fun _ _ _ h => h) (Or.inl ⟨by rfl, ?_⟩) ?_ ?_
            rotate_left
            · intro w'; go_simp; with_reducible rfl
            rotate_left
            · simp only [Act.put, List.setIfInBounds_toArray, List.set_cons_zero, List.set_cons_succ]; rfl
            refine take_ (i := 14) (N := some 28) (v := ?_) (a' := ?_) (upto 15) rfl rfl (take_ofW HT.out HW.out (by kernel_rfl)) (fun _ _ _ h => h) (Or.inl ⟨by rfl, ?_⟩) hHeld ?_ ?_
            rotate_left
            · rintro w' ⟨s0, s1, s2, s3, s4⟩; go_simp; with_reducible rfl
            rotate_left
            · simp only [Act.put, List.setIfInBounds_toArray, List.set_cons_zero, List.set_cons_succ]; rfl
            cases h29 : nm.toList == [47] with
            | true =>
              refine pure_ (i := 15) (N := some 29) (v := ?_) (a' := ?_) (upto 16) rfl rfl (any_of HT.out (by kernel_rfl)) (fun _ _ _ h => h) (Or.inl ⟨by rfl, ?_⟩) ?_ ?_
              rotate_left
              · intro w'; go_simp; with_reducible rfl
              rotate_left
              · simp only [Act.put, List.setIfInBounds_toArray, List.set_cons_zero, List.set_cons_succ]; rfl
              refine pure_ (i := 16) (N := some 30) (v := ?_) (a' := ?_) (upto 17) rfl rfl (any_of HT.out (by kernel_rfl)) (fun _ _ _ h => h) (Or.inl ⟨by rfl, ?_⟩) ?_ ?_
              rotate_left
              · intro w'; go_simp; with_reducible rfl
              rotate_left
              · simp only [Act.put, List.setIfInBounds_toArray, List.set_cons_zero, List.set_cons_succ]; rfl
              refine pure_ (i := 17) (N := some 31) (v := ?_) (a' := ?_) (upto 18) rfl rfl (any_of HT.out (by kernel_rfl)) (fun _ _ _ h => h) (Or.inl ⟨by rfl, ?_⟩) ?_ ?_
              rotate_left
              · intro w'; go_simp; with_reducible rfl
              rotate_left
              · simp only [Act.put, List.setIfInBounds_toArray, List.set_cons_zero, List.set_cons_succ]; rfl
              refine pure_ (i := 18) (N := some 32) (v := undef) (a' := ?_) (upto 19) rfl rfl (any_of HT.out (by kernel_rfl)) (fun _ _ _ h => h) (Or.inr ⟨by rfl, rfl⟩) ?_ ?_
              rotate_left
              · simp only [Act.put, List.setIfInBounds_toArray, List.set_cons_zero, List.set_cons_succ]; rfl
              refine pure_ (i := 19) (N := some 33) (v := undef) (a' := ?_) (upto 20) rfl rfl (any_of HT.out (by kernel_rfl)) (fun _ _ _ h => h) (Or.inr ⟨by rfl, rfl⟩) ?_ ?_
              rotate_left
              · simp only [Act.put, List.setIfInBounds_toArray, List.set_cons_zero, List.set_cons_succ]; rfl
              refine pure_ (i := 20) (N := some 34) (v := undef) (a' := ?_) (upto 21) rfl rfl (any_of HT.out (by kernel_rfl)) (fun _ _ _ h => h) (Or.inr ⟨by rfl, rfl⟩) ?_ ?_
              rotate_left
              · simp only [Act.put, List.setIfInBounds_toArray, List.set_cons_zero, List.set_cons_succ]; rfl
              refine pure_ (i := 21) (N := some 35) (v := undef) (a' := ?_) (upto 22) rfl rfl (any_of HT.out (by kernel_rfl)) (fun _ _ _ h => h) (Or.inr ⟨by rfl, rfl⟩) ?_ ?_
              rotate_left
              · simp only [Act.put, List.setIfInBounds_toArray, List.set_cons_zero, List.set_cons_succ]; rfl
              refine pure_ (i := 22) (N := some 36) (v := ?_) (a' := ?_) (upto 23) rfl rfl (any_of HT.out (by kernel_rfl)) (fun _ _ _ h => h) (Or.inl ⟨by rfl, ?_⟩) ?_ ?_
              rotate_left
              · intro w'; go_simp; with_reducible rfl
              rotate_left
              · simp only [Act.put, List.setIfInBounds_toArray, List.set_cons_zero, List.set_cons_succ]; rfl
              refine pure_ (i := 23) (N := some 37) (v := ?_) (a' := ?_) (upto 24) rfl rfl (any_of HT.out (by kernel_rfl)) (fun _ _ _ h => h) (Or.inl ⟨by rfl, ?_⟩) ?_ ?_
              rotate_left
              · intro w'; go_simp; with_reducible rfl
              rotate_left
              · simp only [Act.put, List.setIfInBounds_toArray, List.set_cons_zero, List.set_cons_succ]; rfl
              refine pure_ (i := 24) (N := some 38) (v := undef) (a' := ?_) (upto 25) rfl rfl (any_of HT.out (by kernel_rfl)) (fun _ _ _ h => h) (Or.inr ⟨by rfl, rfl⟩) ?_ ?_
              rotate_left
              · simp only [Act.put, List.setIfInBounds_toArray, List.set_cons_zero, List.set_cons_succ]; rfl
              refine pure_ (i := 25) (N := some 39) (v := undef) (a' := ?_) (upto 26) rfl rfl (any_of HT.out (by kernel_rfl)) (fun _ _ _ h => h) (Or.inr ⟨by rfl, rfl⟩) ?_ ?_
              rotate_left
              · simp only [Act.put, List.setIfInBounds_toArray, List.set_cons_zero, List.set_cons_succ]; rfl
              refine pure_ (i := 26) (N := some 40) (v := undef) (a' := ?_) (upto 27) rfl rfl (any_of HT.out (by kernel_rfl)) (fun _ _ _ h => h) (Or.inr ⟨by rfl, rfl⟩) ?_ ?_
              rotate_left
              · simp only [Act.put, List.setIfInBounds_toArray, List.set_cons_zero, List.set_cons_succ]; rfl
              refine pure_ (i := 27) (N := some 41) (v := undef) (a' := ?_) (upto 28) rfl rfl (any_of HT.out (by kernel_rfl)) (fun _ _ _ h => h) (Or.inr ⟨by rfl, rfl⟩) ?_ ?_
              rotate_left
              · simp only [Act.put, List.setIfInBounds_toArray, List.set_cons_zero, List.set_cons_succ]; rfl
              refine pure_ (i := 28) (N := some 42) (v := undef) (a' := ?_) (upto 29) rfl rfl (any_of HT.out (by kernel_rfl)) (fun _ _ _ h => h) (Or.inr ⟨by rfl, rfl⟩) ?_ ?_
              rotate_left
              · simp only [Act.put, List.setIfInBounds_toArray, List.set_cons_zero, List.set_cons_succ]; rfl
              refine pure_ (i := 29) (N := some 43) (v := undef) (a' := ?_) (upto 30) rfl rfl (any_of HT.out (by kernel_rfl)) (fun _ _ _ h => h) (Or.inr ⟨by rfl, rfl⟩) ?_ ?_
              rotate_left
              · simp only [Act.put, List.setIfInBounds_toArray, List.set_cons_zero, List.set_cons_succ]; rfl
              refine pure_ (i := 30) (N := some 44) (v := undef) (a' := ?_) (upto 31) rfl rfl (any_of HT.out (by kernel_rfl)) (fun _ _ _ h => h) (Or.inr ⟨by rfl, rfl⟩) ?_ ?_
              rotate_left
              · simp only [Act.put, List.setIfInBounds_toArray, List.set_cons_zero, List.set_cons_succ]; rfl
              refine pure_ (i := 31) (N := some 45) (v := ?_) (a' := ?_) (upto 32) rfl rfl (any_of HT.out (by kernel_rfl)) (fun _ _ _ h => h) (Or.inl ⟨by rfl, ?_⟩) ?_ ?_
              rotate_left
              · intro w'; go_simp; with_reducible rfl
              rotate_left
              · simp only [Act.put, List.setIfInBounds_toArray, List.set_cons_zero, List.set_cons_succ]; rfl
              refine pure_ (i := 32) (N := some 46) (v := ?_) (a' := ?_) (upto 33) rfl rfl (any_of HT.out (by kernel_rfl)) (fun _ _ _ h => h) (Or.inl ⟨by rfl, ?_⟩) ?_ ?_
              rotate_left
              · intro w'; go_simp; with_reducible rfl
              rotate_left
              · simp only [Act.put, List.setIfInBounds_toArray, List.set_cons_zero, List.set_cons_succ]; rfl
              refine pure_ (i := 33) (N := some 47) (v := undef) (a' := ?_) (upto 34) rfl rfl (any_of HT.out (by kernel_rfl)) (fun _ _ _ h => h) (Or.inr ⟨by rfl, rfl⟩) ?_ ?_
              rotate_left
              · simp only [Act.put, List.setIfInBounds_toArray, List.set_cons_zero, List.set_cons_succ]; rfl
              refine pure_ (i := 34) (N := some 48) (v := undef) (a' := ?_) (upto 35) rfl rfl (any_of HT.out (by kernel_rfl)) (fun _ _ _ h => h) (Or.inr ⟨by rfl, rfl⟩) ?_ ?_
              rotate_left
              · simp only [Act.put, List.setIfInBounds_toArray, List.set_cons_zero, List.set_cons_succ]; rfl
              refine pure_ (i := 35) (N := some 49) (v := undef) (a' := ?_) (upto 36) rfl rfl (any_of HT.out (by kernel_rfl)) (fun _ _ _ h => h) (Or.inr ⟨by rfl, rfl⟩) ?_ ?_
              rotate_left
              · simp only [Act.put, List.setIfInBounds_toArray, List.set_cons_zero, List.set_cons_succ]; rfl
              refine pure_ (i := 36) (N := some 50) (v := undef) (a' := ?_) (upto 37) rfl rfl (any_of HT.out (by kernel_rfl)) (fun _ _ _ h => h) (Or.inr ⟨by rfl, rfl⟩) ?_ ?_
              rotate_left
              · simp only [Act.put, List.setIfInBounds_toArray, List.set_cons_zero, List.set_cons_succ]; rfl
              refine pure_ (i := 37) (N := some 51) (v := ?_) (a' := ?_) (upto 38) rfl rfl (any_of HT.out (by kernel_rfl)) (fun _ _ _ h => h) (Or.inl ⟨by rfl, ?_⟩) ?_ ?_
              rotate_left
              · intro w'; go_simp; with_reducible rfl
              rotate_left
              · simp only [Act.put, List.setIfInBounds_toArray, List.set_cons_zero, List.set_cons_succ]; rfl
              refine pure_ (i := 38) (N := some 52) (v := ?_) (a' := ?_) (upto 39) rfl rfl (any_of HT.out (by kernel_rfl)) (fun _ _ _ h => h) (Or.inl ⟨by rfl, ?_⟩) ?_ ?_
              rotate_left
              · intro w'; go_simp; with_reducible rfl
              rotate_left
              · simp only [Act.put, List.setIfInBounds_toArray, List.set_cons_zero, List.set_cons_succ]; rfl
              refine pure_ (i := 39) (N := some 53) (v := undef) (a' := ?_) (upto 40) rfl rfl (any_of HT.out (by kernel_rfl)) (fun _ _ _ h => h) (Or.inr ⟨by rfl, rfl⟩) ?_ ?_
              rotate_left
              · simp only [Act.put, List.setIfInBounds_toArray, List.set_cons_zero, List.set_cons_succ]; rfl
              refine pure_ (i := 40) (N := some 54) (v := undef) (a' := ?_) (upto 41) rfl rfl (any_of HT.out (by kernel_rfl)) (fun _ _ _ h => h) (Or.inr ⟨by rfl, rfl⟩) ?_ ?_
              rotate_left
              · simp only [Act.put, List.setIfInBounds_toArray, List.set_cons_zero, List.set_cons_succ]; rfl
              refine pure_ (i := 41) (N := some 55) (v := undef) (a' := ?_) (upto 42) rfl rfl (any_of HT.out (by kernel_rfl)) (fun _ _ _ h => h) (Or.inr ⟨by rfl, rfl⟩) ?_ ?_
              rotate_left
              · simp only [Act.put, List.setIfInBounds_toArray, List.set_cons_zero, List.set_cons_succ]; rfl
              refine pure_ (i := 42) (N := some 56) (v := ?_) (a' := ?_) (upto 43) rfl rfl (any_of HT.out (by kernel_rfl)) (fun _ _ _ h => h) (Or.inl ⟨by rfl, ?_⟩) ?_ ?_
              rotate_left
              · intro w'; go_simp; with_reducible rfl
              rotate_left
              · simp only [Act.put, List.setIfInBounds_toArray, List.set_cons_zero, List.set_cons_succ]; rfl
              refine pure_ (i := 43) (N := some 57) (v := ?_) (a' := ?_) (upto 44) rfl rfl (any_of HT.out (by kernel_rfl)) (fun _ _ _ h => h) (Or.inl ⟨by rfl, ?_⟩) ?_ ?_
              rotate_left
              · intro w'; go_simp; with_reducible rfl
              rotate_left
              · simp only [Act.put, List.setIfInBounds_toArray, List.set_cons_zero, List.set_cons_succ]; rfl
              refine pure_ (i := 44) (N := some 58) (v := undef) (a' := ?_) (upto 45) rfl rfl (any_of HT.out (by kernel_rfl)) (fun _ _ _ h => h) (Or.inr ⟨by rfl, rfl⟩) ?_ ?_
              rotate_left
              · simp only [Act.put, List.setIfInBounds_toArray, List.set_cons_zero, List.set_cons_succ]; rfl
              refine pure_ (i := 45) (N := some 59) (v := undef) (a' := ?_) (upto 46) rfl rfl (any_of HT.out (by kernel_rfl)) (fun _ _ _ h => h) (Or.inr ⟨by rfl, rfl⟩) ?_ ?_
              rotate_left
              · simp only [Act.put, List.setIfInBounds_toArray, List.set_cons_zero, List.set_cons_succ]; rfl
              refine pure_ (i := 46) (N := some 60) (v := undef) (a' := ?_) (upto 47) rfl rfl (any_of HT.out (by kernel_rfl)) (fun _ _ _ h => h) (Or.inr ⟨by rfl, rfl⟩) ?_ ?_
              rotate_left
              · simp only [Act.put, List.setIfInBounds_toArray, List.set_cons_zero, List.set_cons_succ]; rfl
              refine pure_ (i := 47) (N := some 61) (v := ?_) (a' := ?_) (upto 48) rfl rfl (any_of HT.out (by kernel_rfl)) (fun _ _ _ h => h) (Or.inl ⟨by rfl, ?_⟩) ?_ ?_
              rotate_left
              · intro w'; go_simp; with_reducible rfl
              rotate_left
              · simp only [Act.put, List.setIfInBounds_toArray, List.set_cons_zero, List.set_cons_succ]; rfl
              refine pure_ (i := 48) (N := some 62) (v := ?_) (a' := ?_) (upto 49) rfl rfl (any_of HT.out (by kernel_rfl)) (fun _ _ _ h => h) (Or.inl ⟨by rfl, ?_⟩) ?_ ?_
              rotate_left
              · intro w'; go_simp; with_reducible rfl
              rotate_left
              · simp only [Act.put, List.setIfInBounds_toArray, List.set_cons_zero, List.set_cons_succ]; rfl
              refine pure_ (i := 49) (N := some 63) (v := undef) (a' := ?_) (upto 50) rfl rfl (any_of HT.out (by kernel_rfl)) (fun _ _ _ h => h) (Or.inr ⟨by rfl, rfl⟩) ?_ ?_
              rotate_left
              · simp only [Act.put, List.setIfInBounds_toArray, List.set_cons_zero, List.set_cons_succ]; rfl
              refine pure_ (i := 50) (N := some 64) (v := undef) (a' := ?_) (upto 51) rfl rfl (any_of HT.out (by kernel_rfl)) (fun _ _ _ h => h) (Or.inr ⟨by rfl, rfl⟩) ?_ ?_
              rotate_left
              · simp only [Act.put, List.setIfInBounds_toArray, List.set_cons_zero, List.set_cons_succ]; rfl
              refine pure_ (i := 51) (N := some 65) (v := undef) (a' := ?_) (upto 52) rfl rfl (any_of HT.out (by kernel_rfl)) (fun _ _ _ h => h) (Or.inr ⟨by rfl, rfl⟩) ?_ ?_
              rotate_left
              · simp only [Act.put, List.setIfInBounds_toArray, List.set_cons_zero, List.set_cons_succ]; rfl
              refine pure_ (i := 52) (N := some 66) (v := undef) (a' := ?_) (upto 53) rfl rfl (any_of HT.out (by kernel_rfl)) (fun _ _ _ h => h) (Or.inr ⟨by rfl, rfl⟩) ?_ ?_
              rotate_left
              · simp only [Act.put, List.setIfInBounds_toArray, List.set_cons_zero, List.set_cons_succ]; rfl
              refine pure_ (i := 53) (N := some 67) (v := undef) (a' := ?_) (upto 54) rfl rfl (any_of HT.out (by kernel_rfl)) (fun _ _ _ h => h) (Or.inr ⟨by rfl, rfl⟩) ?_ ?_
              rotate_left
              · simp only [Act.put, List.setIfInBounds_toArray, List.set_cons_zero, List.set_cons_succ]; rfl
              refine pure_ (i := 54) (N := some 68) (v := undef) (a' := ?_) (upto 55) rfl rfl (any_of HT.out (by kernel_rfl)) (fun _ _ _ h => h) (Or.inr ⟨by rfl, rfl⟩) ?_ ?_
              rotate_left
              · simp only [Act.put, List.setIfInBounds_toArray, List.set_cons_zero, List.set_cons_succ]; rfl
              refine pure_ (i := 55) (N := some 69) (v := undef) (a' := ?_) (upto 56) rfl rfl (any_of HT.out (by kernel_rfl)) (fun _ _ _ h => h) (Or.inr ⟨by rfl, rfl⟩) ?_ ?_
              rotate_left
              · simp only [Act.put, List.setIfInBounds_toArray, List.set_cons_zero, List.set_cons_succ]; rfl
              refine pure_ (i := 56) (N := some 70) (v := undef) (a' := ?_) (upto 57) rfl rfl (any_of HT.out (by kernel_rfl)) (fun _ _ _ h => h) (Or.inr ⟨by rfl, rfl⟩) ?_ ?_
              rotate_left
              · simp only [Act.put, List.setIfInBounds_toArray, List.set_cons_zero, List.set_cons_succ]; rfl
              refine pure_ (i := 57) (N := some 71) (v := ?_) (a' := ?_) (upto 58) rfl rfl (any_of HT.out (by kernel_rfl)) (fun _ _ _ h => h) (Or.inl ⟨by rfl, ?_⟩) ?_ ?_
              rotate_left
              · intro w'; go_simp; with_reducible rfl
              rotate_left
              · simp only [Act.put, List.setIfInBounds_toArray, List.set_cons_zero, List.set_cons_succ]; rfl
              refine done_ (done_of HT.out (by kernel_rfl)) ?_
              go_wp2
              go_returns
              exact ⟨false, rfl, (fun h => by cases h), below_then B1.out B1.out.size B11.out⟩
            | false =>
              refine pure_ (i := 15) (N := some 29) (v := ?_) (a' := ?_) (upto 16) rfl rfl (any_of HT.out (by kernel_rfl)) (fun _ _ _ h => h) (Or.inl ⟨by rfl, ?_⟩) ?_ ?_
              rotate_left
              · intro w'; go_simp; with_reducible rfl
              rotate_left
              · simp only [Act.put, List.setIfInBounds_toArray, List.set_cons_zero, List.set_cons_succ]; rfl
              refine pure_ (i := 16) (N := some 30) (v := ?_) (a' := ?_) (upto 17) rfl rfl (any_of HT.out (by kernel_rfl)) (fun _ _ _ h => h) (Or.inl ⟨by rfl, ?_⟩) ?_ ?_
              rotate_left
              · intro w'; go_simp; with_reducible rfl
              rotate_left
              · simp only [Act.put, List.setIfInBounds_toArray, List.set_cons_zero, List.set_cons_succ]; rfl
              refine pure_ (i := 17) (N := some 31) (v := ?_) (a' := ?_) (upto 18) rfl rfl (any_of HT.out (by kernel_rfl)) (fun _ _ _ h => h) (Or.inl ⟨by rfl, ?_⟩) ?_ ?_
              rotate_left
              · intro w'; go_simp; with_reducible rfl
              rotate_left
              · simp only [Act.put, List.setIfInBounds_toArray, List.set_cons_zero, List.set_cons_succ]; rfl
              refine pure_ (i := 18) (N := some 32) (v := ?_) (a' := ?_) (upto 19) rfl rfl (any_of HT.out (by kernel_rfl)) (fun _ _ _ h => h) (Or.inl ⟨by rfl, ?_⟩) ?_ ?_
              rotate_left
              · intro w'; go_simp; with_reducible rfl
              rotate_left
              · simp only [Act.put, List.setIfInBounds_toArray, List.set_cons_zero, List.set_cons_succ]; rfl
              refine take_ (i := 19) (N := some 33) (v := ?_) (a' := ?_) (upto 20) rfl rfl (take_ofW HT.out HW.out (by kernel_rfl)) (fun _ _ _ h => h) (Or.inl ⟨by rfl, ?_⟩) hHeld ?_ ?_
              rotate_left
              · rintro w' ⟨s0, s1, s2, s3, s4⟩; go_simp; with_reducible rfl
              rotate_left
              · simp only [Act.put, List.setIfInBounds_toArray, List.set_cons_zero, List.set_cons_succ]; rfl
              refine pure_ (i := 20) (N := some 34) (v := ?_) (a' := ?_) (upto 21) rfl rfl (any_of HT.out (by kernel_rfl)) (fun _ _ _ h => h) (Or.inl ⟨by rfl, ?_⟩) ?_ ?_
              rotate_left
              · intro w'; go_simp; with_reducible rfl
              rotate_left
              · simp only [Act.put, List.setIfInBounds_toArray, List.set_cons_zero, List.set_cons_succ]; rfl
              cases h35 : decide (200 < (nm.size : Int)) with
              | true =>
                refine pure_ (i := 21) (N := some 35) (v := ?_) (a' := ?_) (upto 22) rfl rfl (any_of HT.out (by kernel_rfl)) (fun _ _ _ h => h) (Or.inl ⟨by rfl, ?_⟩) ?_ ?_
                rotate_left
                · intro w'; go_simp; with_reducible rfl
                rotate_left
                · simp only [Act.put, List.setIfInBounds_toArray, List.set_cons_zero, List.set_cons_succ]; rfl
                refine pure_ (i := 22) (N := some 36) (v := ?_) (a' := ?_) (upto 23) rfl rfl (any_of HT.out (by kernel_rfl)) (fun _ _ _ h => h) (Or.inl ⟨by rfl, ?_⟩) ?_ ?_
                rotate_left
                · intro w'; go_simp; with_reducible rfl
                rotate_left
                · simp only [Act.put, List.setIfInBounds_toArray, List.set_cons_zero, List.set_cons_succ]; rfl
                refine pure_ (i := 23) (N := some 37) (v := ?_) (a' := ?_) (upto 24) rfl rfl (any_of HT.out (by kernel_rfl)) (fun _ _ _ h => h) (Or.inl ⟨by rfl, ?_⟩) ?_ ?_
                rotate_left
                · intro w'; go_simp; with_reducible rfl
                rotate_left
                · simp only [Act.put, List.setIfInBounds_toArray, List.set_cons_zero, List.set_cons_succ]; rfl
                refine pure_ (i := 24) (N := some 38) (v := undef) (a' := ?_) (upto 25) rfl rfl (any_of HT.out (by kernel_rfl)) (fun _ _ _ h => h) (Or.inr ⟨by rfl, rfl⟩) ?_ ?_
                rotate_left
                · simp only [Act.put, List.setIfInBounds_toArray, List.set_cons_zero, List.set_cons_succ]; rfl
                refine pure_ (i := 25) (N := some 39) (v := undef) (a' := ?_) (upto 26) rfl rfl (any_of HT.out (by kernel_rfl)) (fun _ _ _ h => h) (Or.inr ⟨by rfl, rfl⟩) ?_ ?_
                rotate_left
                · simp only [Act.put, List.setIfInBounds_toArray, List.set_cons_zero, List.set_cons_succ]; rfl
                refine pure_ (i := 26) (N := some 40) (v := undef) (a' := ?_) (upto 27) rfl rfl (any_of HT.out (by kernel_rfl)) (fun _ _ _ h => h) (Or.inr ⟨by rfl, rfl⟩) ?_ ?_
                rotate_left
                · simp only [Act.put, List.setIfInBounds_toArray, List.set_cons_zero, List.set_cons_succ]; rfl
                refine pure_ (i := 27) (N := some 41) (v := undef) (a' := ?_) (upto 28) rfl rfl (any_of HT.out (by kernel_rfl)) (fun _ _ _ h => h) (Or.inr ⟨by rfl, rfl⟩) ?_ ?_
                rotate_left
                · simp only [Act.put, List.setIfInBounds_toArray, List.set_cons_zero, List.set_cons_succ]; rfl
                refine pure_ (i := 28) (N := some 42) (v := undef) (a' := ?_) (upto 29) rfl rfl (any_of HT.out (by kernel_rfl)) (fun _ _ _ h => h) (Or.inr ⟨by rfl, rfl⟩) ?_ ?_
                rotate_left
                · simp only [Act.put, List.setIfInBounds_toArray, List.set_cons_zero, List.set_cons_succ]; rfl
                refine pure_ (i := 29) (N := some 43) (v := undef) (a' := ?_) (upto 30) rfl rfl (any_of HT.out (by kernel_rfl)) (fun _ _ _ h => h) (Or.inr ⟨by rfl, rfl⟩) ?_ ?_
                rotate_left
                · simp only [Act.put, List.setIfInBounds_toArray, List.set_cons_zero, List.set_cons_succ]; rfl
                refine pure_ (i := 30) (N := some 44) (v := undef) (a' := ?_) (upto 31) rfl rfl (any_of HT.out (by kernel_rfl)) (fun _ _ _ h => h) (Or.inr ⟨by rfl, rfl⟩) ?_ ?_
                rotate_left
                · simp only [Act.put, List.setIfInBounds_toArray, List.set_cons_zero, List.set_cons_succ]; rfl
                refine pure_ (i := 31) (N := some 45) (v := ?_) (a' := ?_) (upto 32) rfl rfl (any_of HT.out (by kernel_rfl)) (fun _ _ _ h => h) (Or.inl ⟨by rfl, ?_⟩) ?_ ?_
                rotate_left
                · intro w'; go_simp; with_reducible rfl
                rotate_left
                · simp only [Act.put, List.setIfInBounds_toArray, List.set_cons_zero, List.set_cons_succ]; rfl
                refine pure_ (i := 32) (N := some 46) (v := ?_) (a' := ?_) (upto 33) rfl rfl (any_of HT.out (by kernel_rfl)) (fun _ _ _ h => h) (Or.inl ⟨by rfl, ?_⟩) ?_ ?_
                rotate_left
                · intro w'; go_simp; with_reducible rfl
                rotate_left
                · simp only [Act.put, List.setIfInBounds_toArray, List.set_cons_zero, List.set_cons_succ]; rfl
                refine pure_ (i := 33) (N := some 47) (v := undef) (a' := ?_) (upto 34) rfl rfl (any_of HT.out (by kernel_rfl)) (fun _ _ _ h => h) (Or.inr ⟨by rfl, rfl⟩) ?_ ?_
                rotate_left
                · simp only [Act.put, List.setIfInBounds_toArray, List.set_cons_zero, List.set_cons_succ]; rfl
                refine pure_ (i := 34) (N := some 48) (v := undef) (a' := ?_) (upto 35) rfl rfl (any_of HT.out (by kernel_rfl)) (fun _ _ _ h => h) (Or.inr ⟨by rfl, rfl⟩) ?_ ?_
                rotate_left
                · simp only [Act.put, List.setIfInBounds_toArray, List.set_cons_zero, List.set_cons_succ]; rfl
                refine pure_ (i := 35) (N := some 49) (v := undef) (a' := ?_) (upto 36) rfl rfl (any_of HT.out (by kernel_rfl)) (fun _ _ _ h => h) (Or.inr ⟨by rfl, rfl⟩) ?_ ?_
                rotate_left
                · simp only [Act.put, List.setIfInBounds_toArray, List.set_cons_zero, List.set_cons_succ]; rfl
                refine pure_ (i := 36) (N := some 50) (v := undef) (a' := ?_) (upto 37) rfl rfl (any_of HT.out (by kernel_rfl)) (fun _ _ _ h => h) (Or.inr ⟨by rfl, rfl⟩) ?_ ?_
                rotate_left
                · simp only [Act.put, List.setIfInBounds_toArray, List.set_cons_zero, List.set_cons_succ]; rfl
                refine pure_ (i := 37) (N := some 51) (v := ?_) (a' := ?_) (upto 38) rfl rfl (any_of HT.out (by kernel_rfl)) (fun _ _ _ h => h) (Or.inl ⟨by rfl, ?_⟩) ?_ ?_
                rotate_left
                · intro w'; go_simp; with_reducible rfl
                rotate_left
                · simp only [Act.put, List.setIfInBounds_toArray, List.set_cons_zero, List.set_cons_succ]; rfl
                refine pure_ (i := 38) (N := some 52) (v := ?_) (a' := ?_) (upto 39) rfl rfl (any_of HT.out (by kernel_rfl)) (fun _ _ _ h => h) (Or.inl ⟨by rfl, ?_⟩) ?_ ?_
                rotate_left
                · intro w'; go_simp; with_reducible rfl
                rotate_left
                · simp only [Act.put, List.setIfInBounds_toArray, List.set_cons_zero, List.set_cons_succ]; rfl
                refine pure_ (i := 39) (N := some 53) (v := undef) (a' := ?_) (upto 40) rfl rfl (any_of HT.out (by kernel_rfl)) (fun _ _ _ h => h) (Or.inr ⟨by rfl, rfl⟩) ?_ ?_
                rotate_left
                · simp only [Act.put, List.setIfInBounds_toArray, List.set_cons_zero, List.set_cons_succ]; rfl
                refine pure_ (i := 40) (N := some 54) (v := undef) (a' := ?_) (upto 41) rfl rfl (any_of HT.out (by kernel_rfl)) (fun _ _ _ h => h) (Or.inr ⟨by rfl, rfl⟩) ?_ ?_
                rotate_left
                · simp only [Act.put, List.setIfInBounds_toArray, List.set_cons_zero, List.set_cons_succ]; rfl
                refine pure_ (i := 41) (N := some 55) (v := undef) (a' := ?_) (upto 42) rfl rfl (any_of HT.out (by kernel_rfl)) (fun _ _ _ h => h) (Or.inr ⟨by rfl, rfl⟩) ?_ ?_
                rotate_left
                · simp only [Act.put, List.setIfInBounds_toArray, List.set_cons_zero, List.set_cons_succ]; rfl
                refine pure_ (i := 42) (N := some 56) (v := ?_) (a' := ?_) (upto 43) rfl rfl (any_of HT.out (by kernel_rfl)) (fun _ _ _ h => h) (Or.inl ⟨by rfl, ?_⟩) ?_ ?_
                rotate_left
                · intro w'; go_simp; with_reducible rfl
                rotate_left
                · simp only [Act.put, List.setIfInBounds_toArray, List.set_cons_zero, List.set_cons_succ]; rfl
                refine pure_ (i := 43) (N := some 57) (v := ?_) (a' := ?_) (upto 44) rfl rfl (any_of HT.out (by kernel_rfl)) (fun _ _ _ h => h) (Or.inl ⟨by rfl, ?_⟩) ?_ ?_
                rotate_left
                · intro w'; go_simp; with_reducible rfl
                rotate_left
                · simp only [Act.put, List.setIfInBounds_toArray, List.set_cons_zero, List.set_cons_succ]; rfl
                refine pure_ (i := 44) (N := some 58) (v := undef) (a' := ?_) (upto 45) rfl rfl (any_of HT.out (by kernel_rfl)) (fun _ _ _ h => h) (Or.inr ⟨by rfl, rfl⟩) ?_ ?_
                rotate_left
                · simp only [Act.put, List.setIfInBounds_toArray, List.set_cons_zero, List.set_cons_succ]; rfl
                refine pure_ (i := 45) (N := some 59) (v := undef) (a' := ?_) (upto 46) rfl rfl (any_of HT.out (by kernel_rfl)) (fun _ _ _ h => h) (Or.inr ⟨by rfl, rfl⟩) ?_ ?_
                rotate_left
                · simp only [Act.put, List.setIfInBounds_toArray, List.set_cons_zero, List.set_cons_succ]; rfl
                refine pure_ (i := 46) (N := some 60) (v := undef) (a' := ?_) (upto 47) rfl rfl (any_of HT.out (by kernel_rfl)) (fun _ _ _ h => h) (Or.inr ⟨by rfl, rfl⟩) ?_ ?_
                rotate_left
                · simp only [Act.put, List.setIfInBounds_toArray, List.set_cons_zero, List.set_cons_succ]; rfl
                refine pure_ (i := 47) (N := some 61) (v := ?_) (a' := ?_) (upto 48) rfl rfl (any_of HT.out (by kernel_rfl)) (fun _ _ _ h => h) (Or.inl ⟨by rfl, ?_⟩) ?_ ?_
                rotate_left
                · intro w'; go_simp; with_reducible rfl
                rotate_left
                · simp only [Act.put, List.setIfInBounds_toArray, List.set_cons_zero, List.set_cons_succ]; rfl
                refine pure_ (i := 48) (N := some 62) (v := ?_) (a' := ?_) (upto 49) rfl rfl (any_of HT.out (by kernel_rfl)) (fun _ _ _ h => h) (Or.inl ⟨by rfl, ?_⟩) ?_ ?_
                rotate_left
                · intro w'; go_simp; with_reducible rfl
                rotate_left
                · simp only [Act.put, List.setIfInBounds_toArray, List.set_cons_zero, List.set_cons_succ]; rfl
                refine pure_ (i := 49) (N := some 63) (v := undef) (a' := ?_) (upto 50) rfl rfl (any_of HT.out (by kernel_rfl)) (fun _ _ _ h => h) (Or.inr ⟨by rfl, rfl⟩) ?_ ?_
                rotate_left
                · simp only [Act.put, List.setIfInBounds_toArray, List.set_cons_zero, List.set_cons_succ]; rfl
                refine pure_ (i := 50) (N := some 64) (v := undef) (a' := ?_) (upto 51) rfl rfl (any_of HT.out (by kernel_rfl)) (fun _ _ _ h => h) (Or.inr ⟨by rfl, rfl⟩) ?_ ?_
                rotate_left
                · simp only [Act.put, List.setIfInBounds_toArray, List.set_cons_zero, List.set_cons_succ]; rfl
                refine pure_ (i := 51) (N := some 65) (v := undef) (a' := ?_) (upto 52) rfl rfl (any_of HT.out (by kernel_rfl)) (fun _ _ _ h => h) (Or.inr ⟨by rfl, rfl⟩) ?_ ?_
                rotate_left
                · simp only [Act.put, List.setIfInBounds_toArray, List.set_cons_zero, List.set_cons_succ]; rfl
                refine pure_ (i := 52) (N := some 66) (v := undef) (a' := ?_) (upto 53) rfl rfl (any_of HT.out (by kernel_rfl)) (fun _ _ _ h => h) (Or.inr ⟨by rfl, rfl⟩) ?_ ?_
                rotate_left
                · simp only [Act.put, List.setIfInBounds_toArray, List.set_cons_zero, List.set_cons_succ]; rfl
                refine pure_ (i := 53) (N := some 67) (v := undef) (a' := ?_) (upto 54) rfl rfl (any_of HT.out (by kernel_rfl)) (fun _ _ _ h => h) (Or.inr ⟨by rfl, rfl⟩) ?_ ?_
                rotate_left
                · simp only [Act.put, List.setIfInBounds_toArray, List.set_cons_zero, List.set_cons_succ]; rfl
                refine pure_ (i := 54) (N := some 68) (v := undef) (a' := ?_) (upto 55) rfl rfl (any_of HT.out (by kernel_rfl)) (fun _ _ _ h => h) (Or.inr ⟨by rfl, rfl⟩) ?_ ?_
                rotate_left
                · simp only [Act.put, List.setIfInBounds_toArray, List.set_cons_zero, List.set_cons_succ]; rfl
                refine pure_ (i := 55) (N := some 69) (v := undef) (a' := ?_) (upto 56) rfl rfl (any_of HT.out (by kernel_rfl)) (fun _ _ _ h => h) (Or.inr ⟨by rfl, rfl⟩) ?_ ?_
                rotate_left
                · simp only [Act.put, List.setIfInBounds_toArray, List.set_cons_zero, List.set_cons_succ]; rfl
                refine pure_ (i := 56) (N := some 70) (v := undef) (a' := ?_) (upto 57) rfl rfl (any_of HT.out (by kernel_rfl)) (fun _ _ _ h => h) (Or.inr ⟨by rfl, rfl⟩) ?_ ?_
                rotate_left
                · simp only [Act.put, List.setIfInBounds_toArray, List.set_cons_zero, List.set_cons_succ]; rfl
                refine pure_ (i := 57) (N := some 71) (v := ?_) (a' := ?_) (upto 58) rfl rfl (any_of HT.out (by kernel_rfl)) (fun _ _ _ h => h) (Or.inl ⟨by rfl, ?_⟩) ?_ ?_
                rotate_left
                · intro w'; go_simp; with_reducible rfl
                rotate_left
                · simp only [Act.put, List.setIfInBounds_toArray, List.set_cons_zero, List.set_cons_succ]; rfl
                refine done_ (done_of HT.out (by kernel_rfl)) ?_
                go_wp2
                go_returns
                exact ⟨false, rfl, (fun h => by cases h), below_then B1.out B1.out.size B11.out⟩
              | false =>
                refine pure_ (i := 21) (N := some 35) (v := ?_) (a' := ?_) (upto 22) rfl rfl (any_of HT.out (by kernel_rfl)) (fun _ _ _ h => h) (Or.inl ⟨by rfl, ?_⟩) ?_ ?_
                rotate_left
                · intro w'; go_simp; with_reducible rfl
                rotate_left
                · simp only [Act.put, List.setIfInBounds_toArray, List.set_cons_zero, List.set_cons_succ]; rfl
                refine pure_ (i := 22) (N := some 36) (v := ?_) (a' := ?_) (upto 23) rfl rfl (any_of HT.out (by kernel_rfl)) (fun _ _ _ h => h) (Or.inl ⟨by rfl, ?_⟩) ?_ ?_
                rotate_left
                · intro w'; go_simp; with_reducible rfl
                rotate_left
                · simp only [Act.put, List.setIfInBounds_toArray, List.set_cons_zero, List.set_cons_succ]; rfl
                refine pure_ (i := 23) (N := some 37) (v := ?_) (a' := ?_) (upto 24) rfl rfl (any_of HT.out (by kernel_rfl)) (fun _ _ _ h => h) (Or.inl ⟨by rfl, ?_⟩) ?_ ?_
                rotate_left
                · intro w'; go_simp; with_reducible rfl
                rotate_left
                · simp only [Act.put, List.setIfInBounds_toArray, List.set_cons_zero, List.set_cons_succ]; rfl
                refine pure_ (i := 24) (N := some 38) (v := ?_) (a' := ?_) (upto 25) rfl rfl (any_of HT.out (by kernel_rfl)) (fun _ _ _ h => h) (Or.inl ⟨by rfl, ?_⟩) ?_ ?_
                rotate_left
                · intro w'; go_simp; with_reducible rfl
                rotate_left
                · simp only [Act.put, List.setIfInBounds_toArray, List.set_cons_zero, List.set_cons_succ]; rfl
                refine take_ (i := 25) (N := some 39) (v := ?_) (a' := ?_) (upto 26) rfl rfl (take_ofW HT.out HW.out (by kernel_rfl)) (fun _ _ _ h => h) (Or.inl ⟨by rfl, ?_⟩) hHeld ?_ ?_
                rotate_left
                · rintro w' ⟨s0, s1, s2, s3, s4⟩; go_simp; with_reducible rfl
                rotate_left
                · simp only [Act.put, List.setIfInBounds_toArray, List.set_cons_zero, List.set_cons_succ]; rfl
                refine pure_ (i := 26) (N := some 40) (v := ?_) (a' := ?_) (upto 27) rfl rfl (any_of HT.out (by kernel_rfl)) (fun _ _ _ h => h) (Or.inl ⟨by rfl, ?_⟩) ?_ ?_
                rotate_left
                · intro w'; go_simp; with_reducible rfl
                rotate_left
                · simp only [Act.put, List.setIfInBounds_toArray, List.set_cons_zero, List.set_cons_succ]; rfl
                refine take_ (i := 27) (N := some 41) (v := ?_) (a' := ?_) (upto 28) rfl rfl (take_ofW HT.out HW.out (by kernel_rfl)) (fun _ _ _ h => h) (Or.inl ⟨by rfl, ?_⟩) hHeld ?_ ?_
                rotate_left
                · rintro w' ⟨s0, s1, s2, s3, s4⟩; go_simp; with_reducible rfl
                rotate_left
                · simp only [Act.put, List.setIfInBounds_toArray, List.set_cons_zero, List.set_cons_succ]; rfl
                refine pure_ (i := 28) (N := some 42) (v := ?_) (a' := ?_) (upto 29) rfl rfl (any_of HT.out (by kernel_rfl)) (fun _ _ _ h => h) (Or.inl ⟨by rfl, ?_⟩) ?_ ?_
                rotate_left
                · intro w'; go_simp; with_reducible rfl
                rotate_left
                · simp only [Act.put, List.setIfInBounds_toArray, List.set_cons_zero, List.set_cons_succ]; rfl
                cases h43 : (bits BinOp.and IntKind.i64 md 2147483648 != 0) with
                | true =>
                  refine pure_ (i := 29) (N := some 43) (v := ?_) (a' := ?_) (upto 30) rfl rfl (any_of HT.out (by kernel_rfl)) (fun _ _ _ h => h) (Or.inl ⟨by rfl, ?_⟩) ?_ ?_
                  rotate_left
                  · intro w'; go_simp; with_reducible rfl
                  rotate_left
                  · simp only [Act.put, List.setIfInBounds_toArray, List.set_cons_zero, List.set_cons_succ]; rfl
                  cases dr with
                  | true =>
                    refine pure_ (i := 30) (N := some 44) (v := ?_) (a' := ?_) (upto 31) rfl rfl (any_of HT.out (by kernel_rfl)) (fun _ _ _ h => h) (Or.inl ⟨by rfl, ?_⟩) ?_ ?_
                    rotate_left
                    · intro w'; go_simp; with_reducible rfl
                    rotate_left
                    · simp only [Act.put, List.setIfInBounds_toArray, List.set_cons_zero, List.set_cons_succ]; rfl
                    refine pure_ (i := 31) (N := some 45) (v := ?_) (a' := ?_) (upto 32) rfl rfl (any_of HT.out (by kernel_rfl)) (fun _ _ _ h => h) (Or.inl ⟨by rfl, ?_⟩) ?_ ?_
                    rotate_left
                    · intro w'; go_simp; with_reducible rfl
                    rotate_left
                    · simp only [Act.put, List.setIfInBounds_toArray, List.set_cons_zero, List.set_cons_succ]; rfl
                    refine pure_ (i := 32) (N := some 46) (v := ?_) (a' := ?_) (upto 33) rfl rfl (any_of HT.out (by kernel_rfl)) (fun _ _ _ h => h) (Or.inl ⟨by rfl, ?_⟩) ?_ ?_
                    rotate_left
                    · intro w'; go_simp; with_reducible rfl
                    rotate_left
                    · simp only [Act.put, List.setIfInBounds_toArray, List.set_cons_zero, List.set_cons_succ]; rfl
                    refine pure_ (i := 33) (N := some 47) (v := ?_) (a' := ?_) (upto 34) rfl rfl (any_of HT.out (by kernel_rfl)) (fun _ _ _ h => h) (Or.inl ⟨by rfl, ?_⟩) ?_ ?_
                    rotate_left
                    · intro w'; go_simp; with_reducible rfl
                    rotate_left
                    · simp only [Act.put, List.setIfInBounds_toArray, List.set_cons_zero, List.set_cons_succ]; rfl
                    refine take_ (i := 34) (N := some 48) (v := ?_) (a' := ?_) (upto 35) rfl rfl (take_ofW HT.out HW.out (by kernel_rfl)) (fun _ _ _ h => h) (Or.inl ⟨by rfl, ?_⟩) hHeld ?_ ?_
                    rotate_left
                    · rintro w' ⟨s0, s1, s2, s3, s4⟩; go_simp; with_reducible rfl
                    rotate_left
                    · simp only [Act.put, List.setIfInBounds_toArray, List.set_cons_zero, List.set_cons_succ]; rfl
                    refine pure_ (i := 35) (N := some 49) (v := ?_) (a' := ?_) (upto 36) rfl rfl (any_of HT.out (by kernel_rfl)) (fun _ _ _ h => h) (Or.inl ⟨by rfl, ?_⟩) ?_ ?_
                    rotate_left
                    · intro w'; go_simp; with_reducible rfl
                    rotate_left
                    · simp only [Act.put, List.setIfInBounds_toArray, List.set_cons_zero, List.set_cons_succ]; rfl
                    cases h50 : (bits BinOp.andNot IntKind.i64 md 2161115647 != 0) with
                    | true =>
                      refine pure_ (i := 36) (N := some 50) (v := ?_) (a' := ?_) (upto 37) rfl rfl (any_of HT.out (by kernel_rfl)) (fun _ _ _ h => h) (Or.inl ⟨by rfl, ?_⟩) ?_ ?_
                      rotate_left
                      · intro w'; go_simp; with_reducible rfl
                      rotate_left
                      · simp only [Act.put, List.setIfInBounds_toArray, List.set_cons_zero, List.set_cons_succ]; rfl
                      refine pure_ (i := 37) (N := some 51) (v := ?_) (a' := ?_) (upto 38) rfl rfl (any_of HT.out (by kernel_rfl)) (fun _ _ _ h => h) (Or.inl ⟨by rfl, ?_⟩) ?_ ?_
                      rotate_left
                      · intro w'; go_simp; with_reducible rfl
                      rotate_left
                      · simp only [Act.put, List.setIfInBounds_toArray, List.set_cons_zero, List.set_cons_succ]; rfl
                      refine pure_ (i := 38) (N := some 52) (v := ?_) (a' := ?_) (upto 39) rfl rfl (any_of HT.out (by kernel_rfl)) (fun _ _ _ h => h) (Or.inl ⟨by rfl, ?_⟩) ?_ ?_
                      rotate_left
                      · intro w'; go_simp; with_reducible rfl
                      rotate_left
                      · simp only [Act.put, List.setIfInBounds_toArray, List.set_cons_zero, List.set_cons_succ]; rfl
                      refine pure_ (i := 39) (N := some 53) (v := undef) (a' := ?_) (upto 40) rfl rfl (any_of HT.out (by kernel_rfl)) (fun _ _ _ h => h) (Or.inr ⟨by rfl, rfl⟩) ?_ ?_
                      rotate_left
                      · simp only [Act.put, List.setIfInBounds_toArray, List.set_cons_zero, List.set_cons_succ]; rfl
                      refine pure_ (i := 40) (N := some 54) (v := undef) (a' := ?_) (upto 41) rfl rfl (any_of HT.out (by kernel_rfl)) (fun _ _ _ h => h) (Or.inr ⟨by rfl, rfl⟩) ?_ ?_
                      rotate_left
                      · simp only [Act.put, List.setIfInBounds_toArray, List.set_cons_zero, List.set_cons_succ]; rfl
                      refine pure_ (i := 41) (N := some 55) (v := undef) (a' := ?_) (upto 42) rfl rfl (any_of HT.out (by kernel_rfl)) (fun _ _ _ h => h) (Or.inr ⟨by rfl, rfl⟩) ?_ ?_
                      rotate_left
                      · simp only [Act.put, List.setIfInBounds_toArray, List.set_cons_zero, List.set_cons_succ]; rfl
                      refine pure_ (i := 42) (N := some 56) (v := ?_) (a' := ?_) (upto 43) rfl rfl (any_of HT.out (by kernel_rfl)) (fun _ _ _ h => h) (Or.inl ⟨by rfl, ?_⟩) ?_ ?_
                      rotate_left
                      · intro w'; go_simp; with_reducible rfl
                      rotate_left
                      · simp only [Act.put, List.setIfInBounds_toArray, List.set_cons_zero, List.set_cons_succ]; rfl
                      refine pure_ (i := 43) (N := some 57) (v := ?_) (a' := ?_) (upto 44) rfl rfl (any_of HT.out (by kernel_rfl)) (fun _ _ _ h => h) (Or.inl ⟨by rfl, ?_⟩) ?_ ?_
                      rotate_left
                      · intro w'; go_simp; with_reducible rfl
                      rotate_left
                      · simp only [Act.put, List.setIfInBounds_toArray, List.set_cons_zero, List.set_cons_succ]; rfl
                      refine pure_ (i := 44) (N := some 58) (v := undef) (a' := ?_) (upto 45) rfl rfl (any_of HT.out (by kernel_rfl)) (fun _ _ _ h => h) (Or.inr ⟨by rfl, rfl⟩) ?_ ?_
                      rotate_left
                      · simp only [Act.put, List.setIfInBounds_toArray, List.set_cons_zero, List.set_cons_succ]; rfl
                      refine pure_ (i := 45) (N := some 59) (v := undef) (a' := ?_) (upto 46) rfl rfl (any_of HT.out (by kernel_rfl)) (fun _ _ _ h => h) (Or.inr ⟨by rfl, rfl⟩) ?_ ?_
                      rotate_left
                      · simp only [Act.put, List.setIfInBounds_toArray, List.set_cons_zero, List.set_cons_succ]; rfl
                      refine pure_ (i := 46) (N := some 60) (v := undef) (a' := ?_) (upto 47) rfl rfl (any_of HT.out (by kernel_rfl)) (fun _ _ _ h => h) (Or.inr ⟨by rfl, rfl⟩) ?_ ?_
                      rotate_left
                      · simp only [Act.put, List.setIfInBounds_toArray, List.set_cons_zero, List.set_cons_succ]; rfl
                      refine pure_ (i := 47) (N := some 61) (v := ?_) (a' := ?_) (upto 48) rfl rfl (any_of HT.out (by kernel_rfl)) (fun _ _ _ h => h) (Or.inl ⟨by rfl, ?_⟩) ?_ ?_
                      rotate_left
                      · intro w'; go_simp; with_reducible rfl
                      rotate_left
                      · simp only [Act.put, List.setIfInBounds_toArray, List.set_cons_zero, List.set_cons_succ]; rfl
                      refine pure_ (i := 48) (N := some 62) (v := ?_) (a' := ?_) (upto 49) rfl rfl (any_of HT.out (by kernel_rfl)) (fun _ _ _ h => h) (Or.inl ⟨by rfl, ?_⟩) ?_ ?_
                      rotate_left
                      · intro w'; go_simp; with_reducible rfl
                      rotate_left
                      · simp only [Act.put, List.setIfInBounds_toArray, List.set_cons_zero, List.set_cons_succ]; rfl
                      refine pure_ (i := 49) (N := some 63) (v := undef) (a' := ?_) (upto 50) rfl rfl (any_of HT.out (by kernel_rfl)) (fun _ _ _ h => h) (Or.inr ⟨by rfl, rfl⟩) ?_ ?_
                      rotate_left
                      · simp only [Act.put, List.setIfInBounds_toArray, List.set_cons_zero, List.set_cons_succ]; rfl
                      refine pure_ (i := 50) (N := some 64) (v := undef) (a' := ?_) (upto 51) rfl rfl (any_of HT.out (by kernel_rfl)) (fun _ _ _ h => h) (Or.inr ⟨by rfl, rfl⟩) ?_ ?_
                      rotate_left
                      · simp only [Act.put, List.setIfInBounds_toArray, List.set_cons_zero, List.set_cons_succ]; rfl
                      refine pure_ (i := 51) (N := some 65) (v := undef) (a' := ?_) (upto 52) rfl rfl (any_of HT.out (by kernel_rfl)) (fun _ _ _ h => h) (Or.inr ⟨by rfl, rfl⟩) ?_ ?_
                      rotate_left
                      · simp only [Act.put, List.setIfInBounds_toArray, List.set_cons_zero, List.set_cons_succ]; rfl
                      refine pure_ (i := 52) (N := some 66) (v := undef) (a' := ?_) (upto 53) rfl rfl (any_of HT.out (by kernel_rfl)) (fun _ _ _ h => h) (Or.inr ⟨by rfl, rfl⟩) ?_ ?_
                      rotate_left
                      · simp only [Act.put, List.setIfInBounds_toArray, List.set_cons_zero, List.set_cons_succ]; rfl
                      refine pure_ (i := 53) (N := some 67) (v := undef) (a' := ?_) (upto 54) rfl rfl (any_of HT.out (by kernel_rfl)) (fun _ _ _ h => h) (Or.inr ⟨by rfl, rfl⟩) ?_ ?_
                      rotate_left
                      · simp only [Act.put, List.setIfInBounds_toArray, List.set_cons_zero, List.set_cons_succ]; rfl
                      refine pure_ (i := 54) (N := some 68) (v := undef) (a' := ?_) (upto 55) rfl rfl (any_of HT.out (by kernel_rfl)) (fun _ _ _ h => h) (Or.inr ⟨by rfl, rfl⟩) ?_ ?_
                      rotate_left
                      · simp only [Act.put, List.setIfInBounds_toArray, List.set_cons_zero, List.set_cons_succ]; rfl
                      refine pure_ (i := 55) (N := some 69) (v := undef) (a' := ?_) (upto 56) rfl rfl (any_of HT.out (by kernel_rfl)) (fun _ _ _ h => h) (Or.inr ⟨by rfl, rfl⟩) ?_ ?_
                      rotate_left
                      · simp only [Act.put, List.setIfInBounds_toArray, List.set_cons_zero, List.set_cons_succ]; rfl
                      refine pure_ (i := 56) (N := some 70) (v := undef) (a' := ?_) (upto 57) rfl rfl (any_of HT.out (by kernel_rfl)) (fun _ _ _ h => h) (Or.inr ⟨by rfl, rfl⟩) ?_ ?_
                      rotate_left
                      · simp only [Act.put, List.setIfInBounds_toArray, List.set_cons_zero, List.set_cons_succ]; rfl
                      refine pure_ (i := 57) (N := some 71) (v := ?_) (a' := ?_) (upto 58) rfl rfl (any_of HT.out (by kernel_rfl)) (fun _ _ _ h => h) (Or.inl ⟨by rfl, ?_⟩) ?_ ?_
                      rotate_left
                      · intro w'; go_simp; with_reducible rfl
                      rotate_left
                      · simp only [Act.put, List.setIfInBounds_toArray, List.set_cons_zero, List.set_cons_succ]; rfl
                      refine done_ (done_of HT.out (by kernel_rfl)) ?_
                      go_wp2
                      go_returns
                      exact ⟨false, rfl, (fun h => by cases h), below_then B1.out B1.out.size B11.out⟩
                    | false =>
                      refine pure_ (i := 36) (N := some 50) (v := ?_) (a' := ?_) (upto 37) rfl rfl (any_of HT.out (by kernel_rfl)) (fun _ _ _ h => h) (Or.inl ⟨by rfl, ?_⟩) ?_ ?_
                      rotate_left
                      · intro w'; go_simp; with_reducible rfl
                      rotate_left
                      · simp only [Act.put, List.setIfInBounds_toArray, List.set_cons_zero, List.set_cons_succ]; rfl
                      refine pure_ (i := 37) (N := some 51) (v := ?_) (a' := ?_) (upto 38) rfl rfl (any_of HT.out (by kernel_rfl)) (fun _ _ _ h => h) (Or.inl ⟨by rfl, ?_⟩) ?_ ?_
                      rotate_left
                      · intro w'; go_simp; with_reducible rfl
                      rotate_left
                      · simp only [Act.put, List.setIfInBounds_toArray, List.set_cons_zero, List.set_cons_succ]; rfl
                      refine pure_ (i := 38) (N := some 52) (v := ?_) (a' := ?_) (upto 39) rfl rfl (any_of HT.out (by kernel_rfl)) (fun _ _ _ h => h) (Or.inl ⟨by rfl, ?_⟩) ?_ ?_
                      rotate_left
                      · intro w'; go_simp; with_reducible rfl
                      rotate_left
                      · simp only [Act.put, List.setIfInBounds_toArray, List.set_cons_zero, List.set_cons_succ]; rfl
                      refine pure_ (i := 39) (N := some 53) (v := ?_) (a' := ?_) (upto 40) rfl rfl (any_of HT.out (by kernel_rfl)) (fun _ _ _ h => h) (Or.inl ⟨by rfl, ?_⟩) ?_ ?_
                      rotate_left
                      · intro w'; go_simp; with_reducible rfl
                      rotate_left
                      · simp only [Act.put, List.setIfInBounds_toArray, List.set_cons_zero, List.set_cons_succ]; rfl
                      refine take_ (i := 40) (N := some 54) (v := ?_) (a' := ?_) (upto 41) rfl rfl (take_ofW HT.out HW.out (by kernel_rfl)) (fun _ _ _ h => h) (Or.inl ⟨by rfl, ?_⟩) hHeld ?_ ?_
                      rotate_left
                      · rintro w' ⟨s0, s1, s2, s3, s4⟩; go_simp; with_reducible rfl
                      rotate_left
                      · simp only [Act.put, List.setIfInBounds_toArray, List.set_cons_zero, List.set_cons_succ]; rfl
                      cases h55 : decide (tm < 0) with
                      | true =>
                        refine pure_ (i := 41) (N := some 55) (v := ?_) (a' := ?_) (upto 42) rfl rfl (any_of HT.out (by kernel_rfl)) (fun _ _ _ h => h) (Or.inl ⟨by rfl, ?_⟩) ?_ ?_
                        rotate_left
                        · intro w'; go_simp; with_reducible rfl
                        rotate_left
                        · simp only [Act.put, List.setIfInBounds_toArray, List.set_cons_zero, List.set_cons_succ]; rfl
                        refine pure_ (i := 42) (N := some 56) (v := ?_) (a' := ?_) (upto 43) rfl rfl (any_of HT.out (by kernel_rfl)) (fun _ _ _ h => h) (Or.inl ⟨by rfl, ?_⟩) ?_ ?_
                        rotate_left
                        · intro w'; go_simp; with_reducible rfl
                        rotate_left
                        · simp only [Act.put, List.setIfInBounds_toArray, List.set_cons_zero, List.set_cons_succ]; rfl
                        refine pure_ (i := 43) (N := some 57) (v := ?_) (a' := ?_) (upto 44) rfl rfl (any_of HT.out (by kernel_rfl)) (fun _ _ _ h => h) (Or.inl ⟨by rfl, ?_⟩) ?_ ?_
                        rotate_left
                        · intro w'; go_simp; with_reducible rfl
                        rotate_left
                        · simp only [Act.put, List.setIfInBounds_toArray, List.set_cons_zero, List.set_cons_succ]; rfl
                        refine pure_ (i := 44) (N := some 58) (v := undef) (a' := ?_) (upto 45) rfl rfl (any_of HT.out (by kernel_rfl)) (fun _ _ _ h => h) (Or.inr ⟨by rfl, rfl⟩) ?_ ?_
                        rotate_left
                        · simp only [Act.put, List.setIfInBounds_toArray, List.set_cons_zero, List.set_cons_succ]; rfl
                        refine pure_ (i := 45) (N := some 59) (v := undef) (a' := ?_) (upto 46) rfl rfl (any_of HT.out (by kernel_rfl)) (fun _ _ _ h => h) (Or.inr ⟨by rfl, rfl⟩) ?_ ?_
                        rotate_left
                        · simp only [Act.put, List.setIfInBounds_toArray, List.set_cons_zero, List.set_cons_succ]; rfl
                        refine pure_ (i := 46) (N := some 60) (v := undef) (a' := ?_) (upto 47) rfl rfl (any_of HT.out (by kernel_rfl)) (fun _ _ _ h => h) (Or.inr ⟨by rfl, rfl⟩) ?_ ?_
                        rotate_left
                        · simp only [Act.put, List.setIfInBounds_toArray, List.set_cons_zero, List.set_cons_succ]; rfl
                        refine pure_ (i := 47) (N := some 61) (v := ?_) (a' := ?_) (upto 48) rfl rfl (any_of HT.out (by kernel_rfl)) (fun _ _ _ h => h) (Or.inl ⟨by rfl, ?_⟩) ?_ ?_
                        rotate_left
                        · intro w'; go_simp; with_reducible rfl
                        rotate_left
                        · simp only [Act.put, List.setIfInBounds_toArray, List.set_cons_zero, List.set_cons_succ]; rfl
                        refine pure_ (i := 48) (N := some 62) (v := ?_) (a' := ?_) (upto 49) rfl rfl (any_of HT.out (by kernel_rfl)) (fun _ _ _ h => h) (Or.inl ⟨by rfl, ?_⟩) ?_ ?_
                        rotate_left
                        · intro w'; go_simp; with_reducible rfl
                        rotate_left
                        · simp only [Act.put, List.setIfInBounds_toArray, List.set_cons_zero, List.set_cons_succ]; rfl
                        refine pure_ (i := 49) (N := some 63) (v := undef) (a' := ?_) (upto 50) rfl rfl (any_of HT.out (by kernel_rfl)) (fun _ _ _ h => h) (Or.inr ⟨by rfl, rfl⟩) ?_ ?_
                        rotate_left
                        · simp only [Act.put, List.setIfInBounds_toArray, List.set_cons_zero, List.set_cons_succ]; rfl
                        refine pure_ (i := 50) (N := some 64) (v := undef) (a' := ?_) (upto 51) rfl rfl (any_of HT.out (by kernel_rfl)) (fun _ _ _ h => h) (Or.inr ⟨by rfl, rfl⟩) ?_ ?_
                        rotate_left
                        · simp only [Act.put, List.setIfInBounds_toArray, List.set_cons_zero, List.set_cons_succ]; rfl
                        refine pure_ (i := 51) (N := some 65) (v := undef) (a' := ?_) (upto 52) rfl rfl (any_of HT.out (by kernel_rfl)) (fun _ _ _ h => h) (Or.inr ⟨by rfl, rfl⟩) ?_ ?_
                        rotate_left
                        · simp only [Act.put, List.setIfInBounds_toArray, List.set_cons_zero, List.set_cons_succ]; rfl
                        refine pure_ (i := 52) (N := some 66) (v := undef) (a' := ?_) (upto 53) rfl rfl (any_of HT.out (by kernel_rfl)) (fun _ _ _ h => h) (Or.inr ⟨by rfl, rfl⟩) ?_ ?_
                        rotate_left
                        · simp only [Act.put, List.setIfInBounds_toArray, List.set_cons_zero, List.set_cons_succ]; rfl
                        refine pure_ (i := 53) (N := some 67) (v := undef) (a' := ?_) (upto 54) rfl rfl (any_of HT.out (by kernel_rfl)) (fun _ _ _ h => h) (Or.inr ⟨by rfl, rfl⟩) ?_ ?_
                        rotate_left
                        · simp only [Act.put, List.setIfInBounds_toArray, List.set_cons_zero, List.set_cons_succ]; rfl
                        refine pure_ (i := 54) (N := some 68) (v := undef) (a' := ?_) (upto 55) rfl rfl (any_of HT.out (by kernel_rfl)) (fun _ _ _ h => h) (Or.inr ⟨by rfl, rfl⟩) ?_ ?_
                        rotate_left
                        · simp only [Act.put, List.setIfInBounds_toArray, List.set_cons_zero, List.set_cons_succ]; rfl
                        refine pure_ (i := 55) (N := some 69) (v := undef) (a' := ?_) (upto 56) rfl rfl (any_of HT.out (by kernel_rfl)) (fun _ _ _ h => h) (Or.inr ⟨by rfl, rfl⟩) ?_ ?_
                        rotate_left
                        · simp only [Act.put, List.setIfInBounds_toArray, List.set_cons_zero, List.set_cons_succ]; rfl
                        refine pure_ (i := 56) (N := some 70) (v := undef) (a' := ?_) (upto 57) rfl rfl (any_of HT.out (by kernel_rfl)) (fun _ _ _ h => h) (Or.inr ⟨by rfl, rfl⟩) ?_ ?_
                        rotate_left
                        · simp only [Act.put, List.setIfInBounds_toArray, List.set_cons_zero, List.set_cons_succ]; rfl
                        refine pure_ (i := 57) (N := some 71) (v := ?_) (a' := ?_) (upto 58) rfl rfl (any_of HT.out (by kernel_rfl)) (fun _ _ _ h => h) (Or.inl ⟨by rfl, ?_⟩) ?_ ?_
                        rotate_left
                        · intro w'; go_simp; with_reducible rfl
                        rotate_left
                        · simp only [Act.put, List.setIfInBounds_toArray, List.set_cons_zero, List.set_cons_succ]; rfl
                        refine done_ (done_of HT.out (by kernel_rfl)) ?_
                        go_wp2
                        go_returns
                        exact ⟨false, rfl, (fun h => by cases h), below_then B1.out B1.out.size B11.out⟩
                      | false =>
                        refine pure_ (i := 41) (N := some 55) (v := ?_) (a' := ?_) (upto 42) rfl rfl (any_of HT.out (by kernel_rfl)) (fun _ _ _ h => h) (Or.inl ⟨by rfl, ?_⟩) ?_ ?_
                        rotate_left
                        · intro w'; go_simp; with_reducible rfl
                        rotate_left
                        · simp only [Act.put, List.setIfInBounds_toArray, List.set_cons_zero, List.set_cons_succ]; rfl
                        refine pure_ (i := 42) (N := some 56) (v := ?_) (a' := ?_) (upto 43) rfl rfl (any_of HT.out (by kernel_rfl)) (fun _ _ _ h => h) (Or.inl ⟨by rfl, ?_⟩) ?_ ?_
                        rotate_left
                        · intro w'; go_simp; with_reducible rfl
                        rotate_left
                        · simp only [Act.put, List.setIfInBounds_toArray, List.set_cons_zero, List.set_cons_succ]; rfl
                        refine pure_ (i := 43) (N := some 57) (v := ?_) (a' := ?_) (upto 44) rfl rfl (any_of HT.out (by kernel_rfl)) (fun _ _ _ h => h) (Or.inl ⟨by rfl, ?_⟩) ?_ ?_
                        rotate_left
                        · intro w'; go_simp; with_reducible rfl
                        rotate_left
                        · simp only [Act.put, List.setIfInBounds_toArray, List.set_cons_zero, List.set_cons_succ]; rfl
                        refine pure_ (i := 44) (N := some 58) (v := ?_) (a' := ?_) (upto 45) rfl rfl (any_of HT.out (by kernel_rfl)) (fun _ _ _ h => h) (Or.inl ⟨by rfl, ?_⟩) ?_ ?_
                        rotate_left
                        · intro w'; go_simp; with_reducible rfl
                        rotate_left
                        · simp only [Act.put, List.setIfInBounds_toArray, List.set_cons_zero, List.set_cons_succ]; rfl
                        refine take_ (i := 45) (N := some 59) (v := ?_) (a' := ?_) (upto 46) rfl rfl (take_ofW HT.out HW.out (by kernel_rfl)) (fun _ _ _ h => h) (Or.inl ⟨by rfl, ?_⟩) hHeld ?_ ?_
                        rotate_left
                        · rintro w' ⟨s0, s1, s2, s3, s4⟩; go_simp; with_reducible rfl
                        rotate_left
                        · simp only [Act.put, List.setIfInBounds_toArray, List.set_cons_zero, List.set_cons_succ]; rfl
                        cases h60 : decide (8589934592 < tm) with
                        | true =>
                          refine pure_ (i := 46) (N := some 60) (v := ?_) (a' := ?_) (upto 47) rfl rfl (any_of HT.out (by kernel_rfl)) (fun _ _ _ h => h) (Or.inl ⟨by rfl, ?_⟩) ?_ ?_
                          rotate_left
                          · intro w'; go_simp; with_reducible rfl
                          rotate_left
                          · simp only [Act.put, List.setIfInBounds_toArray, List.set_cons_zero, List.set_cons_succ]; rfl
                          refine pure_ (i := 47) (N := some 61) (v := ?_) (a' := ?_) (upto 48) rfl rfl (any_of HT.out (by kernel_rfl)) (fun _ _ _ h => h) (Or.inl ⟨by rfl, ?_⟩) ?_ ?_
                          rotate_left
                          · intro w'; go_simp; with_reducible rfl
                          rotate_left
                          · simp only [Act.put, List.setIfInBounds_toArray, List.set_cons_zero, List.set_cons_succ]; rfl
                          refine pure_ (i := 48) (N := some 62) (v := ?_) (a' := ?_) (upto 49) rfl rfl (any_of HT.out (by kernel_rfl)) (fun _ _ _ h => h) (Or.inl ⟨by rfl, ?_⟩) ?_ ?_
                          rotate_left
                          · intro w'; go_simp; with_reducible rfl
                          rotate_left
                          · simp only [Act.put, List.setIfInBounds_toArray, List.set_cons_zero, List.set_cons_succ]; rfl
                          refine pure_ (i := 49) (N := some 63) (v := undef) (a' := ?_) (upto 50) rfl rfl (any_of HT.out (by kernel_rfl)) (fun _ _ _ h => h) (Or.inr ⟨by rfl, rfl⟩) ?_ ?_
                          rotate_left
                          · simp only [Act.put, List.setIfInBounds_toArray, List.set_cons_zero, List.set_cons_succ]; rfl
                          refine pure_ (i := 50) (N := some 64) (v := undef) (a' := ?_) (upto 51) rfl rfl (any_of HT.out (by kernel_rfl)) (fun _ _ _ h => h) (Or.inr ⟨by rfl, rfl⟩) ?_ ?_
                          rotate_left
                          · simp only [Act.put, List.setIfInBounds_toArray, List.set_cons_zero, List.set_cons_succ]; rfl
                          refine pure_ (i := 51) (N := some 65) (v := undef) (a' := ?_) (upto 52) rfl rfl (any_of HT.out (by kernel_rfl)) (fun _ _ _ h => h) (Or.inr ⟨by rfl, rfl⟩) ?_ ?_
                          rotate_left
                          · simp only [Act.put, List.setIfInBounds_toArray, List.set_cons_zero, List.set_cons_succ]; rfl
                          refine pure_ (i := 52) (N := some 66) (v := undef) (a' := ?_) (upto 53) rfl rfl (any_of HT.out (by kernel_rfl)) (fun _ _ _ h => h) (Or.inr ⟨by rfl, rfl⟩) ?_ ?_
                          rotate_left
                          · simp only [Act.put, List.setIfInBounds_toArray, List.set_cons_zero, List.set_cons_succ]; rfl
                          refine pure_ (i := 53) (N := some 67) (v := undef) (a' := ?_) (upto 54) rfl rfl (any_of HT.out (by kernel_rfl)) (fun _ _ _ h => h) (Or.inr ⟨by rfl, rfl⟩) ?_ ?_
                          rotate_left
                          · simp only [Act.put, List.setIfInBounds_toArray, List.set_cons_zero, List.set_cons_succ]; rfl
                          refine pure_ (i := 54) (N := some 68) (v := undef) (a' := ?_) (upto 55) rfl rfl (any_of HT.out (by kernel_rfl)) (fun _ _ _ h => h) (Or.inr ⟨by rfl, rfl⟩) ?_ ?_
                          rotate_left
                          · simp only [Act.put, List.setIfInBounds_toArray, List.set_cons_zero, List.set_cons_succ]; rfl
                          refine pure_ (i := 55) (N := some 69) (v := undef) (a' := ?_) (upto 56) rfl rfl (any_of HT.out (by kernel_rfl)) (fun _ _ _ h => h) (Or.inr ⟨by rfl, rfl⟩) ?_ ?_
                          rotate_left
                          · simp only [Act.put, List.setIfInBounds_toArray, List.set_cons_zero, List.set_cons_succ]; rfl
                          refine pure_ (i := 56) (N := some 70) (v := undef) (a' := ?_) (upto 57) rfl rfl (any_of HT.out (by kernel_rfl)) (fun _ _ _ h => h) (Or.inr ⟨by rfl, rfl⟩) ?_ ?_
                          rotate_left
                          · simp only [Act.put, List.setIfInBounds_toArray, List.set_cons_zero, List.set_cons_succ]; rfl
                          refine pure_ (i := 57) (N := some 71) (v := ?_) (a' := ?_) (upto 58) rfl rfl (any_of HT.out (by kernel_rfl)) (fun _ _ _ h => h) (Or.inl ⟨by rfl, ?_⟩) ?_ ?_
                          rotate_left
                          · intro w'; go_simp; with_reducible rfl
                          rotate_left
                          · simp only [Act.put, List.setIfInBounds_toArray, List.set_cons_zero, List.set_cons_succ]; rfl
                          refine done_ (done_of HT.out (by kernel_rfl)) ?_
                          go_wp2
                          go_returns
                          exact ⟨false, rfl, (fun h => by cases h), below_then B1.out B1.out.size B11.out⟩
                        | false =>
                          refine pure_ (i := 46) (N := some 60) (v := ?_) (a' := ?_) (upto 47) rfl rfl (any_of HT.out (by kernel_rfl)) (fun _ _ _ h => h) (Or.inl ⟨by rfl, ?_⟩) ?_ ?_
                          rotate_left
                          · intro w'; go_simp; with_reducible rfl
                          rotate_left
                          · simp only [Act.put, List.setIfInBounds_toArray, List.set_cons_zero, List.set_cons_succ]; rfl
                          refine pure_ (i := 47) (N := some 61) (v := ?_) (a' := ?_) (upto 48) rfl rfl (any_of HT.out (by kernel_rfl)) (fun _ _ _ h => h) (Or.inl ⟨by rfl, ?_⟩) ?_ ?_
                          rotate_left
                          · intro w'; go_simp; with_reducible rfl
                          rotate_left
                          · simp only [Act.put, List.setIfInBounds_toArray, List.set_cons_zero, List.set_cons_succ]; rfl
                          refine pure_ (i := 48) (N := some 62) (v := ?_) (a' := ?_) (upto 49) rfl rfl (any_of HT.out (by kernel_rfl)) (fun _ _ _ h => h) (Or.inl ⟨by rfl, ?_⟩) ?_ ?_
                          rotate_left
                          · intro w'; go_simp; with_reducible rfl
                          rotate_left
                          · simp only [Act.put, List.setIfInBounds_toArray, List.set_cons_zero, List.set_cons_succ]; rfl
                          refine pure_ (i := 49) (N := some 63) (v := ?_) (a' := ?_) (upto 50) rfl rfl (any_of HT.out (by kernel_rfl)) (fun _ _ _ h => h) (Or.inl ⟨by rfl, ?_⟩) ?_ ?_
                          rotate_left
                          · intro w'; go_simp; with_reducible rfl
                          rotate_left
                          · simp only [Act.put, List.setIfInBounds_toArray, List.set_cons_zero, List.set_cons_succ]; rfl
                          refine take_ (i := 50) (N := some 64) (v := ?_) (a' := ?_) (upto 51) rfl rfl (take_ofW HT.out HW.out (by kernel_rfl)) (fun _ _ _ h => h) (Or.inl ⟨by rfl, ?_⟩) hHeld ?_ ?_
                          rotate_left
                          · rintro w' ⟨s0, s1, s2, s3, s4⟩; go_simp; with_reducible rfl
                          rotate_left
                          · simp only [Act.put, List.setIfInBounds_toArray, List.set_cons_zero, List.set_cons_succ]; rfl
                          refine pure_ (i := 51) (N := some 65) (v := ?_) (a' := ?_) (upto 52) rfl rfl (any_of HT.out (by kernel_rfl)) (fun _ _ _ h => h) (Or.inl ⟨by rfl, ?_⟩) ?_ ?_
                          rotate_left
                          · intro w'; go_simp; with_reducible rfl
                          rotate_left
                          · simp only [Act.put, List.setIfInBounds_toArray, List.set_cons_zero, List.set_cons_succ]; rfl
                          refine pure_ (i := 52) (N := some 66) (v := ?_) (a' := ?_) (upto 53) rfl rfl (any_of HT.out (by kernel_rfl)) (fun _ _ _ h => h) (Or.inl ⟨by rfl, ?_⟩) ?_ ?_
                          rotate_left
                          · intro w'; go_simp; with_reducible rfl
                          rotate_left
                          · simp only [Act.put, List.setIfInBounds_toArray, List.set_cons_zero, List.set_cons_succ]; rfl
                          refine take_ (i := 53) (N := some 67) (v := ?_) (a' := ?_) (upto 54) rfl rfl (take_ofW HT.out HW.out (by kernel_rfl)) (fun _ _ _ h => h) (Or.inl ⟨by rfl, ?_⟩) hHeld ?_ ?_
                          rotate_left
                          · rintro w' ⟨s0, s1, s2, s3, s4⟩; go_simp; with_reducible rfl
                          rotate_left
                          · simp only [Act.put, List.setIfInBounds_toArray, List.set_cons_zero, List.set_cons_succ]; rfl
                          refine pure_ (i := 54) (N := some 68) (v := ?_) (a' := ?_) (upto 55) rfl rfl (any_of HT.out (by kernel_rfl)) (fun _ _ _ h => h) (Or.inl ⟨by rfl, ?_⟩) ?_ ?_
                          rotate_left
                          · intro w'; go_simp; with_reducible rfl
                          rotate_left
                          · simp only [Act.put, List.setIfInBounds_toArray, List.set_cons_zero, List.set_cons_succ]; rfl
                          refine pure_ (i := 55) (N := some 69) (v := ?_) (a' := ?_) (upto 56) rfl rfl (any_of HT.out (by kernel_rfl)) (fun _ _ _ h => h) (Or.inl ⟨by rfl, ?_⟩) ?_ ?_
                          rotate_left
                          · intro w'; go_simp; with_reducible rfl
                          rotate_left
                          · simp only [Act.put, List.setIfInBounds_toArray, List.set_cons_zero, List.set_cons_succ]; rfl
                          refine pure_ (i := 56) (N := some 70) (v := ?_) (a' := ?_) (upto 57) rfl rfl (any_of HT.out (by kernel_rfl)) (fun _ _ _ h => h) (Or.inl ⟨by rfl, ?_⟩) ?_ ?_
                          rotate_left
                          · intro w'; go_simp; with_reducible rfl
                          rotate_left
                          · simp only [Act.put, List.setIfInBounds_toArray, List.set_cons_zero, List.set_cons_succ]; rfl
                          refine pure_ (i := 57) (N := some 71) (v := ?_) (a' := ?_) (upto 58) rfl rfl (any_of HT.out (by kernel_rfl)) (fun _ _ _ h => h) (Or.inl ⟨by rfl, ?_⟩) ?_ ?_
                          rotate_left
                          · intro w'; go_simp; with_reducible rfl
                          rotate_left
                          · simp only [Act.put, List.setIfInBounds_toArray, List.set_cons_zero, List.set_cons_succ]; rfl
                          refine done_ (done_of HT.out (by kernel_rfl)) ?_
                          cases hlast : decide (0 < n3) with
                          | true =>
                            go_wp2
                            go_returns
                            exact ⟨false, rfl, (fun h => by cases h), below_then B1.out B1.out.size B11.out⟩
                          | false =>
                            go_wp2
                            go_roundw
                            case rel => exact ⟨i + 1, by push_cast; rfl, hlt, Lib.hid (fun y hy => by rw [take_snoc HX.out, List.mem_append, List.mem_singleton] at hy; rcases hy with hy | rfl; exact K1.out y hy; rw [← HMD.out]; exact mode_in md hwf.1 hwf.2 (by simpa using h50)), Lib.hid (below_then B1.out B1.out.size B11.out)⟩
                            case measure => simp only [intOf]; omega
                  | false =>
                    refine pure_ (i := 30) (N := some 44) (v := ?_) (a' := ?_) (upto 31) rfl rfl (any_of HT.out (by kernel_rfl)) (fun _ _ _ h => h) (Or.inl ⟨by rfl, ?_⟩) ?_ ?_
                    rotate_left
                    · intro w'; go_simp; with_reducible rfl
                    rotate_left
                    · simp only [Act.put, List.setIfInBounds_toArray, List.set_cons_zero, List.set_cons_succ]; rfl
                    refine pure_ (i := 31) (N := some 45) (v := ?_) (a' := ?_) (upto 32) rfl rfl (any_of HT.out (by kernel_rfl)) (fun _ _ _ h => h) (Or.inl ⟨by rfl, ?_⟩) ?_ ?_
                    rotate_left
                    · intro w'; go_simp; with_reducible rfl
                    rotate_left
                    · simp only [Act.put, List.setIfInBounds_toArray, List.set_cons_zero, List.set_cons_succ]; rfl
                    refine pure_ (i := 32) (N := some 46) (v := ?_) (a' := ?_) (upto 33) rfl rfl (any_of HT.out (by kernel_rfl)) (fun _ _ _ h => h) (Or.inl ⟨by rfl, ?_⟩) ?_ ?_
                    rotate_left
                    · intro w'; go_simp; with_reducible rfl
                    rotate_left
                    · simp only [Act.put, List.setIfInBounds_toArray, List.set_cons_zero, List.set_cons_succ]; rfl
                    refine pure_ (i := 33) (N := some 47) (v := undef) (a' := ?_) (upto 34) rfl rfl (any_of HT.out (by kernel_rfl)) (fun _ _ _ h => h) (Or.inr ⟨by rfl, rfl⟩) ?_ ?_
                    rotate_left
                    · simp only [Act.put, List.setIfInBounds_toArray, List.set_cons_zero, List.set_cons_succ]; rfl
                    refine pure_ (i := 34) (N := some 48) (v := undef) (a' := ?_) (upto 35) rfl rfl (any_of HT.out (by kernel_rfl)) (fun _ _ _ h => h) (Or.inr ⟨by rfl, rfl⟩) ?_ ?_
                    rotate_left
                    · simp only [Act.put, List.setIfInBounds_toArray, List.set_cons_zero, List.set_cons_succ]; rfl
                    refine pure_ (i := 35) (N := some 49) (v := undef) (a' := ?_) (upto 36) rfl rfl (any_of HT.out (by kernel_rfl)) (fun _ _ _ h => h) (Or.inr ⟨by rfl, rfl⟩) ?_ ?_
                    rotate_left
                    · simp only [Act.put, List.setIfInBounds_toArray, List.set_cons_zero, List.set_cons_succ]; rfl
                    refine pure_ (i := 36) (N := some 50) (v := undef) (a' := ?_) (upto 37) rfl rfl (any_of HT.out (by kernel_rfl)) (fun _ _ _ h => h) (Or.inr ⟨by rfl, rfl⟩) ?_ ?_
                    rotate_left
                    · simp only [Act.put, List.setIfInBounds_toArray, List.set_cons_zero, List.set_cons_succ]; rfl
                    refine pure_ (i := 37) (N := some 51) (v := ?_) (a' := ?_) (upto 38) rfl rfl (any_of HT.out (by kernel_rfl)) (fun _ _ _ h => h) (Or.inl ⟨by rfl, ?_⟩) ?_ ?_
                    rotate_left
                    · intro w'; go_simp; with_reducible rfl
                    rotate_left
                    · simp only [Act.put, List.setIfInBounds_toArray, List.set_cons_zero, List.set_cons_succ]; rfl
                    refine pure_ (i := 38) (N := some 52) (v := ?_) (a' := ?_) (upto 39) rfl rfl (any_of HT.out (by kernel_rfl)) (fun _ _ _ h => h) (Or.inl ⟨by rfl, ?_⟩) ?_ ?_
                    rotate_left
                    · intro w'; go_simp; with_reducible rfl
                    rotate_left
                    · simp only [Act.put, List.setIfInBounds_toArray, List.set_cons_zero, List.set_cons_succ]; rfl
                    refine pure_ (i := 39) (N := some 53) (v := undef) (a' := ?_) (upto 40) rfl rfl (any_of HT.out (by kernel_rfl)) (fun _ _ _ h => h) (Or.inr ⟨by rfl, rfl⟩) ?_ ?_
                    rotate_left
                    · simp only [Act.put, List.setIfInBounds_toArray, List.set_cons_zero, List.set_cons_succ]; rfl
                    refine pure_ (i := 40) (N := some 54) (v := undef) (a' := ?_) (upto 41) rfl rfl (any_of HT.out (by kernel_rfl)) (fun _ _ _ h => h) (Or.inr ⟨by rfl, rfl⟩) ?_ ?_
                    rotate_left
                    · simp only [Act.put, List.setIfInBounds_toArray, List.set_cons_zero, List.set_cons_succ]; rfl
                    refine pure_ (i := 41) (N := some 55) (v := undef) (a' := ?_) (upto 42) rfl rfl (any_of HT.out (by kernel_rfl)) (fun _ _ _ h => h) (Or.inr ⟨by rfl, rfl⟩) ?_ ?_
                    rotate_left
                    · simp only [Act.put, List.setIfInBounds_toArray, List.set_cons_zero, List.set_cons_succ]; rfl
                    refine pure_ (i := 42) (N := some 56) (v := ?_) (a' := ?_) (upto 43) rfl rfl (any_of HT.out (by kernel_rfl)) (fun _ _ _ h => h) (Or.inl ⟨by rfl, ?_⟩) ?_ ?_
                    rotate_left
                    · intro w'; go_simp; with_reducible rfl
                    rotate_left
                    · simp only [Act.put, List.setIfInBounds_toArray, List.set_cons_zero, List.set_cons_succ]; rfl
                    refine pure_ (i := 43) (N := some 57) (v := ?_) (a' := ?_) (upto 44) rfl rfl (any_of HT.out (by kernel_rfl)) (fun _ _ _ h => h) (Or.inl ⟨by rfl, ?_⟩) ?_ ?_
                    rotate_left
                    · intro w'; go_simp; with_reducible rfl
                    rotate_left
                    · simp only [Act.put, List.setIfInBounds_toArray, List.set_cons_zero, List.set_cons_succ]; rfl
                    refine pure_ (i := 44) (N := some 58) (v := undef) (a' := ?_) (upto 45) rfl rfl (any_of HT.out (by kernel_rfl)) (fun _ _ _ h => h) (Or.inr ⟨by rfl, rfl⟩) ?_ ?_
                    rotate_left
                    · simp only [Act.put, List.setIfInBounds_toArray, List.set_cons_zero, List.set_cons_succ]; rfl
                    refine pure_ (i := 45) (N := some 59) (v := undef) (a' := ?_) (upto 46) rfl rfl (any_of HT.out (by kernel_rfl)) (fun _ _ _ h => h) (Or.inr ⟨by rfl, rfl⟩) ?_ ?_
                    rotate_left
                    · simp only [Act.put, List.setIfInBounds_toArray, List.set_cons_zero, List.set_cons_succ]; rfl
                    refine pure_ (i := 46) (N := some 60) (v := undef) (a' := ?_) (upto 47) rfl rfl (any_of HT.out (by kernel_rfl)) (fun _ _ _ h => h) (Or.inr ⟨by rfl, rfl⟩) ?_ ?_
                    rotate_left
                    · simp only [Act.put, List.setIfInBounds_toArray, List.set_cons_zero, List.set_cons_succ]; rfl
                    refine pure_ (i := 47) (N := some 61) (v := ?_) (a' := ?_) (upto 48) rfl rfl (any_of HT.out (by kernel_rfl)) (fun _ _ _ h => h) (Or.inl ⟨by rfl, ?_⟩) ?_ ?_
                    rotate_left
                    · intro w'; go_simp; with_reducible rfl
                    rotate_left
                    · simp only [Act.put, List.setIfInBounds_toArray, List.set_cons_zero, List.set_cons_succ]; rfl
                    refine pure_ (i := 48) (N := some 62) (v := ?_) (a' := ?_) (upto 49) rfl rfl (any_of HT.out (by kernel_rfl)) (fun _ _ _ h => h) (Or.inl ⟨by rfl, ?_⟩) ?_ ?_
                    rotate_left
                    · intro w'; go_simp; with_reducible rfl
                    rotate_left
                    · simp only [Act.put, List.setIfInBounds_toArray, List.set_cons_zero, List.set_cons_succ]; rfl
                    refine pure_ (i := 49) (N := some 63) (v := undef) (a' := ?_) (upto 50) rfl rfl (any_of HT.out (by kernel_rfl)) (fun _ _ _ h => h) (Or.inr ⟨by rfl, rfl⟩) ?_ ?_
                    rotate_left
                    · simp only [Act.put, List.setIfInBounds_toArray, List.set_cons_zero, List.set_cons_succ]; rfl
                    refine pure_ (i := 50) (N := some 64) (v := undef) (a' := ?_) (upto 51) rfl rfl (any_of HT.out (by kernel_rfl)) (fun _ _ _ h => h) (Or.inr ⟨by rfl, rfl⟩) ?_ ?_
                    rotate_left
                    · simp only [Act.put, List.setIfInBounds_toArray, List.set_cons_zero, List.set_cons_succ]; rfl
                    refine pure_ (i := 51) (N := some 65) (v := undef) (a' := ?_) (upto 52) rfl rfl (any_of HT.out (by kernel_rfl)) (fun _ _ _ h => h) (Or.inr ⟨by rfl, rfl⟩) ?_ ?_
                    rotate_left
                    · simp only [Act.put, List.setIfInBounds_toArray, List.set_cons_zero, List.set_cons_succ]; rfl
                    refine pure_ (i := 52) (N := some 66) (v := undef) (a' := ?_) (upto 53) rfl rfl (any_of HT.out (by kernel_rfl)) (fun _ _ _ h => h) (Or.inr ⟨by rfl, rfl⟩) ?_ ?_
                    rotate_left
                    · simp only [Act.put, List.setIfInBounds_toArray, List.set_cons_zero, List.set_cons_succ]; rfl
                    refine pure_ (i := 53) (N := some 67) (v := undef) (a' := ?_) (upto 54) rfl rfl (any_of HT.out (by kernel_rfl)) (fun _ _ _ h => h) (Or.inr ⟨by rfl, rfl⟩) ?_ ?_
                    rotate_left
                    · simp only [Act.put, List.setIfInBounds_toArray, List.set_cons_zero, List.set_cons_succ]; rfl
                    refine pure_ (i := 54) (N := some 68) (v := undef) (a' := ?_) (upto 55) rfl rfl (any_of HT.out (by kernel_rfl)) (fun _ _ _ h => h) (Or.inr ⟨by rfl, rfl⟩) ?_ ?_
                    rotate_left
                    · simp only [Act.put, List.setIfInBounds_toArray, List.set_cons_zero, List.set_cons_succ]; rfl
                    refine pure_ (i := 55) (N := some 69) (v := undef) (a' := ?_) (upto 56) rfl rfl (any_of HT.out (by kernel_rfl)) (fun _ _ _ h => h) (Or.inr ⟨by rfl, rfl⟩) ?_ ?_
                    rotate_left
                    · simp only [Act.put, List.setIfInBounds_toArray, List.set_cons_zero, List.set_cons_succ]; rfl
                    refine pure_ (i := 56) (N := some 70) (v := undef) (a' := ?_) (upto 57) rfl rfl (any_of HT.out (by kernel_rfl)) (fun _ _ _ h => h) (Or.inr ⟨by rfl, rfl⟩) ?_ ?_
                    rotate_left
                    · simp only [Act.put, List.setIfInBounds_toArray, List.set_cons_zero, List.set_cons_succ]; rfl
                    refine pure_ (i := 57) (N := some 71) (v := ?_) (a' := ?_) (upto 58) rfl rfl (any_of HT.out (by kernel_rfl)) (fun _ _ _ h => h) (Or.inl ⟨by rfl, ?_⟩) ?_ ?_
                    rotate_left
                    · intro w'; go_simp; with_reducible rfl
                    rotate_left
                    · simp only [Act.put, List.setIfInBounds_toArray, List.set_cons_zero, List.set_cons_succ]; rfl
                    refine done_ (done_of HT.out (by kernel_rfl)) ?_
                    go_wp2
                    go_returns
                    exact ⟨false, rfl, (fun h => by cases h), below_then B1.out B1.out.size B11.out⟩
                | false =>
                  refine pure_ (i := 29) (N := some 43) (v := ?_) (a' := ?_) (upto 30) rfl rfl (any_of HT.out (by kernel_rfl)) (fun _ _ _ h => h) (Or.inl ⟨by rfl, ?_⟩) ?_ ?_
                  rotate_left
                  · intro w'; go_simp; with_reducible rfl
                  rotate_left
                  · simp only [Act.put, List.setIfInBounds_toArray, List.set_cons_zero, List.set_cons_succ]; rfl
                  cases dr with
                  | true =>
                    refine pure_ (i := 30) (N := some 44) (v := ?_) (a' := ?_) (upto 31) rfl rfl (any_of HT.out (by kernel_rfl)) (fun _ _ _ h => h) (Or.inl ⟨by rfl, ?_⟩) ?_ ?_
                    rotate_left
                    · intro w'; go_simp; with_reducible rfl
                    rotate_left
                    · simp only [Act.put, List.setIfInBounds_toArray, List.set_cons_zero, List.set_cons_succ]; rfl
                    refine pure_ (i := 31) (N := some 45) (v := ?_) (a' := ?_) (upto 32) rfl rfl (any_of HT.out (by kernel_rfl)) (fun _ _ _ h => h) (Or.inl ⟨by rfl, ?_⟩) ?_ ?_
                    rotate_left
                    · intro w'; go_simp; with_reducible rfl
                    rotate_left
                    · simp only [Act.put, List.setIfInBounds_toArray, List.set_cons_zero, List.set_cons_succ]; rfl
                    refine pure_ (i := 32) (N := some 46) (v := ?_) (a' := ?_) (upto 33) rfl rfl (any_of HT.out (by kernel_rfl)) (fun _ _ _ h => h) (Or.inl ⟨by rfl, ?_⟩) ?_ ?_
                    rotate_left
                    · intro w'; go_simp; with_reducible rfl
                    rotate_left
                    · simp only [Act.put, List.setIfInBounds_toArray, List.set_cons_zero, List.set_cons_succ]; rfl
                    refine pure_ (i := 33) (N := some 47) (v := undef) (a' := ?_) (upto 34) rfl rfl (any_of HT.out (by kernel_rfl)) (fun _ _ _ h => h) (Or.inr ⟨by rfl, rfl⟩) ?_ ?_
                    rotate_left
                    · simp only [Act.put, List.setIfInBounds_toArray, List.set_cons_zero, List.set_cons_succ]; rfl
                    refine pure_ (i := 34) (N := some 48) (v := undef) (a' := ?_) (upto 35) rfl rfl (any_of HT.out (by kernel_rfl)) (fun _ _ _ h => h) (Or.inr ⟨by rfl, rfl⟩) ?_ ?_
                    rotate_left
                    · simp only [Act.put, List.setIfInBounds_toArray, List.set_cons_zero, List.set_cons_succ]; rfl
                    refine pure_ (i := 35) (N := some 49) (v := undef) (a' := ?_) (upto 36) rfl rfl (any_of HT.out (by kernel_rfl)) (fun _ _ _ h => h) (Or.inr ⟨by rfl, rfl⟩) ?_ ?_
                    rotate_left
                    · simp only [Act.put, List.setIfInBounds_toArray, List.set_cons_zero, List.set_cons_succ]; rfl
                    refine pure_ (i := 36) (N := some 50) (v := undef) (a' := ?_) (upto 37) rfl rfl (any_of HT.out (by kernel_rfl)) (fun _ _ _ h => h) (Or.inr ⟨by rfl, rfl⟩) ?_ ?_
                    rotate_left
                    · simp only [Act.put, List.setIfInBounds_toArray, List.set_cons_zero, List.set_cons_succ]; rfl
                    refine pure_ (i := 37) (N := some 51) (v := ?_) (a' := ?_) (upto 38) rfl rfl (any_of HT.out (by kernel_rfl)) (fun _ _ _ h => h) (Or.inl ⟨by rfl, ?_⟩) ?_ ?_
                    rotate_left
                    · intro w'; go_simp; with_reducible rfl
                    rotate_left
                    · simp only [Act.put, List.setIfInBounds_toArray, List.set_cons_zero, List.set_cons_succ]; rfl
                    refine pure_ (i := 38) (N := some 52) (v := ?_) (a' := ?_) (upto 39) rfl rfl (any_of HT.out (by kernel_rfl)) (fun _ _ _ h => h) (Or.inl ⟨by rfl, ?_⟩) ?_ ?_
                    rotate_left
                    · intro w'; go_simp; with_reducible rfl
                    rotate_left
                    · simp only [Act.put, List.setIfInBounds_toArray, List.set_cons_zero, List.set_cons_succ]; rfl
                    refine pure_ (i := 39) (N := some 53) (v := undef) (a' := ?_) (upto 40) rfl rfl (any_of HT.out (by kernel_rfl)) (fun _ _ _ h => h) (Or.inr ⟨by rfl, rfl⟩) ?_ ?_
                    rotate_left
                    · simp only [Act.put, List.setIfInBounds_toArray, List.set_cons_zero, List.set_cons_succ]; rfl
                    refine pure_ (i := 40) (N := some 54) (v := undef) (a' := ?_) (upto 41) rfl rfl (any_of HT.out (by kernel_rfl)) (fun _ _ _ h => h) (Or.inr ⟨by rfl, rfl⟩) ?_ ?_
                    rotate_left
                    · simp only [Act.put, List.setIfInBounds_toArray, List.set_cons_zero, List.set_cons_succ]; rfl
                    refine pure_ (i := 41) (N := some 55) (v := undef) (a' := ?_) (upto 42) rfl rfl (any_of HT.out (by kernel_rfl)) (fun _ _ _ h => h) (Or.inr ⟨by rfl, rfl⟩) ?_ ?_
                    rotate_left
                    · simp only [Act.put, List.setIfInBounds_toArray, List.set_cons_zero, List.set_cons_succ]; rfl
                    refine pure_ (i := 42) (N := some 56) (v := ?_) (a' := ?_) (upto 43) rfl rfl (any_of HT.out (by kernel_rfl)) (fun _ _ _ h => h) (Or.inl ⟨by rfl, ?_⟩) ?_ ?_
                    rotate_left
                    · intro w'; go_simp; with_reducible rfl
                    rotate_left
                    · simp only [Act.put, List.setIfInBounds_toArray, List.set_cons_zero, List.set_cons_succ]; rfl
                    refine pure_ (i := 43) (N := some 57) (v := ?_) (a' := ?_) (upto 44) rfl rfl (any_of HT.out (by kernel_rfl)) (fun _ _ _ h => h) (Or.inl ⟨by rfl, ?_⟩) ?_ ?_
                    rotate_left
                    · intro w'; go_simp; with_reducible rfl
                    rotate_left
                    · simp only [Act.put, List.setIfInBounds_toArray, List.set_cons_zero, List.set_cons_succ]; rfl
                    refine pure_ (i := 44) (N := some 58) (v := undef) (a' := ?_) (upto 45) rfl rfl (any_of HT.out (by kernel_rfl)) (fun _ _ _ h => h) (Or.inr ⟨by rfl, rfl⟩) ?_ ?_
                    rotate_left
                    · simp only [Act.put, List.setIfInBounds_toArray, List.set_cons_zero, List.set_cons_succ]; rfl
                    refine pure_ (i := 45) (N := some 59) (v := undef) (a' := ?_) (upto 46) rfl rfl (any_of HT.out (by kernel_rfl)) (fun _ _ _ h => h) (Or.inr ⟨by rfl, rfl⟩) ?_ ?_
                    rotate_left
                    · simp only [Act.put, List.setIfInBounds_toArray, List.set_cons_zero, List.set_cons_succ]; rfl
                    refine pure_ (i := 46) (N := some 60) (v := undef) (a' := ?_) (upto 47) rfl rfl (any_of HT.out (by kernel_rfl)) (fun _ _ _ h => h) (Or.inr ⟨by rfl, rfl⟩) ?_ ?_
                    rotate_left
                    · simp only [Act.put, List.setIfInBounds_toArray, List.set_cons_zero, List.set_cons_succ]; rfl
                    refine pure_ (i := 47) (N := some 61) (v := ?_) (a' := ?_) (upto 48) rfl rfl (any_of HT.out (by kernel_rfl)) (fun _ _ _ h => h) (Or.inl ⟨by rfl, ?_⟩) ?_ ?_
                    rotate_left
                    · intro w'; go_simp; with_reducible rfl
                    rotate_left
                    · simp only [Act.put, List.setIfInBounds_toArray, List.set_cons_zero, List.set_cons_succ]; rfl
                    refine pure_ (i := 48) (N := some 62) (v := ?_) (a' := ?_) (upto 49) rfl rfl (any_of HT.out (by kernel_rfl)) (fun _ _ _ h => h) (Or.inl ⟨by rfl, ?_⟩) ?_ ?_
                    rotate_left
                    · intro w'; go_simp; with_reducible rfl
                    rotate_left
                    · simp only [Act.put, List.setIfInBounds_toArray, List.set_cons_zero, List.set_cons_succ]; rfl
                    refine pure_ (i := 49) (N := some 63) (v := undef) (a' := ?_) (upto 50) rfl rfl (any_of HT.out (by kernel_rfl)) (fun _ _ _ h => h) (Or.inr ⟨by rfl, rfl⟩) ?_ ?_
                    rotate_left
                    · simp only [Act.put, List.setIfInBounds_toArray, List.set_cons_zero, List.set_cons_succ]; rfl
                    refine pure_ (i := 50) (N := some 64) (v := undef) (a' := ?_) (upto 51) rfl rfl (any_of HT.out (by kernel_rfl)) (fun _ _ _ h => h) (Or.inr ⟨by rfl, rfl⟩) ?_ ?_
                    rotate_left
                    · simp only [Act.put, List.setIfInBounds_toArray, List.set_cons_zero, List.set_cons_succ]; rfl
                    refine pure_ (i := 51) (N := some 65) (v := undef) (a' := ?_) (upto 52) rfl rfl (any_of HT.out (by kernel_rfl)) (fun _ _ _ h => h) (Or.inr ⟨by rfl, rfl⟩) ?_ ?_
                    rotate_left
                    · simp only [Act.put, List.setIfInBounds_toArray, List.set_cons_zero, List.set_cons_succ]; rfl
                    refine pure_ (i := 52) (N := some 66) (v := undef) (a' := ?_) (upto 53) rfl rfl (any_of HT.out (by kernel_rfl)) (fun _ _ _ h => h) (Or.inr ⟨by rfl, rfl⟩) ?_ ?_
                    rotate_left
                    · simp only [Act.put, List.setIfInBounds_toArray, List.set_cons_zero, List.set_cons_succ]; rfl
                    refine pure_ (i := 53) (N := some 67) (v := undef) (a' := ?_) (upto 54) rfl rfl (any_of HT.out (by kernel_rfl)) (fun _ _ _ h => h) (Or.inr ⟨by rfl, rfl⟩) ?_ ?_
                    rotate_left
                    · simp only [Act.put, List.setIfInBounds_toArray, List.set_cons_zero, List.set_cons_succ]; rfl
                    refine pure_ (i := 54) (N := some 68) (v := undef) (a' := ?_) (upto 55) rfl rfl (any_of HT.out (by kernel_rfl)) (fun _ _ _ h => h) (Or.inr ⟨by rfl, rfl⟩) ?_ ?_
                    rotate_left
                    · simp only [Act.put, List.setIfInBounds_toArray, List.set_cons_zero, List.set_cons_succ]; rfl
                    refine pure_ (i := 55) (N := some 69) (v := undef) (a' := ?_) (upto 56) rfl rfl (any_of HT.out (by kernel_rfl)) (fun _ _ _ h => h) (Or.inr ⟨by rfl, rfl⟩) ?_ ?_
                    rotate_left
                    · simp only [Act.put, List.setIfInBounds_toArray, List.set_cons_zero, List.set_cons_succ]; rfl
                    refine pure_ (i := 56) (N := some 70) (v := undef) (a' := ?_) (upto 57) rfl rfl (any_of HT.out (by kernel_rfl)) (fun _ _ _ h => h) (Or.inr ⟨by rfl, rfl⟩) ?_ ?_
                    rotate_left
                    · simp only [Act.put, List.setIfInBounds_toArray, List.set_cons_zero, List.set_cons_succ]; rfl
                    refine pure_ (i := 57) (N := some 71) (v := ?_) (a' := ?_) (upto 58) rfl rfl (any_of HT.out (by kernel_rfl)) (fun _ _ _ h => h) (Or.inl ⟨by rfl, ?_⟩) ?_ ?_
                    rotate_left
                    · intro w'; go_simp; with_reducible rfl
                    rotate_left
                    · simp only [Act.put, List.setIfInBounds_toArray, List.set_cons_zero, List.set_cons_succ]; rfl
                    refine done_ (done_of HT.out (by kernel_rfl)) ?_
                    go_wp2
                    go_returns
                    exact ⟨false, rfl, (fun h => by cases h), below_then B1.out B1.out.size B11.out⟩
                  | false =>
                    refine pure_ (i := 30) (N := some 44) (v := ?_) (a' := ?_) (upto 31) rfl rfl (any_of HT.out (by kernel_rfl)) (fun _ _ _ h => h) (Or.inl ⟨by rfl, ?_⟩) ?_ ?_
                    rotate_left
                    · intro w'; go_simp; with_reducible rfl
                    rotate_left
                    · simp only [Act.put, List.setIfInBounds_toArray, List.set_cons_zero, List.set_cons_succ]; rfl
                    refine pure_ (i := 31) (N := some 45) (v := ?_) (a' := ?_) (upto 32) rfl rfl (any_of HT.out (by kernel_rfl)) (fun _ _ _ h => h) (Or.inl ⟨by rfl, ?_⟩) ?_ ?_
                    rotate_left
                    · intro w'; go_simp; with_reducible rfl
                    rotate_left
                    · simp only [Act.put, List.setIfInBounds_toArray, List.set_cons_zero, List.set_cons_succ]; rfl
                    refine pure_ (i := 32) (N := some 46) (v := ?_) (a' := ?_) (upto 33) rfl rfl (any_of HT.out (by kernel_rfl)) (fun _ _ _ h => h) (Or.inl ⟨by rfl, ?_⟩) ?_ ?_
                    rotate_left
                    · intro w'; go_simp; with_reducible rfl
                    rotate_left
                    · simp only [Act.put, List.setIfInBounds_toArray, List.set_cons_zero, List.set_cons_succ]; rfl
                    refine pure_ (i := 33) (N := some 47) (v := ?_) (a' := ?_) (upto 34) rfl rfl (any_of HT.out (by kernel_rfl)) (fun _ _ _ h => h) (Or.inl ⟨by rfl, ?_⟩) ?_ ?_
                    rotate_left
                    · intro w'; go_simp; with_reducible rfl
                    rotate_left
                    · simp only [Act.put, List.setIfInBounds_toArray, List.set_cons_zero, List.set_cons_succ]; rfl
                    refine take_ (i := 34) (N := some 48) (v := ?_) (a' := ?_) (upto 35) rfl rfl (take_ofW HT.out HW.out (by kernel_rfl)) (fun _ _ _ h => h) (Or.inl ⟨by rfl, ?_⟩) hHeld ?_ ?_
                    rotate_left
                    · rintro w' ⟨s0, s1, s2, s3, s4⟩; go_simp; with_reducible rfl
                    rotate_left
                    · simp only [Act.put, List.setIfInBounds_toArray, List.set_cons_zero, List.set_cons_succ]; rfl
                    refine pure_ (i := 35) (N := some 49) (v := ?_) (a' := ?_) (upto 36) rfl rfl (any_of HT.out (by kernel_rfl)) (fun _ _ _ h => h) (Or.inl ⟨by rfl, ?_⟩) ?_ ?_
                    rotate_left
                    · intro w'; go_simp; with_reducible rfl
                    rotate_left
                    · simp only [Act.put, List.setIfInBounds_toArray, List.set_cons_zero, List.set_cons_succ]; rfl
                    cases h50 : (bits BinOp.andNot IntKind.i64 md 2161115647 != 0) with
                    | true =>
                      refine pure_ (i := 36) (N := some 50) (v := ?_) (a' := ?_) (upto 37) rfl rfl (any_of HT.out (by kernel_rfl)) (fun _ _ _ h => h) (Or.inl ⟨by rfl, ?_⟩) ?_ ?_
                      rotate_left
                      · intro w'; go_simp; with_reducible rfl
                      rotate_left
                      · simp only [Act.put, List.setIfInBounds_toArray, List.set_cons_zero, List.set_cons_succ]; rfl
                      refine pure_ (i := 37) (N := some 51) (v := ?_) (a' := ?_) (upto 38) rfl rfl (any_of HT.out (by kernel_rfl)) (fun _ _ _ h => h) (Or.inl ⟨by rfl, ?_⟩) ?_ ?_
                      rotate_left
                      · intro w'; go_simp; with_reducible rfl
                      rotate_left
                      · simp only [Act.put, List.setIfInBounds_toArray, List.set_cons_zero, List.set_cons_succ]; rfl
                      refine pure_ (i := 38) (N := some 52) (v := ?_) (a' := ?_) (upto 39) rfl rfl (any_of HT.out (by kernel_rfl)) (fun _ _ _ h => h) (Or.inl ⟨by rfl, ?_⟩) ?_ ?_
                      rotate_left
                      · intro w'; go_simp; with_reducible rfl
                      rotate_left
                      · simp only [Act.put, List.setIfInBounds_toArray, List.set_cons_zero, List.set_cons_succ]; rfl
                      refine pure_ (i := 39) (N := some 53) (v := undef) (a' := ?_) (upto 40) rfl rfl (any_of HT.out (by kernel_rfl)) (fun _ _ _ h => h) (Or.inr ⟨by rfl, rfl⟩) ?_ ?_
                      rotate_left
                      · simp only [Act.put, List.setIfInBounds_toArray, List.set_cons_zero, List.set_cons_succ]; rfl
                      refine pure_ (i := 40) (N := some 54) (v := undef) (a' := ?_) (upto 41) rfl rfl (any_of HT.out (by kernel_rfl)) (fun _ _ _ h => h) (Or.inr ⟨by rfl, rfl⟩) ?_ ?_
                      rotate_left
                      · simp only [Act.put, List.setIfInBounds_toArray, List.set_cons_zero, List.set_cons_succ]; rfl
                      refine pure_ (i := 41) (N := some 55) (v := undef) (a' := ?_) (upto 42) rfl rfl (any_of HT.out (by kernel_rfl)) (fun _ _ _ h => h) (Or.inr ⟨by rfl, rfl⟩) ?_ ?_
                      rotate_left
                      · simp only [Act.put, List.setIfInBounds_toArray, List.set_cons_zero, List.set_cons_succ]; rfl
                      refine pure_ (i := 42) (N := some 56) (v := ?_) (a' := ?_) (upto 43) rfl rfl (any_of HT.out (by kernel_rfl)) (fun _ _ _ h => h) (Or.inl ⟨by rfl, ?_⟩) ?_ ?_
                      rotate_left
                      · intro w'; go_simp; with_reducible rfl
                      rotate_left
                      · simp only [Act.put, List.setIfInBounds_toArray, List.set_cons_zero, List.set_cons_succ]; rfl
                      refine pure_ (i := 43) (N := some 57) (v := ?_) (a' := ?_) (upto 44) rfl rfl (any_of HT.out (by kernel_rfl)) (fun _ _ _ h => h) (Or.inl ⟨by rfl, ?_⟩) ?_ ?_
                      rotate_left
                      · intro w'; go_simp; with_reducible rfl
                      rotate_left
                      · simp only [Act.put, List.setIfInBounds_toArray, List.set_cons_zero, List.set_cons_succ]; rfl
                      refine pure_ (i := 44) (N := some 58) (v := undef) (a' := ?_) (upto 45) rfl rfl (any_of HT.out (by kernel_rfl)) (fun _ _ _ h => h) (Or.inr ⟨by rfl, rfl⟩) ?_ ?_
                      rotate_left
                      · simp only [Act.put, List.setIfInBounds_toArray, List.set_cons_zero, List.set_cons_succ]; rfl
                      refine pure_ (i := 45) (N := some 59) (v := undef) (a' := ?_) (upto 46) rfl rfl (any_of HT.out (by kernel_rfl)) (fun _ _ _ h => h) (Or.inr ⟨by rfl, rfl⟩) ?_ ?_
                      rotate_left
                      · simp only [Act.put, List.setIfInBounds_toArray, List.set_cons_zero, List.set_cons_succ]; rfl
                      refine pure_ (i := 46) (N := some 60) (v := undef) (a' := ?_) (upto 47) rfl rfl (any_of HT.out (by kernel_rfl)) (fun _ _ _ h => h) (Or.inr ⟨by rfl, rfl⟩) ?_ ?_
                      rotate_left
                      · simp only [Act.put, List.setIfInBounds_toArray, List.set_cons_zero, List.set_cons_succ]; rfl
                      refine pure_ (i := 47) (N := some 61) (v := ?_) (a' := ?_) (upto 48) rfl rfl (any_of HT.out (by kernel_rfl)) (fun _ _ _ h => h) (Or.inl ⟨by rfl, ?_⟩) ?_ ?_
                      rotate_left
                      · intro w'; go_simp; with_reducible rfl
                      rotate_left
                      · simp only [Act.put, List.setIfInBounds_toArray, List.set_cons_zero, List.set_cons_succ]; rfl
                      refine pure_ (i := 48) (N := some 62) (v := ?_) (a' := ?_) (upto 49) rfl rfl (any_of HT.out (by kernel_rfl)) (fun _ _ _ h => h) (Or.inl ⟨by rfl, ?_⟩) ?_ ?_
                      rotate_left
                      · intro w'; go_simp; with_reducible rfl
                      rotate_left
                      · simp only [Act.put, List.setIfInBounds_toArray, List.set_cons_zero, List.set_cons_succ]; rfl
                      refine pure_ (i := 49) (N := some 63) (v := undef) (a' := ?_) (upto 50) rfl rfl (any_of HT.out (by kernel_rfl)) (fun _ _ _ h => h) (Or.inr ⟨by rfl, rfl⟩) ?_ ?_
                      rotate_left
                      · simp only [Act.put, List.setIfInBounds_toArray, List.set_cons_zero, List.set_cons_succ]; rfl
                      refine pure_ (i := 50) (N := some 64) (v := undef) (a' := ?_) (upto 51) rfl rfl (any_of HT.out (by kernel_rfl)) (fun _ _ _ h => h) (Or.inr ⟨by rfl, rfl⟩) ?_ ?_
                      rotate_left
                      · simp only [Act.put, List.setIfInBounds_toArray, List.set_cons_zero, List.set_cons_succ]; rfl
                      refine pure_ (i := 51) (N := some 65) (v := undef) (a' := ?_) (upto 52) rfl rfl (any_of HT.out (by kernel_rfl)) (fun _ _ _ h => h) (Or.inr ⟨by rfl, rfl⟩) ?_ ?_
                      rotate_left
                      · simp only [Act.put, List.setIfInBounds_toArray, List.set_cons_zero, List.set_cons_succ]; rfl
                      refine pure_ (i := 52) (N := some 66) (v := undef) (a' := ?_) (upto 53) rfl rfl (any_of HT.out (by kernel_rfl)) (fun _ _ _ h => h) (Or.inr ⟨by rfl, rfl⟩) ?_ ?_
                      rotate_left
                      · simp only [Act.put, List.setIfInBounds_toArray, List.set_cons_zero, List.set_cons_succ]; rfl
                      refine pure_ (i := 53) (N := some 67) (v := undef) (a' := ?_) (upto 54) rfl rfl (any_of HT.out (by kernel_rfl)) (fun _ _ _ h => h) (Or.inr ⟨by rfl, rfl⟩) ?_ ?_
                      rotate_left
                      · simp only [Act.put, List.setIfInBounds_toArray, List.set_cons_zero, List.set_cons_succ]; rfl
                      refine pure_ (i := 54) (N := some 68) (v := undef) (a' := ?_) (upto 55) rfl rfl (any_of HT.out (by kernel_rfl)) (fun _ _ _ h => h) (Or.inr ⟨by rfl, rfl⟩) ?_ ?_
                      rotate_left
                      · simp only [Act.put, List.setIfInBounds_toArray, List.set_cons_zero, List.set_cons_succ]; rfl
                      refine pure_ (i := 55) (N := some 69) (v := undef) (a' := ?_) (upto 56) rfl rfl (any_of HT.out (by kernel_rfl)) (fun _ _ _ h => h) (Or.inr ⟨by rfl, rfl⟩) ?_ ?_
                      rotate_left
                      · simp only [Act.put, List.setIfInBounds_toArray, List.set_cons_zero, List.set_cons_succ]; rfl
                      refine pure_ (i := 56) (N := some 70) (v := undef) (a' := ?_) (upto 57) rfl rfl (any_of HT.out (by kernel_rfl)) (fun _ _ _ h => h) (Or.inr ⟨by rfl, rfl⟩) ?_ ?_
                      rotate_left
                      · simp only [Act.put, List.setIfInBounds_toArray, List.set_cons_zero, List.set_cons_succ]; rfl
                      refine pure_ (i := 57) (N := some 71) (v := ?_) (a' := ?_) (upto 58) rfl rfl (any_of HT.out (by kernel_rfl)) (fun _ _ _ h => h) (Or.inl ⟨by rfl, ?_⟩) ?_ ?_
                      rotate_left
                      · intro w'; go_simp; with_reducible rfl
                      rotate_left
                      · simp only [Act.put, List.setIfInBounds_toArray, List.set_cons_zero, List.set_cons_succ]; rfl
                      refine done_ (done_of HT.out (by kernel_rfl)) ?_
                      go_wp2
                      go_returns
                      exact ⟨false, rfl, (fun h => by cases h), below_then B1.out B1.out.size B11.out⟩
                    | false =>
                      refine pure_ (i := 36) (N := some 50) (v := ?_) (a' := ?_) (upto 37) rfl rfl (any_of HT.out (by kernel_rfl)) (fun _ _ _ h => h) (Or.inl ⟨by rfl, ?_⟩) ?_ ?_
                      rotate_left
                      · intro w'; go_simp; with_reducible rfl
                      rotate_left
                      · simp only [Act.put, List.setIfInBounds_toArray, List.set_cons_zero, List.set_cons_succ]; rfl
                      refine pure_ (i := 37) (N := some 51) (v := ?_) (a' := ?_) (upto 38) rfl rfl (any_of HT.out (by kernel_rfl)) (fun _ _ _ h => h) (Or.inl ⟨by rfl, ?_⟩) ?_ ?_
                      rotate_left
                      · intro w'; go_simp; with_reducible rfl
                      rotate_left
                      · simp only [Act.put, List.setIfInBounds_toArray, List.set_cons_zero, List.set_cons_succ]; rfl
                      refine pure_ (i := 38) (N := some 52) (v := ?_) (a' := ?_) (upto 39) rfl rfl (any_of HT.out (by kernel_rfl)) (fun _ _ _ h => h) (Or.inl ⟨by rfl, ?_⟩) ?_ ?_
                      rotate_left
                      · intro w'; go_simp; with_reducible rfl
                      rotate_left
                      · simp only [Act.put, List.setIfInBounds_toArray, List.set_cons_zero, List.set_cons_succ]; rfl
                      refine pure_ (i := 39) (N := some 53) (v := ?_) (a' := ?_) (upto 40) rfl rfl (any_of HT.out (by kernel_rfl)) (fun _ _ _ h => h) (Or.inl ⟨by rfl, ?_⟩) ?_ ?_
                      rotate_left
                      · intro w'; go_simp; with_reducible rfl
                      rotate_left
                      · simp only [Act.put, List.setIfInBounds_toArray, List.set_cons_zero, List.set_cons_succ]; rfl
                      refine take_ (i := 40) (N := some 54) (v := ?_) (a' := ?_) (upto 41) rfl rfl (take_ofW HT.out HW.out (by kernel_rfl)) (fun _ _ _ h => h) (Or.inl ⟨by rfl, ?_⟩) hHeld ?_ ?_
                      rotate_left
                      · rintro w' ⟨s0, s1, s2, s3, s4⟩; go_simp; with_reducible rfl
                      rotate_left
                      · simp only [Act.put, List.setIfInBounds_toArray, List.set_cons_zero, List.set_cons_succ]; rfl
                      cases h55 : decide (tm < 0) with
                      | true =>
                        refine pure_ (i := 41) (N := some 55) (v := ?_) (a' := ?_) (upto 42) rfl rfl (any_of HT.out (by kernel_rfl)) (fun _ _ _ h => h) (Or.inl ⟨by rfl, ?_⟩) ?_ ?_
                        rotate_left
                        · intro w'; go_simp; with_reducible rfl
                        rotate_left
                        · simp only [Act.put, List.setIfInBounds_toArray, List.set_cons_zero, List.set_cons_succ]; rfl
                        refine pure_ (i := 42) (N := some 56) (v := ?_) (a' := ?_) (upto 43) rfl rfl (any_of HT.out (by kernel_rfl)) (fun _ _ _ h => h) (Or.inl ⟨by rfl, ?_⟩) ?_ ?_
                        rotate_left
                        · intro w'; go_simp; with_reducible rfl
                        rotate_left
                        · simp only [Act.put, List.setIfInBounds_toArray, List.set_cons_zero, List.set_cons_succ]; rfl
                        refine pure_ (i := 43) (N := some 57) (v := ?_) (a' := ?_) (upto 44) rfl rfl (any_of HT.out (by kernel_rfl)) (fun _ _ _ h => h) (Or.inl ⟨by rfl, ?_⟩) ?_ ?_
                        rotate_left
                        · intro w'; go_simp; with_reducible rfl
                        rotate_left
                        · simp only [Act.put, List.setIfInBounds_toArray, List.set_cons_zero, List.set_cons_succ]; rfl
                        refine pure_ (i := 44) (N := some 58) (v := undef) (a' := ?_) (upto 45) rfl rfl (any_of HT.out (by kernel_rfl)) (fun _ _ _ h => h) (Or.inr ⟨by rfl, rfl⟩) ?_ ?_
                        rotate_left
                        · simp only [Act.put, List.setIfInBounds_toArray, List.set_cons_zero, List.set_cons_succ]; rfl
                        refine pure_ (i := 45) (N := some 59) (v := undef) (a' := ?_) (upto 46) rfl rfl (any_of HT.out (by kernel_rfl)) (fun _ _ _ h => h) (Or.inr ⟨by rfl, rfl⟩) ?_ ?_
                        rotate_left
                        · simp only [Act.put, List.setIfInBounds_toArray, List.set_cons_zero, List.set_cons_succ]; rfl
                        refine pure_ (i := 46) (N := some 60) (v := undef) (a' := ?_) (upto 47) rfl rfl (any_of HT.out (by kernel_rfl)) (fun _ _ _ h => h) (Or.inr ⟨by rfl, rfl⟩) ?_ ?_
                        rotate_left
                        · simp only [Act.put, List.setIfInBounds_toArray, List.set_cons_zero, List.set_cons_succ]; rfl
                        refine pure_ (i := 47) (N := some 61) (v := ?_) (a' := ?_) (upto 48) rfl rfl (any_of HT.out (by kernel_rfl)) (fun _ _ _ h => h) (Or.inl ⟨by rfl, ?_⟩) ?_ ?_
                        rotate_left
                        · intro w'; go_simp; with_reducible rfl
                        rotate_left
                        · simp only [Act.put, List.setIfInBounds_toArray, List.set_cons_zero, List.set_cons_succ]; rfl
                        refine pure_ (i := 48) (N := some 62) (v := ?_) (a' := ?_) (upto 49) rfl rfl (any_of HT.out (by kernel_rfl)) (fun _ _ _ h => h) (Or.inl ⟨by rfl, ?_⟩) ?_ ?_
                        rotate_left
                        · intro w'; go_simp; with_reducible rfl
                        rotate_left
                        · simp only [Act.put, List.setIfInBounds_toArray, List.set_cons_zero, List.set_cons_succ]; rfl
                        refine pure_ (i := 49) (N := some 63) (v := undef) (a' := ?_) (upto 50) rfl rfl (any_of HT.out (by kernel_rfl)) (fun _ _ _ h => h) (Or.inr ⟨by rfl, rfl⟩) ?_ ?_
                        rotate_left
                        · simp only [Act.put, List.setIfInBounds_toArray, List.set_cons_zero, List.set_cons_succ]; rfl
                        refine pure_ (i := 50) (N := some 64) (v := undef) (a' := ?_) (upto 51) rfl rfl (any_of HT.out (by kernel_rfl)) (fun _ _ _ h => h) (Or.inr ⟨by rfl, rfl⟩) ?_ ?_
                        rotate_left
                        · simp only [Act.put, List.setIfInBounds_toArray, List.set_cons_zero, List.set_cons_succ]; rfl
                        refine pure_ (i := 51) (N := some 65) (v := undef) (a' := ?_) (upto 52) rfl rfl (any_of HT.out (by kernel_rfl)) (fun _ _ _ h => h) (Or.inr ⟨by rfl, rfl⟩) ?_ ?_
                        rotate_left
                        · simp only [Act.put, List.setIfInBounds_toArray, List.set_cons_zero, List.set_cons_succ]; rfl
                        refine pure_ (i := 52) (N := some 66) (v := undef) (a' := ?_) (upto 53) rfl rfl (any_of HT.out (by kernel_rfl)) (fun _ _ _ h => h) (Or.inr ⟨by rfl, rfl⟩) ?_ ?_
                        rotate_left
                        · simp only [Act.put, List.setIfInBounds_toArray, List.set_cons_zero, List.set_cons_succ]; rfl
                        refine pure_ (i := 53) (N := some 67) (v := undef) (a' := ?_) (upto 54) rfl rfl (any_of HT.out (by kernel_rfl)) (fun _ _ _ h => h) (Or.inr ⟨by rfl, rfl⟩) ?_ ?_
                        rotate_left
                        · simp only [Act.put, List.setIfInBounds_toArray, List.set_cons_zero, List.set_cons_succ]; rfl
                        refine pure_ (i := 54) (N := some 68) (v := undef) (a' := ?_) (upto 55) rfl rfl (any_of HT.out (by kernel_rfl)) (fun _ _ _ h => h) (Or.inr ⟨by rfl, rfl⟩) ?_ ?_
                        rotate_left
                        · simp only [Act.put, List.setIfInBounds_toArray, List.set_cons_zero, List.set_cons_succ]; rfl
                        refine pure_ (i := 55) (N := some 69) (v := undef) (a' := ?_) (upto 56) rfl rfl (any_of HT.out (by kernel_rfl)) (fun _ _ _ h => h) (Or.inr ⟨by rfl, rfl⟩) ?_ ?_
                        rotate_left
                        · simp only [Act.put, List.setIfInBounds_toArray, List.set_cons_zero, List.set_cons_succ]; rfl
                        refine pure_ (i := 56) (N := some 70) (v := undef) (a' := ?_) (upto 57) rfl rfl (any_of HT.out (by kernel_rfl)) (fun _ _ _ h => h) (Or.inr ⟨by rfl, rfl⟩) ?_ ?_
                        rotate_left
                        · simp only [Act.put, List.setIfInBounds_toArray, List.set_cons_zero, List.set_cons_succ]; rfl
                        refine pure_ (i := 57) (N := some 71) (v := ?_) (a' := ?_) (upto 58) rfl rfl (any_of HT.out (by kernel_rfl)) (fun _ _ _ h => h) (Or.inl ⟨by rfl, ?_⟩) ?_ ?_
                        rotate_left
                        · intro w'; go_simp; with_reducible rfl
                        rotate_left
                        · simp only [Act.put, List.setIfInBounds_toArray, List.set_cons_zero, List.set_cons_succ]; rfl
                        refine done_ (done_of HT.out (by kernel_rfl)) ?_
                        go_wp2
                        go_returns
                        exact ⟨false, rfl, (fun h => by cases h), below_then B1.out B1.out.size B11.out⟩
                      | false =>
                        refine pure_ (i := 41) (N := some 55) (v := ?_) (a' := ?_) (upto 42) rfl rfl (any_of HT.out (by kernel_rfl)) (fun _ _ _ h => h) (Or.inl ⟨by rfl, ?_⟩) ?_ ?_
                        rotate_left
                        · intro w'; go_simp; with_reducible rfl
                        rotate_left
                        · simp only [Act.put, List.setIfInBounds_toArray, List.set_cons_zero, List.set_cons_succ]; rfl
                        refine pure_ (i := 42) (N := some 56) (v := ?_) (a' := ?_) (upto 43) rfl rfl (any_of HT.out (by kernel_rfl)) (fun _ _ _ h => h) (Or.inl ⟨by rfl, ?_⟩) ?_ ?_
                        rotate_left
                        · intro w'; go_simp; with_reducible rfl
                        rotate_left
                        · simp only [Act.put, List.setIfInBounds_toArray, List.set_cons_zero, List.set_cons_succ]; rfl
                        refine pure_ (i := 43) (N := some 57) (v := ?_) (a' := ?_) (upto 44) rfl rfl (any_of HT.out (by kernel_rfl)) (fun _ _ _ h => h) (Or.inl ⟨by rfl, ?_⟩) ?_ ?_
                        rotate_left
                        · intro w'; go_simp; with_reducible rfl
                        rotate_left
                        · simp only [Act.put, List.setIfInBounds_toArray, List.set_cons_zero, List.set_cons_succ]; rfl
                        refine pure_ (i := 44) (N := some 58) (v := ?_) (a' := ?_) (upto 45) rfl rfl (any_of HT.out (by kernel_rfl)) (fun _ _ _ h => h) (Or.inl ⟨by rfl, ?_⟩) ?_ ?_
                        rotate_left
                        · intro w'; go_simp; with_reducible rfl
                        rotate_left
                        · simp only [Act.put, List.setIfInBounds_toArray, List.set_cons_zero, List.set_cons_succ]; rfl
                        refine take_ (i := 45) (N := some 59) (v := ?_) (a' := ?_) (upto 46) rfl rfl (take_ofW HT.out HW.out (by kernel_rfl)) (fun _ _ _ h => h) (Or.inl ⟨by rfl, ?_⟩) hHeld ?_ ?_
                        rotate_left
                        · rintro w' ⟨s0, s1, s2, s3, s4⟩; go_simp; with_reducible rfl
                        rotate_left
                        · simp only [Act.put, List.setIfInBounds_toArray, List.set_cons_zero, List.set_cons_succ]; rfl
                        cases h60 : decide (8589934592 < tm) with
                        | true =>
                          refine pure_ (i := 46) (N := some 60) (v := ?_) (a' := ?_) (upto 47) rfl rfl (any_of HT.out (by kernel_rfl)) (fun _ _ _ h => h) (Or.inl ⟨by rfl, ?_⟩) ?_ ?_
                          rotate_left
                          · intro w'; go_simp; with_reducible rfl
                          rotate_left
                          · simp only [Act.put, List.setIfInBounds_toArray, List.set_cons_zero, List.set_cons_succ]; rfl
                          refine pure_ (i := 47) (N := some 61) (v := ?_) (a' := ?_) (upto 48) rfl rfl (any_of HT.out (by kernel_rfl)) (fun _ _ _ h => h) (Or.inl ⟨by rfl, ?_⟩) ?_ ?_
                          rotate_left
                          · intro w'; go_simp; with_reducible rfl
                          rotate_left
                          · simp only [Act.put, List.setIfInBounds_toArray, List.set_cons_zero, List.set_cons_succ]; rfl
                          refine pure_ (i := 48) (N := some 62) (v := ?_) (a' := ?_) (upto 49) rfl rfl (any_of HT.out (by kernel_rfl)) (fun _ _ _ h => h) (Or.inl ⟨by rfl, ?_⟩) ?_ ?_
                          rotate_left
                          · intro w'; go_simp; with_reducible rfl
                          rotate_left
                          · simp only [Act.put, List.setIfInBounds_toArray, List.set_cons_zero, List.set_cons_succ]; rfl
                          refine pure_ (i := 49) (N := some 63) (v := undef) (a' := ?_) (upto 50) rfl rfl (any_of HT.out (by kernel_rfl)) (fun _ _ _ h => h) (Or.inr ⟨by rfl, rfl⟩) ?_ ?_
                          rotate_left
                          · simp only [Act.put, List.setIfInBounds_toArray, List.set_cons_zero, List.set_cons_succ]; rfl
                          refine pure_ (i := 50) (N := some 64) (v := undef) (a' := ?_) (upto 51) rfl rfl (any_of HT.out (by kernel_rfl)) (fun _ _ _ h => h) (Or.inr ⟨by rfl, rfl⟩) ?_ ?_
                          rotate_left
                          · simp only [Act.put, List.setIfInBounds_toArray, List.set_cons_zero, List.set_cons_succ]; rfl
                          refine pure_ (i := 51) (N := some 65) (v := undef) (a' := ?_) (upto 52) rfl rfl (any_of HT.out (by kernel_rfl)) (fun _ _ _ h => h) (Or.inr ⟨by rfl, rfl⟩) ?_ ?_
                          rotate_left
                          · simp only [Act.put, List.setIfInBounds_toArray, List.set_cons_zero, List.set_cons_succ]; rfl
                          refine pure_ (i := 52) (N := some 66) (v := undef) (a' := ?_) (upto 53) rfl rfl (any_of HT.out (by kernel_rfl)) (fun _ _ _ h => h) (Or.inr ⟨by rfl, rfl⟩) ?_ ?_
                          rotate_left
                          · simp only [Act.put, List.setIfInBounds_toArray, List.set_cons_zero, List.set_cons_succ]; rfl
                          refine pure_ (i := 53) (N := some 67) (v := undef) (a' := ?_) (upto 54) rfl rfl (any_of HT.out (by kernel_rfl)) (fun _ _ _ h => h) (Or.inr ⟨by rfl, rfl⟩) ?_ ?_
                          rotate_left
                          · simp only [Act.put, List.setIfInBounds_toArray, List.set_cons_zero, List.set_cons_succ]; rfl
                          refine pure_ (i := 54) (N := some 68) (v := undef) (a' := ?_) (upto 55) rfl rfl (any_of HT.out (by kernel_rfl)) (fun _ _ _ h => h) (Or.inr ⟨by rfl, rfl⟩) ?_ ?_
                          rotate_left
                          · simp only [Act.put, List.setIfInBounds_toArray, List.set_cons_zero, List.set_cons_succ]; rfl
                          refine pure_ (i := 55) (N := some 69) (v := undef) (a' := ?_) (upto 56) rfl rfl (any_of HT.out (by kernel_rfl)) (fun _ _ _ h => h) (Or.inr ⟨by rfl, rfl⟩) ?_ ?_
                          rotate_left
                          · simp only [Act.put, List.setIfInBounds_toArray, List.set_cons_zero, List.set_cons_succ]; rfl
                          refine pure_ (i := 56) (N := some 70) (v := undef) (a' := ?_) (upto 57) rfl rfl (any_of HT.out (by kernel_rfl)) (fun _ _ _ h => h) (Or.inr ⟨by rfl, rfl⟩) ?_ ?_
                          rotate_left
                          · simp only [Act.put, List.setIfInBounds_toArray, List.set_cons_zero, List.set_cons_succ]; rfl
                          refine pure_ (i := 57) (N := some 71) (v := ?_) (a' := ?_) (upto 58) rfl rfl (any_of HT.out (by kernel_rfl)) (fun _ _ _ h => h) (Or.inl ⟨by rfl, ?_⟩) ?_ ?_
                          rotate_left
                          · intro w'; go_simp; with_reducible rfl
                          rotate_left
                          · simp only [Act.put, List.setIfInBounds_toArray, List.set_cons_zero, List.set_cons_succ]; rfl
                          refine done_ (done_of HT.out (by kernel_rfl)) ?_
                          go_wp2
                          go_returns
                          exact ⟨false, rfl, (fun h => by cases h), below_then B1.out B1.out.size B11.out⟩
                        | false =>
                          refine pure_ (i := 46) (N := some 60) (v := ?_) (a' := ?_) (upto 47) rfl rfl (any_of HT.out (by kernel_rfl)) (fun _ _ _ h => h) (Or.inl ⟨by rfl, ?_⟩) ?_ ?_
                          rotate_left
                          · intro w'; go_simp; with_reducible rfl
                          rotate_left
                          · simp only [Act.put, List.setIfInBounds_toArray, List.set_cons_zero, List.set_cons_succ]; rfl
                          refine pure_ (i := 47) (N := some 61) (v := ?_) (a' := ?_) (upto 48) rfl rfl (any_of HT.out (by kernel_rfl)) (fun _ _ _ h => h) (Or.inl ⟨by rfl, ?_⟩) ?_ ?_
                          rotate_left
                          · intro w'; go_simp; with_reducible rfl
                          rotate_left
                          · simp only [Act.put, List.setIfInBounds_toArray, List.set_cons_zero, List.set_cons_succ]; rfl
                          refine pure_ (i := 48) (N := some 62) (v := ?_) (a' := ?_) (upto 49) rfl rfl (any_of HT.out (by kernel_rfl)) (fun _ _ _ h => h) (Or.inl ⟨by rfl, ?_⟩) ?_ ?_
                          rotate_left
                          · intro w'; go_simp; with_reducible rfl
                          rotate_left
                          · simp only [Act.put, List.setIfInBounds_toArray, List.set_cons_zero, List.set_cons_succ]; rfl
                          refine pure_ (i := 49) (N := some 63) (v := ?_) (a' := ?_) (upto 50) rfl rfl (any_of HT.out (by kernel_rfl)) (fun _ _ _ h => h) (Or.inl ⟨by rfl, ?_⟩) ?_ ?_
                          rotate_left
                          · intro w'; go_simp; with_reducible rfl
                          rotate_left
                          · simp only [Act.put, List.setIfInBounds_toArray, List.set_cons_zero, List.set_cons_succ]; rfl
                          refine take_ (i := 50) (N := some 64) (v := ?_) (a' := ?_) (upto 51) rfl rfl (take_ofW HT.out HW.out (by kernel_rfl)) (fun _ _ _ h => h) (Or.inl ⟨by rfl, ?_⟩) hHeld ?_ ?_
                          rotate_left
                          · rintro w' ⟨s0, s1, s2, s3, s4⟩; go_simp; with_reducible rfl
                          rotate_left
                          · simp only [Act.put, List.setIfInBounds_toArray, List.set_cons_zero, List.set_cons_succ]; rfl
                          refine pure_ (i := 51) (N := some 65) (v := ?_) (a' := ?_) (upto 52) rfl rfl (any_of HT.out (by kernel_rfl)) (fun _ _ _ h => h) (Or.inl ⟨by rfl, ?_⟩) ?_ ?_
                          rotate_left
                          · intro w'; go_simp; with_reducible rfl
                          rotate_left
                          · simp only [Act.put, List.setIfInBounds_toArray, List.set_cons_zero, List.set_cons_succ]; rfl
                          refine pure_ (i := 52) (N := some 66) (v := undef) (a' := ?_) (upto 53) rfl rfl (any_of HT.out (by kernel_rfl)) (fun _ _ _ h => h) (Or.inr ⟨by rfl, rfl⟩) ?_ ?_
                          rotate_left
                          · simp only [Act.put, List.setIfInBounds_toArray, List.set_cons_zero, List.set_cons_succ]; rfl
                          refine pure_ (i := 53) (N := some 67) (v := undef) (a' := ?_) (upto 54) rfl rfl (any_of HT.out (by kernel_rfl)) (fun _ _ _ h => h) (Or.inr ⟨by rfl, rfl⟩) ?_ ?_
                          rotate_left
                          · simp only [Act.put, List.setIfInBounds_toArray, List.set_cons_zero, List.set_cons_succ]; rfl
                          refine pure_ (i := 54) (N := some 68) (v := undef) (a' := ?_) (upto 55) rfl rfl (any_of HT.out (by kernel_rfl)) (fun _ _ _ h => h) (Or.inr ⟨by rfl, rfl⟩) ?_ ?_
                          rotate_left
                          · simp only [Act.put, List.setIfInBounds_toArray, List.set_cons_zero, List.set_cons_succ]; rfl
                          refine pure_ (i := 55) (N := some 69) (v := undef) (a' := ?_) (upto 56) rfl rfl (any_of HT.out (by kernel_rfl)) (fun _ _ _ h => h) (Or.inr ⟨by rfl, rfl⟩) ?_ ?_
                          rotate_left
                          · simp only [Act.put, List.setIfInBounds_toArray, List.set_cons_zero, List.set_cons_succ]; rfl
                          refine pure_ (i := 56) (N := some 70) (v := ?_) (a' := ?_) (upto 57) rfl rfl (any_of HT.out (by kernel_rfl)) (fun _ _ _ h => h) (Or.inl ⟨by rfl, ?_⟩) ?_ ?_
                          rotate_left
                          · intro w'; go_simp; with_reducible rfl
                          rotate_left
                          · simp only [Act.put, List.setIfInBounds_toArray, List.set_cons_zero, List.set_cons_succ]; rfl
                          refine pure_ (i := 57) (N := some 71) (v := ?_) (a' := ?_) (upto 58) rfl rfl (any_of HT.out (by kernel_rfl)) (fun _ _ _ h => h) (Or.inl ⟨by rfl, ?_⟩) ?_ ?_
                          rotate_left
                          · intro w'; go_simp; with_reducible rfl
                          rotate_left
                          · simp only [Act.put, List.setIfInBounds_toArray, List.set_cons_zero, List.set_cons_succ]; rfl
                          refine done_ (done_of HT.out (by kernel_rfl)) ?_
                          go_wp2
                          go_roundw
                          case rel => exact ⟨i + 1, by push_cast; rfl, hlt, Lib.hid (fun y hy => by rw [take_snoc HX.out, List.mem_append, List.mem_singleton] at hy; rcases hy with hy | rfl; exact K1.out y hy; rw [← HMD.out]; exact mode_in md hwf.1 hwf.2 (by simpa using h50)), Lib.hid (below_then B1.out B1.out.size B11.out)⟩
                          case measure => simp only [intOf]; omega
          | false =>
            refine pure_ (i := 10) (N := some 24) (v := ?_) (a' := ?_) (upto 11) rfl rfl (any_of HT.out (by kernel_rfl)) (fun _ _ _ h => h) (Or.inl ⟨by rfl, ?_⟩) ?_ ?_
            rotate_left
            · intro w'; go_simp; with_reducible rfl
            rotate_left
            · simp only [Act.put, List.setIfInBounds_toArray, List.set_cons_zero, List.set_cons_succ]; rfl
            refine pure_ (i := 11) (N := some 25) (v := ?_) (a' := ?_) (upto 12) rfl rfl (any_of HT.out (by kernel_rfl)) (fun _ _ _ h => h) (Or.inl ⟨by rfl, ?_⟩) ?_ ?_
            rotate_left
            · intro w'; go_simp; with_reducible rfl
            rotate_left
            · simp only [Act.put, List.setIfInBounds_toArray, List.set_cons_zero, List.set_cons_succ]; rfl
            refine pure_ (i := 12) (N := some 26) (v := ?_) (a' := ?_) (upto 13) rfl rfl (any_of HT.out (by kernel_rfl)) (fun _ _ _ h => h) (Or.inl ⟨by rfl, ?_⟩) ?_ ?_
            rotate_left
            · intro w'; go_simp; with_reducible rfl
            rotate_left
            · simp only [Act.put, List.setIfInBounds_toArray, List.set_cons_zero, List.set_cons_succ]; rfl
            refine pure_ (i := 13) (N := some 27) (v := undef) (a' := ?_) (upto 14) rfl rfl (any_of HT.out (by kernel_rfl)) (fun _ _ _ h => h) (Or.inr ⟨by rfl, rfl⟩) ?_ ?_
            rotate_left
            · simp only [Act.put, List.setIfInBounds_toArray, List.set_cons_zero, List.set_cons_succ]; rfl
            refine pure_ (i := 14) (N := some 28) (v := undef) (a' := ?_) (upto 15) rfl rfl (any_of HT.out (by kernel_rfl)) (fun _ _ _ h => h) (Or.inr ⟨by rfl, rfl⟩) ?_ ?_
            rotate_left
            · simp only [Act.put, List.setIfInBounds_toArray, List.set_cons_zero, List.set_cons_succ]; rfl
            refine pure_ (i := 15) (N := some 29) (v := undef) (a' := ?_) (upto 16) rfl rfl (any_of HT.out (by kernel_rfl)) (fun _ _ _ h => h) (Or.inr ⟨by rfl, rfl⟩) ?_ ?_
            rotate_left
            · simp only [Act.put, List.setIfInBounds_toArray, List.set_cons_zero, List.set_cons_succ]; rfl
            refine pure_ (i := 16) (N := some 30) (v := ?_) (a' := ?_) (upto 17) rfl rfl (any_of HT.out (by kernel_rfl)) (fun _ _ _ h => h) (Or.inl ⟨by rfl, ?_⟩) ?_ ?_
            rotate_left
            · intro w'; go_simp; with_reducible rfl
            rotate_left
            · simp only [Act.put, List.setIfInBounds_toArray, List.set_cons_zero, List.set_cons_succ]; rfl
            refine pure_ (i := 17) (N := some 31) (v := ?_) (a' := ?_) (upto 18) rfl rfl (any_of HT.out (by kernel_rfl)) (fun _ _ _ h => h) (Or.inl ⟨by rfl, ?_⟩) ?_ ?_
            rotate_left
            · intro w'; go_simp; with_reducible rfl
            rotate_left
            · simp only [Act.put, List.setIfInBounds_toArray, List.set_cons_zero, List.set_cons_succ]; rfl
            refine pure_ (i := 18) (N := some 32) (v := undef) (a' := ?_) (upto 19) rfl rfl (any_of HT.out (by kernel_rfl)) (fun _ _ _ h => h) (Or.inr ⟨by rfl, rfl⟩) ?_ ?_
            rotate_left
            · simp only [Act.put, List.setIfInBounds_toArray, List.set_cons_zero, List.set_cons_succ]; rfl
            refine pure_ (i := 19) (N := some 33) (v := undef) (a' := ?_) (upto 20) rfl rfl (any_of HT.out (by kernel_rfl)) (fun _ _ _ h => h) (Or.inr ⟨by rfl, rfl⟩) ?_ ?_
            rotate_left
            · simp only [Act.put, List.setIfInBounds_toArray, List.set_cons_zero, List.set_cons_succ]; rfl
            refine pure_ (i := 20) (N := some 34) (v := undef) (a' := ?_) (upto 21) rfl rfl (any_of HT.out (by kernel_rfl)) (fun _ _ _ h => h) (Or.inr ⟨by rfl, rfl⟩) ?_ ?_
            rotate_left
            · simp only [Act.put, List.setIfInBounds_toArray, List.set_cons_zero, List.set_cons_succ]; rfl
            refine pure_ (i := 21) (N := some 35) (v := undef) (a' := ?_) (upto 22) rfl rfl (any_of HT.out (by kernel_rfl)) (fun _ _ _ h => h) (Or.inr ⟨by rfl, rfl⟩) ?_ ?_
            rotate_left
            · simp only [Act.put, List.setIfInBounds_toArray, List.set_cons_zero, List.set_cons_succ]; rfl
            refine pure_ (i := 22) (N := some 36) (v := ?_) (a' := ?_) (upto 23) rfl rfl (any_of HT.out (by kernel_rfl)) (fun _ _ _ h => h) (Or.inl ⟨by rfl, ?_⟩) ?_ ?_
            rotate_left
            · intro w'; go_simp; with_reducible rfl
            rotate_left
            · simp only [Act.put, List.setIfInBounds_toArray, List.set_cons_zero, List.set_cons_succ]; rfl
            refine pure_ (i := 23) (N := some 37) (v := ?_) (a' := ?_) (upto 24) rfl rfl (any_of HT.out (by kernel_rfl)) (fun _ _ _ h => h) (Or.inl ⟨by rfl, ?_⟩) ?_ ?_
            rotate_left
            · intro w'; go_simp; with_reducible rfl
            rotate_left
            · simp only [Act.put, List.setIfInBounds_toArray, List.set_cons_zero, List.set_cons_succ]; rfl
            refine pure_ (i := 24) (N := some 38) (v := undef) (a' := ?_) (upto 25) rfl rfl (any_of HT.out (by kernel_rfl)) (fun _ _ _ h => h) (Or.inr ⟨by rfl, rfl⟩) ?_ ?_
            rotate_left
            · simp only [Act.put, List.setIfInBounds_toArray, List.set_cons_zero, List.set_cons_succ]; rfl
            refine pure_ (i := 25) (N := some 39) (v := undef) (a' := ?_) (upto 26) rfl rfl (any_of HT.out (by kernel_rfl)) (fun _ _ _ h => h) (Or.inr ⟨by rfl, rfl⟩) ?_ ?_
            rotate_left
            · simp only [Act.put, List.setIfInBounds_toArray, List.set_cons_zero, List.set_cons_succ]; rfl
            refine pure_ (i := 26) (N := some 40) (v := undef) (a' := ?_) (upto 27) rfl rfl (any_of HT.out (by kernel_rfl)) (fun _ _ _ h => h) (Or.inr ⟨by rfl, rfl⟩) ?_ ?_
            rotate_left
            · simp only [Act.put, List.setIfInBounds_toArray, List.set_cons_zero, List.set_cons_succ]; rfl
            refine pure_ (i := 27) (N := some 41) (v := undef) (a' := ?_) (upto 28) rfl rfl (any_of HT.out (by kernel_rfl)) (fun _ _ _ h => h) (Or.inr ⟨by rfl, rfl⟩) ?_ ?_
            rotate_left
            · simp only [Act.put, List.setIfInBounds_toArray, List.set_cons_zero, List.set_cons_succ]; rfl
            refine pure_ (i := 28) (N := some 42) (v := undef) (a' := ?_) (upto 29) rfl rfl (any_of HT.out (by kernel_rfl)) (fun _ _ _ h => h) (Or.inr ⟨by rfl, rfl⟩) ?_ ?_
            rotate_left
            · simp only [Act.put, List.setIfInBounds_toArray, List.set_cons_zero, List.set_cons_succ]; rfl
            refine pure_ (i := 29) (N := some 43) (v := undef) (a' := ?_) (upto 30) rfl rfl (any_of HT.out (by kernel_rfl)) (fun _ _ _ h => h) (Or.inr ⟨by rfl, rfl⟩) ?_ ?_
            rotate_left
            · simp only [Act.put, List.setIfInBounds_toArray, List.set_cons_zero, List.set_cons_succ]; rfl
            refine pure_ (i := 30) (N := some 44) (v := undef) (a' := ?_) (upto 31) rfl rfl (any_of HT.out (by kernel_rfl)) (fun _ _ _ h => h) (Or.inr ⟨by rfl, rfl⟩) ?_ ?_
            rotate_left
            · simp only [Act.put, List.setIfInBounds_toArray, List.set_cons_zero, List.set_cons_succ]; rfl
            refine pure_ (i := 31) (N := some 45) (v := ?_) (a' := ?_) (upto 32) rfl rfl (any_of HT.out (by kernel_rfl)) (fun _ _ _ h => h) (Or.inl ⟨by rfl, ?_⟩) ?_ ?_
            rotate_left
            · intro w'; go_simp; with_reducible rfl
            rotate_left
            · simp only [Act.put, List.setIfInBounds_toArray, List.set_cons_zero, List.set_cons_succ]; rfl
            refine pure_ (i := 32) (N := some 46) (v := ?_) (a' := ?_) (upto 33) rfl rfl (any_of HT.out (by kernel_rfl)) (fun _ _ _ h => h) (Or.inl ⟨by rfl, ?_⟩) ?_ ?_
            rotate_left
            · intro w'; go_simp; with_reducible rfl
            rotate_left
            · simp only [Act.put, List.setIfInBounds_toArray, List.set_cons_zero, List.set_cons_succ]; rfl
            refine pure_ (i := 33) (N := some 47) (v := undef) (a' := ?_) (upto 34) rfl rfl (any_of HT.out (by kernel_rfl)) (fun _ _ _ h => h) (Or.inr ⟨by rfl, rfl⟩) ?_ ?_
            rotate_left
            · simp only [Act.put, List.setIfInBounds_toArray, List.set_cons_zero, List.set_cons_succ]; rfl
            refine pure_ (i := 34) (N := some 48) (v := undef) (a' := ?_) (upto 35) rfl rfl (any_of HT.out (by kernel_rfl)) (fun _ _ _ h => h) (Or.inr ⟨by rfl, rfl⟩) ?_ ?_
            rotate_left
            · simp only [Act.put, List.setIfInBounds_toArray, List.set_cons_zero, List.set_cons_succ]; rfl
            refine pure_ (i := 35) (N := some 49) (v := undef) (a' := ?_) (upto 36) rfl rfl (any_of HT.out (by kernel_rfl)) (fun _ _ _ h => h) (Or.inr ⟨by rfl, rfl⟩) ?_ ?_
            rotate_left
            · simp only [Act.put, List.setIfInBounds_toArray, List.set_cons_zero, List.set_cons_succ]; rfl
            refine pure_ (i := 36) (N := some 50) (v := undef) (a' := ?_) (upto 37) rfl rfl (any_of HT.out (by kernel_rfl)) (fun _ _ _ h => h) (Or.inr ⟨by rfl, rfl⟩) ?_ ?_
            rotate_left
            · simp only [Act.put, List.setIfInBounds_toArray, List.set_cons_zero, List.set_cons_succ]; rfl
            refine pure_ (i := 37) (N := some 51) (v := ?_) (a' := ?_) (upto 38) rfl rfl (any_of HT.out (by kernel_rfl)) (fun _ _ _ h => h) (Or.inl ⟨by rfl, ?_⟩) ?_ ?_
            rotate_left
            · intro w'; go_simp; with_reducible rfl
            rotate_left
            · simp only [Act.put, List.setIfInBounds_toArray, List.set_cons_zero, List.set_cons_succ]; rfl
            refine pure_ (i := 38) (N := some 52) (v := ?_) (a' := ?_) (upto 39) rfl rfl (any_of HT.out (by kernel_rfl)) (fun _ _ _ h => h) (Or.inl ⟨by rfl, ?_⟩) ?_ ?_
            rotate_left
            · intro w'; go_simp; with_reducible rfl
            rotate_left
            · simp only [Act.put, List.setIfInBounds_toArray, List.set_cons_zero, List.set_cons_succ]; rfl
            refine pure_ (i := 39) (N := some 53) (v := undef) (a' := ?_) (upto 40) rfl rfl (any_of HT.out (by kernel_rfl)) (fun _ _ _ h => h) (Or.inr ⟨by rfl, rfl⟩) ?_ ?_
            rotate_left
            · simp only [Act.put, List.setIfInBounds_toArray, List.set_cons_zero, List.set_cons_succ]; rfl
            refine pure_ (i := 40) (N := some 54) (v := undef) (a' := ?_) (upto 41) rfl rfl (any_of HT.out (by kernel_rfl)) (fun _ _ _ h => h) (Or.inr ⟨by rfl, rfl⟩) ?_ ?_
            rotate_left
            · simp only [Act.put, List.setIfInBounds_toArray, List.set_cons_zero, List.set_cons_succ]; rfl
            refine pure_ (i := 41) (N := some 55) (v := undef) (a' := ?_) (upto 42) rfl rfl (any_of HT.out (by kernel_rfl)) (fun _ _ _ h => h) (Or.inr ⟨by rfl, rfl⟩) ?_ ?_
            rotate_left
            · simp only [Act.put, List.setIfInBounds_toArray, List.set_cons_zero, List.set_cons_succ]; rfl
            refine pure_ (i := 42) (N := some 56) (v := ?_) (a' := ?_) (upto 43) rfl rfl (any_of HT.out (by kernel_rfl)) (fun _ _ _ h => h) (Or.inl ⟨by rfl, ?_⟩) ?_ ?_
            rotate_left
            · intro w'; go_simp; with_reducible rfl
            rotate_left
            · simp only [Act.put, List.setIfInBounds_toArray, List.set_cons_zero, List.set_cons_succ]; rfl
            refine pure_ (i := 43) (N := some 57) (v := ?_) (a' := ?_) (upto 44) rfl rfl (any_of HT.out (by kernel_rfl)) (fun _ _ _ h => h) (Or.inl ⟨by rfl, ?_⟩) ?_ ?_
            rotate_left
            · intro w'; go_simp; with_reducible rfl
            rotate_left
            · simp only [Act.put, List.setIfInBounds_toArray, List.set_cons_zero, List.set_cons_succ]; rfl
            refine pure_ (i := 44) (N := some 58) (v := undef) (a' := ?_) (upto 45) rfl rfl (any_of HT.out (by kernel_rfl)) (fun _ _ _ h => h) (Or.inr ⟨by rfl, rfl⟩) ?_ ?_
            rotate_left
            · simp only [Act.put, List.setIfInBounds_toArray, List.set_cons_zero, List.set_cons_succ]; rfl
            refine pure_ (i := 45) (N := some 59) (v := undef) (a' := ?_) (upto 46) rfl rfl (any_of HT.out (by kernel_rfl)) (fun _ _ _ h => h) (Or.inr ⟨by rfl, rfl⟩) ?_ ?_
            rotate_left
            · simp only [Act.put, List.setIfInBounds_toArray, List.set_cons_zero, List.set_cons_succ]; rfl
            refine pure_ (i := 46) (N := some 60) (v := undef) (a' := ?_) (upto 47) rfl rfl (any_of HT.out (by kernel_rfl)) (fun _ _ _ h => h) (Or.inr ⟨by rfl, rfl⟩) ?_ ?_
            rotate_left
            · simp only [Act.put, List.setIfInBounds_toArray, List.set_cons_zero, List.set_cons_succ]; rfl
            refine pure_ (i := 47) (N := some 61) (v := ?_) (a' := ?_) (upto 48) rfl rfl (any_of HT.out (by kernel_rfl)) (fun _ _ _ h => h) (Or.inl ⟨by rfl, ?_⟩) ?_ ?_
            rotate_left
            · intro w'; go_simp; with_reducible rfl
            rotate_left
            · simp only [Act.put, List.setIfInBounds_toArray, List.set_cons_zero, List.set_cons_succ]; rfl
            refine pure_ (i := 48) (N := some 62) (v := ?_) (a' := ?_) (upto 49) rfl rfl (any_of HT.out (by kernel_rfl)) (fun _ _ _ h => h) (Or.inl ⟨by rfl, ?_⟩) ?_ ?_
            rotate_left
            · intro w'; go_simp; with_reducible rfl
            rotate_left
            · simp only [Act.put, List.setIfInBounds_toArray, List.set_cons_zero, List.set_cons_succ]; rfl
            refine pure_ (i := 49) (N := some 63) (v := undef) (a' := ?_) (upto 50) rfl rfl (any_of HT.out (by kernel_rfl)) (fun _ _ _ h => h) (Or.inr ⟨by rfl, rfl⟩) ?_ ?_
            rotate_left
            · simp only [Act.put, List.setIfInBounds_toArray, List.set_cons_zero, List.set_cons_succ]; rfl
            refine pure_ (i := 50) (N := some 64) (v := undef) (a' := ?_) (upto 51) rfl rfl (any_of HT.out (by kernel_rfl)) (fun _ _ _ h => h) (Or.inr ⟨by rfl, rfl⟩) ?_ ?_
            rotate_left
            · simp only [Act.put, List.setIfInBounds_toArray, List.set_cons_zero, List.set_cons_succ]; rfl
            refine pure_ (i := 51) (N := some 65) (v := undef) (a' := ?_) (upto 52) rfl rfl (any_of HT.out (by kernel_rfl)) (fun _ _ _ h => h) (Or.inr ⟨by rfl, rfl⟩) ?_ ?_
            rotate_left
            · simp only [Act.put, List.setIfInBounds_toArray, List.set_cons_zero, List.set_cons_succ]; rfl
            refine pure_ (i := 52) (N := some 66) (v := undef) (a' := ?_) (upto 53) rfl rfl (any_of HT.out (by kernel_rfl)) (fun _ _ _ h => h) (Or.inr ⟨by rfl, rfl⟩) ?_ ?_
            rotate_left
            · simp only [Act.put, List.setIfInBounds_toArray, List.set_cons_zero, List.set_cons_succ]; rfl
            refine pure_ (i := 53) (N := some 67) (v := undef) (a' := ?_) (upto 54) rfl rfl (any_of HT.out (by kernel_rfl)) (fun _ _ _ h => h) (Or.inr ⟨by rfl, rfl⟩) ?_ ?_
            rotate_left
            · simp only [Act.put, List.setIfInBounds_toArray, List.set_cons_zero, List.set_cons_succ]; rfl
            refine pure_ (i := 54) (N := some 68) (v := undef) (a' := ?_) (upto 55) rfl rfl (any_of HT.out (by kernel_rfl)) (fun _ _ _ h => h) (Or.inr ⟨by rfl, rfl⟩) ?_ ?_
            rotate_left
            · simp only [Act.put, List.setIfInBounds_toArray, List.set_cons_zero, List.set_cons_succ]; rfl
            refine pure_ (i := 55) (N := some 69) (v := undef) (a' := ?_) (upto 56) rfl rfl (any_of HT.out (by kernel_rfl)) (fun _ _ _ h => h) (Or.inr ⟨by rfl, rfl⟩) ?_ ?_
            rotate_left
            · simp only [Act.put, List.setIfInBounds_toArray, List.set_cons_zero, List.set_cons_succ]; rfl
            refine pure_ (i := 56) (N := some 70) (v := undef) (a' := ?_) (upto 57) rfl rfl (any_of HT.out (by kernel_rfl)) (fun _ _ _ h => h) (Or.inr ⟨by rfl, rfl⟩) ?_ ?_
            rotate_left
            · simp only [Act.put, List.setIfInBounds_toArray, List.set_cons_zero, List.set_cons_succ]; rfl
            refine pure_ (i := 57) (N := some 71) (v := ?_) (a' := ?_) (upto 58) rfl rfl (any_of HT.out (by kernel_rfl)) (fun _ _ _ h => h) (Or.inl ⟨by rfl, ?_⟩) ?_ ?_
            rotate_left
            · intro w'; go_simp; with_reducible rfl
            rotate_left
            · simp only [Act.put, List.setIfInBounds_toArray, List.set_cons_zero, List.set_cons_succ]; rfl
            refine done_ (done_of HT.out (by kernel_rfl)) ?_
            go_wp2
            go_returns
            exact ⟨false, rfl, (fun h => by cases h), below_then B1.out B1.out.size B11.out⟩
      · obtain rfl : i = n := by omega
        have j1 : decide ((i : Int) < (i : Int)) = false := decide_eq_false (by omega)
        go_wp2
        go_returns
        have e1 : l.take i = l := List.take_of_length_le (by rw [HL.out]; exact Nat.le_refl _)
        exact ⟨true, rfl, (fun _ => ⟨by rw [HL.out]; exact h60, fun x hx => K1.out x (by rw [e1]; exact hx)⟩), B1.out⟩
  · have j0 : decide ((60 : Int) < (n : Int)) = true := decide_eq_true (by omega)
    go_wp2
    go_returns
    exact ⟨false, rfl, (fun h => by cases h), Below.refl _ _⟩
end Go.Proofs.Ytckjbgneblfceaa.Ma
