/- Proved: for every digest, device and number of blocks FnVerityGrows answers true: the last level of the tree of a device begins with the hashes of all blocks that a shorter beginning of the device has. -/
import Derived.Test.YtbakmlhjfjjfoaaRows
import Derived.Test.YtbakmlhjfjjfoaaAdapter
import Derived.ChangeSlices
import Derived.Lib.SmallJoins
import Derived.Test.YtbakmlhjfjjfoaaVtr
import Derived.IntWalk
import Derived.Deep.RegionHeld3
import Derived.BigQuiet
import Derived.Deep.QuietTactic
namespace Go.Proofs.Ytbakmlhjfjjfoaa.Vg
open Go.RowKit Go.Proofs.YtbakmlhjfjjfoaaW.PrintWords Go.Proofs.YtbakmlhjfjjfoaaW.PrintLast Go.Proofs.YtbakmlhjfjjfoaaW.PrintMore
open Go.Proofs.Ytbakmlhjfjjfoaa.PFnVerityGrows Go.Proofs.Ytbakmlhjfjjfoaa.Vh
set_option linter.unusedVariables false
set_option linter.unusedSimpArgs false
/-- Bytes that lie behind an address. -/
def LiesAt (ad : Addr) (b : List Int) (w : World) : Prop := ∀ k x, b[k]? = some x → w.cell? (ad.add k) = some (.int .u8 x)
theorem LiesAt.later {ad : Addr} {b : List Int} {w W : World} (h : LiesAt ad b w) (hb : Below w.heap.size w W) : LiesAt ad b W := fun k x hk => pw_cell_below hb (h k x hk)
theorem LiesAt.take {ad : Addr} {b : List Int} {w : World} (h : LiesAt ad b w) (n : Nat) : LiesAt ad (b.take n) w := fun k x hk => h k x (by
  rw [List.getElem?_take] at hk
  split at hk
  · exact hk
  · cases hk)
theorem C_of_lies {ad : Addr} {b : List Int} {w : World} (h : LiesAt ad b w) (hl : b.length ≤ 10000000) : Kd.C (Kd.int .u8) w (some ad) b.length b := by
  refine ⟨rfl, by omega, fun _ => ⟨ad, rfl, fun j p hj => ⟨[.int .u8 p], rfl, rfl, fun i u hi => ?_⟩⟩⟩
  match i, hi with
  | 0, hi =>
    simp at hi
    subst hi
    have h1 := h j p hj
    rw [show j * (Kd.int .u8).sz + 0 = j from by show j * 1 + 0 = j; omega]
    exact h1
/-- A copy of bytes. -/
theorem dup11 (ad : Addr) (c n : Nat) (b : List Int) (w : World) (h : LiesAt ad b w) (hn : b.length = n) (hp : 0 < n) (hc : n ≤ c) (hl : n ≤ 10000000) :
    Calls Try.prog 11 #[.slice (some ad) n c] w fun e w' => ∃ g1 c1, e = .returned (.slice (some ⟨g1, 0, none⟩) n c1) ∧ n ≤ c1 ∧ Lies g1 0 b w' ∧ Below w.heap.size w w' := by
  subst hn
  refine (laws_dup.calls (some ad) c b b w (C_of_lies h hl) hc (by simp [laws_dup.f]; omega)).mono ?_
  rintro e w' ⟨v, rfl, hr, hb⟩
  have hR : Row w v b w' := ⟨hr, hb⟩
  obtain ⟨g1, c1, e, hc1, _⟩ := row_at hR hp
  subst e
  exact ⟨g1, c1, rfl, hc1, lies_row hR hp, hb⟩
theorem ret_int {k : IntKind} {a b : Int} (h : a = b) : Ending.returned (.int k a) = .returned (.int k b) := by rw [h]
theorem fair8 (A : Option Addr) (n c : Nat) (w : World) (h : n ≤ 1228800) : Calls Try.prog 8 #[.slice A n c] w fun e w' => e = .returned (.bool true) ∧ w = w' := by
  go_enter Try.func8, Try.ntmps8
  go_wp2
  go_ret
  exact ⟨by simp; omega, rfl⟩
theorem fair8no (A : Option Addr) (n c : Nat) (w : World) (h : ¬ n ≤ 1228800) : Calls Try.prog 8 #[.slice A n c] w fun e w' => e = .returned (.bool false) ∧ w = w' := by
  go_enter Try.func8, Try.ntmps8
  go_wp2
  go_ret
  exact ⟨by simp; omega, rfl⟩
theorem whole9 (A : Option Addr) (m c : Nat) (w : World) (h : 1 ≤ m) (h2 : m ≤ 1000000) : Calls Try.prog 9 #[.slice A (4096 * m) c] w fun e w' => e = .returned (.bool true) ∧ w = w' := by
  have h1 : 0 < 4096 * m := by omega
  go_enter Try.func9, Try.ntmps9
  go_wp2
  go_ret
  exact ⟨by simp, rfl⟩
theorem whole9no (A : Option Addr) (n c : Nat) (w : World) (h : n % 4096 ≠ 0 ∨ n = 0) (h2 : n ≤ 1228800) : Calls Try.prog 9 #[.slice A n c] w fun e w' => e = .returned (.bool false) ∧ w = w' := by
  by_cases h0 : n = 0
  · subst h0
    clear h
    go_enter Try.func9, Try.ntmps9
    go_wp2
    go_ret
    exact ⟨rfl, rfl⟩
  · have hp : 0 < n := by omega
    have hq : ((n : Int) % 4096 == 0) = false := by simp; omega
    clear h
    go_enter Try.func9, Try.ntmps9
    go_wp2
    go_ret
    exact ⟨rfl, rfl⟩
theorem level12 (x : Nat) (w : World) (h : x ≤ 1000) : Calls Try.prog 12 #[.int .i64 x] w fun e w' => e = .returned (.int .i64 (4096 * ((x + 127) / 128) : Nat)) ∧ w = w' := by
  go_enter Try.func12, Try.ntmps12
  go_wp2
  go_ret
  exact ⟨ret_int (by omega), rfl⟩
/-- Blocks of a beginning are those of the whole. -/
theorem hashes_take (A B C D : Int) (dv : List Int) (k : Nat) : hashes A B C D (dv.take (4096 * k)) k = hashes A B C D dv k := by
  have key : ∀ j, j ≤ k → hashes A B C D (dv.take (4096 * k)) j = hashes A B C D dv j := by
    intro j
    induction j with
    | zero => intro _; rfl
    | succ j ih =>
      intro hj
      rw [hashes_succ, hashes_succ, ih (by omega)]
      congr 2
      unfold block
      rw [List.drop_take, List.take_take, Nat.min_eq_left (by omega)]
  exact key k (Nat.le_refl _)
theorem hashes_pre (A B C D : Int) (dv : List Int) (k m : Nat) (h : k ≤ m) : ∃ r, hashes A B C D dv m = hashes A B C D dv k ++ r := by
  induction m with
  | zero => obtain rfl : k = 0 := by omega
            exact ⟨[], by simp⟩
  | succ m ih =>
    by_cases hk : k = m + 1
    · subst hk; exact ⟨[], by simp⟩
    · obtain ⟨r, hr⟩ := ih (by omega)
      rw [hashes_succ, hr]
      exact ⟨r ++ hashOf A B C D (block dv m), by simp⟩
theorem level_pre (A B C D : Int) (dv : List Int) (k m : Nat) (h : k ≤ m) : ∃ r, level A B C D dv m = hashes A B C D dv k ++ r := by
  obtain ⟨r, hr⟩ := hashes_pre A B C D dv k m h
  unfold level padB
  rw [hr, List.append_assoc]
  exact ⟨_, rfl⟩
/-- What a tree's end tells: the slice, where its last level begins, and the bytes there. -/
theorem tree_end {A B C D : Int} {dv : List Int} {k m : Nat} {w w' : World} {v : Value} {P : List Int} (h : Row w v (P ++ level A B C D dv m) w') (hm : 1 ≤ m) (hk : k ≤ m) :
    ∃ g c la, v = .slice (some ⟨g, 0, none⟩) la c ∧ la = P.length + 4096 * ((m + 127) / 128) ∧ la ≤ c ∧ la ≤ 9223372036854775807 ∧ ∀ i, i < (hashes A B C D dv k).length → w'.cell? ⟨g, P.length + i, none⟩ = some (.int .u8 ((hashes A B C D dv k).getD i 0)) := by
  have hl := level_len A B C D dv m
  obtain ⟨g, c, e, hc, hcell⟩ := row_at h (by rw [List.length_append]; omega)
  obtain ⟨r, hr⟩ := level_pre A B C D dv k m hk
  refine ⟨g, c, _, e, by rw [List.length_append, hl], hc, ?_, fun i hi => ?_⟩
  · obtain ⟨A', c', e', _, hC⟩ := Kd.R_reads h.1
    exact Kd.C_max hC
  · have hg : (hashes A B C D dv k)[i]? = some ((hashes A B C D dv k).getD i 0) := by rw [List.getD_eq_getElem?_getD, List.getElem?_eq_getElem hi]; rfl
    refine hcell (P.length + i) _ ?_
    rw [hr, List.getElem?_append_right (by omega), Nat.add_sub_cancel_left, List.getElem?_append_left hi]
    exact hg
set_option maxHeartbeats 4000000 in
set_option maxRecDepth 100000 in
theorem law5in (A B C D : Int) (ad : Addr) (c m k : Nat) (dv : List Int) (w : World) (hd : LiesAt ad dv w) (hl : dv.length = 4096 * m) (hi : InBytes dv) (hm1 : 1 ≤ m) (hm2 : m ≤ 300) (hk1 : 1 ≤ k) (hk2 : k ≤ m) (hc : 4096 * m ≤ c) :
    Calls Try.prog 5 #[.agg #[.int .u64 A, .int .u64 B, .int .u64 C, .int .u64 D], .slice (some ad) (4096 * m : Nat) c, .int .i64 k] w fun e w' => e = .returned (.bool true) ∧ Below w.heap.size w w' := by
  have HDL := Lib.hid hd
  have HL := Lib.hid hl
  have HI := Lib.hid hi
  have F8 := Lib.hid (fun W => fair8 (some ad) (4096 * m) c W (by omega))
  have F9 := Lib.hid (fun W => whole9 (some ad) m c W hm1 (by omega))
  have FA := Lib.hid (fun W (hb : Below w.heap.size w W) => dup11 ad c (4096 * k) (dv.take (4096 * k)) W ((hd.take _).later hb) (by rw [List.length_take]; omega) (by omega) (by omega) (by omega))
  have FB := Lib.hid (fun W (hb : Below w.heap.size w W) => dup11 ad c (4096 * m) dv W (hd.later hb) hl (by omega) (by omega) (by omega))
  have TA := Lib.hid (fun g cc W (h : Lies g 0 (dv.take (4096 * k)) W) (hc : 4096 * k ≤ cc) => tree10 A B C D (dv.take (4096 * k)) k g cc W hk1 (by omega) (by rw [List.length_take]; omega) (fun x hx => hi x (List.mem_of_mem_take hx)) h hc)
  have TB := Lib.hid (fun g cc W (h : Lies g 0 dv W) (hc : 4096 * m ≤ cc) => tree10 A B C D dv m g cc W hm1 hm2 hl hi h hc)
  clear hd hl hi
  have b1 : ((4096 * m : Nat) : Int) ≤ 2147483647 := by omega
  have b2 : ¬ ((k : Int) < 1) := by omega
  have b3 : ((4096 * m : Nat) : Int) / 4096 = (m : Int) := by omega
  have b4 : ¬ ((m : Int) < (k : Int)) := by omega
  have b5 : (k : Int) * 4096 = ((4096 * k : Nat) : Int) := by omega
  have b6 : 4096 * k ≤ c := by omega
  go_enter Try.func5, Try.ntmps5
  go_wp2_with (first | (go_at_call 8; (with_reducible refine (F8.out _).mono ?_); rintro e w' ⟨rfl, rfl⟩) | (go_at_call 9; (with_reducible refine (F9.out _).mono ?_); rintro e w' ⟨rfl, rfl⟩))
  have HW := Lib.hid (show Below w.heap.size w (w.alloc (.cells #[.int .u64 A, .int .u64 B, .int .u64 C, .int .u64 D] 32)).drew from below_drew (below_alloc (Below.refl _ _) _))
  have hc0 : (w.alloc (.cells #[.int .u64 A, .int .u64 B, .int .u64 C, .int .u64 D] 32)).cell? ⟨w.heap.size, 0, none⟩ = some (.int .u64 A) := by simp
  have hc1 : (w.alloc (.cells #[.int .u64 A, .int .u64 B, .int .u64 C, .int .u64 D] 32)).cell? ⟨w.heap.size, 1, none⟩ = some (.int .u64 B) := by simp
  have hc2 : (w.alloc (.cells #[.int .u64 A, .int .u64 B, .int .u64 C, .int .u64 D] 32)).cell? ⟨w.heap.size, 2, none⟩ = some (.int .u64 C) := by simp
  have hc3 : (w.alloc (.cells #[.int .u64 A, .int .u64 B, .int .u64 C, .int .u64 D] 32)).cell? ⟨w.heap.size, 3, none⟩ = some (.int .u64 D) := by simp
  generalize w.alloc (.cells #[.int .u64 A, .int .u64 B, .int .u64 C, .int .u64 D] 32) = W1 at *
  generalize w.heap.size = bx at hc0 hc1 hc2 hc3 ⊢
  have HBD := Lib.hid (show Dig bx A B C D W1.drew from ⟨hc0, hc1, hc2, hc3⟩)
  obtain ⟨n5, h5⟩ : ∃ n5, n5 = 4096 * k := ⟨_, rfl⟩
  have h5w : IntKind.i64.wrap ((k : Int) * 4096) = (n5 : Int) := by rw [IntWalk.i64_in _ (by omega)] ; omega
  have h5a : (0 : Int) ≤ (n5 : Int) := by omega
  have h5b : (n5 : Int) ≤ (c : Int) := by omega
  have HTK := Lib.hid (show hashes A B C D (dv.take n5) k = hashes A B C D dv k by rw [h5]; exact hashes_take A B C D dv k)
  rw [← h5] at FA TA
  clear h5 b5 b6
  go_region_held3 (fun w' => w'.cell? ⟨bx, 0, none⟩ = some (.int .u64 A) ∧ w'.cell? ⟨bx, 1, none⟩ = some (.int .u64 B) ∧ w'.cell? ⟨bx, 2, none⟩ = some (.int .u64 C) ∧ w'.cell? ⟨bx, 3, none⟩ = some (.int .u64 D))
    (first | exact Q3.out | exact Q2.out | go_keep)
    (first | (go_at_call 11; (with_reducible refine (FA.out _ HW.out).mono ?_); rintro e w2 ⟨g1, c1, rfl, hc1, hl1, hb⟩; have C1 := Lib.hid hc1; have L1 := Lib.hid hl1; have B2 := Lib.hid hb; have Q2 := Lib.hid (HBD.out.later hb); clear hc1 hl1 hb) | (go_at_call 10; (with_reducible refine (TA.out g1 c1 _ L1.out C1.out).mono ?_); rintro e w3 ⟨va, Pa, rfl, hr⟩; have R3 := Lib.hid hr; have Q3 := Lib.hid (Q2.out.later hr.2); clear hr))
  have k1 := below_then HW.out HW.out.size B2.out
  have k2 := below_then k1 k1.size R3.out.2
  have HW3 := Lib.hid (show Below w.heap.size w w3.drew from below_drew k2)
  have HB3 := Lib.hid (show Dig bx A B C D w3.drew from Q3.out)
  obtain ⟨hc0, hc1, hc2, hc3⟩ := Q3.out
  clear k1 k2
  go_wp2
  go_region_held3 (fun w' => w'.cell? ⟨bx, 0, none⟩ = some (.int .u64 A) ∧ w'.cell? ⟨bx, 1, none⟩ = some (.int .u64 B) ∧ w'.cell? ⟨bx, 2, none⟩ = some (.int .u64 C) ∧ w'.cell? ⟨bx, 3, none⟩ = some (.int .u64 D))
    (first | exact Q5.out | exact Q4.out | go_keep)
    (first | (go_at_call 11; (with_reducible refine (FB.out _ HW3.out).mono ?_); rintro e w4 ⟨g4, c4, rfl, hc4, hl4, hb⟩; have C4 := Lib.hid hc4; have L4 := Lib.hid hl4; have B4 := Lib.hid hb; have Q4 := Lib.hid (HB3.out.later hb); clear hc4 hl4 hb) | (go_at_call 10; (with_reducible refine (TB.out g4 c4 _ L4.out C4.out).mono ?_); rintro e w5 ⟨vb, Pb, rfl, hr⟩; have R5 := Lib.hid hr; have Q5 := Lib.hid (Q4.out.later hr.2); clear hr))
  have k3 := below_then HW3.out HW3.out.size B4.out
  have HW5 := Lib.hid (below_then k3 k3.size R5.out.2)
  have B35 := Lib.hid (show Below w3.heap.size w3 w5 from below_then (below_then (below_drew (Below.refl _ _)) (Nat.le_refl _) B4.out) B4.out.size R5.out.2)
  clear k3
  obtain ⟨ga, ca, la, rfl, hla, hca, hma, hcella⟩ := tree_end R3.out hk1 (Nat.le_refl k)
  obtain ⟨gb, cb, lb, rfl, hlb, hcb, hmb, hcellb⟩ := tree_end R5.out hm1 hk2
  rw [HTK.out] at hcella
  clear HTK TA FA TB FB
  have HA := Lib.hid (fun i hi => pw_cell_below B35.out (hcella i hi))
  have HB := Lib.hid hcellb
  have HLEN := Lib.hid (hashes_len A B C D dv k)
  clear hcella hcellb
  generalize hashes A B C D dv k = hs at HA HB HLEN
  generalize Pa.length = pa at hla HA
  generalize Pb.length = pb at hlb HB
  obtain ⟨xa, hxa⟩ : ∃ xa, xa = 4096 * ((k + 127) / 128) := ⟨_, rfl⟩
  obtain ⟨xb, hxb⟩ : ∃ xb, xb = 4096 * ((m + 127) / 128) := ⟨_, rfl⟩
  have LV := Lib.hid (fun W => level12 k W (by omega))
  have LVm := Lib.hid (fun W => level12 m W (by omega))
  have hxa1 : 32 * k ≤ xa := by omega
  have hxb1 : 32 * k ≤ xb := by omega
  rw [← hxa] at hla LV
  rw [← hxb] at hlb LVm
  clear hxa hxb
  have e1 : IntKind.i64.wrap ((la : Int) - (xa : Int)) = (pa : Int) := by rw [IntWalk.i64_in _ (by omega)]; omega
  have e2 : IntKind.i64.wrap ((lb : Int) - (xb : Int)) = (pb : Int) := by rw [IntWalk.i64_in _ (by omega)]; omega
  have e3 : (xa : Int) ≤ (la : Int) := by omega
  have e4 : (xb : Int) ≤ (lb : Int) := by omega
  have e5 : pa ≤ la := by omega
  have e6 : pb ≤ lb := by omega
  have e7 : pa < ca := by omega
  have e8 : pb < cb := by omega
  obtain ⟨n32, h32⟩ : ∃ n32, n32 = 32 * k := ⟨_, rfl⟩
  have e9 : IntKind.i64.wrap (32 * (k : Int)) = (n32 : Int) := by rw [IntWalk.i64_in _ (by omega)]; omega
  have ea : n32 ≤ la - pa := by omega
  have eb : n32 ≤ lb - pb := by omega
  have ec : n32 ≤ ca - pa := by omega
  have ed : n32 ≤ cb - pb := by omega
  have hv1 := fun N => run_convert_bytes_arg (P := Try.prog) (w5.drewN N) 27 5 Try.underlying27 Try.underlying5 ga pa n32 (ca - pa) hs (by rw [HLEN.out, h32]) (fun i hi => HA.out i (by rw [HLEN.out, ← h32]; exact hi)) 9 Try.underlying9
  have hv2 := fun N => run_convert_bytes_arg (P := Try.prog) (w5.drewN N) 27 5 Try.underlying27 Try.underlying5 gb pb n32 (cb - pb) hs (by rw [HLEN.out, h32]) (fun i hi => HB.out i (by rw [HLEN.out, ← h32]; exact hi)) 9 Try.underlying9
  generalize strOfNums hs = S1 at hv1 hv2
  have q1 : (S1.toList == S1.toList) = true := by simp
  have HV1 := Lib.hid hv1
  have HV2 := Lib.hid hv2
  clear h32 hla hlb hv1 hv2
  go_wp2_with (first | (go_at_call 12; first | ((with_reducible refine (LV.out _).mono ?_); rintro e w' ⟨rfl, rfl⟩) | ((with_reducible refine (LVm.out _).mono ?_); rintro e w' ⟨rfl, rfl⟩)))
  have hv1 := HV1.out
  have hv2 := HV2.out
  go_quiet (fail)
  go_wp2
  go_ret
  exact ⟨rfl, pw_below_drewN HW5.out _⟩
set_option maxHeartbeats 1000000 in
theorem law5big (d : Value) (A0 : Option Addr) (n c : Nat) (x : Int) (w : World) (hd : d.cells.toList.length = 4) (hn : n ≤ 9223372036854775807) (h : 1228800 < n) (hdv : ∃ A B C D : Int, d = .agg #[.int .u64 A, .int .u64 B, .int .u64 C, .int .u64 D]) :
    Calls Try.prog 5 #[d, .slice A0 n c, .int .i64 x] w fun e w' => e = .returned (.bool true) ∧ Below w.heap.size w w' := by
  obtain ⟨A, B, C, D, rfl⟩ := hdv
  clear hd
  have F8 := Lib.hid (fun W => fair8no A0 n c W (by omega))
  go_enter Try.func5, Try.ntmps5
  go_wp2_with (first | (go_at_call 8; (with_reducible refine (F8.out _).mono ?_); rintro e w' ⟨rfl, rfl⟩))
  all_goals (go_ret; exact ⟨rfl, below_alloc (Below.refl _ _) _⟩)
set_option maxHeartbeats 1000000 in
theorem law5not (A B C D : Int) (A0 : Option Addr) (n c : Nat) (x : Int) (w : World) (hn : n ≤ 1228800) (h : n % 4096 ≠ 0 ∨ n = 0) :
    Calls Try.prog 5 #[.agg #[.int .u64 A, .int .u64 B, .int .u64 C, .int .u64 D], .slice A0 n c, .int .i64 x] w fun e w' => e = .returned (.bool true) ∧ Below w.heap.size w w' := by
  have F8 := Lib.hid (fun W => fair8 A0 n c W (by omega))
  have F9 := Lib.hid (fun W => whole9no A0 n c W h hn)
  clear h
  go_enter Try.func5, Try.ntmps5
  go_wp2_with (first | (go_at_call 8; (with_reducible refine (F8.out _).mono ?_); rintro e w' ⟨rfl, rfl⟩) | (go_at_call 9; (with_reducible refine (F9.out _).mono ?_); rintro e w' ⟨rfl, rfl⟩))
  go_ret; exact ⟨rfl, below_alloc (Below.refl _ _) _⟩
set_option maxHeartbeats 1000000 in
theorem law5off (A B C D : Int) (A0 : Option Addr) (m c : Nat) (x : Int) (w : World) (hm1 : 1 ≤ m) (hm2 : m ≤ 300) (h : x < 1 ∨ (m : Int) < x) :
    Calls Try.prog 5 #[.agg #[.int .u64 A, .int .u64 B, .int .u64 C, .int .u64 D], .slice A0 (4096 * m : Nat) c, .int .i64 x] w fun e w' => e = .returned (.bool true) ∧ Below w.heap.size w w' := by
  have F8 := Lib.hid (fun W => fair8 A0 (4096 * m) c W (by omega))
  have F9 := Lib.hid (fun W => whole9 A0 m c W hm1 (by omega))
  have b1 : ((4096 * m : Nat) : Int) ≤ 2147483647 := by omega
  have b3 : ((4096 * m : Nat) : Int) / 4096 = (m : Int) := by omega
  by_cases h1 : x < 1
  · clear h
    go_enter Try.func5, Try.ntmps5
    go_wp2_with (first | (go_at_call 8; (with_reducible refine (F8.out _).mono ?_); rintro e w' ⟨rfl, rfl⟩) | (go_at_call 9; (with_reducible refine (F9.out _).mono ?_); rintro e w' ⟨rfl, rfl⟩))
    go_ret; exact ⟨rfl, below_alloc (Below.refl _ _) _⟩
  · have h2 : (m : Int) < x := by omega
    clear h
    go_enter Try.func5, Try.ntmps5
    go_wp2_with (first | (go_at_call 8; (with_reducible refine (F8.out _).mono ?_); rintro e w' ⟨rfl, rfl⟩) | (go_at_call 9; (with_reducible refine (F9.out _).mono ?_); rintro e w' ⟨rfl, rfl⟩))
    go_ret; exact ⟨rfl, below_alloc (Below.refl _ _) _⟩
theorem law5 (A B C D : Int) (A0 : Option Addr) (n c : Nat) (x : Int) (dv : List Int) (w : World) (hr : BReads A0 n dv w) (hn : n ≤ 9223372036854775807) (hc : n ≤ c) (hi : InBytes dv) :
    Calls Try.prog 5 #[.agg #[.int .u64 A, .int .u64 B, .int .u64 C, .int .u64 D], .slice A0 n c, .int .i64 x] w fun e w' => e = .returned (.bool true) ∧ Below w.heap.size w w' := by
  by_cases h1 : n ≤ 1228800
  · by_cases h2 : n % 4096 ≠ 0 ∨ n = 0
    · exact law5not A B C D A0 n c x w h1 h2
    · obtain ⟨m, rfl⟩ : ∃ m, n = 4096 * m := ⟨n / 4096, by omega⟩
      by_cases h3 : x < 1 ∨ (m : Int) < x
      · exact law5off A B C D A0 m c x w (by omega) (by omega) h3
      · obtain ⟨k, rfl⟩ : ∃ k : Nat, x = (k : Int) := ⟨x.toNat, by omega⟩
        obtain ⟨hl, hc2⟩ := hr
        obtain ⟨ad, rfl, hcell⟩ := hc2 (by omega)
        exact law5in A B C D ad c m k dv w hcell hl hi (by omega) (by omega) (by omega) (by omega) hc
  · exact law5big _ A0 n c x w rfl hn (by omega) ⟨A, B, C, D, rfl⟩
open Go.Joins

open Go.ChangeShapes Go.WideShapes Go.ChangeAt
theorem own : ownKnob Try.prog.godebug = none := by kernel_rfl
theorem laidOut : laidOutB Try.prog = true := by kernel_rfl
theorem readable5 : ∀ t ∈ Try.f5.params.toList, Try.prog.readableRec t = true ∧ t < Try.prog.types.size := by
  have h : (Try.f5.params.toList.all fun t => Try.prog.readableRec t && decide (t < Try.prog.types.size)) = true := by kernel_rfl
  intro t ht
  have := List.all_eq_true.1 h t ht
  simpa using this
set_option maxRecDepth 100000 in
theorem lifted (os : Os) (started : os.Started) (H : Type) (enc : TypeId × Value → H) :
    ReturnsInHanded {} Try.checked os 5 .any (Rows.fnVerityGrowsSpec.pre6 enc Try.prog Try.f5 Rows.fnVerityGrowsRow.domain false) (Rows.fnVerityGrowsSpec.post enc Try.prog Try.f5 false true false false) := by
  refine Adapter.law_lifted (C := Try.checked) own started (by kernel_rfl) Try.func5
    (ChangeSpec.witness6 (enc := enc) (C := Try.checked) false ⟨#[], #[.agg #[.int .u64 0, .int .u64 0, .int .u64 0, .int .u64 0], .slice none 0 0, .int .i64 0], []⟩ 8 (by kernel_rfl) (by kernel_rfl) (by kernel_rfl) (by kernel_rfl))
    laidOut readable5 (tb := 4) (by kernel_rfl) (by kernel_rfl) rfl ?_ ?_
  · intro ds hds
    rw [show Try.f5.params.size = 3 from by kernel_rfl] at hds
    match ds, hds with
    | [d1, d2, d3], _ => rfl
  · intro W base args ds p hval hA _ _
    rw [Try.params5] at hA hval
    obtain ⟨v0, vs0, d0, ds0, p0, q0, hargs, rfl, rfl, h0, r0⟩ := trodAll_cons hA
    obtain ⟨v1, vs1, d1, ds1, p1, q1, rfl, rfl, rfl, h1, r1⟩ := trodAll_cons r0
    obtain ⟨v2, vs2, d2, ds2, p2, q2, rfl, rfl, rfl, h2, r2⟩ := trodAll_cons r1
    obtain ⟨rfl, rfl, rfl⟩ := trodAll_nil r2
    obtain rfl : args = #[v0, v1, v2] := by cases args; simp_all
    obtain ⟨c0, c1, c2, c3, y0, y1, y2, y3, m, rfl, rfl, rfl, hy0, hy1, hy2, hy3⟩ := open_agg4 Try.underlying32 (by kernel_rfl) (by kernel_rfl) (hval 0 32 v0 rfl rfl) h0
    obtain ⟨A, e0, rfl, wa⟩ := DataW.trod_int Try.underlying25 hy0
    obtain ⟨B, e1, rfl, wb⟩ := DataW.trod_int Try.underlying25 hy1
    obtain ⟨C, e2, rfl, wc⟩ := DataW.trod_int Try.underlying25 hy2
    obtain ⟨D, e3, rfl, wd⟩ := DataW.trod_int Try.underlying25 hy3
    simp at e0 e1 e2 e3
    subst e0 e1 e2 e3
    obtain ⟨x, rfl, rfl, rfl, w0⟩ := open_int Try.underlying3 (hval 2 3 v2 rfl rfl) h2
    obtain ⟨a0, len, cap, rfl⟩ := okWide_slice Try.underlying27 (hval 1 27 v1 rfl rfl)
    obtain ⟨fuel, hf⟩ := h1
    rcases Go.ChangeShapes.open_ints Try.underlying27 Try.underlying5 (by kernel_rfl) hf with ⟨hcs, hx⟩ | ⟨a, len', cap', zs, hcs, _, hl, hm, hz, hx, hcell, hwz⟩
    · simp [Value.cells] at hcs
      obtain ⟨rfl, rfl, rfl⟩ := hcs
      exact law5 A B C D none 0 0 x [] W ⟨rfl, fun h => absurd h (by omega)⟩ (by omega) (by omega) (fun x hx => by cases hx)
    · simp [Value.cells] at hcs
      obtain ⟨rfl, rfl, rfl⟩ := hcs
      unfold maxLen at hm
      have hzl : len ≤ zs.length := by rw [hz]; split <;> omega
      refine law5 A B C D (some a) len cap x (zs.take len) W ⟨by rw [List.length_take]; omega, fun _ => ⟨a, rfl, fun j x hj => ?_⟩⟩ (by omega) hl (fun x hx => ?_)
      · have hlt := (List.getElem?_eq_some_iff.1 hj).1
        rw [List.length_take] at hlt
        rw [List.getElem?_take, if_pos (by omega)] at hj
        have h := hcell j (by omega)
        rw [List.getD_eq_getElem?_getD, hj] at h
        exact h
      · have hw := hwz x (List.mem_of_mem_take hx)
        have : 0 ≤ x ∧ x ≤ 255 := by simpa [Lit.wf, IntKind.min, IntKind.max, IntKind.bits, IntKind.signed] using hw
        omega
theorem over : Rows.fnVerityGrowsRow.holds Try.pinned (OpenSpec.ofChange Rows.fnVerityGrowsSpec) :=
  OpenClaim.holds_of_wide 5 Try.f5 rfl rfl rfl rfl rfl rfl rfl ⟨rfl, rfl, rfl, rfl, rfl⟩ rfl rfl rfl rfl rfl (by kernel_rfl) Try.func5 (by kernel_rfl)
    (of_decide_eq_true (by kernel_rfl)) (by unfold Func.isWrapper; first | (rw [if_pos (by decide +kernel)]; kernel_rfl) | (rw [if_neg (by decide +kernel)]; exact ⟨rfl, rfl⟩))
    (fun os started H enc _ => lifted os started H enc)
theorem holds : Rows.FnVerityGrowsSaid := over
#print axioms holds
end Go.Proofs.Ytbakmlhjfjjfoaa.Vg
