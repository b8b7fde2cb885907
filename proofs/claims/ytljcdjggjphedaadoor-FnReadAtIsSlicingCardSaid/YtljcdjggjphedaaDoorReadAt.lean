/- Proved: for every file, place, number and place of the handle FnReadAtIsSlicing answers true: reading at a place gives what lies there, up to the end, and leaves the handle. -/
import Derived.Test.YtljcdjggjphedaaDoorRows
import Derived.Test.YtljcdjggjphedaaDoorAdapter
import Derived.Test.YtljcdjggjphedaaDoorCards
import Derived.Test.YtljcdjggjphedaaDoorTie
import Derived.SevenTiedAt
import Derived.ChangeSame
import Derived.ChangeArms
import Derived.OpenShut
import Derived.Test.YtljcdjggjphedaaDoorHm
import Derived.ChangeSlices
import Derived.Lib.SmallJoins
import Derived.Test.YtljcdjggjphedaaDoorHl
import Derived.Test.YtljcdjggjphedaaDoorHp
import Derived.IntWalk
import Derived.Deep.QuietTactic
import Derived.BigQuiet
import Derived.Lib.QuoteBits
namespace Go.Proofs.YtljcdjggjphedaaDoor.Ra
open Go.RowKit Go.Proofs.YtljcdjggjphedaaDoorW.PrintWords Go.Proofs.YtljcdjggjphedaaDoorW.PrintLast Go.Proofs.YtljcdjggjphedaaDoorW.PrintMore
open Go.Proofs.YtljcdjggjphedaaDoor.PFnHandleScript Go.Proofs.YtljcdjggjphedaaDoor.Hd
set_option linter.unusedVariables false
set_option linter.unusedSimpArgs false
theorem does_readat {A : Nat → Addr} {h : Hnd} {n : Nod} {data : List Int} {s : S26} (m : Nat) (hop : s.f0 = 13) (hN : s.f9 = m) (hm : m ≤ 1000000) (hl : data.length ≤ 1000000) (hp : h.cl = false → 0 ≤ s.f7) : Does A h n data s (ans (rdE h.cl data.length s.f7 m) 0 0 (rdD h.cl data s.f7 m)) h n data := by
  intro f d base v W F hS hf hd Ad cd hC hc
  rw [hop, hN]
  exact on_readat_any F m _ _ h _ _ rfl (rdD_len _ _ _ _) hm s.f7 (readat_spec A F hS hf hd m hm hl s.f7 hp) (fun w2 hM => kind_rd A h.cl data.length s.f7 m w2 ((hS.moves hM (F.tch hf hd) (Nat.le_trans hf (Nat.le_of_lt (blk_lt F.hf)))).sent)) s.f8 s.f1 s.f2 s.f3 s.f4 s.f5 Ad s.f6.length cd
theorem byte_cell {W : World} {A : Option Addr} {n : Nat} {b : List Int} (h : (Kd.int .u8).C W A n b) (i : Nat) (hi : i < n) : ∃ ad, A = some ad ∧ True := by
  obtain ⟨ad, e, _⟩ := h.2.2 (by omega)
  exact ⟨ad, e, trivial⟩
theorem wrapI (a n : Nat) (h : a + n < 9223372036854775808) : IntKind.i64.wrap ((a : Int) + n) = (a : Int) + n := by
  have := Go.Lib.wrap_i64_small (a + n) h
  rwa [Int.natCast_add] at this
theorem mid_of {W : World} {ad0 : Addr} {md cd a m n : Nat} {data : List Int} (h : (Kd.int .u8).C W (some ad0) md data) (hcd : md ≤ cd) (ha : a < md) (hm : m = min n (md - a)) : (Kd.int .u8).C W (some (ad0.add a)) m ((data.drop a).take n) := by
  have hl := h.1
  subst hl
  have h2 := Kd.C_mid (lo := a) (hi := a + m) h (by omega) (by omega) hcd
  have e : (data.take (a + m)).drop a = (data.drop a).take n := by
    rw [List.drop_take, show a + m - a = m by omega]
    apply List.take_eq_take_iff.2
    rw [List.length_drop]
    omega
  have e2 : ((data.drop a).take n).length = m := by rw [List.length_take, List.length_drop]; omega
  rw [e, e2, if_neg (by omega)] at h2
  have e3 : Option.map (fun x : Addr => x.add (a * (Kd.int IntKind.u8).sz)) (some ad0) = some (ad0.add a) := by
    show some (ad0.add (a * 1)) = _
    rw [Nat.mul_one]
  rw [e3] at h2
  exact h2
def nd : Nod := ⟨⟨#[47, 102]⟩, .map none, false, 268435456, 0⟩
def hnd (ro : Bool) (sk : Nat) : Nat → Hnd
  | 0 => ⟨0, 0, false, ro⟩
  | _ => ⟨sk, 0, false, ro⟩
def anss (data : List Int) (a n sk : Nat) : Nat → S33
  | 0 => ans 0 0 sk []
  | 1 => ans (rdE false data.length a n) 0 0 (rdD false data a n)
  | _ => ans 0 0 sk []
theorem script (w : World) (A : Nat → Addr) (hS : Sent A w) (data : List Int) (Ad : Option Addr) (md cd a n sk : Nat) (ro : Bool) (hD : Kd.C (Kd.int .u8) w Ad md data) (hm : md ≤ 4096) (ha : a ≤ 10000) (hn : n ≤ 10000) (hsk : sk ≤ 10000) :
    ∀ (W : World) (g : Nat), Below w.heap.size w W → W.heap[g]? = some (.cells #[.int .i64 16, .string ⟨#[]⟩, .string ⟨#[]⟩, .int .i64 0, .int .i64 0, .int .i64 0, .slice none 0 0, .int .i64 sk, .int .i64 0, .int .i64 0, .int .i64 13, .string ⟨#[]⟩, .string ⟨#[]⟩, .int .i64 0, .int .i64 0, .int .i64 0, .slice none 0 0, .int .i64 a, .int .i64 0, .int .i64 n, .int .i64 16, .string ⟨#[]⟩, .string ⟨#[]⟩, .int .i64 0, .int .i64 0, .int .i64 0, .slice none 0 0, .int .i64 0, .int .i64 1, .int .i64 0] 26 (0, 0)) →
    Calls Tryd.prog 13 #[.slice Ad md cd, .bool ro, .slice (some ⟨g, 0, none⟩) 3 3] W fun e w' => ∃ ad c1 A2 c2 A3 c3, e = .returned (.tuple #[.slice (some ad) 3 c1, .slice A2 md c2]) ∧ w'.cell? ⟨ad.block, ad.off + 2, none⟩ = some (.int .i64 sk) ∧ w'.cell? ⟨ad.block, ad.off + 12 + 2, none⟩ = some (.int .i64 sk) ∧
      w'.cell? (ad.add 6) = some (.int .i64 (rdE false data.length a n)) ∧ w'.cell? ⟨ad.block, ad.off + 6 + 3, none⟩ = some (.slice A3 (rdD false data a n).length c3) ∧ (∃ A4 n4 c4 A5 n5 c5 z1 z2, w'.cell? ⟨ad.block, ad.off + 6 + 1, none⟩ = some (.int .i64 z1) ∧ w'.cell? ⟨ad.block, ad.off + 6 + 2, none⟩ = some (.int .i64 z2) ∧ w'.cell? ⟨ad.block, ad.off + 6 + 4, none⟩ = some (.slice A4 n4 c4) ∧ w'.cell? ⟨ad.block, ad.off + 6 + 5, none⟩ = some (.slice A5 n5 c5)) ∧
      (Kd.int .u8).C w' A3 (rdD false data a n).length (rdD false data a n) ∧ 3 ≤ c1 ∧ (Kd.int .u8).C w' A2 md data ∧ md ≤ c2 ∧ Below W.heap.size W w' := by
  intro W g hbw hg
  have hdl := hD.1
  refine (handle13 W A (SentB.of (hS.later hbw)) data Ad md cd (Kd.C_below hD hbw) (by omega) ro _ _ 3 3
      (built26 [(stp 16 sk 0 0 [], stpCs 16 sk 0 0 (.slice none 0 0)), (stp 13 a 0 n [], stpCs 13 a 0 n (.slice none 0 0)), (stp 16 0 1 0 [], stpCs 16 0 1 0 (.slice none 0 0))] _ 26 hg rfl (by intro p hp; simp at hp; rcases hp with rfl | rfl | rfl <;> exact ⟨rfl, stp_nil _ _ _ _ _⟩) (by simp)) (by decide)
      (fun i => (hnd ro sk i, nd, data)) (anss data a n sk) rfl
      (fun i hi => by
        match i, hi with
        | 0, _ => exact does_seek (s := stp 16 sk 0 0 []) rfl rfl (by show _ ≤ (0 : Int); decide) (by show (0 : Int) ≤ _; decide) (by show _ ≤ (sk : Int); omega) (by show (sk : Int) ≤ _; omega) (by show data.length ≤ _; omega)
        | 1, _ => exact does_readat (s := stp 13 a 0 n []) n rfl rfl (by omega) (by show data.length ≤ _; omega) (fun _ => by show 0 ≤ (a : Int); omega)
        | 2, _ =>
          have := does_seek (A := A) (h := hnd ro sk 2) (n := nd) (data := data) (s := stp 16 0 1 0 []) rfl rfl (by show _ ≤ (sk : Int); omega) (by show (sk : Int) ≤ _; omega) (by decide) (by decide) (by omega)
          have e : seekTo (hnd ro sk 2).pos data.length (stp 16 0 1 0 []).f7 (stp 16 0 1 0 []).f8 = sk := by show (sk : Int) + 0 = sk; omega
          rw [e] at this
          exact this)
      (by show data.length ≤ _; omega)).mono ?_
  rintro e w' ⟨A1, c1, A2, c2, he, hk, hc1, h2, hl, hb⟩
  obtain ⟨ad, A3, c3, A4, c4, A5, c5, eA, p0, p1, p2, p3, p4, p5, l3, g3, _⟩ := at_T33 hk 1 (by omega) (by omega)
  obtain ⟨ad0, _, _, _, _, _, _, eA0, _, _, s0, _⟩ := at_T33 hk 0 (by omega) (by omega)
  obtain ⟨ad2, _, _, _, _, _, _, eA2, _, _, s2, _⟩ := at_T33 hk 2 (by omega) (by omega)
  subst eA
  obtain rfl := Option.some.inj eA0
  obtain rfl := Option.some.inj eA2
  subst hdl
  exact ⟨ad, c1, A2, c2, A3, c3, he, s0, s2, p0, p3, ⟨_, _, _, _, _, _, _, _, p1, p2, p4, p5⟩, g3, hc1, h2, hl, hb⟩
set_option maxHeartbeats 2000000 in
set_option maxRecDepth 100000 in
theorem law7a (w : World) (A : Nat → Addr) (hS : Sent A w) (data : List Int) (Ad : Option Addr) (md cd a n sk : Nat) (ro : Bool) (hD : Kd.C (Kd.int .u8) w Ad md data) (hcd : md ≤ cd) (hm : md ≤ 4096) (ha : a ≤ 10000) (hn : n ≤ 10000) (hsk : sk ≤ 10000) (hq : md < a) :
    Calls Tryd.prog 7 #[.slice Ad md cd, .bool ro, .int .i64 a, .int .i64 n, .int .i64 sk] w fun e w' => e = .returned (.bool true) ∧ Below w.heap.size w w' := by
  have HD := Lib.hid hD
  have HL := Lib.hid hD.1
  have hE : rdE false data.length a n = 5 := by rw [HL.out]; unfold rdE; simp; omega
  have hR : rdD false data a n = [] := by unfold rdD; rw [hE]; rfl
  have ho := script w A hS data Ad md cd a n sk ro hD hm ha hn hsk
  rw [hE, hR] at ho
  have HO := Lib.hid ho
  clear hD hS hE hR ho
  have b1 : (md : Int) ≤ 2147483647 := by omega
  have b2 : (md : Int) ≤ 4096 := by omega
  have b3 : ¬ ((a : Int) < 0) := by omega
  have b4 : (a : Int) ≤ 10000 := by omega
  have b5 : ¬ ((n : Int) < 0) := by omega
  have b6 : (n : Int) ≤ 10000 := by omega
  have b7 : ¬ ((sk : Int) < 0) := by omega
  have b8 : (sk : Int) ≤ 10000 := by omega
  have n1 : (md : Int) < (a : Int) := by omega
  go_enter Tryd.func7, Tryd.ntmps7
  go_wp2_with (first | (go_at_call 13; (refine (HO.out _ _ ?_ ?_).mono ?_); (repeat (first | exact Below.refl _ _ | apply below_alloc | apply below_drew)); (exact blk_at_ rfl); rintro e w1 ⟨ad, c1, A2, c2, A3, c3, rfl, k0, k2, k1, k3, ⟨A4, n4, c4, A5, n5, c5, z1, z2, q1, q2, q4, q5⟩, hg3, hc1, hg2, hc2, hbw⟩; have HC2 := Lib.hid hg2; have HC3 := Lib.hid hg3; have k1b : w1.cell? ⟨ad.block, ad.off + 6, none⟩ = some (.int .i64 5) := k1; have HB := Lib.hid (below_then (below_alloc (Below.refl _ _) _) (Nat.le_of_lt (by simp)) hbw : Below w.heap.size w w1); have cv2 := Kd.C_string (dst := 9) Tryd.underlying22 Tryd.underlying5 Tryd.underlying9 hg2 (c := c2); have cv1 := Kd.C_string (dst := 9) (P := Tryd.prog) Tryd.underlying22 Tryd.underlying5 Tryd.underlying9 (Kd.C_below HD.out HB.out) (c := cd); clear hg2 hg3 hbw))
  go_ret
  exact ⟨rfl, below_then HB.out HB.out.size (below_alloc (Below.refl _ _) _)⟩
set_option maxHeartbeats 2000000 in
set_option maxRecDepth 100000 in
theorem law7b (w : World) (A : Nat → Addr) (hS : Sent A w) (data : List Int) (Ad : Option Addr) (md cd a n sk : Nat) (ro : Bool) (hD : Kd.C (Kd.int .u8) w Ad md data) (hcd : md ≤ cd) (hm : md ≤ 4096) (ha : a ≤ 10000) (hn : n ≤ 10000) (hsk : sk ≤ 10000) (hq : a = md) (hp : 0 < n) :
    Calls Tryd.prog 7 #[.slice Ad md cd, .bool ro, .int .i64 a, .int .i64 n, .int .i64 sk] w fun e w' => e = .returned (.bool true) ∧ Below w.heap.size w w' := by
  have HD := Lib.hid hD
  have HL := Lib.hid hD.1
  have hE : rdE false data.length a n = 4 := by rw [HL.out]; unfold rdE; simp; omega
  have hR : rdD false data a n = [] := by unfold rdD; rw [hE]; rfl
  have ho := script w A hS data Ad md cd a n sk ro hD hm ha hn hsk
  rw [hE, hR] at ho
  have HO := Lib.hid ho
  clear hD hS hE hR ho
  have b1 : (md : Int) ≤ 2147483647 := by omega
  have b2 : (md : Int) ≤ 4096 := by omega
  have b3 : ¬ ((a : Int) < 0) := by omega
  have b4 : (a : Int) ≤ 10000 := by omega
  have b5 : ¬ ((n : Int) < 0) := by omega
  have b6 : (n : Int) ≤ 10000 := by omega
  have b7 : ¬ ((sk : Int) < 0) := by omega
  have b8 : (sk : Int) ≤ 10000 := by omega
  subst hq
  have n3 : (0 : Int) < (n : Int) := by omega
  go_enter Tryd.func7, Tryd.ntmps7
  go_wp2_with (first | (go_at_call 13; (refine (HO.out _ _ ?_ ?_).mono ?_); (repeat (first | exact Below.refl _ _ | apply below_alloc | apply below_drew)); (exact blk_at_ rfl); rintro e w1 ⟨ad, c1, A2, c2, A3, c3, rfl, k0, k2, k1, k3, ⟨A4, n4, c4, A5, n5, c5, z1, z2, q1, q2, q4, q5⟩, hg3, hc1, hg2, hc2, hbw⟩; have HC2 := Lib.hid hg2; have HC3 := Lib.hid hg3; have k1b : w1.cell? ⟨ad.block, ad.off + 6, none⟩ = some (.int .i64 4) := k1; have HB := Lib.hid (below_then (below_alloc (Below.refl _ _) _) (Nat.le_of_lt (by simp)) hbw : Below w.heap.size w w1); have cv2 := Kd.C_string (dst := 9) Tryd.underlying22 Tryd.underlying5 Tryd.underlying9 hg2 (c := c2); have cv1 := Kd.C_string (dst := 9) (P := Tryd.prog) Tryd.underlying22 Tryd.underlying5 Tryd.underlying9 (Kd.C_below HD.out HB.out) (c := cd); clear hg2 hg3 hbw))
  go_ret
  exact ⟨rfl, below_then HB.out HB.out.size (below_alloc (Below.refl _ _) _)⟩
set_option maxHeartbeats 2000000 in
set_option maxRecDepth 100000 in
theorem law7c (w : World) (A : Nat → Addr) (hS : Sent A w) (data : List Int) (Ad : Option Addr) (md cd a n sk : Nat) (ro : Bool) (hD : Kd.C (Kd.int .u8) w Ad md data) (hcd : md ≤ cd) (hm : md ≤ 4096) (ha : a ≤ 10000) (hn : n ≤ 10000) (hsk : sk ≤ 10000) (hq : a < md) :
    Calls Tryd.prog 7 #[.slice Ad md cd, .bool ro, .int .i64 a, .int .i64 n, .int .i64 sk] w fun e w' => e = .returned (.bool true) ∧ Below w.heap.size w w' := by
  have HD := Lib.hid hD
  have HL := Lib.hid hD.1
  have hE : rdE false data.length a n = 0 := by rw [HL.out]; unfold rdE; simp; omega
  have hR : rdD false data a n = (data.drop a).take n := by unfold rdD; rw [hE]; rfl
  have ho := script w A hS data Ad md cd a n sk ro hD hm ha hn hsk
  rw [hE, hR] at ho
  obtain ⟨m, hm0⟩ : ∃ m, m = ((data.drop a).take n).length := ⟨_, rfl⟩
  rw [← hm0] at ho
  rw [List.length_take, List.length_drop, HL.out] at hm0
  have HM := Lib.hid hm0
  clear hm0
  obtain ⟨ad0, rfl, _⟩ := byte_cell HD.out 0 (by omega)
  have CM := Lib.hid (mid_of HD.out hcd (m := m) (n := n) (by omega) HM.out)
  obtain ⟨hi, hhi⟩ : ∃ hi, hi = a + m := ⟨_, rfl⟩
  have hx : (if IntKind.i64.wrap ((a : Int) + n) < md then IntKind.i64.wrap ((a : Int) + n) else (md : Int)) = (hi : Int) := by
    have := HM.out
    have e : IntKind.i64.wrap ((a : Int) + n) = (a : Int) + n := wrapI a n (by omega)
    rw [e]
    split <;> omega
  have hx1 : (a : Int) ≤ (hi : Int) := by omega
  have hx2 : (hi : Int) ≤ (cd : Int) := by have := HM.out; omega
  have hx5 : a ≤ hi := by omega
  have hx6 : hi ≤ cd := by omega
  have hx3 : ¬ (cd = a) := by omega
  have hx4 : hi - a = m := by omega
  clear hhi
  have HO := Lib.hid ho
  clear hD hS hE hR ho
  have b1 : (md : Int) ≤ 2147483647 := by omega
  have b2 : (md : Int) ≤ 4096 := by omega
  have b3 : ¬ ((a : Int) < 0) := by omega
  have b4 : (a : Int) ≤ 10000 := by omega
  have b5 : ¬ ((n : Int) < 0) := by omega
  have b6 : (n : Int) ≤ 10000 := by omega
  have b7 : ¬ ((sk : Int) < 0) := by omega
  have b8 : (sk : Int) ≤ 10000 := by omega
  have n1 : ¬ ((md : Int) < (a : Int)) := by omega
  have n2 : ¬ ((a : Int) = (md : Int)) := by omega
  go_enter Tryd.func7, Tryd.ntmps7
  go_wp2_with (first | (go_at_call 13; (refine (HO.out _ _ ?_ ?_).mono ?_); (repeat (first | exact Below.refl _ _ | apply below_alloc | apply below_drew)); (exact blk_at_ rfl); rintro e w1 ⟨ad, c1, A2, c2, A3, c3, rfl, k0, k2, k1, k3, ⟨A4, n4, c4, A5, n5, c5, z1, z2, q1, q2, q4, q5⟩, hg3, hc1, hg2, hc2, hbw⟩; have HC2 := Lib.hid hg2; have HC3 := Lib.hid hg3; have k1b : w1.cell? ⟨ad.block, ad.off + 6, none⟩ = some (.int .i64 0) := k1; have HB := Lib.hid (below_then (below_alloc (Below.refl _ _) _) (Nat.le_of_lt (by simp)) hbw : Below w.heap.size w w1); have cv2 := Kd.C_string (dst := 9) Tryd.underlying22 Tryd.underlying5 Tryd.underlying9 hg2 (c := c2); have cv1 := Kd.C_string (dst := 9) (P := Tryd.prog) Tryd.underlying22 Tryd.underlying5 Tryd.underlying9 (Kd.C_below HD.out HB.out) (c := cd); clear hg2 hg3 hbw))
  have c0 : (w1.alloc (.cells #[.int .i64 0, .int .i64 z1, .int .i64 z2, .slice A3 m c3, .slice A4 n4 c4, .slice A5 n5 c5] 33)).cell? ⟨w1.heap.size, 0, none⟩ = some (.int .i64 0) := by simp
  have c3' : (w1.alloc (.cells #[.int .i64 0, .int .i64 z1, .int .i64 z2, .slice A3 m c3, .slice A4 n4 c4, .slice A5 n5 c5] 33)).cell? ⟨w1.heap.size, 3, none⟩ = some (.slice A3 m c3) := by simp
  have BW := Lib.hid (below_alloc (Below.refl _ _) _ : Below w1.heap.size w1 (w1.alloc (.cells #[.int .i64 0, .int .i64 z1, .int .i64 z2, .slice A3 m c3, .slice A4 n4 c4, .slice A5 n5 c5] 33)))
  generalize (w1.alloc (.cells #[.int .i64 0, .int .i64 z1, .int .i64 z2, .slice A3 m c3, .slice A4 n4 c4, .slice A5 n5 c5] 33)) = W2 at *
  have e3 : ∀ q, (Sem.run Tryd.prog (convert 22 9 (.slice A3 m c3)) (W2.drewN q)) = .ok (.string (strOfNums ((data.drop a).take n))) (W2.drewN q) := fun q => Kd.C_string (P := Tryd.prog) (dst := 9) Tryd.underlying22 Tryd.underlying5 Tryd.underlying9 (Kd.C_drewN (Kd.C_below HC3.out BW.out) q) (c := c3)
  have e4 : ∀ q, (Sem.run Tryd.prog (convert 22 9 (.slice (some (ad0.add a)) m (cd - a))) (W2.drewN q)) = .ok (.string (strOfNums ((data.drop a).take n))) (W2.drewN q) := fun q => Kd.C_string (P := Tryd.prog) (dst := 9) Tryd.underlying22 Tryd.underlying5 Tryd.underlying9 (Kd.C_drewN (Kd.C_below (Kd.C_below CM.out HB.out) BW.out) q) (c := cd - a)
  clear cv1 cv2 k0 k1 k2 k3 k1b q1 q2 q4 q5
  go_quiet (fail)
  go_wp2_with fail
  go_ret
  exact ⟨rfl, below_then HB.out HB.out.size (pw_below_drewN BW.out _)⟩
  trace_state
set_option maxHeartbeats 2000000 in
set_option maxRecDepth 100000 in
theorem law7d (w : World) (A : Nat → Addr) (hS : Sent A w) (data : List Int) (Ad : Option Addr) (md cd a n sk : Nat) (ro : Bool) (hD : Kd.C (Kd.int .u8) w Ad md data) (hcd : md ≤ cd) (hm : md ≤ 4096) (ha : a ≤ 10000) (hn : n ≤ 10000) (hsk : sk ≤ 10000) (hq : a = md) (hp : n = 0) :
    Calls Tryd.prog 7 #[.slice Ad md cd, .bool ro, .int .i64 a, .int .i64 n, .int .i64 sk] w fun e w' => e = .returned (.bool true) ∧ Below w.heap.size w w' := by
  subst hq
  have HD := Lib.hid hD
  have HL := Lib.hid hD.1
  have hE : rdE false data.length a n = 0 := by rw [HL.out]; unfold rdE; simp; omega
  have hR : rdD false data a n = [] := by unfold rdD; rw [hE, hp]; simp
  have ho := script w A hS data Ad a cd a n sk ro hD hm ha hn hsk
  rw [hE, hR] at ho
  have HO := Lib.hid ho
  clear hD hS hE hR ho
  have b1 : (a : Int) ≤ 2147483647 := by omega
  have b2 : (a : Int) ≤ 4096 := by omega
  have b3 : ¬ ((a : Int) < 0) := by omega
  have b4 : (a : Int) ≤ 10000 := by omega
  have b5 : ¬ ((n : Int) < 0) := by omega
  have b6 : (n : Int) ≤ 10000 := by omega
  have b7 : ¬ ((sk : Int) < 0) := by omega
  have b8 : (sk : Int) ≤ 10000 := by omega
  have hx : (if IntKind.i64.wrap ((a : Int) + n) < a then IntKind.i64.wrap ((a : Int) + n) else (a : Int)) = (a : Int) := by rw [wrapI a n (by omega)]; split <;> omega
  have n3 : ¬ ((0 : Int) < (n : Int)) := by omega
  have hx2 : (a : Int) ≤ (cd : Int) := by omega
  have hpn := Lib.hid hp
  clear hp
  go_enter Tryd.func7, Tryd.ntmps7
  go_wp2_with (first | (go_at_call 13; (refine (HO.out _ _ ?_ ?_).mono ?_); (repeat (first | exact Below.refl _ _ | apply below_alloc | apply below_drew)); (exact blk_at_ rfl); rintro e w1 ⟨ad, c1, A2, c2, A3, c3, rfl, k0, k2, k1, k3, ⟨A4, n4, c4, A5, n5, c5, z1, z2, q1, q2, q4, q5⟩, hg3, hc1, hg2, hc2, hbw⟩; have HC2 := Lib.hid hg2; have HC3 := Lib.hid hg3; have k1b : w1.cell? ⟨ad.block, ad.off + 6, none⟩ = some (.int .i64 0) := k1; have HB := Lib.hid (below_then (below_alloc (Below.refl _ _) _) (Nat.le_of_lt (by simp)) hbw : Below w.heap.size w w1); have cv2 := Kd.C_string (dst := 9) Tryd.underlying22 Tryd.underlying5 Tryd.underlying9 hg2 (c := c2); have cv1 := Kd.C_string (dst := 9) (P := Tryd.prog) Tryd.underlying22 Tryd.underlying5 Tryd.underlying9 (Kd.C_below HD.out HB.out) (c := cd); clear hg2 hg3 hbw))
  have c0 : (w1.alloc (.cells #[.int .i64 0, .int .i64 z1, .int .i64 z2, .slice A3 0 c3, .slice A4 n4 c4, .slice A5 n5 c5] 33)).cell? ⟨w1.heap.size, 0, none⟩ = some (.int .i64 0) := by simp
  have c3' : (w1.alloc (.cells #[.int .i64 0, .int .i64 z1, .int .i64 z2, .slice A3 0 c3, .slice A4 n4 c4, .slice A5 n5 c5] 33)).cell? ⟨w1.heap.size, 3, none⟩ = some (.slice A3 0 c3) := by simp
  have BW := Lib.hid (below_alloc (Below.refl _ _) _ : Below w1.heap.size w1 (w1.alloc (.cells #[.int .i64 0, .int .i64 z1, .int .i64 z2, .slice A3 0 c3, .slice A4 n4 c4, .slice A5 n5 c5] 33)))
  generalize (w1.alloc (.cells #[.int .i64 0, .int .i64 z1, .int .i64 z2, .slice A3 0 c3, .slice A4 n4 c4, .slice A5 n5 c5] 33)) = W2 at *
  have e4 : ∀ A c q, (Sem.run Tryd.prog (convert 22 9 (.slice A 0 c)) (W2.drewN q)) = .ok (.string (strOfNums [])) (W2.drewN q) := fun A c q => Kd.C_string (P := Tryd.prog) (dst := 9) Tryd.underlying22 Tryd.underlying5 Tryd.underlying9 (show (Kd.int .u8).C (W2.drewN q) A 0 [] from ⟨rfl, by omega, fun h => absurd h (Nat.lt_irrefl 0)⟩) (c := c)
  clear cv1 cv2 k0 k1 k2 k3 k1b q1 q2 q4 q5
  go_quiet (fail)
  go_wp2_with fail
  all_goals
    go_ret
    exact ⟨rfl, below_then HB.out HB.out.size (pw_below_drewN BW.out _)⟩
set_option maxHeartbeats 2000000 in
set_option maxRecDepth 100000 in
theorem law7 (w : World) (A : Nat → Addr) (hS : Sent A w) (data : List Int) (Ad : Option Addr) (md cd : Nat) (ro : Bool) (a n sk : Int) (hD : Kd.C (Kd.int .u8) w Ad md data) (hcd : md ≤ cd) :
    Calls Tryd.prog 7 #[.slice Ad md cd, .bool ro, .int .i64 a, .int .i64 n, .int .i64 sk] w fun e w' => e = .returned (.bool true) ∧ Below w.heap.size w w' := by
  by_cases hg : md ≤ 4096 ∧ 0 ≤ a ∧ a ≤ 10000 ∧ 0 ≤ n ∧ n ≤ 10000 ∧ 0 ≤ sk ∧ sk ≤ 10000
  · obtain ⟨h1, h2, h3, h4, h5, h6, h7⟩ := hg
    obtain ⟨a, rfl⟩ := Int.eq_ofNat_of_zero_le h2
    obtain ⟨n, rfl⟩ := Int.eq_ofNat_of_zero_le h4
    obtain ⟨sk, rfl⟩ := Int.eq_ofNat_of_zero_le h6
    by_cases q1 : md < a
    · exact law7a w A hS data Ad md cd a n sk ro hD hcd h1 (by omega) (by omega) (by omega) q1
    · by_cases q2 : a < md
      · exact law7c w A hS data Ad md cd a n sk ro hD hcd h1 (by omega) (by omega) (by omega) q2
      · by_cases q3 : n = 0
        · exact law7d w A hS data Ad md cd a n sk ro hD hcd h1 (by omega) (by omega) (by omega) (by omega) q3
        · exact law7b w A hS data Ad md cd a n sk ro hD hcd h1 (by omega) (by omega) (by omega) (by omega) (by omega)
  · have hx : (2147483647 < (md : Int)) ∨ ((md : Int) ≤ 2147483647 ∧ 4096 < (md : Int)) ∨ ((md : Int) ≤ 2147483647 ∧ (md : Int) ≤ 4096 ∧ a < 0) ∨ ((md : Int) ≤ 2147483647 ∧ (md : Int) ≤ 4096 ∧ 0 ≤ a ∧ 10000 < a) ∨ ((md : Int) ≤ 2147483647 ∧ (md : Int) ≤ 4096 ∧ 0 ≤ a ∧ a ≤ 10000 ∧ n < 0) ∨ ((md : Int) ≤ 2147483647 ∧ (md : Int) ≤ 4096 ∧ 0 ≤ a ∧ a ≤ 10000 ∧ 0 ≤ n ∧ 10000 < n) ∨ ((md : Int) ≤ 2147483647 ∧ (md : Int) ≤ 4096 ∧ 0 ≤ a ∧ a ≤ 10000 ∧ 0 ≤ n ∧ n ≤ 10000 ∧ sk < 0) ∨ ((md : Int) ≤ 2147483647 ∧ (md : Int) ≤ 4096 ∧ 0 ≤ a ∧ a ≤ 10000 ∧ 0 ≤ n ∧ n ≤ 10000 ∧ 0 ≤ sk ∧ 10000 < sk) := by omega
    clear hg hD hS
    rcases hx with h1 | ⟨h1, h2⟩ | ⟨h1, h2, h3⟩ | ⟨h1, h2, h3, h4⟩ | ⟨h1, h2, h3, h4, h5⟩ | ⟨h1, h2, h3, h4, h5, h6⟩ | ⟨h1, h2, h3, h4, h5, h6, h7⟩ | ⟨h1, h2, h3, h4, h5, h6, h7, h8⟩
    all_goals
      go_enter Tryd.func7, Tryd.ntmps7
      go_wp2_with fail
      go_ret
      exact ⟨rfl, Below.refl _ _⟩
theorem bytes_of {W : World} {a : Addr} {zs : List Int} {len : Nat} (hcell : ∀ i, i < len → W.cell? (a.add i) = some (.int .u8 (zs.getD i 0))) (hz : len ≤ zs.length) (hl : len ≤ 9223372036854775807) : (Kd.int .u8).C W (some a) len (zs.take len) := by
  refine ⟨by rw [List.length_take]; omega, hl, fun _ => ⟨a, rfl, fun j p hj => ⟨[.int .u8 p], rfl, rfl, fun i u hi => ?_⟩⟩⟩
  have hlt := (List.getElem?_eq_some_iff.1 hj).1
  rw [List.length_take] at hlt
  rw [List.getElem?_take, if_pos (by omega)] at hj
  have h := hcell j (by omega)
  rw [List.getD_eq_getElem?_getD, hj] at h
  match i, hi with
  | 0, hi =>
    simp at hi
    subst hi
    rw [show j * (Kd.int .u8).sz + 0 = j from by show j * 1 + 0 = j; omega]
    exact h

open Go.ChangeShapes Go.WideShapes Go.ChangeAt
theorem own : ownKnob Tryd.prog.godebug = none := by kernel_rfl
theorem laidOut : laidOutB Tryd.prog = true := by kernel_rfl
theorem readable7 : ∀ t ∈ Tryd.f7.params.toList, Tryd.prog.readableRec t = true ∧ t < Tryd.prog.types.size := by
  have h : (Tryd.f7.params.toList.all fun t => Tryd.prog.readableRec t && decide (t < Tryd.prog.types.size)) = true := by kernel_rfl
  intro t ht
  have := List.all_eq_true.1 h t ht
  simpa using this
def laidL : List (String × DataW Unit) := [("pub-marram/pub/afero/inner/os.ErrExist", Rows.laid_pub_marram_pub_afero_inner_os_ErrExist), ("pub-marram/pub/afero/inner/os.ErrNotExist", Rows.laid_pub_marram_pub_afero_inner_os_ErrNotExist), ("pub-marram/pub/afero/inner/os.ENOENT", Rows.laid_pub_marram_pub_afero_inner_os_ENOENT), ("pub-marram/pub/afero/inner/os.ENOTDIR", Rows.laid_pub_marram_pub_afero_inner_os_ENOTDIR), ("pub-marram/pub/afero/inner/os.EPERM", Rows.laid_pub_marram_pub_afero_inner_os_EPERM), ("pub-marram/pub/afero/inner/os.EIO", Rows.laid_pub_marram_pub_afero_inner_os_EIO), ("pub-marram/pub/afero/inner/os.EBADFD", Rows.laid_pub_marram_pub_afero_inner_os_EBADFD), ("io.EOF", Rows.laid_io_EOF), ("io.ErrUnexpectedEOF", Rows.laid_io_ErrUnexpectedEOF), ("pub-marram/pub/afero/mem.ErrFileClosed", Rows.laid_pub_marram_pub_afero_mem_ErrFileClosed), ("pub-marram/pub/afero/mem.ErrOutOfRange", Rows.laid_pub_marram_pub_afero_mem_ErrOutOfRange)]
set_option maxRecDepth 100000 in
theorem lifted (os : Os) (started : os.Started) (H : Type) (enc : TypeId × Value → H) :
    ReturnsInHanded {} Tryd.checked os 7 .any (fun w args => (Rows.fnReadAtIsSlicingSpec.pre enc Tryd.prog Tryd.f7 Rows.fnReadAtIsSlicingRow.domain false w args ∧ laidMetH Tryd.prog laidL w) ∧ sizedMet enc Tryd.prog Tryd.f7 (OpenSpec.ofChange Rows.fnReadAtIsSlicingSpec) false w args) (Rows.fnReadAtIsSlicingSpec.post enc Tryd.prog Tryd.f7 false true false false) := by
  refine Adapter.law_lifted_tied (C := Tryd.checked) (X := fun w => laidMetH Tryd.prog laidL w) (fun _ _ hh h => h.of_heap hh) own started (by kernel_rfl) Tryd.func7
    (ChangeSpec.witness_shaped (enc := enc) (C := Tryd.checked) (os := os) (X := fun w _ => laidMetH Tryd.prog laidL w) false (World.laidAll Tryd.prog os laidL) #[.slice none 0 0, .bool false, .int .i64 0, .int .i64 0, .int .i64 0] 8 (World.laidAll_os _ _ _)
      (World.shaped_of_ZipB (by kernel_rfl) (by kernel_rfl)) (by kernel_rfl) (by kernel_rfl) (by kernel_rfl)
      (by rw [MakeChecks.laidMetH_plain _ _ _ (by kernel_rfl)]; exact laidMet_laidAll _ (by kernel_rfl) (by kernel_rfl)))
    laidOut readable7 (tb := 4) (by kernel_rfl) (by kernel_rfl) rfl ?_ ?_
  · intro ds hds
    rw [show Tryd.f7.params.size = 5 from by kernel_rfl] at hds
    match ds, hds with
    | [d1, d2, d3, d4, d5], _ => rfl
  · intro W base args ds p hval hA _ _ hL0
    have hL : laidMet Tryd.prog laidL W := by rw [MakeChecks.laidMetH_plain _ _ _ (by kernel_rfl)] at hL0; exact hL0
    rw [Tryd.params7] at hA hval
    obtain ⟨v0, vs0, d0, ds0, p0, q0, hargs, rfl, rfl, h0, r0⟩ := trodAll_cons hA
    obtain ⟨v1, vs1, d1, ds1, p1, q1, rfl, rfl, rfl, h1, r1⟩ := trodAll_cons r0
    obtain ⟨v2, vs2, d2, ds2, p2, q2, rfl, rfl, rfl, h2, r2⟩ := trodAll_cons r1
    obtain ⟨v3, vs3, d3, ds3, p3, q3, rfl, rfl, rfl, h3, r3⟩ := trodAll_cons r2
    obtain ⟨v4, vs4, d4, ds4, p4, q4, rfl, rfl, rfl, h4, r4⟩ := trodAll_cons r3
    obtain ⟨rfl, rfl, rfl⟩ := trodAll_nil r4
    obtain rfl : args = #[v0, v1, v2, v3, v4] := by cases args; simp_all
    obtain ⟨A, hS⟩ := sent_of_laid (show laidMet Tryd.prog errsL W from hL)
    obtain ⟨bo, rfl, rfl, rfl⟩ := open_bool Tryd.underlying4 (hval 1 4 v1 rfl rfl) h1
    obtain ⟨x, rfl, rfl, rfl, wx⟩ := open_int Tryd.underlying3 (hval 2 3 v2 rfl rfl) h2
    obtain ⟨y, rfl, rfl, rfl, wy⟩ := open_int Tryd.underlying3 (hval 3 3 v3 rfl rfl) h3
    obtain ⟨z, rfl, rfl, rfl, wz⟩ := open_int Tryd.underlying3 (hval 4 3 v4 rfl rfl) h4
    obtain ⟨a0, len, cap, rfl⟩ := okWide_slice Tryd.underlying22 (hval 0 22 v0 rfl rfl)
    obtain ⟨fuel, hf⟩ := h0
    rcases Go.ChangeShapes.open_ints Tryd.underlying22 Tryd.underlying5 (by kernel_rfl) hf with ⟨hcs, hx⟩ | ⟨a, len', cap', zs, hcs, _, hl, hm, hz, hx, hcell, hwz⟩
    · simp [Value.cells] at hcs
      obtain ⟨rfl, rfl, rfl⟩ := hcs
      exact law7 W A hS [] none 0 0 bo x y z (Kd.C_nil _ _) (Nat.le_refl _)
    · simp [Value.cells] at hcs
      obtain ⟨rfl, rfl, rfl⟩ := hcs
      unfold maxLen at hm
      have hzl : len ≤ zs.length := by rw [hz]; split <;> omega
      exact law7 W A hS (zs.take len) (some a) len cap bo x y z (bytes_of (fun i hi => hcell i (by omega)) hzl (by omega)) hl

theorem over : Rows.fnReadAtIsSlicingRow.holds Tryd.pinned (OpenSpec.ofChange Rows.fnReadAtIsSlicingSpec) :=
  OpenClaim.holds_of_wide 7 Tryd.f7 rfl rfl rfl rfl rfl rfl rfl ⟨rfl, rfl, rfl, rfl, rfl⟩ rfl rfl rfl rfl rfl (by kernel_rfl) Tryd.func7 (by kernel_rfl)
    (of_decide_eq_true (by kernel_rfl)) (by unfold Func.isWrapper; first | (rw [if_pos (by decide +kernel)]; kernel_rfl) | (rw [if_neg (by decide +kernel)]; exact ⟨rfl, rfl⟩))
    (fun os started H enc _ => lifted os started H enc)
theorem card_holds : Rows.FnReadAtIsSlicingCardSaid :=
  Claim7.holds_tied_plain_at .later [] [.sentinel, .sentinel, .sentinel, .sentinel, .sentinel, .sentinel, .sentinel, .sentinel, .sentinel, .sentinel, .sentinel] true (true, "082d05495341c122149ceada623044fc8a0a6c8a5b30945a55a332597f3648b7") true over (fun _ h => by cases h) (by kernel_rfl) (fun _ h => by cases h) fnReadAtIsSlicing_row_tie rfl ⟨rfl, rfl⟩ (by kernel_rfl) rfl
    (fun f fn hf hfn => by
      obtain rfl : f = 7 := Option.some.inj ((show Tryd.prog.funcNamed "pub-marram/laws.FnReadAtIsSlicing" = some 7 by kernel_rfl).symm.trans hf) |>.symm
      obtain rfl : fn = Tryd.f7 := (Option.some.inj (Tryd.func7.symm.trans hfn)).symm
      exact ⟨by kernel_rfl, fun j t ht => by
        rw [Tryd.params7] at ht
        have hm : t ∈ [22, 4, 3, 3, 3] := by simpa using Array.mem_of_getElem? ht
        have hall : ([22, 4, 3, 3, 3].all fun u => !Tryd.prog.wantsStandIn u) = true := by kernel_rfl
        exact (show Tryd.prog.wantsStandIn t = false by simpa using List.all_eq_true.1 hall t hm)⟩)
    (by kernel_rfl)
#print axioms card_holds
end Go.Proofs.YtljcdjggjphedaaDoor.Ra
