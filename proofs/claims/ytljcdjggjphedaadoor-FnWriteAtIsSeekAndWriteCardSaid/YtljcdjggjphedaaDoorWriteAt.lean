/- Proved: for every file, all bytes and every two places FnWriteAtIsSeekAndWrite answers true: writing at a place is seeking there and writing. -/
import Derived.Test.YtljcdjggjphedaaDoorRows
import Derived.Test.YtljcdjggjphedaaDoorAdapter
import Derived.Test.YtljcdjggjphedaaDoorCards
import Derived.Test.YtljcdjggjphedaaDoorTie
import Derived.SevenTiedAt
import Derived.ChangeSame
import Derived.ChangeArms
import Derived.OpenShut
import Derived.ChangeSlices
import Derived.Lib.SmallJoins
import Derived.Test.YtljcdjggjphedaaDoorHm
import Derived.Test.YtljcdjggjphedaaDoorHl
import Derived.Test.YtljcdjggjphedaaDoorHp
import Derived.Test.YtljcdjggjphedaaDoorBq
import Derived.Test.YtljcdjggjphedaaDoorPFnHandleScriptx5
import Derived.IntWalk
import Derived.Deep.QuietTactic
import Derived.BigQuiet
import Derived.Lib.QuoteBits
namespace Go.Proofs.YtljcdjggjphedaaDoor.Wa
open Go.RowKit Go.Proofs.YtljcdjggjphedaaDoorW.PrintWords Go.Proofs.YtljcdjggjphedaaDoorW.PrintLast Go.Proofs.YtljcdjggjphedaaDoorW.PrintMore
open Go.Proofs.YtljcdjggjphedaaDoor.PFnHandleScript Go.Proofs.YtljcdjggjphedaaDoor.Hd Go.Proofs.YtljcdjggjphedaaDoor.Bq
set_option linter.unusedVariables false
set_option linter.unusedSimpArgs false
theorem over_len (data b : List Int) (p : Nat) : (overB data p b).length ≤ data.length + p + b.length := by
  unfold overB
  simp only [List.length_append, List.length_take, List.length_replicate, List.length_drop]
  omega
def nd : Nod := ⟨⟨#[47, 102]⟩, .map none, false, 268435456, 0⟩
def h_ (x : Int) : Hnd := ⟨x, 0, false, false⟩
/-- Where the handle of the first script stands, and that of the second. -/
def hX (fr q : Int) : Nat → Hnd
  | 0 => h_ 0
  | 1 => h_ fr
  | _ => h_ q
def hY (fr p q : Int) : Nat → Hnd
  | 0 => h_ 0
  | 1 => h_ fr
  | 2 => h_ p
  | _ => h_ q
def dX (a b : List Int) : Nat → List Int
  | 0 => a
  | 1 => a
  | _ => b
def dY (a b : List Int) : Nat → List Int
  | 0 => a
  | 1 => a
  | 2 => a
  | _ => b
def yX (fr m q : Int) : Nat → S33
  | 0 => ans 0 0 fr []
  | 1 => ans 0 m 0 []
  | _ => ans 0 0 q []
def yY (fr p m q : Int) : Nat → S33
  | 0 => ans 0 0 fr []
  | 1 => ans 0 0 p []
  | 2 => ans 0 m 0 []
  | _ => ans 0 0 q []
theorem does_sk {A : Nat → Addr} {n : Nod} {data : List Int} (x : Int) (y : Nat) (hx1 : -4611686018427387904 ≤ x) (hx2 : x ≤ 4611686018427387904) (hy : y ≤ 100000) (hl : data.length ≤ 4611686018427387904) :
    Does A (h_ x) n data (stp 16 y 0 0 []) (ans 0 0 y []) (h_ y) n data :=
  does_seek (s := stp 16 y 0 0 []) rfl rfl hx1 hx2 (by show _ ≤ (y : Int); omega) (by show (y : Int) ≤ _; omega) hl
theorem does_wh {A : Nat → Addr} {n : Nod} {data : List Int} (x : Int) (hx1 : -4611686018427387904 ≤ x) (hx2 : x ≤ 4611686018427387904) (hl : data.length ≤ 4611686018427387904) :
    Does A (h_ x) n data (stp 16 0 1 0 []) (ans 0 0 x []) (h_ x) n data := by
  have := does_seek (A := A) (h := h_ x) (n := n) (data := data) (s := stp 16 0 1 0 []) rfl rfl hx1 hx2 (by decide) (by decide) hl
  have e : seekTo (h_ x).pos data.length (stp 16 0 1 0 []).f7 (stp 16 0 1 0 []).f8 = x := by show x + 0 = x; omega
  rw [e] at this
  exact this
theorem cellb {W W1 : World} {a : Addr} {v : Value} (h : W.cell? a = some v) (hb : Below W.heap.size W W1) : W1.cell? a = some v := by
  have hlt : a.block < W.heap.size := by
    rcases Nat.lt_or_ge a.block W.heap.size with hc | hc
    · exact hc
    · have hn : W.heap[a.block]? = none := Array.getElem?_eq_none hc
      simp [World.cell?, hn] at h
  rw [World.cell?_of_block (a := a) (hb.block a.block hlt)]
  exact h
theorem box_cells {WX w1 : World} (hb : Below WX.heap.size WX w1) {g t : Nat} {v0 v1 v2 v3 v4 v5 v6 v7 v8 v9 : Value} (h : WX.heap[g]? = some (.cells #[v0, v1, v2, v3, v4, v5, v6, v7, v8, v9] t (0, 0))) :
    w1.cell? ⟨g, 0, none⟩ = some v0 ∧ w1.cell? ⟨g, 1, none⟩ = some v1 ∧ w1.cell? ⟨g, 2, none⟩ = some v2 ∧ w1.cell? ⟨g, 3, none⟩ = some v3 ∧ w1.cell? ⟨g, 4, none⟩ = some v4 ∧ w1.cell? ⟨g, 5, none⟩ = some v5 ∧ w1.cell? ⟨g, 6, none⟩ = some v6 ∧ w1.cell? ⟨g, 7, none⟩ = some v7 ∧ w1.cell? ⟨g, 8, none⟩ = some v8 ∧ w1.cell? ⟨g, 9, none⟩ = some v9 := by
  have k := fun i => (blk_cell (blk_below h hb) i)
  exact ⟨k 0, k 1, k 2, k 3, k 4, k 5, k 6, k 7, k 8, k 9⟩
/-- An answer of a kind, a number and an offset, without bytes, where it lies. -/
def AnsA (W : World) (b o : Nat) (x : S33) : Prop := ∃ A3 c3 A4 c4 A5 c5, W.cell? ⟨b, o, none⟩ = some (.int .i64 x.f0) ∧ W.cell? ⟨b, o + 1, none⟩ = some (.int .i64 x.f1) ∧ W.cell? ⟨b, o + 2, none⟩ = some (.int .i64 x.f2) ∧ W.cell? ⟨b, o + 3, none⟩ = some (.slice A3 x.f3.length c3) ∧ W.cell? ⟨b, o + 4, none⟩ = some (.slice A4 x.f4.length c4) ∧ W.cell? ⟨b, o + 5, none⟩ = some (.slice A5 x.f5.length c5) ∧ (Kd.int .u8).C W A3 x.f3.length x.f3 ∧ x.f3.length ≤ c3 ∧ Kd.string.C W A4 x.f4.length x.f4 ∧ x.f4.length ≤ c4 ∧ k75.C W A5 x.f5.length x.f5 ∧ x.f5.length ≤ c5
theorem ans_at {W : World} {ad : Addr} {n : Nat} {xs : List S33} (h : k33.C W (some ad) n xs) (i : Nat) (hi : i < n) (hi0 : 0 < i) : AnsA W ad.block (ad.off + i * 6) (rd_T33 xs i) := by
  obtain ⟨ad', A3, c3, A4, c4, A5, c5, eA, p0, p1, p2, p3, p4, p5, l3, g3, l4, g4, l5, g5⟩ := at_T33 h i (by omega) (by omega)
  obtain rfl := Option.some.inj eA
  have e : ad.add ((i : Int).toNat * 6) = ⟨ad.block, ad.off + i * 6, none⟩ := by simp [Addr.add]; omega
  rw [e] at p0 p1 p2 p3 p4 p5
  exact ⟨A3, c3, A4, c4, A5, c5, p0, p1, p2, p3, p4, p5, g3, l3, g4, l4, g5, l5⟩
theorem scriptX (w : World) (A : Nat → Addr) (hS : Sent A w) (data : List Int) (Ad : Option Addr) (md cd : Nat) (bs : List Int) (Ab : Option Addr) (mb cb fr p : Nat) (hD : Kd.C (Kd.int .u8) w Ad md data) (hB : Kd.C (Kd.int .u8) w Ab mb bs) (hcb : mb ≤ cb) (hm : md ≤ 2000) (hb : mb ≤ 2000) (hf : fr ≤ 4096) (hp : p ≤ 4096) :
    ∀ (W : World) (g : Nat), Below w.heap.size w W → W.heap[g]? = some (.cells #[.int .i64 16, .string ⟨#[]⟩, .string ⟨#[]⟩, .int .i64 0, .int .i64 0, .int .i64 0, .slice none 0 0, .int .i64 fr, .int .i64 0, .int .i64 0, .int .i64 15, .string ⟨#[]⟩, .string ⟨#[]⟩, .int .i64 0, .int .i64 0, .int .i64 0, .slice Ab mb cb, .int .i64 p, .int .i64 0, .int .i64 0, .int .i64 16, .string ⟨#[]⟩, .string ⟨#[]⟩, .int .i64 0, .int .i64 0, .int .i64 0, .slice none 0 0, .int .i64 0, .int .i64 1, .int .i64 0] 26 (0, 0)) →
    Calls Tryd.prog 20 #[.slice Ad md cd, .slice (some ⟨g, 0, none⟩) 3 3] W fun e w' => ∃ ad c1 A2 c2, e = .returned (.tuple #[.slice (some ad) 3 c1, .slice A2 (overB data p bs).length c2, .bool true]) ∧ AnsA w' ad.block (ad.off + 6) (ans 0 mb 0 []) ∧ w'.cell? ⟨ad.block, ad.off + 12 + 2, none⟩ = some (.int .i64 ((p + mb : Nat) : Int)) ∧ 3 ≤ c1 ∧ (Kd.int .u8).C w' A2 (overB data p bs).length (overB data p bs) ∧ (overB data p bs).length ≤ c2 ∧ Below W.heap.size W w' := by
  intro W g hbw hg
  have hdl := hD.1
  have hbl := hB.1
  have hol := over_len data bs p
  refine (one20 W A (SentB.of (hS.later hbw)) data Ad md cd (Kd.C_below hD hbw) (by omega) _ _ 3 3
      (built26 [(stp 16 fr 0 0 [], stpCs 16 fr 0 0 (.slice none 0 0)), (stp 15 p 0 0 bs, stpCs 15 p 0 0 (.slice Ab mb cb)), (stp 16 0 1 0 [], stpCs 16 0 1 0 (.slice none 0 0))] _ 26 hg rfl (by intro p hp; simp at hp; rcases hp with rfl | rfl | rfl; exact ⟨rfl, stp_nil _ _ _ _ _⟩; exact ⟨rfl, stp_row _ _ _ _ _ _ _ _ _ hbl hcb (Kd.C_below hB hbw)⟩; exact ⟨rfl, stp_nil _ _ _ _ _⟩) (by simp)) (by decide)
      (fun i => (hX fr ((p + mb : Nat) : Int) i, nd, dX data (overB data p bs) i)) (yX fr mb ((p + mb : Nat) : Int)) rfl
      (fun i hi => by
        match i, hi with
        | 0, _ => exact does_sk 0 fr (by decide) (by decide) (by omega) (by show data.length ≤ _; omega)
        | 1, _ =>
          have := does_writeat (A := A) (h := h_ fr) (n := nd) (data := data) (s := stp 15 p 0 0 bs) p rfl rfl rfl rfl (by omega) (by show bs.length ≤ _; omega) (by omega)
          have e : ((p : Int) + (stp 15 p 0 0 bs).f6.length) = ((p + mb : Nat) : Int) := by show (p : Int) + bs.length = _; omega
          have e2 : ((stp 15 p 0 0 bs).f6.length : Int) = (mb : Int) := by show (bs.length : Int) = _; omega
          rw [e, e2] at this
          exact this
        | 2, _ => exact does_wh _ (by omega) (by omega) (by show (overB data p bs).length ≤ _; omega))
      (by show (overB data p bs).length ≤ _; omega)).mono ?_
  rintro e w' ⟨A1, c1, A2, c2, he, hk, hc1, h2, hl, hb⟩
  obtain ⟨ad, _, _, _, _, _, _, eA, _⟩ := at_T33 hk 1 (by omega) (by omega)
  subst eA
  have a1 := ans_at hk 1 (by omega) (by omega)
  obtain ⟨_, _, _, _, _, _, _, _, p2, _⟩ := ans_at hk 2 (by omega) (by omega)
  exact ⟨ad, c1, A2, c2, he, a1, p2, hc1, h2, hl, hb⟩
theorem scriptY (w : World) (A : Nat → Addr) (hS : Sent A w) (data : List Int) (Ad : Option Addr) (md cd : Nat) (bs : List Int) (Ab : Option Addr) (mb cb fr p : Nat) (hD : Kd.C (Kd.int .u8) w Ad md data) (hB : Kd.C (Kd.int .u8) w Ab mb bs) (hcb : mb ≤ cb) (hm : md ≤ 2000) (hb : mb ≤ 2000) (hf : fr ≤ 4096) (hp : p ≤ 4096) :
    ∀ (W : World) (g : Nat), Below w.heap.size w W → W.heap[g]? = some (.cells #[.int .i64 16, .string ⟨#[]⟩, .string ⟨#[]⟩, .int .i64 0, .int .i64 0, .int .i64 0, .slice none 0 0, .int .i64 fr, .int .i64 0, .int .i64 0, .int .i64 16, .string ⟨#[]⟩, .string ⟨#[]⟩, .int .i64 0, .int .i64 0, .int .i64 0, .slice none 0 0, .int .i64 p, .int .i64 0, .int .i64 0, .int .i64 14, .string ⟨#[]⟩, .string ⟨#[]⟩, .int .i64 0, .int .i64 0, .int .i64 0, .slice Ab mb cb, .int .i64 0, .int .i64 0, .int .i64 0, .int .i64 16, .string ⟨#[]⟩, .string ⟨#[]⟩, .int .i64 0, .int .i64 0, .int .i64 0, .slice none 0 0, .int .i64 0, .int .i64 1, .int .i64 0] 26 (0, 0)) →
    Calls Tryd.prog 20 #[.slice Ad md cd, .slice (some ⟨g, 0, none⟩) 4 4] W fun e w' => ∃ ad c1 A2 c2, e = .returned (.tuple #[.slice (some ad) 4 c1, .slice A2 (overB data p bs).length c2, .bool true]) ∧ AnsA w' ad.block (ad.off + 12) (ans 0 mb 0 []) ∧ w'.cell? ⟨ad.block, ad.off + 18 + 2, none⟩ = some (.int .i64 ((p + mb : Nat) : Int)) ∧ 4 ≤ c1 ∧ (Kd.int .u8).C w' A2 (overB data p bs).length (overB data p bs) ∧ (overB data p bs).length ≤ c2 ∧ Below W.heap.size W w' := by
  intro W g hbw hg
  have hdl := hD.1
  have hbl := hB.1
  have hol := over_len data bs p
  refine (one20 W A (SentB.of (hS.later hbw)) data Ad md cd (Kd.C_below hD hbw) (by omega) _ _ 4 4
      (built26 [(stp 16 fr 0 0 [], stpCs 16 fr 0 0 (.slice none 0 0)), (stp 16 p 0 0 [], stpCs 16 p 0 0 (.slice none 0 0)), (stp 14 0 0 0 bs, stpCs 14 0 0 0 (.slice Ab mb cb)), (stp 16 0 1 0 [], stpCs 16 0 1 0 (.slice none 0 0))] _ 26 hg rfl (by intro p hp; simp at hp; rcases hp with rfl | rfl | rfl | rfl; exact ⟨rfl, stp_nil _ _ _ _ _⟩; exact ⟨rfl, stp_nil _ _ _ _ _⟩; exact ⟨rfl, stp_row _ _ _ _ _ _ _ _ _ hbl hcb (Kd.C_below hB hbw)⟩; exact ⟨rfl, stp_nil _ _ _ _ _⟩) (by simp)) (by decide)
      (fun i => (hY fr p ((p + mb : Nat) : Int) i, nd, dY data (overB data p bs) i)) (yY fr p mb ((p + mb : Nat) : Int)) rfl
      (fun i hi => by
        match i, hi with
        | 0, _ => exact does_sk 0 fr (by decide) (by decide) (by omega) (by show data.length ≤ _; omega)
        | 1, _ => exact does_sk fr p (by omega) (by omega) (by omega) (by show data.length ≤ _; omega)
        | 2, _ =>
          have := does_write (A := A) (h := h_ p) (n := nd) (data := data) (s := stp 14 0 0 0 bs) p rfl rfl rfl rfl (by omega) (by show bs.length ≤ _; omega) (by omega)
          have e : ((p : Int) + (stp 14 0 0 0 bs).f6.length) = ((p + mb : Nat) : Int) := by show (p : Int) + bs.length = _; omega
          have e2 : ((stp 14 0 0 0 bs).f6.length : Int) = (mb : Int) := by show (bs.length : Int) = _; omega
          rw [e, e2] at this
          exact this
        | 3, _ => exact does_wh _ (by omega) (by omega) (by show (overB data p bs).length ≤ _; omega))
      (by show (overB data p bs).length ≤ _; omega)).mono ?_
  rintro e w' ⟨A1, c1, A2, c2, he, hk, hc1, h2, hl, hb⟩
  obtain ⟨ad, _, _, _, _, _, _, eA, _⟩ := at_T33 hk 1 (by omega) (by omega)
  subst eA
  have a1 := ans_at hk 2 (by omega) (by omega)
  obtain ⟨_, _, _, _, _, _, _, _, p2, _⟩ := ans_at hk 3 (by omega) (by omega)
  exact ⟨ad, c1, A2, c2, he, a1, p2, hc1, h2, hl, hb⟩
theorem same_ans (x : Int) : spec_SameAnswer.f 3 0 x 0 [] [] [] 0 x 0 [] [] [] = some true := by
  simp [spec_SameAnswer.f, spec_SameAnswer.j0, spec_SameAnswer.l0, spec_SameAnswer.l1]
set_option maxHeartbeats 2000000 in
set_option maxRecDepth 100000 in
theorem law9in (w : World) (A : Nat → Addr) (hS : Sent A w) (data : List Int) (Ad : Option Addr) (md cd : Nat) (bs : List Int) (Ab : Option Addr) (mb cb fr p : Nat) (hD : Kd.C (Kd.int .u8) w Ad md data) (hB : Kd.C (Kd.int .u8) w Ab mb bs) (hcb : mb ≤ cb) (hm : md ≤ 2000) (hb : mb ≤ 2000) (hf : fr ≤ 4096) (hp : p ≤ 4096) :
    Calls Tryd.prog 9 #[.slice Ad md cd, .slice Ab mb cb, .int .i64 fr, .int .i64 p] w fun e w' => e = .returned (.bool true) ∧ Below w.heap.size w w' := by
  have hx := scriptX w A hS data Ad md cd bs Ab mb cb fr p hD hB hcb hm hb hf hp
  have hy := scriptY w A hS data Ad md cd bs Ab mb cb fr p hD hB hcb hm hb hf hp
  have hw : IntKind.i64.wrap ((p : Int) + mb) = ((p + mb : Nat) : Int) := by
    have := Go.Lib.wrap_i64_small (p + mb) (by omega)
    rw [← this]
    push_cast
    rfl
  generalize p + mb = q at hx hy hw
  have HX := Lib.hid hx
  have HY := Lib.hid hy
  clear hx hy
  clear hS hD hB
  have b1 : (md : Int) ≤ 2147483647 := by omega
  have b2 : (md : Int) ≤ 2000 := by omega
  have b3 : (mb : Int) ≤ 2147483647 := by omega
  have b4 : (mb : Int) ≤ 2000 := by omega
  have b5 : ¬ ((fr : Int) < 0) := by omega
  have b6 : (fr : Int) ≤ 4096 := by omega
  have b7 : ¬ ((p : Int) < 0) := by omega
  have b8 : (p : Int) ≤ 4096 := by omega
  go_enter Tryd.func9, Tryd.ntmps9
  go_upto_region 7 with (first | (go_at_call 20; (refine (HX.out _ _ ?_ ?_).mono ?_); (repeat (first | exact Below.refl _ _ | apply below_alloc | apply below_drew)); (exact blk_at_ (by simp)); rintro e w1 ⟨ad, c1, A2, c2, rfl, ha1, ka1, hc1, hx2, hl2, hbw⟩; have AX := Lib.hid ha1; have CX := Lib.hid hx2; have HB := Lib.hid (below_then (below_alloc (below_alloc (below_alloc (Below.refl _ _) _) _) _) (by simp; omega) hbw : Below w.heap.size w w1); obtain ⟨ka0, kb0, kc0, kd0, ke0, kf0, kg0, kh0, ki0, kj0⟩ := box_cells hbw (blk_alloc (blk_alloc (blk_new _ _) _) _); obtain ⟨ka_, kb_, kc_, kd_, ke_, kf_, kg_, kh_, ki_, kj_⟩ := box_cells (g := w.heap.size + 1) hbw (blk_alloc (blk_at_ (by simp)) _); clear ha1 hx2 hbw))
  go_upto_region 8 with (first | (go_at_call 20; (refine (HY.out _ _ ?_ ?_).mono ?_); (repeat (first | with_reducible exact HB.out | apply below_alloc | apply below_drew)); (exact blk_at_ rfl); rintro e w2 ⟨ad2, c2_, A4, c4, rfl, ha2, ka2, hc2, hy2, hm2, hbw2⟩; have AY := Lib.hid ha2; have CY := Lib.hid hy2; have HB2 := Lib.hid hbw2; clear ha2 hy2 hbw2))
  clear ka0 kb0 kc0 kd0 ke0 kf0 kg0 kh0 ki0 kj0 ka_ kb_ kc_ kd_ ke_ kf_ kg_ kh_ ki_ kj_
  obtain ⟨A3, c3, A5, c5, A6, c6, e0, e1, e2, e3, e4, e5, g3, l3, g4, l4, g5, l5⟩ := AX.out
  obtain ⟨B3, d3, B5, d5, B6, d6, f0, f1, f2, f3, f4, f5, i3, j3, i4, j4, i5, j5⟩ := AY.out
  have B12 := Lib.hid (below_then (below_alloc (Below.refl _ _) _) (Nat.le_of_lt (by simp)) HB2.out : Below w1.heap.size w1 w2)
  have BN := Lib.hid (fun (n : BW w2) => (below_then B12.out B12.out.size n.b : Below w1.heap.size w1 n.1))
  have H19 := Lib.hid (fun (n : BW w2) => (spec_SameAnswer.calls 3 0 mb 0 A3 c3 [] A5 c5 [] A6 c6 [] 0 mb 0 B3 d3 [] B5 d5 [] B6 d6 [] true n.1 (Kd.C_below g3 (BN.out n)) l3 (Kd.C_below g4 (BN.out n)) l4 (Kd.C_below g5 (BN.out n)) l5 (Kd.C_below i3 n.b) j3 (Kd.C_below i4 n.b) j4 (Kd.C_below i5 n.b) j5 (same_ans _) : Calls Tryd.prog 19 #[.agg #[.int .i64 0, .int .i64 mb, .int .i64 0, .slice A3 0 c3, .slice A5 0 c5, .slice A6 0 c6], .agg #[.int .i64 0, .int .i64 mb, .int .i64 0, .slice B3 0 d3, .slice B5 0 d5, .slice B6 0 d6]] n.1 (fun e w' => e = .returned (.bool true) ∧ Below n.1.heap.size n.1 w')))
  have E0 : ∀ n : BW w2, n.1.cell? ⟨ad.block, ad.off + 6, none⟩ = some (.int .i64 0) := fun n => cellb e0 (BN.out n)
  have E1 : ∀ n : BW w2, n.1.cell? ⟨ad.block, ad.off + 6 + 1, none⟩ = some (.int .i64 mb) := fun n => cellb e1 (BN.out n)
  have E2 : ∀ n : BW w2, n.1.cell? ⟨ad.block, ad.off + 6 + 2, none⟩ = some (.int .i64 0) := fun n => cellb e2 (BN.out n)
  have E3 : ∀ n : BW w2, n.1.cell? ⟨ad.block, ad.off + 6 + 3, none⟩ = some (.slice A3 0 c3) := fun n => cellb e3 (BN.out n)
  have E4 : ∀ n : BW w2, n.1.cell? ⟨ad.block, ad.off + 6 + 4, none⟩ = some (.slice A5 0 c5) := fun n => cellb e4 (BN.out n)
  have E5 : ∀ n : BW w2, n.1.cell? ⟨ad.block, ad.off + 6 + 5, none⟩ = some (.slice A6 0 c6) := fun n => cellb e5 (BN.out n)
  have F0 : ∀ n : BW w2, n.1.cell? ⟨ad2.block, ad2.off + 12, none⟩ = some (.int .i64 0) := fun n => cellb f0 n.b
  have F1 : ∀ n : BW w2, n.1.cell? ⟨ad2.block, ad2.off + 12 + 1, none⟩ = some (.int .i64 mb) := fun n => cellb f1 n.b
  have F2 : ∀ n : BW w2, n.1.cell? ⟨ad2.block, ad2.off + 12 + 2, none⟩ = some (.int .i64 0) := fun n => cellb f2 n.b
  have F3 : ∀ n : BW w2, n.1.cell? ⟨ad2.block, ad2.off + 12 + 3, none⟩ = some (.slice B3 0 d3) := fun n => cellb f3 n.b
  have F4 : ∀ n : BW w2, n.1.cell? ⟨ad2.block, ad2.off + 12 + 4, none⟩ = some (.slice B5 0 d5) := fun n => cellb f4 n.b
  have F5 : ∀ n : BW w2, n.1.cell? ⟨ad2.block, ad2.off + 12 + 5, none⟩ = some (.slice B6 0 d6) := fun n => cellb f5 n.b
  have G1 : ∀ n : BW w2, n.1.cell? ⟨ad.block, ad.off + 12 + 2, none⟩ = some (.int .i64 q) := fun n => cellb ka1 (BN.out n)
  have G2 : ∀ n : BW w2, n.1.cell? ⟨ad2.block, ad2.off + 18 + 2, none⟩ = some (.int .i64 q) := fun n => cellb ka2 n.b
  clear e0 e1 e2 e3 e4 e5 f0 f1 f2 f3 f4 f5 ka1 ka2 g3 l3 g4 l4 g5 l5 i3 j3 i4 j4 i5 j5
  generalize overB data p bs = o at *
  have V1 : ∀ n : BW w2, (Sem.run Tryd.prog (convert 22 9 (.slice A2 o.length c2)) n.1) = .ok (.string (strOfNums o)) n.1 := fun n => Kd.C_string (P := Tryd.prog) (dst := 9) Tryd.underlying22 Tryd.underlying5 Tryd.underlying9 (Kd.C_below CX.out (BN.out n)) (c := c2)
  have V2 : ∀ n : BW w2, (Sem.run Tryd.prog (convert 22 9 (.slice A4 o.length c4)) n.1) = .ok (.string (strOfNums o)) n.1 := fun n => Kd.C_string (P := Tryd.prog) (dst := 9) Tryd.underlying22 Tryd.underlying5 Tryd.underlying9 (Kd.C_below CY.out n.b) (c := c4)
  have BF := Lib.hid (below_then HB.out HB.out.size B12.out)
  clear HX HY CX CY AX AY HB HB2 B12
  refine wp_region_below (by kernel_rfl) (by kernel_rfl) ?_
  repeat (go_big_quiet_step ((go_at_call 19; exact calls_below (H19.out _))))
  refine wpQuiet_nil ?_
  intro _ hw'
  obtain ⟨nq, hw''⟩ := hw'
  subst hw''
  go_wp2_with fail
  go_ret
  exact ⟨rfl, below_then BF.out BF.out.size nq.b⟩
set_option maxHeartbeats 2000000 in
set_option maxRecDepth 100000 in
theorem law9 (w : World) (A : Nat → Addr) (hS : Sent A w) (data : List Int) (Ad : Option Addr) (md cd : Nat) (bs : List Int) (Ab : Option Addr) (mb cb : Nat) (fr p : Int) (hD : Kd.C (Kd.int .u8) w Ad md data) (hB : Kd.C (Kd.int .u8) w Ab mb bs) (hcb : mb ≤ cb) :
    Calls Tryd.prog 9 #[.slice Ad md cd, .slice Ab mb cb, .int .i64 fr, .int .i64 p] w fun e w' => e = .returned (.bool true) ∧ Below w.heap.size w w' := by
  by_cases hg : md ≤ 2000 ∧ mb ≤ 2000 ∧ 0 ≤ fr ∧ fr ≤ 4096 ∧ 0 ≤ p ∧ p ≤ 4096
  · obtain ⟨h1, h2, h3, h4, h5, h6⟩ := hg
    obtain ⟨fr, rfl⟩ := Int.eq_ofNat_of_zero_le h3
    obtain ⟨p, rfl⟩ := Int.eq_ofNat_of_zero_le h5
    exact law9in w A hS data Ad md cd bs Ab mb cb fr p hD hB hcb h1 h2 (by omega) (by omega)
  · have hx : (2147483647 < (md : Int)) ∨ ((md : Int) ≤ 2147483647 ∧ 2147483647 < (mb : Int)) ∨ ((md : Int) ≤ 2147483647 ∧ (mb : Int) ≤ 2147483647 ∧ 2000 < (md : Int)) ∨ ((md : Int) ≤ 2147483647 ∧ (mb : Int) ≤ 2147483647 ∧ (md : Int) ≤ 2000 ∧ 2000 < (mb : Int)) ∨ ((md : Int) ≤ 2147483647 ∧ (mb : Int) ≤ 2147483647 ∧ (md : Int) ≤ 2000 ∧ (mb : Int) ≤ 2000 ∧ fr < 0) ∨ ((md : Int) ≤ 2147483647 ∧ (mb : Int) ≤ 2147483647 ∧ (md : Int) ≤ 2000 ∧ (mb : Int) ≤ 2000 ∧ 0 ≤ fr ∧ 4096 < fr) ∨ ((md : Int) ≤ 2147483647 ∧ (mb : Int) ≤ 2147483647 ∧ (md : Int) ≤ 2000 ∧ (mb : Int) ≤ 2000 ∧ 0 ≤ fr ∧ fr ≤ 4096 ∧ p < 0) ∨ ((md : Int) ≤ 2147483647 ∧ (mb : Int) ≤ 2147483647 ∧ (md : Int) ≤ 2000 ∧ (mb : Int) ≤ 2000 ∧ 0 ≤ fr ∧ fr ≤ 4096 ∧ 0 ≤ p ∧ 4096 < p) := by omega
    clear hg hD hS hB
    rcases hx with h1 | ⟨h1, h2⟩ | ⟨h1, h2, h3⟩ | ⟨h1, h2, h3, h4⟩ | ⟨h1, h2, h3, h4, h5⟩ | ⟨h1, h2, h3, h4, h5, h6⟩ | ⟨h1, h2, h3, h4, h5, h6, h7⟩ | ⟨h1, h2, h3, h4, h5, h6, h7, h8⟩
    all_goals
      go_enter Tryd.func9, Tryd.ntmps9
      go_wp2_with fail
      go_ret
      exact ⟨rfl, Below.refl _ _⟩
theorem bytes_of {W : World} {a : Addr} {zs : List Int} {len : Nat} (hcell : ∀ i, i < len → W.cell? (a.add i) = some (.int .u8 (zs.getD i 0))) (hz : len ≤ zs.length) (hl : len ≤ 9223372036854775807) : (Kd.int .u8).C W (some a) len (zs.take len) := by
  refine ⟨by rw [List.length_take]; omega, hl, fun _ => ⟨a, rfl, fun j p hj => ⟨[.int .u8 p], rfl, rfl, fun i u hi => ?_⟩⟩⟩
  have hlt := (List.getElem?_eq_some_iff.1 hj).1
  rw [List.length_take] at hlt
  rw [List.getElem?_take, if_pos (by omega)] at hj
  have h := hcell j (by omega)
  rw [List.getD_eq_getElem?_getD, hj] at h
  match i, hi with
  | 0, hi =>
    simp at hi
    subst hi
    rw [show j * (Kd.int .u8).sz + 0 = j from by show j * 1 + 0 = j; omega]
    exact h

open Go.ChangeShapes Go.WideShapes Go.ChangeAt
theorem own : ownKnob Tryd.prog.godebug = none := by kernel_rfl
theorem laidOut : laidOutB Tryd.prog = true := by kernel_rfl
theorem readable9 : ∀ t ∈ Tryd.f9.params.toList, Tryd.prog.readableRec t = true ∧ t < Tryd.prog.types.size := by
  have h : (Tryd.f9.params.toList.all fun t => Tryd.prog.readableRec t && decide (t < Tryd.prog.types.size)) = true := by kernel_rfl
  intro t ht
  have := List.all_eq_true.1 h t ht
  simpa using this
def laidL : List (String × DataW Unit) := [("pub-marram/pub/afero/inner/os.ErrExist", Rows.laid_pub_marram_pub_afero_inner_os_ErrExist), ("pub-marram/pub/afero/inner/os.ErrNotExist", Rows.laid_pub_marram_pub_afero_inner_os_ErrNotExist), ("pub-marram/pub/afero/inner/os.ENOENT", Rows.laid_pub_marram_pub_afero_inner_os_ENOENT), ("pub-marram/pub/afero/inner/os.ENOTDIR", Rows.laid_pub_marram_pub_afero_inner_os_ENOTDIR), ("pub-marram/pub/afero/inner/os.EPERM", Rows.laid_pub_marram_pub_afero_inner_os_EPERM), ("pub-marram/pub/afero/inner/os.EIO", Rows.laid_pub_marram_pub_afero_inner_os_EIO), ("pub-marram/pub/afero/inner/os.EBADFD", Rows.laid_pub_marram_pub_afero_inner_os_EBADFD), ("io.EOF", Rows.laid_io_EOF), ("io.ErrUnexpectedEOF", Rows.laid_io_ErrUnexpectedEOF), ("pub-marram/pub/afero/mem.ErrFileClosed", Rows.laid_pub_marram_pub_afero_mem_ErrFileClosed), ("pub-marram/pub/afero/mem.ErrOutOfRange", Rows.laid_pub_marram_pub_afero_mem_ErrOutOfRange)]
set_option maxRecDepth 100000 in
theorem lifted (os : Os) (started : os.Started) (H : Type) (enc : TypeId × Value → H) :
    ReturnsInHanded {} Tryd.checked os 9 .any (fun w args => (Rows.fnWriteAtIsSeekAndWriteSpec.pre enc Tryd.prog Tryd.f9 Rows.fnWriteAtIsSeekAndWriteRow.domain false w args ∧ laidMetH Tryd.prog laidL w) ∧ sizedMet enc Tryd.prog Tryd.f9 (OpenSpec.ofChange Rows.fnWriteAtIsSeekAndWriteSpec) false w args) (Rows.fnWriteAtIsSeekAndWriteSpec.post enc Tryd.prog Tryd.f9 false true false false) := by
  refine Adapter.law_lifted_tied (C := Tryd.checked) (X := fun w => laidMetH Tryd.prog laidL w) (fun _ _ hh h => h.of_heap hh) own started (by kernel_rfl) Tryd.func9
    (ChangeSpec.witness_shaped (enc := enc) (C := Tryd.checked) (os := os) (X := fun w _ => laidMetH Tryd.prog laidL w) false (World.laidAll Tryd.prog os laidL) #[.slice none 0 0, .slice none 0 0, .int .i64 0, .int .i64 0] 8 (World.laidAll_os _ _ _)
      (World.shaped_of_ZipB (by kernel_rfl) (by kernel_rfl)) (by kernel_rfl) (by kernel_rfl) (by kernel_rfl)
      (by rw [MakeChecks.laidMetH_plain _ _ _ (by kernel_rfl)]; exact laidMet_laidAll _ (by kernel_rfl) (by kernel_rfl)))
    laidOut readable9 (tb := 4) (by kernel_rfl) (by kernel_rfl) rfl ?_ ?_
  · intro ds hds
    rw [show Tryd.f9.params.size = 4 from by kernel_rfl] at hds
    match ds, hds with
    | [d1, d2, d3, d4], _ => rfl
  · intro W base args ds p hval hA _ _ hL0
    have hL : laidMet Tryd.prog laidL W := by rw [MakeChecks.laidMetH_plain _ _ _ (by kernel_rfl)] at hL0; exact hL0
    rw [Tryd.params9] at hA hval
    obtain ⟨v0, vs0, d0, ds0, p0, q0, hargs, rfl, rfl, h0, r0⟩ := trodAll_cons hA
    obtain ⟨v1, vs1, d1, ds1, p1, q1, rfl, rfl, rfl, h1, r1⟩ := trodAll_cons r0
    obtain ⟨v2, vs2, d2, ds2, p2, q2, rfl, rfl, rfl, h2, r2⟩ := trodAll_cons r1
    obtain ⟨v3, vs3, d3, ds3, p3, q3, rfl, rfl, rfl, h3, r3⟩ := trodAll_cons r2
    obtain ⟨rfl, rfl, rfl⟩ := trodAll_nil r3
    obtain rfl : args = #[v0, v1, v2, v3] := by cases args; simp_all
    obtain ⟨A, hS⟩ := sent_of_laid (show laidMet Tryd.prog errsL W from hL)
    obtain ⟨l0, A0, n0, c0, rfl, hC0, hn0⟩ : ∃ (l : List Int) (A : Option Addr) (n c : Nat), v0 = .slice A n c ∧ (Kd.int .u8).C W A n l ∧ n ≤ c := by
      obtain ⟨a0, len, cap, rfl⟩ := okWide_slice Tryd.underlying22 (hval 0 22 v0 rfl rfl)
      obtain ⟨fuel, hf⟩ := h0
      rcases Go.ChangeShapes.open_ints Tryd.underlying22 Tryd.underlying5 (by kernel_rfl) hf with ⟨hcs, hx⟩ | ⟨a, len', cap', zs, hcs, _, hl, hm, hz, hx, hcell, hwz⟩
      · simp [Value.cells] at hcs
        obtain ⟨rfl, rfl, rfl⟩ := hcs
        exact ⟨[], none, 0, 0, rfl, Kd.C_nil _ _, Nat.le_refl _⟩
      · simp [Value.cells] at hcs
        obtain ⟨rfl, rfl, rfl⟩ := hcs
        unfold maxLen at hm
        have hzl : len ≤ zs.length := by rw [hz]; split <;> omega
        exact ⟨_, _, _, _, rfl, bytes_of (fun i hi => hcell i (by omega)) hzl (by omega), hl⟩
    obtain ⟨l1, A1, n1, c1, rfl, hC1, hn1⟩ : ∃ (l : List Int) (A : Option Addr) (n c : Nat), v1 = .slice A n c ∧ (Kd.int .u8).C W A n l ∧ n ≤ c := by
      obtain ⟨a0, len, cap, rfl⟩ := okWide_slice Tryd.underlying22 (hval 1 22 v1 rfl rfl)
      obtain ⟨fuel, hf⟩ := h1
      rcases Go.ChangeShapes.open_ints Tryd.underlying22 Tryd.underlying5 (by kernel_rfl) hf with ⟨hcs, hx⟩ | ⟨a, len', cap', zs, hcs, _, hl, hm, hz, hx, hcell, hwz⟩
      · simp [Value.cells] at hcs
        obtain ⟨rfl, rfl, rfl⟩ := hcs
        exact ⟨[], none, 0, 0, rfl, Kd.C_nil _ _, Nat.le_refl _⟩
      · simp [Value.cells] at hcs
        obtain ⟨rfl, rfl, rfl⟩ := hcs
        unfold maxLen at hm
        have hzl : len ≤ zs.length := by rw [hz]; split <;> omega
        exact ⟨_, _, _, _, rfl, bytes_of (fun i hi => hcell i (by omega)) hzl (by omega), hl⟩
    obtain ⟨x, rfl, rfl, rfl, wx⟩ := open_int Tryd.underlying3 (hval 2 3 v2 rfl rfl) h2
    obtain ⟨y, rfl, rfl, rfl, wy⟩ := open_int Tryd.underlying3 (hval 3 3 v3 rfl rfl) h3
    exact law9 W A hS l0 A0 n0 c0 l1 A1 n1 c1 x y hC0 hC1 hn1

theorem over : Rows.fnWriteAtIsSeekAndWriteRow.holds Tryd.pinned (OpenSpec.ofChange Rows.fnWriteAtIsSeekAndWriteSpec) :=
  OpenClaim.holds_of_wide 9 Tryd.f9 rfl rfl rfl rfl rfl rfl rfl ⟨rfl, rfl, rfl, rfl, rfl⟩ rfl rfl rfl rfl rfl (by kernel_rfl) Tryd.func9 (by kernel_rfl)
    (of_decide_eq_true (by kernel_rfl)) (by unfold Func.isWrapper; first | (rw [if_pos (by decide +kernel)]; kernel_rfl) | (rw [if_neg (by decide +kernel)]; exact ⟨rfl, rfl⟩))
    (fun os started H enc _ => lifted os started H enc)
theorem card_holds : Rows.FnWriteAtIsSeekAndWriteCardSaid :=
  Claim7.holds_tied_plain_at .later [] [.sentinel, .sentinel, .sentinel, .sentinel, .sentinel, .sentinel, .sentinel, .sentinel, .sentinel, .sentinel, .sentinel] true (true, "082d05495341c122149ceada623044fc8a0a6c8a5b30945a55a332597f3648b7") true over (fun _ h => by cases h) (by kernel_rfl) (fun _ h => by cases h) fnWriteAtIsSeekAndWrite_row_tie rfl ⟨rfl, rfl⟩ (by kernel_rfl) rfl
    (fun f fn hf hfn => by
      obtain rfl : f = 9 := Option.some.inj ((show Tryd.prog.funcNamed "pub-marram/laws.FnWriteAtIsSeekAndWrite" = some 9 by kernel_rfl).symm.trans hf) |>.symm
      obtain rfl : fn = Tryd.f9 := (Option.some.inj (Tryd.func9.symm.trans hfn)).symm
      exact ⟨by kernel_rfl, fun j t ht => by
        rw [Tryd.params9] at ht
        have hm : t ∈ [22, 22, 3, 3] := by simpa using Array.mem_of_getElem? ht
        have hall : ([22, 22, 3, 3].all fun u => !Tryd.prog.wantsStandIn u) = true := by kernel_rfl
        exact (show Tryd.prog.wantsStandIn t = false by simpa using List.all_eq_true.1 hall t hm)⟩)
    (by kernel_rfl)
#print axioms card_holds
end Go.Proofs.YtljcdjggjphedaaDoor.Wa
