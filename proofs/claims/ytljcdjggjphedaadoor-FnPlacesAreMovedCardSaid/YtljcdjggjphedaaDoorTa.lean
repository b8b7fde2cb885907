/- A script on the package's file, cut in two. -/
import Derived.Test.YtljcdjggjphedaaDoorZI
import Derived.IntWalk
namespace Go.Proofs.YtljcdjggjphedaaDoor.Ta
open Go.RowKit Go.Maps Go.Proofs.YtljcdjggjphedaaDoorW.PrintWords Go.Proofs.YtljcdjggjphedaaDoorW.PrintLast Go.Proofs.YtljcdjggjphedaaDoorW.PrintMore Go.Proofs.YtljcdjggjphedaaDoor.PFnHandleScript Go.Proofs.YtljcdjggjphedaaDoor.Hd Go.Proofs.YtljcdjggjphedaaDoor.Ms Go.Proofs.YtljcdjggjphedaaDoor.Mn Go.Proofs.YtljcdjggjphedaaDoor.Pm Go.Proofs.YtljcdjggjphedaaDoor.Mf Go.Proofs.YtljcdjggjphedaaDoor.Mq Go.Proofs.YtljcdjggjphedaaDoor.Bq Go.Proofs.YtljcdjggjphedaaDoor.Mr Go.Proofs.YtljcdjggjphedaaDoor.Mt Go.Proofs.YtljcdjggjphedaaDoor.Mu Go.Proofs.YtljcdjggjphedaaDoor.Mv Go.Proofs.YtljcdjggjphedaaDoor.Mw Go.Proofs.YtljcdjggjphedaaDoor.Mb Go.Proofs.YtljcdjggjphedaaDoor.Me Go.Proofs.YtljcdjggjphedaaDoor.Mk Go.Proofs.YtljcdjggjphedaaDoor.Sx Go.Proofs.YtljcdjggjphedaaDoor.Sy
set_option linter.unusedVariables false
set_option linter.unusedSimpArgs false
theorem rd_left (a b : List S26) (i : Nat) (h : i < a.length) : rd_T26 (a ++ b) (i : Int) = rd_T26 a (i : Int) := by
  unfold rd_T26
  rw [Int.toNat_natCast, List.getD_eq_getElem?_getD, List.getD_eq_getElem?_getD, List.getElem?_append_left h]
theorem rd_right (a b : List S26) (i : Nat) : rd_T26 (a ++ b) ((a.length + i : Nat) : Int) = rd_T26 b (i : Int) := by
  unfold rd_T26
  rw [Int.toNat_natCast, Int.toNat_natCast, List.getD_eq_getElem?_getD, List.getD_eq_getElem?_getD, List.getElem?_append_right (by omega)]
  congr 2
  omega
theorem rd_cons (s : S26) (b : List S26) (i : Nat) : rd_T26 (s :: b) ((i + 1 : Nat) : Int) = rd_T26 b (i : Int) := by
  unfold rd_T26
  simp
theorem run_left (h : SHnd) (x : S42) (a b : List S26) : ∀ i : Nat, i ≤ a.length → runS h x (a ++ b) i = runS h x a i
  | 0, _ => rfl
  | i + 1, hi => by
    show (fstep _ _ _).1 = (fstep _ _ _).1
    rw [run_left h x a b i (by omega), rd_left a b i (by omega)]
theorem run_right (h : SHnd) (x : S42) (a b : List S26) : ∀ j : Nat, runS h x (a ++ b) (a.length + j) = runS (runS h x a a.length).1 (runS h x a a.length).2 b j
  | 0 => run_left h x a b a.length (Nat.le_refl _)
  | j + 1 => by
    show (fstep (runS h x (a ++ b) (a.length + j)).1 (runS h x (a ++ b) (a.length + j)).2 (rd_T26 (a ++ b) ((a.length + j : Nat) : Int))).1 = _
    rw [run_right h x a b j, rd_right a b j]
    rfl
/-- What reading, writing, seeking and cutting leave as it is. -/
structure Kept (ro : Bool) (h : SHnd) (x : S42) : Prop where
  node : h.node = 1
  ls : h.listed = 0
  cl : h.closed = false
  ro : h.ro = ro
  x0 : x = x0 x.f2
theorem kept_step {ro : Bool} {h : SHnd} {x : S42} {s : S26} (h0 : 12 ≤ s.f0) (h1 : s.f0 ≤ 17) (K : Kept ro h x) : Kept ro (fstep h x s).1.1 (fstep h x s).1.2 := by
  obtain ⟨a, b, c, d, e⟩ := K
  unfold fstep
  rw [if_neg (by omega), if_neg (by omega), if_neg (by omega), if_neg (by omega), if_neg (by omega), if_neg (by rw [c]; decide)]
  by_cases a5 : s.f0 = 12
  · rw [if_pos a5]; exact ⟨a, b, c, d, e⟩
  rw [if_neg a5]
  by_cases a6 : s.f0 = 13
  · rw [if_pos a6]; exact ⟨a, b, c, d, e⟩
  rw [if_neg a6]
  by_cases a7 : s.f0 = 16
  · rw [if_pos a7]; exact ⟨a, b, c, d, e⟩
  rw [if_neg a7]
  by_cases a8 : h.ro = true
  · rw [if_pos a8]
    by_cases a9 : s.f0 = 15
    · rw [if_pos a9]; exact ⟨a, b, c, d, e⟩
    · rw [if_neg a9]; exact ⟨a, b, c, d, e⟩
  rw [if_neg a8]
  by_cases a9 : s.f0 = 17
  · rw [if_pos a9]
    by_cases b1 : s.f7 < 0
    · rw [if_pos b1]; exact ⟨a, b, c, d, e⟩
    · rw [if_neg b1]; exact ⟨a, b, c, d, by rw [e]; rfl⟩
  rw [if_neg a9]
  by_cases b2 : s.f0 = 14
  · rw [if_pos b2]; exact ⟨a, b, c, d, by rw [e]; rfl⟩
  · rw [if_neg b2]; exact ⟨a, b, c, d, by rw [e]; rfl⟩
theorem kept_run {ro : Bool} {h : SHnd} {x : S42} {ss : List S26} (K : Kept ro h x) : ∀ i : Nat, (∀ j, j < i → 12 ≤ (rd_T26 ss j).f0 ∧ (rd_T26 ss j).f0 ≤ 17) → Kept ro (runS h x ss i).1 (runS h x ss i).2
  | 0, _ => K
  | i + 1, hg => kept_step (hg i (by omega)).1 (hg i (by omega)).2 (kept_run K i (fun j hj => hg j (by omega)))
/-- The package's handle that goes with an open one. -/
def hof (h : SHnd) : Hnd := ⟨h.pos, 0, h.closed, h.ro⟩
theorem hof_goes (h : SHnd) : Goes (hof h) h := ⟨rfl, rfl, fun _ => rfl⟩
theorem ih_hof {ro : Bool} {h : SHnd} {x : S42} {s : S26} (h0 : 12 ≤ s.f0) (h1 : s.f0 ≤ 17) (K : Kept ro h x) : ih (hof h) h x s = hof (fstep h x s).1.1 := by
  have K2 := kept_step h0 h1 K
  unfold ih
  rw [if_neg (by omega), if_neg (by rw [K.cl]; decide)]
  unfold hof
  rw [K.cl, K2.cl, K.ro, K2.ro]
def h0 (ro : Bool) : SHnd := ⟨1, 0, 0, false, ro⟩
/-- What is known of a script that is spoken of and does nothing but read, write, seek and cut. -/
structure Spk (data : List Int) (ro : Bool) (ss : List S26) : Prop where
  len : data.length ≤ 4096
  num : ss.length ≤ 60
  good : ∀ i : Nat, i < ss.length → GoodAt (runS (h0 ro) (x0 data) ss i).1 (runS (h0 ro) (x0 data) ss i).2 (rd_T26 ss i)
  ops : ∀ i : Nat, i < ss.length → 12 ≤ (rd_T26 ss i).f0 ∧ (rd_T26 ss i).f0 ≤ 17
theorem Spk.fine {data : List Int} {ro : Bool} {ss : List S26} (S : Spk data ro ss) : ∀ i, i ≤ ss.length → HFine (runS (h0 ro) (x0 data) ss i).1 (runS (h0 ro) (x0 data) ss i).2 ∧ (runS (h0 ro) (x0 data) ss i).1.node = 1 := fun i hi =>
  fine_run rfl ⟨rfl, by have := S.len; show data.length ≤ 10000; omega, by show slashf.size ≤ 10000; decide, by show _ ≤ (0 : Int); decide, by show (0 : Int) ≤ _; decide⟩ i (fun j hj => S.good j (by omega))
theorem Spk.kept {data : List Int} {ro : Bool} {ss : List S26} (S : Spk data ro ss) : ∀ i, i ≤ ss.length → Kept ro (runS (h0 ro) (x0 data) ss i).1 (runS (h0 ro) (x0 data) ss i).2 := fun i hi =>
  kept_run (ro := ro) (h := h0 ro) (x := x0 data) ⟨rfl, rfl, rfl, rfl, rfl⟩ i (fun j hj => S.ops j (by omega))
/-- One step of such a script, by the package. -/
theorem Spk.does {A : Nat → Addr} {data : List Int} {ro : Bool} {ss : List S26} (S : Spk data ro ss) (i : Nat) (hi : i < ss.length) :
    Does A (hof (runS (h0 ro) (x0 data) ss i).1) nd (runS (h0 ro) (x0 data) ss i).2.f2 (rd_T26 ss i) (ysn (h0 ro) (x0 data) ss i) (hof (runS (h0 ro) (x0 data) ss (i + 1)).1) nd (runS (h0 ro) (x0 data) ss (i + 1)).2.f2 := by
  obtain ⟨o0, o1⟩ := S.ops i hi
  have h := sim (A := A) (S.fine i (by omega)).2 (S.fine i (by omega)).1 (S.good i hi) (by omega) (by omega) (hof_goes _)
  rw [ih_hof o0 o1 (S.kept i (by omega))] at h
  exact h
def sk1 : S26 := ⟨16, ⟨#[]⟩, ⟨#[]⟩, 0, 0, 0, [], 0, 1, 0⟩
def sk0 (p : Int) : S26 := ⟨16, ⟨#[]⟩, ⟨#[]⟩, 0, 0, 0, [], p, 0, 0⟩
/-- Where the first part ends. -/
def placeAt1 (data : List Int) (ro : Bool) (a b : List S26) : Int := (runS (h0 ro) (x0 data) (a ++ b) a.length).1.pos
def left1 (data : List Int) (ro : Bool) (a b : List S26) : List Int := (runS (h0 ro) (x0 data) (a ++ b) a.length).2.f2
noncomputable def ysA (data : List Int) (ro : Bool) (a b : List S26) (i : Nat) : S33 := if i < a.length then ysn (h0 ro) (x0 data) (a ++ b) i else ans 0 0 (placeAt1 data ro a b) []
noncomputable def ysP (data : List Int) (ro : Bool) (a b : List S26) : Nat → S33
  | 0 => ans 0 0 (placeAt1 data ro a b) []
  | j + 1 => ysn (h0 ro) (x0 data) (a ++ b) (a.length + j)
def Told (w' : World) (n : Nat) (ys : Nat → S33) (left : List Int) (e : Ending) : Prop :=
  ∃ A1 c1 A2 c2, e = .returned (.tuple #[.slice A1 n c1, .slice A2 left.length c2]) ∧ k33.C w' A1 n ((List.range n).map ys) ∧ n ≤ c1 ∧ (Kd.int .u8).C w' A2 left.length left ∧ left.length ≤ c2
/-- The whole script. -/
theorem tell_all {w : World} {A : Nat → Addr} (hS : Sent A w) {data : List Int} {Ad : Option Addr} {cd : Nat} {ro : Bool} (hD : Kd.C (Kd.int .u8) w Ad data.length data) {ss : List S26} (S : Spk data ro ss) {W : World} (As : Option Addr) (cs : Nat) (hbw : Below w.heap.size w W) (hC : k26.C W As ss.length ss) :
    Calls Tryd.prog 13 #[.slice Ad data.length cd, .bool ro, .slice As ss.length cs] W fun e w' => Told w' ss.length (ysn (h0 ro) (x0 data) ss) (runS (h0 ro) (x0 data) ss ss.length).2.f2 e ∧ Below W.heap.size W w' := by
  have h1 := S.len
  have h2 := S.num
  refine (handle13 W A (SentB.of (hS.later hbw)) data Ad data.length cd (Kd.C_below hD hbw) (by omega) ro ss As ss.length cs hC (by omega)
    (fun i => (hof (runS (h0 ro) (x0 data) ss i).1, nd, (runS (h0 ro) (x0 data) ss i).2.f2)) (ysn (h0 ro) (x0 data) ss) rfl (fun i hi => S.does i hi) (Nat.le_trans (S.fine ss.length (Nat.le_refl _)).1.len (by decide))).mono ?_
  rintro e w' ⟨A1, c1, A2, c2, he, hk, hc1, h2, hl, hb⟩
  exact ⟨⟨A1, c1, A2, c2, he, hk, hc1, h2, hl⟩, hb⟩
/-- The first part, and where its handle stands. -/
theorem tell_first {w : World} {A : Nat → Addr} (hS : Sent A w) {data : List Int} {Ad : Option Addr} {cd : Nat} {ro : Bool} (hD : Kd.C (Kd.int .u8) w Ad data.length data) {a b : List S26} (S : Spk data ro (a ++ b)) {W : World} (As : Option Addr) (cs : Nat) (hbw : Below w.heap.size w W) (hC : k26.C W As (a.length + 1) (a ++ [sk1])) :
    Calls Tryd.prog 13 #[.slice Ad data.length cd, .bool ro, .slice As (a.length + 1) cs] W fun e w' => Told w' (a.length + 1) (ysA data ro a b) (left1 data ro a b) e ∧ Below W.heap.size W w' := by
  have h1 := S.len
  have h2 := S.num
  have h3 : (a ++ b).length = a.length + b.length := List.length_append
  have hf := S.fine a.length (by omega)
  have hk := S.kept a.length (by omega)
  refine (handle13 W A (SentB.of (hS.later hbw)) data Ad data.length cd (Kd.C_below hD hbw) (by omega) ro (a ++ [sk1]) As (a.length + 1) cs hC (by omega)
    (fun i => (hof (runS (h0 ro) (x0 data) (a ++ b) (min i a.length)).1, nd, (runS (h0 ro) (x0 data) (a ++ b) (min i a.length)).2.f2)) (ysA data ro a b) (by rw [Nat.zero_min]; rfl) (fun i hi => ?_) (by show (runS _ _ _ (min (a.length + 1) a.length)).2.f2.length ≤ _; rw [Nat.min_eq_right (by omega)]; exact Nat.le_trans hf.1.len (by decide))).mono ?_
  · show Does A (hof (runS (h0 ro) (x0 data) (a ++ b) (min i a.length)).1) nd (runS (h0 ro) (x0 data) (a ++ b) (min i a.length)).2.f2 (rd_T26 (a ++ [sk1]) i) (ysA data ro a b i) (hof (runS (h0 ro) (x0 data) (a ++ b) (min (i + 1) a.length)).1) nd (runS (h0 ro) (x0 data) (a ++ b) (min (i + 1) a.length)).2.f2
    rcases Nat.lt_or_ge i a.length with hlt | hge
    · rw [Nat.min_eq_left (by omega), Nat.min_eq_left (by omega), rd_left a [sk1] i hlt, ← rd_left a b i hlt]
      unfold ysA
      rw [if_pos hlt]
      exact S.does i (by omega)
    · obtain rfl : i = a.length := by omega
      rw [Nat.min_eq_left (by omega), Nat.min_eq_right (by omega)]
      have er : rd_T26 (a ++ [sk1]) (a.length : Int) = sk1 := rd_right a [sk1] 0
      rw [er]
      unfold ysA
      rw [if_neg (by omega)]
      have p0 := hf.1.p0
      have p1 := hf.1.p1
      have l1 := hf.1.len
      have q := does_seek (A := A) (h := hof (runS (h0 ro) (x0 data) (a ++ b) a.length).1) (n := nd) (data := (runS (h0 ro) (x0 data) (a ++ b) a.length).2.f2) (s := sk1) rfl hk.cl (by show _ ≤ (runS (h0 ro) (x0 data) (a ++ b) a.length).1.pos; omega) (by show (runS (h0 ro) (x0 data) (a ++ b) a.length).1.pos ≤ _; omega) (by decide) (by decide) (by omega)
      have e : seekTo (hof (runS (h0 ro) (x0 data) (a ++ b) a.length).1).pos (runS (h0 ro) (x0 data) (a ++ b) a.length).2.f2.length sk1.f7 sk1.f8 = (runS (h0 ro) (x0 data) (a ++ b) a.length).1.pos := by
        show (hof (runS (h0 ro) (x0 data) (a ++ b) a.length).1).pos + 0 = _
        rw [Int.add_zero]
        rfl
      rw [e] at q
      exact q
  · rintro e w' ⟨A1, c1, A2, c2, he, hk, hc1, h2, hl, hb⟩
    have em : min (a.length + 1) a.length = a.length := Nat.min_eq_right (by omega)
    simp only [em] at he h2 hl
    exact ⟨⟨A1, c1, A2, c2, he, hk, hc1, h2, hl⟩, hb⟩
/-- The second part, on what the first one left. -/
theorem tell_second {w : World} {A : Nat → Addr} (hS : Sent A w) {data : List Int} {Ad : Option Addr} {cd : Nat} {ro : Bool} {a b : List S26} (S : Spk data ro (a ++ b)) {W : World} (hbw : Below w.heap.size w W) (hD : Kd.C (Kd.int .u8) W Ad (left1 data ro a b).length (left1 data ro a b)) (As : Option Addr) (cs : Nat) (hC : k26.C W As (b.length + 1) (sk0 (placeAt1 data ro a b) :: b)) :
    Calls Tryd.prog 13 #[.slice Ad (left1 data ro a b).length cd, .bool ro, .slice As (b.length + 1) cs] W fun e w' => Told w' (b.length + 1) (ysP data ro a b) (runS (h0 ro) (x0 data) (a ++ b) (a ++ b).length).2.f2 e ∧ Below W.heap.size W w' := by
  have h1 := S.len
  have h2 := S.num
  have h3 : (a ++ b).length = a.length + b.length := List.length_append
  have hf := S.fine a.length (by omega)
  have hk := S.kept a.length (by omega)
  have hf2 := S.fine (a.length + b.length) (by omega)
  have hl1 : (left1 data ro a b).length ≤ 10000 := hf.1.len
  rw [h3]
  refine (handle13 W A (SentB.of (hS.later hbw)) (left1 data ro a b) Ad (left1 data ro a b).length cd hD (by omega) ro (sk0 (placeAt1 data ro a b) :: b) As (b.length + 1) cs hC (by omega)
    (fun i => match i with | 0 => (⟨0, 0, false, ro⟩, nd, left1 data ro a b) | j + 1 => (hof (runS (h0 ro) (x0 data) (a ++ b) (a.length + j)).1, nd, (runS (h0 ro) (x0 data) (a ++ b) (a.length + j)).2.f2)) (ysP data ro a b) rfl (fun i hi => ?_) (Nat.le_trans hf2.1.len (by decide))).mono ?_
  · match i, hi with
    | 0, _ =>
      have p0 := hf.1.p0
      have p1 := hf.1.p1
      have q := does_seek (A := A) (h := ⟨0, 0, false, ro⟩) (n := nd) (data := left1 data ro a b) (s := sk0 (placeAt1 data ro a b)) rfl rfl (by show _ ≤ (0 : Int); decide) (by show (0 : Int) ≤ _; decide) (by show _ ≤ (runS (h0 ro) (x0 data) (a ++ b) a.length).1.pos; omega) (by show (runS (h0 ro) (x0 data) (a ++ b) a.length).1.pos ≤ _; omega) (by omega)
      have e : hof (runS (h0 ro) (x0 data) (a ++ b) (a.length + 0)).1 = ⟨placeAt1 data ro a b, 0, false, ro⟩ := by
        unfold hof placeAt1
        rw [Nat.add_zero, hk.cl, hk.ro]
      show Does A ⟨0, 0, false, ro⟩ nd (left1 data ro a b) (sk0 (placeAt1 data ro a b)) (ans 0 0 (placeAt1 data ro a b) []) (hof (runS (h0 ro) (x0 data) (a ++ b) (a.length + 0)).1) nd (runS (h0 ro) (x0 data) (a ++ b) (a.length + 0)).2.f2
      rw [e]
      exact q
    | j + 1, hi =>
      show Does A (hof (runS (h0 ro) (x0 data) (a ++ b) (a.length + j)).1) nd (runS (h0 ro) (x0 data) (a ++ b) (a.length + j)).2.f2 (rd_T26 (sk0 (placeAt1 data ro a b) :: b) ((j + 1 : Nat) : Int)) (ysn (h0 ro) (x0 data) (a ++ b) (a.length + j)) (hof (runS (h0 ro) (x0 data) (a ++ b) (a.length + (j + 1))).1) nd (runS (h0 ro) (x0 data) (a ++ b) (a.length + (j + 1))).2.f2
      rw [rd_cons, ← rd_right a b j]
      exact S.does (a.length + j) (by omega)
  · rintro e w' ⟨A1, c1, A2, c2, he, hk, hc1, h2, hl, hb⟩
    exact ⟨⟨A1, c1, A2, c2, he, hk, hc1, h2, hl⟩, hb⟩
end Go.Proofs.YtljcdjggjphedaaDoor.Ta
