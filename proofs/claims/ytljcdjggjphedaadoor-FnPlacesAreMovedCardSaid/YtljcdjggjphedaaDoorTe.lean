/- HandleScript on a script with its places moved, on a file with bytes ahead. -/
import Derived.Test.YtljcdjggjphedaaDoorTd
namespace Go.Proofs.YtljcdjggjphedaaDoor.Te
open Go.RowKit Go.Maps Go.Proofs.YtljcdjggjphedaaDoorW.PrintWords Go.Proofs.YtljcdjggjphedaaDoorW.PrintLast Go.Proofs.YtljcdjggjphedaaDoorW.PrintMore Go.Proofs.YtljcdjggjphedaaDoor.PFnHandleScript Go.Proofs.YtljcdjggjphedaaDoor.Hd Go.Proofs.YtljcdjggjphedaaDoor.Ms Go.Proofs.YtljcdjggjphedaaDoor.Mn Go.Proofs.YtljcdjggjphedaaDoor.Pm Go.Proofs.YtljcdjggjphedaaDoor.Mf Go.Proofs.YtljcdjggjphedaaDoor.Mq Go.Proofs.YtljcdjggjphedaaDoor.Bq Go.Proofs.YtljcdjggjphedaaDoor.Mr Go.Proofs.YtljcdjggjphedaaDoor.Mw Go.Proofs.YtljcdjggjphedaaDoor.Mb Go.Proofs.YtljcdjggjphedaaDoor.Mk Go.Proofs.YtljcdjggjphedaaDoor.Sx Go.Proofs.YtljcdjggjphedaaDoor.Sy Go.Proofs.YtljcdjggjphedaaDoor.Ta Go.Proofs.YtljcdjggjphedaaDoor.Tc Go.Proofs.YtljcdjggjphedaaDoor.Td
set_option linter.unusedVariables false
set_option linter.unusedSimpArgs false
/-- The bounds of a step that reads, writes, seeks or cuts. -/
structure Bnd (h : SHnd) (l : Nat) (s : S26) : Prop where
  o0 : 12 ≤ s.f0
  o1 : s.f0 ≤ 17
  b0 : s.f6.length ≤ 10000
  b1 : 0 ≤ s.f9
  b2 : s.f9 ≤ 10000
  b3 : s.f7 ≤ 4398046511104
  b4 : -4398046511104 ≤ s.f7
  k12 : s.f0 = 12 → 0 ≤ h.pos
  k13 : s.f0 = 13 → 0 ≤ s.f7
  k14 : s.f0 = 14 → 0 ≤ h.pos ∧ h.pos ≤ 10000
  k15 : s.f0 = 15 → 0 ≤ s.f7 ∧ s.f7 ≤ 10000
  k17 : s.f0 = 17 → s.f7 ≤ 10000
  p0 : -4611686018427387904 ≤ h.pos
  p1 : h.pos ≤ 4611686018427387904
  l : l ≤ 20000
theorem sim2 {A : Nat → Addr} {h : Hnd} {sh : SHnd} {x : S42} {s : S26} (hc : sh.closed = false) (B : Bnd sh x.f2.length s) (R : Goes h sh) :
    Does A h nd x.f2 s (fstep sh x s).2 (ih h sh x s) nd (fstep sh x s).1.2.f2 := by
  obtain ⟨g0, g1, b0, b1, b2, b3, b4, k12, k13, k14, k15, k17, p0, p1, l⟩ := B
  obtain ⟨a, b, c⟩ := R
  have ndt : ({ nd with tm := 0 } : Nod) = nd := rfl
  obtain ⟨m, hm⟩ := Int.eq_ofNat_of_zero_le b1
  rcases (show s.f0 = 12 ∨ s.f0 = 13 ∨ s.f0 = 14 ∨ s.f0 = 15 ∨ s.f0 = 16 ∨ s.f0 = 17 by omega) with e | e | e | e | e | e
  · have b5 := k12 e
    have hcl : h.cl = false := by rw [a, hc]
    have hp := c hc
    have := does_read (A := A) (h := h) (n := nd) (data := x.f2) (s := s) m e hm (by omega) (by omega) (fun _ => by omega)
    rw [show rdD h.cl x.f2 h.pos m = rdD false x.f2 sh.pos m by rw [hcl, hp], show rdE h.cl x.f2.length h.pos m = rdE false x.f2.length sh.pos m by rw [hcl, hp], hp] at this
    have e9 : fstep sh x s = (({ sh with pos := sh.pos + ((rdD false x.f2 sh.pos m).length : Int) }, x), ans (rdE false x.f2.length sh.pos m) 0 0 (rdD false x.f2 sh.pos m)) := by
      unfold fstep
      rw [hm]
      simp only [e, hc, Int.toNat_natCast, Int.toNat_of_nonneg b5]
      rfl
    have e8 : ih h sh x s = { h with pos := sh.pos + ((rdD false x.f2 sh.pos m).length : Int) } := by
      unfold ih; rw [e9, if_neg (by omega), if_neg (by rw [hc]; decide)]
    rw [e9, e8]; exact this
  · have b5 := k13 e
    have hcl : h.cl = false := by rw [a, hc]
    have hp := c hc
    have := does_readat (A := A) (h := h) (n := nd) (data := x.f2) (s := s) m e hm (by omega) (by omega) (fun _ => by omega)
    rw [hcl] at this
    have e9 : fstep sh x s = ((sh, x), ans (rdE false x.f2.length s.f7 m) 0 0 (rdD false x.f2 s.f7 m)) := by
      unfold fstep
      rw [hm]
      simp only [e, hc, Int.toNat_natCast, Int.toNat_of_nonneg b5]
      rfl
    have e8 : ih h sh x s = h := by
      unfold ih; rw [e9, if_neg (by omega), if_neg (by rw [hc]; decide)]; simp only; rw [← hp]
    rw [e9, e8]; exact this
  · have b5 := k14 e
    have hcl : h.cl = false := by rw [a, hc]
    have hp := c hc
    cases hr : sh.ro with
    | true =>
      have hro : h.ro = true := by rw [b, hr]
      have e9 : fstep sh x s = ((sh, x), ans 6 0 0 []) := by unfold fstep; simp [e, hc, hr]
      have e8 : ih h sh x s = h := by
        unfold ih; rw [e9, if_neg (by omega), if_neg (by rw [hc]; decide)]; simp only; rw [← hp]
      rw [e9, e8]; exact does_writer e hcl hro (by omega)
    | false =>
      have hro : h.ro = false := by rw [b, hr]
      obtain ⟨p, hpp⟩ := Int.eq_ofNat_of_zero_le b5.1
      have := does_write (A := A) (h := h) (n := nd) (data := x.f2) (s := s) p e hcl hro (by omega) (by omega) (by omega) (by omega)
      rw [ndt] at this
      have e9 : fstep sh x s = (({ sh with pos := (p : Int) + (s.f6.length : Int) }, { x with f2 := overB x.f2 p s.f6, f3 := 0 }), ans 0 (s.f6.length : Int) 0 []) := by
        unfold fstep
        rw [hpp]
        simp only [e, hc, hr, Int.toNat_natCast]
        rfl
      have e8 : ih h sh x s = { h with pos := (p : Int) + (s.f6.length : Int) } := by
        unfold ih; rw [e9, if_neg (by omega), if_neg (by rw [hc]; decide)]
      rw [e9, e8]; exact this
  · have b5 := k15 e
    have hcl : h.cl = false := by rw [a, hc]
    have hp := c hc
    cases hr : sh.ro with
    | true =>
      have hro : h.ro = true := by rw [b, hr]
      have e9 : fstep sh x s = (({ sh with pos := s.f7 }, x), ans 6 0 0 []) := by unfold fstep; simp [e, hc, hr]
      have e8 : ih h sh x s = { h with pos := s.f7 } := by
        unfold ih; rw [e9, if_neg (by omega), if_neg (by rw [hc]; decide)]
      rw [e9, e8]; exact does_writeatr e hcl hro (by omega)
    | false =>
      have hro : h.ro = false := by rw [b, hr]
      obtain ⟨p, hpp⟩ := Int.eq_ofNat_of_zero_le b5.1
      have := does_writeat (A := A) (h := h) (n := nd) (data := x.f2) (s := s) p e hcl hro (by omega) (by omega) (by omega) (by omega)
      rw [ndt] at this
      have e9 : fstep sh x s = (({ sh with pos := (p : Int) + (s.f6.length : Int) }, { x with f2 := overB x.f2 p s.f6, f3 := 0 }), ans 0 (s.f6.length : Int) 0 []) := by
        unfold fstep
        rw [hpp]
        simp only [e, hc, hr, Int.toNat_natCast]
        rfl
      have e8 : ih h sh x s = { h with pos := (p : Int) + (s.f6.length : Int) } := by
        unfold ih; rw [e9, if_neg (by omega), if_neg (by rw [hc]; decide)]
      rw [e9, e8]; exact this
  · have hcl : h.cl = false := by rw [a, hc]
    have hp := c hc
    have := does_seek (A := A) (h := h) (n := nd) (data := x.f2) (s := s) e hcl (by omega) (by omega) (by omega) (by omega) (by omega)
    have es : seekTo h.pos x.f2.length s.f7 s.f8 = seekP sh x s := by unfold seekTo seekP; rw [hp]
    rw [es] at this
    have e9 : fstep sh x s = (({ sh with pos := seekP sh x s }, x), ans 0 0 (seekP sh x s) []) := by
      unfold fstep
      simp only [e, hc]
      rfl
    have e8 : ih h sh x s = { h with pos := seekP sh x s } := by
      unfold ih; rw [e9, if_neg (by omega), if_neg (by rw [hc]; decide)]
    rw [e9, e8]; exact this
  · have b5 := k17 e
    have hcl : h.cl = false := by rw [a, hc]
    have hp := c hc
    cases hr : sh.ro with
    | true =>
      have hro : h.ro = true := by rw [b, hr]
      have e9 : fstep sh x s = ((sh, x), ans 6 0 0 []) := by unfold fstep; simp [e, hc, hr]
      have e8 : ih h sh x s = h := by
        unfold ih; rw [e9, if_neg (by omega), if_neg (by rw [hc]; decide)]; simp only; rw [← hp]
      rw [e9, e8]; exact does_truncr e hcl hro
    | false =>
      have hro : h.ro = false := by rw [b, hr]
      by_cases hz : s.f7 < 0
      · have e9 : fstep sh x s = ((sh, x), ans 7 0 0 []) := by unfold fstep; simp [e, hc, hr, hz]
        have e8 : ih h sh x s = h := by
          unfold ih; rw [e9, if_neg (by omega), if_neg (by rw [hc]; decide)]; simp only; rw [← hp]
        rw [e9, e8]; exact does_truncn e hcl hro hz
      · obtain ⟨p, hpp⟩ := Int.eq_ofNat_of_zero_le (show 0 ≤ s.f7 by omega)
        have := does_trunc (A := A) (h := h) (n := nd) (data := x.f2) (s := s) p e hpp hcl hro (by omega) (by omega)
        rw [ndt, ← cut_fill] at this
        have e9 : fstep sh x s = ((sh, { x with f2 := fillTo (x.f2.take (min x.f2.length p)) (p : Int), f3 := 0 }), ans 0 0 0 []) := by
          unfold fstep
          rw [hpp]
          have hz2 : ¬ ((p : Int) < 0) := by omega
          simp only [e, hc, hr, Int.toNat_natCast]
          simp [hz2]
        have e8 : ih h sh x s = h := by
          unfold ih; rw [e9, if_neg (by omega), if_neg (by rw [hc]; decide)]; simp only; rw [← hp]
        rw [e9, e8]; exact this
/-- The moved step's bounds. -/
theorem bnd_mov {ro : Bool} {h : SHnd} {x : S42} {s : S26} (K : Kept ro h x) (F : HFine h x) (G : GoodAt h x s) (o0 : 12 ≤ s.f0) (o1 : s.f0 ≤ 17) (q : List Int) (hq : q.length ≤ 1000) :
    Bnd { h with pos := h.pos + (q.length : Int) } (x0 (q ++ x.f2)).f2.length (mov q.length s) := by
  obtain ⟨_, _, _, hs⟩ := G
  obtain ⟨b0, b1, b2, b3, b4, b5⟩ := spk_open hs o0 o1
  obtain ⟨d, l, nm, p0, p1⟩ := F
  obtain ⟨m0, m6, m8, m9⟩ := mov_op (q.length : Int) s
  have m7 : (mov (q.length : Int) s).f7 = s.f7 ∨ (mov (q.length : Int) s).f7 = s.f7 + (q.length : Int) := by
    unfold mov; split
    · exact .inr rfl
    · exact .inl rfl
  have k := K.cl
  unfold spkKind at b5
  refine ⟨by rw [m0]; exact o0, by rw [m0]; exact o1, by rw [m6]; omega, by rw [m9]; exact b1, by rw [m9]; omega, by omega, by omega, ?_, ?_, ?_, ?_, ?_, ?_, ?_, ?_⟩
  · intro e; rw [m0] at e; simp [e, k] at b5; show 0 ≤ h.pos + _; omega
  · intro e; rw [m0] at e; simp [e] at b5; omega
  · intro e; rw [m0] at e; simp [e] at b5; show 0 ≤ h.pos + _ ∧ h.pos + _ ≤ 10000; omega
  · intro e; rw [m0] at e; simp [e] at b5; omega
  · intro e; rw [m0] at e; simp [e] at b5; omega
  · show _ ≤ h.pos + _; omega
  · show h.pos + _ ≤ _; omega
  · show (q ++ x.f2).length ≤ _; rw [List.length_append]; omega
/-- The moved steps, behind a seek. -/
def movs (n : Nat) (ss : List S26) : List S26 := sk0 n :: ss.map (mov n)
theorem rd_map (f : S26 → S26) (ss : List S26) (j : Nat) (hj : j < ss.length) : rd_T26 (ss.map f) (j : Int) = f (rd_T26 ss (j : Int)) := by
  unfold rd_T26
  rw [Int.toNat_natCast, List.getD_eq_getElem?_getD, List.getD_eq_getElem?_getD, List.getElem?_map, List.getElem?_eq_getElem hj]
  rfl
noncomputable def ysM (q d : List Int) (ro : Bool) (ss : List S26) : Nat → S33
  | 0 => ans 0 0 q.length []
  | j + 1 => movA q.length (rd_T26 ss j) (ysn (h0 ro) (x0 d) ss j)
/-- The script with its places moved. -/
theorem tell_moved {w : World} {A : Nat → Addr} (hS : Sent A w) {d q : List Int} {Ad : Option Addr} {cd : Nat} {ro : Bool} {ss : List S26} (hq : q.length ≤ 1000) (hn : ∀ i : Nat, i < ss.length → (rd_T26 ss i).f0 = 17 → 0 ≤ (rd_T26 ss i).f7) (S : Spk d ro ss) {W : World} (hbw : Below w.heap.size w W) (hD : Kd.C (Kd.int .u8) W Ad (q ++ d).length (q ++ d)) (As : Option Addr) (cs : Nat) (hC : k26.C W As (ss.length + 1) (movs q.length ss)) :
    Calls Tryd.prog 13 #[.slice Ad (q ++ d).length cd, .bool ro, .slice As (ss.length + 1) cs] W fun e w' => Ta.Told w' (ss.length + 1) (ysM q d ro ss) (q ++ (runS (h0 ro) (x0 d) ss ss.length).2.f2) e ∧ Below W.heap.size W w' := by
  have h1 := S.len
  have h2 := S.num
  have hf2 := S.fine ss.length (Nat.le_refl _)
  have hl1 : (q ++ d).length ≤ 10000 := by rw [List.length_append]; omega
  refine (handle13 W A (SentB.of (hS.later hbw)) (q ++ d) Ad (q ++ d).length cd hD (by omega) ro (movs q.length ss) As (ss.length + 1) cs hC (by omega)
    (fun i => match i with | 0 => (⟨0, 0, false, ro⟩, nd, q ++ d) | j + 1 => (hof { (runS (h0 ro) (x0 d) ss j).1 with pos := (runS (h0 ro) (x0 d) ss j).1.pos + (q.length : Int) }, nd, q ++ (runS (h0 ro) (x0 d) ss j).2.f2)) (ysM q d ro ss) rfl (fun i hi => ?_) (by show (q ++ _).length ≤ _; rw [List.length_append]; have := hf2.1.len; omega)).mono ?_
  · match i, hi with
    | 0, _ =>
      have r := does_seek (A := A) (h := ⟨0, 0, false, ro⟩) (n := nd) (data := q ++ d) (s := sk0 (q.length : Int)) rfl rfl (by show _ ≤ (0 : Int); decide) (by show (0 : Int) ≤ _; decide) (by show _ ≤ (q.length : Int); omega) (by show (q.length : Int) ≤ _; omega) (by omega)
      have e : hof { (runS (h0 ro) (x0 d) ss 0).1 with pos := (runS (h0 ro) (x0 d) ss 0).1.pos + (q.length : Int) } = ⟨(q.length : Int), 0, false, ro⟩ := by
        unfold hof
        show (⟨(0 : Int) + (q.length : Int), 0, false, ro⟩ : Hnd) = _
        rw [Int.zero_add]
      show Does A ⟨0, 0, false, ro⟩ nd (q ++ d) (sk0 (q.length : Int)) (ans 0 0 q.length []) (hof { (runS (h0 ro) (x0 d) ss 0).1 with pos := (runS (h0 ro) (x0 d) ss 0).1.pos + (q.length : Int) }) nd (q ++ (runS (h0 ro) (x0 d) ss 0).2.f2)
      rw [e]
      exact r
    | j + 1, hi =>
      have hj : j < ss.length := by omega
      show Does A (hof { (runS (h0 ro) (x0 d) ss j).1 with pos := (runS (h0 ro) (x0 d) ss j).1.pos + (q.length : Int) }) nd (q ++ (runS (h0 ro) (x0 d) ss j).2.f2) (rd_T26 (movs q.length ss) ((j + 1 : Nat) : Int)) (movA q.length (rd_T26 ss j) (ysn (h0 ro) (x0 d) ss j)) (hof { (runS (h0 ro) (x0 d) ss (j + 1)).1 with pos := (runS (h0 ro) (x0 d) ss (j + 1)).1.pos + (q.length : Int) }) nd (q ++ (runS (h0 ro) (x0 d) ss (j + 1)).2.f2)
      unfold movs
      rw [rd_cons, rd_map _ ss j hj]
      have K := S.kept j (by omega)
      have F := (S.fine j (by omega)).1
      have G := S.good j hj
      obtain ⟨o0, o1⟩ := S.ops j hj
      have m := moved_step K G o0 o1 (hn j hj) q
      have B := bnd_mov K F G o0 o1 q hq
      have r := sim2 (A := A) (sh := { (runS (h0 ro) (x0 d) ss j).1 with pos := (runS (h0 ro) (x0 d) ss j).1.pos + (q.length : Int) }) (x := x0 (q ++ (runS (h0 ro) (x0 d) ss j).2.f2)) K.cl B (hof_goes _)
      have m0 := (mov_op (q.length : Int) (rd_T26 ss (j : Int))).1
      have K2 : Kept ro { (runS (h0 ro) (x0 d) ss j).1 with pos := (runS (h0 ro) (x0 d) ss j).1.pos + (q.length : Int) } (x0 (q ++ (runS (h0 ro) (x0 d) ss j).2.f2)) := ⟨K.node, K.ls, K.cl, K.ro, rfl⟩
      rw [ih_hof (by rw [m0]; exact o0) (by rw [m0]; exact o1) K2, m.1, m.2.1, m.2.2] at r
      exact r
  · rintro e w' ⟨A1, c1, A2, c2, he, hk, hc1, h2, hl, hb⟩
    exact ⟨⟨A1, c1, A2, c2, he, hk, hc1, h2, hl⟩, hb⟩
end Go.Proofs.YtljcdjggjphedaaDoor.Te
