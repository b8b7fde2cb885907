/- A step with its places moved, on a file with bytes ahead. -/
import Derived.Test.YtljcdjggjphedaaDoorTa
import Derived.Test.YtljcdjggjphedaaDoorTc
namespace Go.Proofs.YtljcdjggjphedaaDoor.Td
open Go.RowKit Go.Maps Go.Proofs.YtljcdjggjphedaaDoorW.PrintWords Go.Proofs.YtljcdjggjphedaaDoor.PFnHandleScript Go.Proofs.YtljcdjggjphedaaDoor.Hd Go.Proofs.YtljcdjggjphedaaDoor.Ms Go.Proofs.YtljcdjggjphedaaDoor.Mf Go.Proofs.YtljcdjggjphedaaDoor.Mr Go.Proofs.YtljcdjggjphedaaDoor.Mw Go.Proofs.YtljcdjggjphedaaDoor.Mb Go.Proofs.YtljcdjggjphedaaDoor.Mk Go.Proofs.YtljcdjggjphedaaDoor.Sx Go.Proofs.YtljcdjggjphedaaDoor.Sy Go.Proofs.YtljcdjggjphedaaDoor.Ta Go.Proofs.YtljcdjggjphedaaDoor.Tc
set_option linter.unusedVariables false
def mov (n : Int) (s : S26) : S26 := if s.f0 = 13 ∨ s.f0 = 15 ∨ s.f0 = 17 ∨ (s.f0 = 16 ∧ s.f8 = 0) then { s with f7 := s.f7 + n } else s
theorem mov_op (n : Int) (s : S26) : (mov n s).f0 = s.f0 ∧ (mov n s).f6 = s.f6 ∧ (mov n s).f8 = s.f8 ∧ (mov n s).f9 = s.f9 := by
  unfold mov; split <;> exact ⟨rfl, rfl, rfl, rfl⟩
/-- The answer, the place told moved, too. -/
def movA (n : Int) (s : S26) (x : S33) : S33 := if s.f0 = 16 then { x with f2 := x.f2 + n } else x
theorem seek_mov (q d : List Int) (h : SHnd) (s : S26) (e : s.f0 = 16) : seekP { h with pos := h.pos + (q.length : Int) } (x0 (q ++ d)) (mov q.length s) = seekP h (x0 d) s + (q.length : Int) := by
  obtain ⟨_, _, e8, _⟩ := mov_op (q.length : Int) s
  unfold seekP
  rw [e8]
  by_cases w0 : s.f8 = 0
  · rw [if_pos w0, if_pos w0]; unfold mov; rw [if_pos (by simp [e, w0])]
  · have em : mov (q.length : Int) s = s := by unfold mov; rw [if_neg (by simp [e, w0])]
    rw [if_neg w0, if_neg w0, em]
    by_cases w1 : s.f8 = 1
    · rw [if_pos w1, if_pos w1]; show h.pos + _ + s.f7 = _; omega
    · rw [if_neg w1, if_neg w1]
      by_cases w2 : s.f8 = 2
      · rw [if_pos w2, if_pos w2]; show (((q ++ d).length : Nat) : Int) + s.f7 = (d.length : Int) + s.f7 + _; rw [List.length_append]; push_cast; omega
      · rw [if_neg w2, if_neg w2]
theorem moved_step {ro : Bool} {h : SHnd} {x : S42} {s : S26} (K : Kept ro h x) (G : GoodAt h x s) (o0 : 12 ≤ s.f0) (o1 : s.f0 ≤ 17) (hc : s.f0 = 17 → 0 ≤ s.f7) (q : List Int) :
    (fstep { h with pos := h.pos + (q.length : Int) } (x0 (q ++ x.f2)) (mov q.length s)).1.1 = { (fstep h x s).1.1 with pos := (fstep h x s).1.1.pos + (q.length : Int) } ∧ (fstep { h with pos := h.pos + (q.length : Int) } (x0 (q ++ x.f2)) (mov q.length s)).1.2 = x0 (q ++ (fstep h x s).1.2.f2) ∧ (fstep { h with pos := h.pos + (q.length : Int) } (x0 (q ++ x.f2)) (mov q.length s)).2 = movA q.length s (fstep h x s).2 := by
  obtain ⟨d, hd⟩ : ∃ d, d = x.f2 := ⟨_, rfl⟩
  have hx : x = x0 d := by rw [hd]; exact K.x0
  obtain ⟨_, _, _, hs⟩ := G
  obtain ⟨b0, b1, b2, b3, b4, b5⟩ := spk_open hs o0 o1
  subst hx
  rw [show (x0 d).f2 = d from rfl]
  obtain ⟨m0, m6, m8, m9⟩ := mov_op (q.length : Int) s
  unfold spkKind at b5
  rcases (show s.f0 = 12 ∨ s.f0 = 13 ∨ s.f0 = 14 ∨ s.f0 = 15 ∨ s.f0 = 16 ∨ s.f0 = 17 by omega) with e | e | e | e | e | e
  case inr.inr.inr.inr.inl =>
    have e1 : fstep h (x0 d) s = (({ h with pos := seekP h (x0 d) s }, x0 d), ans 0 0 (seekP h (x0 d) s) []) := by
      unfold fstep; simp only [e, K.cl]; rfl
    have e2 : fstep { h with pos := h.pos + (q.length : Int) } (x0 (q ++ d)) (mov q.length s) = (({ h with pos := seekP h (x0 d) s + (q.length : Int) }, x0 (q ++ d)), ans 0 0 (seekP h (x0 d) s + (q.length : Int)) []) := by
      rw [← seek_mov q d h s e]
      unfold fstep; simp only [m0, e, K.cl]; rfl
    rw [e1, e2]
    refine ⟨rfl, rfl, ?_⟩
    unfold movA; rw [if_pos e]; rfl
  · rw [if_pos e] at b5
    have b5 : 0 ≤ h.pos := by rw [K.cl] at b5; simpa using b5
    have em : mov (q.length : Int) s = s := by unfold mov; rw [if_neg (by omega)]
    obtain ⟨p, hp⟩ := Int.eq_ofNat_of_zero_le b5
    have e1 : fstep h (x0 d) s = (({ h with pos := h.pos + ((rdD false d h.pos s.f9.toNat).length : Int) }, x0 d), ans (rdE false d.length h.pos s.f9.toNat) 0 0 (rdD false d h.pos s.f9.toNat)) := by
      unfold fstep; simp only [e, K.cl, Int.toNat_of_nonneg b5]; rfl
    have e2 : fstep { h with pos := h.pos + (q.length : Int) } (x0 (q ++ d)) (mov q.length s) = (({ h with pos := h.pos + (q.length : Int) + ((rdD false d h.pos s.f9.toNat).length : Int) }, x0 (q ++ d)), ans (rdE false d.length h.pos s.f9.toNat) 0 0 (rdD false d h.pos s.f9.toNat)) := by
      rw [em, ← rdD_ahead q d h.pos s.f9.toNat b5, ← rdE_ahead q d h.pos s.f9.toNat]
      unfold fstep; simp only [e, K.cl, Int.toNat_of_nonneg (show 0 ≤ h.pos + (q.length : Int) by omega)]; rfl
    rw [e1, e2]
    refine ⟨?_, rfl, ?_⟩
    · rw [Int.add_right_comm]
    · unfold movA; rw [if_neg (by omega)]
  · rw [if_neg (by omega), if_pos e] at b5
    have b5 : 0 ≤ s.f7 := by simpa using b5
    have em : mov (q.length : Int) s = { s with f7 := s.f7 + (q.length : Int) } := by unfold mov; rw [if_pos (by omega)]
    have e1 : fstep h (x0 d) s = ((h, x0 d), ans (rdE false d.length s.f7 s.f9.toNat) 0 0 (rdD false d s.f7 s.f9.toNat)) := by
      unfold fstep; simp only [e, K.cl, Int.toNat_of_nonneg b5]; rfl
    have e2 : fstep { h with pos := h.pos + (q.length : Int) } (x0 (q ++ d)) (mov q.length s) = (({ h with pos := h.pos + (q.length : Int) }, x0 (q ++ d)), ans (rdE false d.length s.f7 s.f9.toNat) 0 0 (rdD false d s.f7 s.f9.toNat)) := by
      rw [em, ← rdD_ahead q d s.f7 s.f9.toNat b5, ← rdE_ahead q d s.f7 s.f9.toNat]
      unfold fstep; simp only [e, K.cl, Int.toNat_of_nonneg (show 0 ≤ s.f7 + (q.length : Int) by omega)]; rfl
    rw [e1, e2]
    refine ⟨rfl, rfl, ?_⟩
    unfold movA; rw [if_neg (by omega)]
  · rw [if_neg (by omega), if_neg (by omega), if_pos e] at b5
    have b5 : 0 ≤ h.pos := by simp at b5; exact b5.1
    have em : mov (q.length : Int) s = s := by unfold mov; rw [if_neg (by omega)]
    rcases Bool.eq_false_or_eq_true h.ro with hr | hr
    · have e1 : fstep h (x0 d) s = ((h, x0 d), ans 6 0 0 []) := by unfold fstep; simp [e, K.cl, hr]
      have e2 : fstep { h with pos := h.pos + (q.length : Int) } (x0 (q ++ d)) (mov q.length s) = (({ h with pos := h.pos + (q.length : Int) }, x0 (q ++ d)), ans 6 0 0 []) := by rw [em]; unfold fstep; simp [e, K.cl, hr]
      rw [e1, e2]
      refine ⟨rfl, rfl, ?_⟩
      unfold movA; rw [if_neg (by omega)]
    · have e1 : fstep h (x0 d) s = (({ h with pos := h.pos + (s.f6.length : Int) }, x0 (overB d h.pos.toNat s.f6)), ans 0 (s.f6.length : Int) 0 []) := by unfold fstep; simp only [e, K.cl, hr]; rfl
      have e2 : fstep { h with pos := h.pos + (q.length : Int) } (x0 (q ++ d)) (mov q.length s) = (({ h with pos := h.pos + (q.length : Int) + (s.f6.length : Int) }, x0 (q ++ overB d h.pos.toNat s.f6)), ans 0 (s.f6.length : Int) 0 []) := by
        rw [em, ← over_ahead, ← show (h.pos + (q.length : Int)).toNat = q.length + h.pos.toNat by omega]
        unfold fstep; simp only [e, K.cl, hr]; rfl
      rw [e1, e2]
      refine ⟨?_, rfl, ?_⟩
      · rw [Int.add_right_comm]
      · unfold movA; rw [if_neg (by omega)]
  · rw [if_neg (by omega), if_neg (by omega), if_neg (by omega), if_pos e] at b5
    have b5 : 0 ≤ s.f7 := by simp at b5; exact b5.1
    have em : mov (q.length : Int) s = { s with f7 := s.f7 + (q.length : Int) } := by unfold mov; rw [if_pos (by omega)]
    rcases Bool.eq_false_or_eq_true h.ro with hr | hr
    · have e1 : fstep h (x0 d) s = (({ h with pos := s.f7 }, x0 d), ans 6 0 0 []) := by unfold fstep; simp [e, K.cl, hr]
      have e2 : fstep { h with pos := h.pos + (q.length : Int) } (x0 (q ++ d)) (mov q.length s) = (({ h with pos := s.f7 + (q.length : Int) }, x0 (q ++ d)), ans 6 0 0 []) := by rw [em]; unfold fstep; simp [e, K.cl, hr]
      rw [e1, e2]
      refine ⟨rfl, rfl, ?_⟩
      unfold movA; rw [if_neg (by omega)]
    · have e1 : fstep h (x0 d) s = (({ h with pos := s.f7 + (s.f6.length : Int) }, x0 (overB d s.f7.toNat s.f6)), ans 0 (s.f6.length : Int) 0 []) := by unfold fstep; simp only [e, K.cl, hr]; rfl
      have e2 : fstep { h with pos := h.pos + (q.length : Int) } (x0 (q ++ d)) (mov q.length s) = (({ h with pos := s.f7 + (q.length : Int) + (s.f6.length : Int) }, x0 (q ++ overB d s.f7.toNat s.f6)), ans 0 (s.f6.length : Int) 0 []) := by
        rw [em, ← over_ahead, ← show (s.f7 + (q.length : Int)).toNat = q.length + s.f7.toNat by omega]
        unfold fstep; simp only [e, K.cl, hr]; rfl
      rw [e1, e2]
      refine ⟨?_, rfl, ?_⟩
      · rw [Int.add_right_comm]
      · unfold movA; rw [if_neg (by omega)]
  · have b6 : 0 ≤ s.f7 := hc e
    have em : mov (q.length : Int) s = { s with f7 := s.f7 + (q.length : Int) } := by unfold mov; rw [if_pos (by omega)]
    rcases Bool.eq_false_or_eq_true h.ro with hr | hr
    · have e1 : fstep h (x0 d) s = ((h, x0 d), ans 6 0 0 []) := by unfold fstep; simp [e, K.cl, hr]
      have e2 : fstep { h with pos := h.pos + (q.length : Int) } (x0 (q ++ d)) (mov q.length s) = (({ h with pos := h.pos + (q.length : Int) }, x0 (q ++ d)), ans 6 0 0 []) := by rw [em]; unfold fstep; simp [e, K.cl, hr]
      rw [e1, e2]
      refine ⟨rfl, rfl, ?_⟩
      unfold movA; rw [if_neg (by omega)]
    · obtain ⟨p, hp⟩ := Int.eq_ofNat_of_zero_le b6
      have e1 : fstep h (x0 d) s = ((h, x0 (cutTo d p)), ans 0 0 0 []) := by
        unfold fstep; rw [hp, ← cut_fill]; simp only [e, K.cl, hr, Int.toNat_natCast, if_neg (show ¬ ((p : Nat) : Int) < 0 by omega)]; rfl
      have e2 : fstep { h with pos := h.pos + (q.length : Int) } (x0 (q ++ d)) (mov q.length s) = (({ h with pos := h.pos + (q.length : Int) }, x0 (q ++ cutTo d p)), ans 0 0 0 []) := by
        rw [em, ← cut_ahead, ← cut_fill]
        unfold fstep
        have ep : s.f7 + (q.length : Int) = ((q.length + p : Nat) : Int) := by rw [hp]; push_cast; omega
        simp only [e, K.cl, hr, ep, Int.toNat_natCast, if_neg (show ¬ ((q.length + p : Nat) : Int) < 0 by omega)]
        rfl
      rw [e1, e2]
      refine ⟨rfl, rfl, ?_⟩
      unfold movA; rw [if_neg (by omega)]
end Go.Proofs.YtljcdjggjphedaaDoor.Td
