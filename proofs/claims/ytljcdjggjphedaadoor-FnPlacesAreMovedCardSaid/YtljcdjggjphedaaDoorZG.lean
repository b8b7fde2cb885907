/- A part of the proof that FnHandleScript answers true for every file and all steps. -/
import Derived.Test.YtljcdjggjphedaaDoorZF
import Derived.Deep.RegionHeld3
import Derived.StillTailTactics
import Derived.IntWalk
namespace Go.Proofs.YtljcdjggjphedaaDoor.My
open Go.RowKit Go.Maps Go.Proofs.YtljcdjggjphedaaDoorW.PrintWords Go.Proofs.YtljcdjggjphedaaDoorW.PrintLast Go.Proofs.YtljcdjggjphedaaDoorW.PrintMore Go.Proofs.YtljcdjggjphedaaDoor.PFnHandleScript Go.Proofs.YtljcdjggjphedaaDoor.Hd Go.Proofs.YtljcdjggjphedaaDoor.Ms Go.Proofs.YtljcdjggjphedaaDoor.Mn Go.Proofs.YtljcdjggjphedaaDoor.Pm Go.Proofs.YtljcdjggjphedaaDoor.Mf Go.Proofs.YtljcdjggjphedaaDoor.Mq Go.Proofs.YtljcdjggjphedaaDoor.Bq Go.Proofs.YtljcdjggjphedaaDoor.Mr Go.Proofs.YtljcdjggjphedaaDoor.Mt Go.Proofs.YtljcdjggjphedaaDoor.Mu Go.Proofs.YtljcdjggjphedaaDoor.Mv Go.Proofs.YtljcdjggjphedaaDoor.Ml Go.Proofs.YtljcdjggjphedaaDoor.Mw
set_option linter.unusedVariables false
set_option linter.unusedSimpArgs false
section
variable {w : World} {base : Nat} {ft : Nat → Prop} {m : Nat} {vN vA vD : Value} {mb n : Nat} {f : Lit → Option Nat} {X : SMem}
set_option maxHeartbeats 4000000 in
set_option maxRecDepth 100000 in
theorem file_closed12 (M : IsMem w base ft m vN vA vD mb n f X) (hft : ∀ k, ft k → k < w.heap.size) (kl : Lit) (hkl : WideAt.IsKeyLit kl) (g : Nat) (h : SHnd) (hf : f kl = some g) (hg : w.heap[g]? = some (.cells (shcs h) 49 (0, 0))) (hfg : ft g) (i : Nat) (hi : h.node = i) (hil : i < X.nodes.length) (hL : X.nodes.length ≤ 100000) (s : S26) (A6 : Option Addr) (c6 : Nat) (hl6 : s.f6.length ≤ c6) (hC6 : (Kd.int .u8).C w A6 s.f6.length s.f6) (hop : s.f0 = 12) (hcl : h.closed = true) :
    Calls Tryd.prog 34 #[.pointer (some ⟨m, 0, none⟩), .pointer (some ⟨g, 0, none⟩), stepA s A6 c6] w (FilePost w base ft m vN vA mb n f (X) (ans 3 0 0 [])) := by
  obtain ⟨X', hX'⟩ : ∃ X', X' = (X) := ⟨_, rfl⟩
  obtain ⟨a', ha'⟩ : ∃ a', a' = (ans 3 0 0 []) := ⟨_, rfl⟩
  rw [← ha', ← hX']
  have HX := Lib.hid hX'
  have HA := Lib.hid ha'
  clear hX' ha'
  obtain ⟨gd, cap, A2, c2, hv, hlc, hgd, p0o, p1o, p2o, p3o, p4o, l2, g2, pz, ncs, hnb⟩ := node_at M i hil
  have c2' := M.c2
  rw [hv] at c2'
  have h0 := blk_cell hg 0
  have h1o := blk_cell hg 1
  have h2o := blk_cell hg 2
  have h3o := blk_cell hg 3
  have h4o := blk_cell hg 4
  have hg1 := blk_lt hg
  have n9 : ¬ (g = gd) := fun e => by rw [← e, hg] at hnb; injection hnb with hnb; injection hnb with _ hnb; exact absurd hnb (by decide)
  have n10 : ¬ (gd = g) := fun e => n9 e.symm
  clear hnb
  have hgd1 := hft gd hgd
  have hil' : (i : Int) < (X.nodes.length : Int) := by omega
  obtain ⟨no, po, li, cl, ro⟩ := h
  obtain ⟨op, nm, ot, fl, pe, hh, dat, off, wh, N⟩ := s
  simp only [shcs] at h0 h1o h2o h3o h4o
  simp only at hi hop hl6 hC6
  subst hi
  subst hop
  unfold stepA
  have c2b := cellb c2' (below_alloc (below_alloc (Below.refl w.heap.size w) (.cells #[.int .i64 12, .string nm, .string ot, .int .i64 fl, .int .i64 pe, .int .i64 hh, .slice A6 dat.length c6, .int .i64 off, .int .i64 wh, .int .i64 N] 26)) (.cells #[.int .i64 0, .int .i64 0, .int .i64 0, .slice none 0 0, .slice none 0 0, .slice none 0 0] 33))
  have h0b := cellb h0 (below_alloc (below_alloc (Below.refl w.heap.size w) (.cells #[.int .i64 12, .string nm, .string ot, .int .i64 fl, .int .i64 pe, .int .i64 hh, .slice A6 dat.length c6, .int .i64 off, .int .i64 wh, .int .i64 N] 26)) (.cells #[.int .i64 0, .int .i64 0, .int .i64 0, .slice none 0 0, .slice none 0 0, .slice none 0 0] 33))
  have HM := Lib.hid M
  have HF := Lib.hid hf
  have HG := Lib.hid hg
  have HFT := Lib.hid hft
  have HV := Lib.hid hv
  have HC6 := Lib.hid hC6
  have HG2 := Lib.hid g2
  have HPZ := Lib.hid pz
  have HND := Lib.hid (show nodeOf X (i : Int) = nodeOf X (i : Int) from rfl)
  clear M hf hg hft hv hC6 g2 pz c2' h0
  generalize hLn : X.nodes.length = L at *
  have HLN := Lib.hid hLn
  clear hLn
  generalize hnd : nodeOf X (i : Int) = nd at *
  have HNO := Lib.hid hnd
  clear hnd HND
  obtain ⟨dir, mode, data, time, name⟩ := nd
  simp only at p0o p1o p2o p3o p4o l2 HG2
  go_enter Tryd.func34, Tryd.ntmps34
  go_wp2_with fail
  go_quiet (fail)
  obtain ⟨W2, hW2⟩ : ∃ W2, W2 = World.drewN ((w.alloc (.cells #[.int .i64 12, .string nm, .string ot, .int .i64 fl, .int .i64 pe, .int .i64 hh, .slice A6 dat.length c6, .int .i64 off, .int .i64 wh, .int .i64 N] 26)).alloc (.cells #[.int .i64 0, .int .i64 0, .int .i64 0, .slice none 0 0, .slice none 0 0, .slice none 0 0] 33)) nq := ⟨_, rfl⟩
  rw [← hW2]
  have BW : Below w.heap.size w W2 := by rw [hW2]; exact pw_below_drewN (below_alloc (below_alloc (Below.refl _ _) _) _) _
  have b1 : W2.heap[w.heap.size]? = some (.cells #[.int .i64 12, .string nm, .string ot, .int .i64 fl, .int .i64 pe, .int .i64 hh, .slice A6 dat.length c6, .int .i64 off, .int .i64 wh, .int .i64 N] 26 (0, 0)) := by rw [hW2]; exact blk_drewN (blk_alloc (blk_new _ _) _) _
  have b2 : W2.heap[w.heap.size + 1]? = some (.cells #[.int .i64 0, .int .i64 0, .int .i64 0, .slice none 0 0, .slice none 0 0, .slice none 0 0] 33 (0, 0)) := by rw [hW2]; exact blk_drewN (blk_at_ (by simp)) _
  have hsz2 : W2.heap.size = w.heap.size + 2 := by rw [hW2]; simp [World.drewN]
  have k0 := blk_cell b1 0
  have k1 := blk_cell b1 1
  have k2 := blk_cell b1 2
  have k3 := blk_cell b1 3
  have k4 := blk_cell b1 4
  have k5 := blk_cell b1 5
  have k6 := blk_cell b1 6
  have k7 := blk_cell b1 7
  have k8 := blk_cell b1 8
  have k9 := blk_cell b1 9
  have q0 := blk_cell b2 0
  have q1 := blk_cell b2 1
  have q2 := blk_cell b2 2
  have q3 := blk_cell b2 3
  have q4 := blk_cell b2 4
  have q5 := blk_cell b2 5
  have zq := blk_frozen b2
  have zg := blk_frozen (blk_below HG.out BW)
  have zd := fun j => (show W2.frozen? ⟨gd, i * 5 + j, none⟩ = false by rw [← HPZ.out j]; exact BW.frozen (p := ⟨gd, i * 5 + j, none⟩) hgd1)
  have h1 := cellb h1o BW
  have h2 := cellb h2o BW
  have h3 := cellb h3o BW
  have h4 := cellb h4o BW
  have p0 := cellb p0o BW
  have p1 := cellb p1o BW
  have p2 := cellb p2o BW
  have p3 := cellb p3o BW
  have p4 := cellb p4o BW
  have HB := Lib.hid BW
  have HM2 := Lib.hid (HM.out.below BW)
  have HGH := Lib.hid (blk_below HG.out BW)
  have HO := Lib.hid b2
  have HS2 := Lib.hid hsz2
  have n1 : ¬ (g = w.heap.size + 1) := by omega
  have n2 : ¬ (gd = w.heap.size + 1) := by omega
  have n3 : ¬ (w.heap.size + 1 = g) := by omega
  have n4 : ¬ (w.heap.size + 1 = gd) := by omega
  have n5 : ¬ (g = w.heap.size) := by omega
  have n6 : ¬ (gd = w.heap.size) := by omega
  have n7 : ¬ (w.heap.size = g) := by omega
  have n8 : ¬ (w.heap.size = gd) := by omega
  clear hW2 BW b1 b2 c2b h0b hsz2 hg1 hgd1 h1o h2o h3o h4o p0o p1o p2o p3o p4o
  simp at k0 k1 k2 k3 k4 k5 k6 k7 k8 k9 q0 q1 q2 q3 q4 q5 h1 h2 h3 h4
  obtain rfl : cl = true := hcl
  go_wp2_with fail
  have hX2 := HX.out
  have hA2 := HA.out
  try simp only [if_true, if_false, Bool.false_eq_true, reduceIte] at hX2 hA2
  rw [hX2, hA2]
  have hfar : ¬ ft (w.heap.size + 1) := fun hk => absurd (HFT.out _ hk) (by omega)
  have hM2 : Moves ft w W2 := Moves.of_below HB.out ft
  have E1 := HM2.out
  refine bodyPost_ret (v := .agg #[.int .i64 3, .int .i64 0, .int .i64 0, .slice none 0 0, .slice none 0 0, .slice none 0 0]) (by simp [results, Tryd.results34, go_sem, n1, n2, n3, n4, q0, q1, q2, q3, q4, q5]) rfl ?_
  refine ⟨_, _, _, vD, ft, rfl, Kd.R_nil _ _ _ _ _, Kd.R_nil _ _ _ _ _, Kd.R_nil _ _ _ _ _, ?_, ?_, fun k hk => .inl hk, fun k hk => ?_⟩
  · repeat (first | with_reducible exact E1 | with_reducible refine IsMem.far (p := ⟨w.heap.size + 1, _, none⟩) ?_ hfar _)
  · repeat (first | with_reducible exact hM2 | with_reducible refine Moves.setCell (p := ⟨g, _, none⟩) ?_ (.inl hfg) _ | with_reducible refine Moves.setCell (p := ⟨gd, _, none⟩) ?_ (.inl hgd) _ | with_reducible refine Moves.setCell (p := ⟨w.heap.size + 1, _, none⟩) ?_ (.inr (Nat.le_succ _)) _)
  · have := HFT.out k hk
    have := HS2.out
    simp [World.setCell]
    omega
set_option maxHeartbeats 4000000 in
set_option maxRecDepth 100000 in
theorem file_closed13 (M : IsMem w base ft m vN vA vD mb n f X) (hft : ∀ k, ft k → k < w.heap.size) (kl : Lit) (hkl : WideAt.IsKeyLit kl) (g : Nat) (h : SHnd) (hf : f kl = some g) (hg : w.heap[g]? = some (.cells (shcs h) 49 (0, 0))) (hfg : ft g) (i : Nat) (hi : h.node = i) (hil : i < X.nodes.length) (hL : X.nodes.length ≤ 100000) (s : S26) (A6 : Option Addr) (c6 : Nat) (hl6 : s.f6.length ≤ c6) (hC6 : (Kd.int .u8).C w A6 s.f6.length s.f6) (hop : s.f0 = 13) (hcl : h.closed = true) :
    Calls Tryd.prog 34 #[.pointer (some ⟨m, 0, none⟩), .pointer (some ⟨g, 0, none⟩), stepA s A6 c6] w (FilePost w base ft m vN vA mb n f (X) (ans 3 0 0 [])) := by
  obtain ⟨X', hX'⟩ : ∃ X', X' = (X) := ⟨_, rfl⟩
  obtain ⟨a', ha'⟩ : ∃ a', a' = (ans 3 0 0 []) := ⟨_, rfl⟩
  rw [← ha', ← hX']
  have HX := Lib.hid hX'
  have HA := Lib.hid ha'
  clear hX' ha'
  obtain ⟨gd, cap, A2, c2, hv, hlc, hgd, p0o, p1o, p2o, p3o, p4o, l2, g2, pz, ncs, hnb⟩ := node_at M i hil
  have c2' := M.c2
  rw [hv] at c2'
  have h0 := blk_cell hg 0
  have h1o := blk_cell hg 1
  have h2o := blk_cell hg 2
  have h3o := blk_cell hg 3
  have h4o := blk_cell hg 4
  have hg1 := blk_lt hg
  have n9 : ¬ (g = gd) := fun e => by rw [← e, hg] at hnb; injection hnb with hnb; injection hnb with _ hnb; exact absurd hnb (by decide)
  have n10 : ¬ (gd = g) := fun e => n9 e.symm
  clear hnb
  have hgd1 := hft gd hgd
  have hil' : (i : Int) < (X.nodes.length : Int) := by omega
  obtain ⟨no, po, li, cl, ro⟩ := h
  obtain ⟨op, nm, ot, fl, pe, hh, dat, off, wh, N⟩ := s
  simp only [shcs] at h0 h1o h2o h3o h4o
  simp only at hi hop hl6 hC6
  subst hi
  subst hop
  unfold stepA
  have c2b := cellb c2' (below_alloc (below_alloc (Below.refl w.heap.size w) (.cells #[.int .i64 13, .string nm, .string ot, .int .i64 fl, .int .i64 pe, .int .i64 hh, .slice A6 dat.length c6, .int .i64 off, .int .i64 wh, .int .i64 N] 26)) (.cells #[.int .i64 0, .int .i64 0, .int .i64 0, .slice none 0 0, .slice none 0 0, .slice none 0 0] 33))
  have h0b := cellb h0 (below_alloc (below_alloc (Below.refl w.heap.size w) (.cells #[.int .i64 13, .string nm, .string ot, .int .i64 fl, .int .i64 pe, .int .i64 hh, .slice A6 dat.length c6, .int .i64 off, .int .i64 wh, .int .i64 N] 26)) (.cells #[.int .i64 0, .int .i64 0, .int .i64 0, .slice none 0 0, .slice none 0 0, .slice none 0 0] 33))
  have HM := Lib.hid M
  have HF := Lib.hid hf
  have HG := Lib.hid hg
  have HFT := Lib.hid hft
  have HV := Lib.hid hv
  have HC6 := Lib.hid hC6
  have HG2 := Lib.hid g2
  have HPZ := Lib.hid pz
  have HND := Lib.hid (show nodeOf X (i : Int) = nodeOf X (i : Int) from rfl)
  clear M hf hg hft hv hC6 g2 pz c2' h0
  generalize hLn : X.nodes.length = L at *
  have HLN := Lib.hid hLn
  clear hLn
  generalize hnd : nodeOf X (i : Int) = nd at *
  have HNO := Lib.hid hnd
  clear hnd HND
  obtain ⟨dir, mode, data, time, name⟩ := nd
  simp only at p0o p1o p2o p3o p4o l2 HG2
  go_enter Tryd.func34, Tryd.ntmps34
  go_wp2_with fail
  go_quiet (fail)
  obtain ⟨W2, hW2⟩ : ∃ W2, W2 = World.drewN ((w.alloc (.cells #[.int .i64 13, .string nm, .string ot, .int .i64 fl, .int .i64 pe, .int .i64 hh, .slice A6 dat.length c6, .int .i64 off, .int .i64 wh, .int .i64 N] 26)).alloc (.cells #[.int .i64 0, .int .i64 0, .int .i64 0, .slice none 0 0, .slice none 0 0, .slice none 0 0] 33)) nq := ⟨_, rfl⟩
  rw [← hW2]
  have BW : Below w.heap.size w W2 := by rw [hW2]; exact pw_below_drewN (below_alloc (below_alloc (Below.refl _ _) _) _) _
  have b1 : W2.heap[w.heap.size]? = some (.cells #[.int .i64 13, .string nm, .string ot, .int .i64 fl, .int .i64 pe, .int .i64 hh, .slice A6 dat.length c6, .int .i64 off, .int .i64 wh, .int .i64 N] 26 (0, 0)) := by rw [hW2]; exact blk_drewN (blk_alloc (blk_new _ _) _) _
  have b2 : W2.heap[w.heap.size + 1]? = some (.cells #[.int .i64 0, .int .i64 0, .int .i64 0, .slice none 0 0, .slice none 0 0, .slice none 0 0] 33 (0, 0)) := by rw [hW2]; exact blk_drewN (blk_at_ (by simp)) _
  have hsz2 : W2.heap.size = w.heap.size + 2 := by rw [hW2]; simp [World.drewN]
  have k0 := blk_cell b1 0
  have k1 := blk_cell b1 1
  have k2 := blk_cell b1 2
  have k3 := blk_cell b1 3
  have k4 := blk_cell b1 4
  have k5 := blk_cell b1 5
  have k6 := blk_cell b1 6
  have k7 := blk_cell b1 7
  have k8 := blk_cell b1 8
  have k9 := blk_cell b1 9
  have q0 := blk_cell b2 0
  have q1 := blk_cell b2 1
  have q2 := blk_cell b2 2
  have q3 := blk_cell b2 3
  have q4 := blk_cell b2 4
  have q5 := blk_cell b2 5
  have zq := blk_frozen b2
  have zg := blk_frozen (blk_below HG.out BW)
  have zd := fun j => (show W2.frozen? ⟨gd, i * 5 + j, none⟩ = false by rw [← HPZ.out j]; exact BW.frozen (p := ⟨gd, i * 5 + j, none⟩) hgd1)
  have h1 := cellb h1o BW
  have h2 := cellb h2o BW
  have h3 := cellb h3o BW
  have h4 := cellb h4o BW
  have p0 := cellb p0o BW
  have p1 := cellb p1o BW
  have p2 := cellb p2o BW
  have p3 := cellb p3o BW
  have p4 := cellb p4o BW
  have HB := Lib.hid BW
  have HM2 := Lib.hid (HM.out.below BW)
  have HGH := Lib.hid (blk_below HG.out BW)
  have HO := Lib.hid b2
  have HS2 := Lib.hid hsz2
  have n1 : ¬ (g = w.heap.size + 1) := by omega
  have n2 : ¬ (gd = w.heap.size + 1) := by omega
  have n3 : ¬ (w.heap.size + 1 = g) := by omega
  have n4 : ¬ (w.heap.size + 1 = gd) := by omega
  have n5 : ¬ (g = w.heap.size) := by omega
  have n6 : ¬ (gd = w.heap.size) := by omega
  have n7 : ¬ (w.heap.size = g) := by omega
  have n8 : ¬ (w.heap.size = gd) := by omega
  clear hW2 BW b1 b2 c2b h0b hsz2 hg1 hgd1 h1o h2o h3o h4o p0o p1o p2o p3o p4o
  simp at k0 k1 k2 k3 k4 k5 k6 k7 k8 k9 q0 q1 q2 q3 q4 q5 h1 h2 h3 h4
  obtain rfl : cl = true := hcl
  go_wp2_with fail
  have hX2 := HX.out
  have hA2 := HA.out
  try simp only [if_true, if_false, Bool.false_eq_true, reduceIte] at hX2 hA2
  rw [hX2, hA2]
  have hfar : ¬ ft (w.heap.size + 1) := fun hk => absurd (HFT.out _ hk) (by omega)
  have hM2 : Moves ft w W2 := Moves.of_below HB.out ft
  have E1 := HM2.out
  refine bodyPost_ret (v := .agg #[.int .i64 3, .int .i64 0, .int .i64 0, .slice none 0 0, .slice none 0 0, .slice none 0 0]) (by simp [results, Tryd.results34, go_sem, n1, n2, n3, n4, q0, q1, q2, q3, q4, q5]) rfl ?_
  refine ⟨_, _, _, vD, ft, rfl, Kd.R_nil _ _ _ _ _, Kd.R_nil _ _ _ _ _, Kd.R_nil _ _ _ _ _, ?_, ?_, fun k hk => .inl hk, fun k hk => ?_⟩
  · repeat (first | with_reducible exact E1 | with_reducible refine IsMem.far (p := ⟨w.heap.size + 1, _, none⟩) ?_ hfar _)
  · repeat (first | with_reducible exact hM2 | with_reducible refine Moves.setCell (p := ⟨g, _, none⟩) ?_ (.inl hfg) _ | with_reducible refine Moves.setCell (p := ⟨gd, _, none⟩) ?_ (.inl hgd) _ | with_reducible refine Moves.setCell (p := ⟨w.heap.size + 1, _, none⟩) ?_ (.inr (Nat.le_succ _)) _)
  · have := HFT.out k hk
    have := HS2.out
    simp [World.setCell]
    omega
set_option maxHeartbeats 4000000 in
set_option maxRecDepth 100000 in
theorem file_closed14 (M : IsMem w base ft m vN vA vD mb n f X) (hft : ∀ k, ft k → k < w.heap.size) (kl : Lit) (hkl : WideAt.IsKeyLit kl) (g : Nat) (h : SHnd) (hf : f kl = some g) (hg : w.heap[g]? = some (.cells (shcs h) 49 (0, 0))) (hfg : ft g) (i : Nat) (hi : h.node = i) (hil : i < X.nodes.length) (hL : X.nodes.length ≤ 100000) (s : S26) (A6 : Option Addr) (c6 : Nat) (hl6 : s.f6.length ≤ c6) (hC6 : (Kd.int .u8).C w A6 s.f6.length s.f6) (hop : s.f0 = 14) (hcl : h.closed = true) :
    Calls Tryd.prog 34 #[.pointer (some ⟨m, 0, none⟩), .pointer (some ⟨g, 0, none⟩), stepA s A6 c6] w (FilePost w base ft m vN vA mb n f (X) (ans 3 0 0 [])) := by
  obtain ⟨X', hX'⟩ : ∃ X', X' = (X) := ⟨_, rfl⟩
  obtain ⟨a', ha'⟩ : ∃ a', a' = (ans 3 0 0 []) := ⟨_, rfl⟩
  rw [← ha', ← hX']
  have HX := Lib.hid hX'
  have HA := Lib.hid ha'
  clear hX' ha'
  obtain ⟨gd, cap, A2, c2, hv, hlc, hgd, p0o, p1o, p2o, p3o, p4o, l2, g2, pz, ncs, hnb⟩ := node_at M i hil
  have c2' := M.c2
  rw [hv] at c2'
  have h0 := blk_cell hg 0
  have h1o := blk_cell hg 1
  have h2o := blk_cell hg 2
  have h3o := blk_cell hg 3
  have h4o := blk_cell hg 4
  have hg1 := blk_lt hg
  have n9 : ¬ (g = gd) := fun e => by rw [← e, hg] at hnb; injection hnb with hnb; injection hnb with _ hnb; exact absurd hnb (by decide)
  have n10 : ¬ (gd = g) := fun e => n9 e.symm
  clear hnb
  have hgd1 := hft gd hgd
  have hil' : (i : Int) < (X.nodes.length : Int) := by omega
  obtain ⟨no, po, li, cl, ro⟩ := h
  obtain ⟨op, nm, ot, fl, pe, hh, dat, off, wh, N⟩ := s
  simp only [shcs] at h0 h1o h2o h3o h4o
  simp only at hi hop hl6 hC6
  subst hi
  subst hop
  unfold stepA
  have c2b := cellb c2' (below_alloc (below_alloc (Below.refl w.heap.size w) (.cells #[.int .i64 14, .string nm, .string ot, .int .i64 fl, .int .i64 pe, .int .i64 hh, .slice A6 dat.length c6, .int .i64 off, .int .i64 wh, .int .i64 N] 26)) (.cells #[.int .i64 0, .int .i64 0, .int .i64 0, .slice none 0 0, .slice none 0 0, .slice none 0 0] 33))
  have h0b := cellb h0 (below_alloc (below_alloc (Below.refl w.heap.size w) (.cells #[.int .i64 14, .string nm, .string ot, .int .i64 fl, .int .i64 pe, .int .i64 hh, .slice A6 dat.length c6, .int .i64 off, .int .i64 wh, .int .i64 N] 26)) (.cells #[.int .i64 0, .int .i64 0, .int .i64 0, .slice none 0 0, .slice none 0 0, .slice none 0 0] 33))
  have HM := Lib.hid M
  have HF := Lib.hid hf
  have HG := Lib.hid hg
  have HFT := Lib.hid hft
  have HV := Lib.hid hv
  have HC6 := Lib.hid hC6
  have HG2 := Lib.hid g2
  have HPZ := Lib.hid pz
  have HND := Lib.hid (show nodeOf X (i : Int) = nodeOf X (i : Int) from rfl)
  clear M hf hg hft hv hC6 g2 pz c2' h0
  generalize hLn : X.nodes.length = L at *
  have HLN := Lib.hid hLn
  clear hLn
  generalize hnd : nodeOf X (i : Int) = nd at *
  have HNO := Lib.hid hnd
  clear hnd HND
  obtain ⟨dir, mode, data, time, name⟩ := nd
  simp only at p0o p1o p2o p3o p4o l2 HG2
  go_enter Tryd.func34, Tryd.ntmps34
  go_wp2_with fail
  go_quiet (fail)
  obtain ⟨W2, hW2⟩ : ∃ W2, W2 = World.drewN ((w.alloc (.cells #[.int .i64 14, .string nm, .string ot, .int .i64 fl, .int .i64 pe, .int .i64 hh, .slice A6 dat.length c6, .int .i64 off, .int .i64 wh, .int .i64 N] 26)).alloc (.cells #[.int .i64 0, .int .i64 0, .int .i64 0, .slice none 0 0, .slice none 0 0, .slice none 0 0] 33)) nq := ⟨_, rfl⟩
  rw [← hW2]
  have BW : Below w.heap.size w W2 := by rw [hW2]; exact pw_below_drewN (below_alloc (below_alloc (Below.refl _ _) _) _) _
  have b1 : W2.heap[w.heap.size]? = some (.cells #[.int .i64 14, .string nm, .string ot, .int .i64 fl, .int .i64 pe, .int .i64 hh, .slice A6 dat.length c6, .int .i64 off, .int .i64 wh, .int .i64 N] 26 (0, 0)) := by rw [hW2]; exact blk_drewN (blk_alloc (blk_new _ _) _) _
  have b2 : W2.heap[w.heap.size + 1]? = some (.cells #[.int .i64 0, .int .i64 0, .int .i64 0, .slice none 0 0, .slice none 0 0, .slice none 0 0] 33 (0, 0)) := by rw [hW2]; exact blk_drewN (blk_at_ (by simp)) _
  have hsz2 : W2.heap.size = w.heap.size + 2 := by rw [hW2]; simp [World.drewN]
  have k0 := blk_cell b1 0
  have k1 := blk_cell b1 1
  have k2 := blk_cell b1 2
  have k3 := blk_cell b1 3
  have k4 := blk_cell b1 4
  have k5 := blk_cell b1 5
  have k6 := blk_cell b1 6
  have k7 := blk_cell b1 7
  have k8 := blk_cell b1 8
  have k9 := blk_cell b1 9
  have q0 := blk_cell b2 0
  have q1 := blk_cell b2 1
  have q2 := blk_cell b2 2
  have q3 := blk_cell b2 3
  have q4 := blk_cell b2 4
  have q5 := blk_cell b2 5
  have zq := blk_frozen b2
  have zg := blk_frozen (blk_below HG.out BW)
  have zd := fun j => (show W2.frozen? ⟨gd, i * 5 + j, none⟩ = false by rw [← HPZ.out j]; exact BW.frozen (p := ⟨gd, i * 5 + j, none⟩) hgd1)
  have h1 := cellb h1o BW
  have h2 := cellb h2o BW
  have h3 := cellb h3o BW
  have h4 := cellb h4o BW
  have p0 := cellb p0o BW
  have p1 := cellb p1o BW
  have p2 := cellb p2o BW
  have p3 := cellb p3o BW
  have p4 := cellb p4o BW
  have HB := Lib.hid BW
  have HM2 := Lib.hid (HM.out.below BW)
  have HGH := Lib.hid (blk_below HG.out BW)
  have HO := Lib.hid b2
  have HS2 := Lib.hid hsz2
  have n1 : ¬ (g = w.heap.size + 1) := by omega
  have n2 : ¬ (gd = w.heap.size + 1) := by omega
  have n3 : ¬ (w.heap.size + 1 = g) := by omega
  have n4 : ¬ (w.heap.size + 1 = gd) := by omega
  have n5 : ¬ (g = w.heap.size) := by omega
  have n6 : ¬ (gd = w.heap.size) := by omega
  have n7 : ¬ (w.heap.size = g) := by omega
  have n8 : ¬ (w.heap.size = gd) := by omega
  clear hW2 BW b1 b2 c2b h0b hsz2 hg1 hgd1 h1o h2o h3o h4o p0o p1o p2o p3o p4o
  simp at k0 k1 k2 k3 k4 k5 k6 k7 k8 k9 q0 q1 q2 q3 q4 q5 h1 h2 h3 h4
  obtain rfl : cl = true := hcl
  go_wp2_with fail
  have hX2 := HX.out
  have hA2 := HA.out
  try simp only [if_true, if_false, Bool.false_eq_true, reduceIte] at hX2 hA2
  rw [hX2, hA2]
  have hfar : ¬ ft (w.heap.size + 1) := fun hk => absurd (HFT.out _ hk) (by omega)
  have hM2 : Moves ft w W2 := Moves.of_below HB.out ft
  have E1 := HM2.out
  refine bodyPost_ret (v := .agg #[.int .i64 3, .int .i64 0, .int .i64 0, .slice none 0 0, .slice none 0 0, .slice none 0 0]) (by simp [results, Tryd.results34, go_sem, n1, n2, n3, n4, q0, q1, q2, q3, q4, q5]) rfl ?_
  refine ⟨_, _, _, vD, ft, rfl, Kd.R_nil _ _ _ _ _, Kd.R_nil _ _ _ _ _, Kd.R_nil _ _ _ _ _, ?_, ?_, fun k hk => .inl hk, fun k hk => ?_⟩
  · repeat (first | with_reducible exact E1 | with_reducible refine IsMem.far (p := ⟨w.heap.size + 1, _, none⟩) ?_ hfar _)
  · repeat (first | with_reducible exact hM2 | with_reducible refine Moves.setCell (p := ⟨g, _, none⟩) ?_ (.inl hfg) _ | with_reducible refine Moves.setCell (p := ⟨gd, _, none⟩) ?_ (.inl hgd) _ | with_reducible refine Moves.setCell (p := ⟨w.heap.size + 1, _, none⟩) ?_ (.inr (Nat.le_succ _)) _)
  · have := HFT.out k hk
    have := HS2.out
    simp [World.setCell]
    omega
set_option maxHeartbeats 4000000 in
set_option maxRecDepth 100000 in
theorem file_closed15 (M : IsMem w base ft m vN vA vD mb n f X) (hft : ∀ k, ft k → k < w.heap.size) (kl : Lit) (hkl : WideAt.IsKeyLit kl) (g : Nat) (h : SHnd) (hf : f kl = some g) (hg : w.heap[g]? = some (.cells (shcs h) 49 (0, 0))) (hfg : ft g) (i : Nat) (hi : h.node = i) (hil : i < X.nodes.length) (hL : X.nodes.length ≤ 100000) (s : S26) (A6 : Option Addr) (c6 : Nat) (hl6 : s.f6.length ≤ c6) (hC6 : (Kd.int .u8).C w A6 s.f6.length s.f6) (hop : s.f0 = 15) (hcl : h.closed = true) :
    Calls Tryd.prog 34 #[.pointer (some ⟨m, 0, none⟩), .pointer (some ⟨g, 0, none⟩), stepA s A6 c6] w (FilePost w base ft m vN vA mb n f (X) (ans 3 0 0 [])) := by
  obtain ⟨X', hX'⟩ : ∃ X', X' = (X) := ⟨_, rfl⟩
  obtain ⟨a', ha'⟩ : ∃ a', a' = (ans 3 0 0 []) := ⟨_, rfl⟩
  rw [← ha', ← hX']
  have HX := Lib.hid hX'
  have HA := Lib.hid ha'
  clear hX' ha'
  obtain ⟨gd, cap, A2, c2, hv, hlc, hgd, p0o, p1o, p2o, p3o, p4o, l2, g2, pz, ncs, hnb⟩ := node_at M i hil
  have c2' := M.c2
  rw [hv] at c2'
  have h0 := blk_cell hg 0
  have h1o := blk_cell hg 1
  have h2o := blk_cell hg 2
  have h3o := blk_cell hg 3
  have h4o := blk_cell hg 4
  have hg1 := blk_lt hg
  have n9 : ¬ (g = gd) := fun e => by rw [← e, hg] at hnb; injection hnb with hnb; injection hnb with _ hnb; exact absurd hnb (by decide)
  have n10 : ¬ (gd = g) := fun e => n9 e.symm
  clear hnb
  have hgd1 := hft gd hgd
  have hil' : (i : Int) < (X.nodes.length : Int) := by omega
  obtain ⟨no, po, li, cl, ro⟩ := h
  obtain ⟨op, nm, ot, fl, pe, hh, dat, off, wh, N⟩ := s
  simp only [shcs] at h0 h1o h2o h3o h4o
  simp only at hi hop hl6 hC6
  subst hi
  subst hop
  unfold stepA
  have c2b := cellb c2' (below_alloc (below_alloc (Below.refl w.heap.size w) (.cells #[.int .i64 15, .string nm, .string ot, .int .i64 fl, .int .i64 pe, .int .i64 hh, .slice A6 dat.length c6, .int .i64 off, .int .i64 wh, .int .i64 N] 26)) (.cells #[.int .i64 0, .int .i64 0, .int .i64 0, .slice none 0 0, .slice none 0 0, .slice none 0 0] 33))
  have h0b := cellb h0 (below_alloc (below_alloc (Below.refl w.heap.size w) (.cells #[.int .i64 15, .string nm, .string ot, .int .i64 fl, .int .i64 pe, .int .i64 hh, .slice A6 dat.length c6, .int .i64 off, .int .i64 wh, .int .i64 N] 26)) (.cells #[.int .i64 0, .int .i64 0, .int .i64 0, .slice none 0 0, .slice none 0 0, .slice none 0 0] 33))
  have HM := Lib.hid M
  have HF := Lib.hid hf
  have HG := Lib.hid hg
  have HFT := Lib.hid hft
  have HV := Lib.hid hv
  have HC6 := Lib.hid hC6
  have HG2 := Lib.hid g2
  have HPZ := Lib.hid pz
  have HND := Lib.hid (show nodeOf X (i : Int) = nodeOf X (i : Int) from rfl)
  clear M hf hg hft hv hC6 g2 pz c2' h0
  generalize hLn : X.nodes.length = L at *
  have HLN := Lib.hid hLn
  clear hLn
  generalize hnd : nodeOf X (i : Int) = nd at *
  have HNO := Lib.hid hnd
  clear hnd HND
  obtain ⟨dir, mode, data, time, name⟩ := nd
  simp only at p0o p1o p2o p3o p4o l2 HG2
  go_enter Tryd.func34, Tryd.ntmps34
  go_wp2_with fail
  go_quiet (fail)
  obtain ⟨W2, hW2⟩ : ∃ W2, W2 = World.drewN ((w.alloc (.cells #[.int .i64 15, .string nm, .string ot, .int .i64 fl, .int .i64 pe, .int .i64 hh, .slice A6 dat.length c6, .int .i64 off, .int .i64 wh, .int .i64 N] 26)).alloc (.cells #[.int .i64 0, .int .i64 0, .int .i64 0, .slice none 0 0, .slice none 0 0, .slice none 0 0] 33)) nq := ⟨_, rfl⟩
  rw [← hW2]
  have BW : Below w.heap.size w W2 := by rw [hW2]; exact pw_below_drewN (below_alloc (below_alloc (Below.refl _ _) _) _) _
  have b1 : W2.heap[w.heap.size]? = some (.cells #[.int .i64 15, .string nm, .string ot, .int .i64 fl, .int .i64 pe, .int .i64 hh, .slice A6 dat.length c6, .int .i64 off, .int .i64 wh, .int .i64 N] 26 (0, 0)) := by rw [hW2]; exact blk_drewN (blk_alloc (blk_new _ _) _) _
  have b2 : W2.heap[w.heap.size + 1]? = some (.cells #[.int .i64 0, .int .i64 0, .int .i64 0, .slice none 0 0, .slice none 0 0, .slice none 0 0] 33 (0, 0)) := by rw [hW2]; exact blk_drewN (blk_at_ (by simp)) _
  have hsz2 : W2.heap.size = w.heap.size + 2 := by rw [hW2]; simp [World.drewN]
  have k0 := blk_cell b1 0
  have k1 := blk_cell b1 1
  have k2 := blk_cell b1 2
  have k3 := blk_cell b1 3
  have k4 := blk_cell b1 4
  have k5 := blk_cell b1 5
  have k6 := blk_cell b1 6
  have k7 := blk_cell b1 7
  have k8 := blk_cell b1 8
  have k9 := blk_cell b1 9
  have q0 := blk_cell b2 0
  have q1 := blk_cell b2 1
  have q2 := blk_cell b2 2
  have q3 := blk_cell b2 3
  have q4 := blk_cell b2 4
  have q5 := blk_cell b2 5
  have zq := blk_frozen b2
  have zg := blk_frozen (blk_below HG.out BW)
  have zd := fun j => (show W2.frozen? ⟨gd, i * 5 + j, none⟩ = false by rw [← HPZ.out j]; exact BW.frozen (p := ⟨gd, i * 5 + j, none⟩) hgd1)
  have h1 := cellb h1o BW
  have h2 := cellb h2o BW
  have h3 := cellb h3o BW
  have h4 := cellb h4o BW
  have p0 := cellb p0o BW
  have p1 := cellb p1o BW
  have p2 := cellb p2o BW
  have p3 := cellb p3o BW
  have p4 := cellb p4o BW
  have HB := Lib.hid BW
  have HM2 := Lib.hid (HM.out.below BW)
  have HGH := Lib.hid (blk_below HG.out BW)
  have HO := Lib.hid b2
  have HS2 := Lib.hid hsz2
  have n1 : ¬ (g = w.heap.size + 1) := by omega
  have n2 : ¬ (gd = w.heap.size + 1) := by omega
  have n3 : ¬ (w.heap.size + 1 = g) := by omega
  have n4 : ¬ (w.heap.size + 1 = gd) := by omega
  have n5 : ¬ (g = w.heap.size) := by omega
  have n6 : ¬ (gd = w.heap.size) := by omega
  have n7 : ¬ (w.heap.size = g) := by omega
  have n8 : ¬ (w.heap.size = gd) := by omega
  clear hW2 BW b1 b2 c2b h0b hsz2 hg1 hgd1 h1o h2o h3o h4o p0o p1o p2o p3o p4o
  simp at k0 k1 k2 k3 k4 k5 k6 k7 k8 k9 q0 q1 q2 q3 q4 q5 h1 h2 h3 h4
  obtain rfl : cl = true := hcl
  go_wp2_with fail
  have hX2 := HX.out
  have hA2 := HA.out
  try simp only [if_true, if_false, Bool.false_eq_true, reduceIte] at hX2 hA2
  rw [hX2, hA2]
  have hfar : ¬ ft (w.heap.size + 1) := fun hk => absurd (HFT.out _ hk) (by omega)
  have hM2 : Moves ft w W2 := Moves.of_below HB.out ft
  have E1 := HM2.out
  refine bodyPost_ret (v := .agg #[.int .i64 3, .int .i64 0, .int .i64 0, .slice none 0 0, .slice none 0 0, .slice none 0 0]) (by simp [results, Tryd.results34, go_sem, n1, n2, n3, n4, q0, q1, q2, q3, q4, q5]) rfl ?_
  refine ⟨_, _, _, vD, ft, rfl, Kd.R_nil _ _ _ _ _, Kd.R_nil _ _ _ _ _, Kd.R_nil _ _ _ _ _, ?_, ?_, fun k hk => .inl hk, fun k hk => ?_⟩
  · repeat (first | with_reducible exact E1 | with_reducible refine IsMem.far (p := ⟨w.heap.size + 1, _, none⟩) ?_ hfar _)
  · repeat (first | with_reducible exact hM2 | with_reducible refine Moves.setCell (p := ⟨g, _, none⟩) ?_ (.inl hfg) _ | with_reducible refine Moves.setCell (p := ⟨gd, _, none⟩) ?_ (.inl hgd) _ | with_reducible refine Moves.setCell (p := ⟨w.heap.size + 1, _, none⟩) ?_ (.inr (Nat.le_succ _)) _)
  · have := HFT.out k hk
    have := HS2.out
    simp [World.setCell]
    omega
set_option maxHeartbeats 4000000 in
set_option maxRecDepth 100000 in
theorem file_closed16 (M : IsMem w base ft m vN vA vD mb n f X) (hft : ∀ k, ft k → k < w.heap.size) (kl : Lit) (hkl : WideAt.IsKeyLit kl) (g : Nat) (h : SHnd) (hf : f kl = some g) (hg : w.heap[g]? = some (.cells (shcs h) 49 (0, 0))) (hfg : ft g) (i : Nat) (hi : h.node = i) (hil : i < X.nodes.length) (hL : X.nodes.length ≤ 100000) (s : S26) (A6 : Option Addr) (c6 : Nat) (hl6 : s.f6.length ≤ c6) (hC6 : (Kd.int .u8).C w A6 s.f6.length s.f6) (hop : s.f0 = 16) (hcl : h.closed = true) :
    Calls Tryd.prog 34 #[.pointer (some ⟨m, 0, none⟩), .pointer (some ⟨g, 0, none⟩), stepA s A6 c6] w (FilePost w base ft m vN vA mb n f (X) (ans 3 0 0 [])) := by
  obtain ⟨X', hX'⟩ : ∃ X', X' = (X) := ⟨_, rfl⟩
  obtain ⟨a', ha'⟩ : ∃ a', a' = (ans 3 0 0 []) := ⟨_, rfl⟩
  rw [← ha', ← hX']
  have HX := Lib.hid hX'
  have HA := Lib.hid ha'
  clear hX' ha'
  obtain ⟨gd, cap, A2, c2, hv, hlc, hgd, p0o, p1o, p2o, p3o, p4o, l2, g2, pz, ncs, hnb⟩ := node_at M i hil
  have c2' := M.c2
  rw [hv] at c2'
  have h0 := blk_cell hg 0
  have h1o := blk_cell hg 1
  have h2o := blk_cell hg 2
  have h3o := blk_cell hg 3
  have h4o := blk_cell hg 4
  have hg1 := blk_lt hg
  have n9 : ¬ (g = gd) := fun e => by rw [← e, hg] at hnb; injection hnb with hnb; injection hnb with _ hnb; exact absurd hnb (by decide)
  have n10 : ¬ (gd = g) := fun e => n9 e.symm
  clear hnb
  have hgd1 := hft gd hgd
  have hil' : (i : Int) < (X.nodes.length : Int) := by omega
  obtain ⟨no, po, li, cl, ro⟩ := h
  obtain ⟨op, nm, ot, fl, pe, hh, dat, off, wh, N⟩ := s
  simp only [shcs] at h0 h1o h2o h3o h4o
  simp only at hi hop hl6 hC6
  subst hi
  subst hop
  unfold stepA
  have c2b := cellb c2' (below_alloc (below_alloc (Below.refl w.heap.size w) (.cells #[.int .i64 16, .string nm, .string ot, .int .i64 fl, .int .i64 pe, .int .i64 hh, .slice A6 dat.length c6, .int .i64 off, .int .i64 wh, .int .i64 N] 26)) (.cells #[.int .i64 0, .int .i64 0, .int .i64 0, .slice none 0 0, .slice none 0 0, .slice none 0 0] 33))
  have h0b := cellb h0 (below_alloc (below_alloc (Below.refl w.heap.size w) (.cells #[.int .i64 16, .string nm, .string ot, .int .i64 fl, .int .i64 pe, .int .i64 hh, .slice A6 dat.length c6, .int .i64 off, .int .i64 wh, .int .i64 N] 26)) (.cells #[.int .i64 0, .int .i64 0, .int .i64 0, .slice none 0 0, .slice none 0 0, .slice none 0 0] 33))
  have HM := Lib.hid M
  have HF := Lib.hid hf
  have HG := Lib.hid hg
  have HFT := Lib.hid hft
  have HV := Lib.hid hv
  have HC6 := Lib.hid hC6
  have HG2 := Lib.hid g2
  have HPZ := Lib.hid pz
  have HND := Lib.hid (show nodeOf X (i : Int) = nodeOf X (i : Int) from rfl)
  clear M hf hg hft hv hC6 g2 pz c2' h0
  generalize hLn : X.nodes.length = L at *
  have HLN := Lib.hid hLn
  clear hLn
  generalize hnd : nodeOf X (i : Int) = nd at *
  have HNO := Lib.hid hnd
  clear hnd HND
  obtain ⟨dir, mode, data, time, name⟩ := nd
  simp only at p0o p1o p2o p3o p4o l2 HG2
  go_enter Tryd.func34, Tryd.ntmps34
  go_wp2_with fail
  go_quiet (fail)
  obtain ⟨W2, hW2⟩ : ∃ W2, W2 = World.drewN ((w.alloc (.cells #[.int .i64 16, .string nm, .string ot, .int .i64 fl, .int .i64 pe, .int .i64 hh, .slice A6 dat.length c6, .int .i64 off, .int .i64 wh, .int .i64 N] 26)).alloc (.cells #[.int .i64 0, .int .i64 0, .int .i64 0, .slice none 0 0, .slice none 0 0, .slice none 0 0] 33)) nq := ⟨_, rfl⟩
  rw [← hW2]
  have BW : Below w.heap.size w W2 := by rw [hW2]; exact pw_below_drewN (below_alloc (below_alloc (Below.refl _ _) _) _) _
  have b1 : W2.heap[w.heap.size]? = some (.cells #[.int .i64 16, .string nm, .string ot, .int .i64 fl, .int .i64 pe, .int .i64 hh, .slice A6 dat.length c6, .int .i64 off, .int .i64 wh, .int .i64 N] 26 (0, 0)) := by rw [hW2]; exact blk_drewN (blk_alloc (blk_new _ _) _) _
  have b2 : W2.heap[w.heap.size + 1]? = some (.cells #[.int .i64 0, .int .i64 0, .int .i64 0, .slice none 0 0, .slice none 0 0, .slice none 0 0] 33 (0, 0)) := by rw [hW2]; exact blk_drewN (blk_at_ (by simp)) _
  have hsz2 : W2.heap.size = w.heap.size + 2 := by rw [hW2]; simp [World.drewN]
  have k0 := blk_cell b1 0
  have k1 := blk_cell b1 1
  have k2 := blk_cell b1 2
  have k3 := blk_cell b1 3
  have k4 := blk_cell b1 4
  have k5 := blk_cell b1 5
  have k6 := blk_cell b1 6
  have k7 := blk_cell b1 7
  have k8 := blk_cell b1 8
  have k9 := blk_cell b1 9
  have q0 := blk_cell b2 0
  have q1 := blk_cell b2 1
  have q2 := blk_cell b2 2
  have q3 := blk_cell b2 3
  have q4 := blk_cell b2 4
  have q5 := blk_cell b2 5
  have zq := blk_frozen b2
  have zg := blk_frozen (blk_below HG.out BW)
  have zd := fun j => (show W2.frozen? ⟨gd, i * 5 + j, none⟩ = false by rw [← HPZ.out j]; exact BW.frozen (p := ⟨gd, i * 5 + j, none⟩) hgd1)
  have h1 := cellb h1o BW
  have h2 := cellb h2o BW
  have h3 := cellb h3o BW
  have h4 := cellb h4o BW
  have p0 := cellb p0o BW
  have p1 := cellb p1o BW
  have p2 := cellb p2o BW
  have p3 := cellb p3o BW
  have p4 := cellb p4o BW
  have HB := Lib.hid BW
  have HM2 := Lib.hid (HM.out.below BW)
  have HGH := Lib.hid (blk_below HG.out BW)
  have HO := Lib.hid b2
  have HS2 := Lib.hid hsz2
  have n1 : ¬ (g = w.heap.size + 1) := by omega
  have n2 : ¬ (gd = w.heap.size + 1) := by omega
  have n3 : ¬ (w.heap.size + 1 = g) := by omega
  have n4 : ¬ (w.heap.size + 1 = gd) := by omega
  have n5 : ¬ (g = w.heap.size) := by omega
  have n6 : ¬ (gd = w.heap.size) := by omega
  have n7 : ¬ (w.heap.size = g) := by omega
  have n8 : ¬ (w.heap.size = gd) := by omega
  clear hW2 BW b1 b2 c2b h0b hsz2 hg1 hgd1 h1o h2o h3o h4o p0o p1o p2o p3o p4o
  simp at k0 k1 k2 k3 k4 k5 k6 k7 k8 k9 q0 q1 q2 q3 q4 q5 h1 h2 h3 h4
  obtain rfl : cl = true := hcl
  go_wp2_with fail
  have hX2 := HX.out
  have hA2 := HA.out
  try simp only [if_true, if_false, Bool.false_eq_true, reduceIte] at hX2 hA2
  rw [hX2, hA2]
  have hfar : ¬ ft (w.heap.size + 1) := fun hk => absurd (HFT.out _ hk) (by omega)
  have hM2 : Moves ft w W2 := Moves.of_below HB.out ft
  have E1 := HM2.out
  refine bodyPost_ret (v := .agg #[.int .i64 3, .int .i64 0, .int .i64 0, .slice none 0 0, .slice none 0 0, .slice none 0 0]) (by simp [results, Tryd.results34, go_sem, n1, n2, n3, n4, q0, q1, q2, q3, q4, q5]) rfl ?_
  refine ⟨_, _, _, vD, ft, rfl, Kd.R_nil _ _ _ _ _, Kd.R_nil _ _ _ _ _, Kd.R_nil _ _ _ _ _, ?_, ?_, fun k hk => .inl hk, fun k hk => ?_⟩
  · repeat (first | with_reducible exact E1 | with_reducible refine IsMem.far (p := ⟨w.heap.size + 1, _, none⟩) ?_ hfar _)
  · repeat (first | with_reducible exact hM2 | with_reducible refine Moves.setCell (p := ⟨g, _, none⟩) ?_ (.inl hfg) _ | with_reducible refine Moves.setCell (p := ⟨gd, _, none⟩) ?_ (.inl hgd) _ | with_reducible refine Moves.setCell (p := ⟨w.heap.size + 1, _, none⟩) ?_ (.inr (Nat.le_succ _)) _)
  · have := HFT.out k hk
    have := HS2.out
    simp [World.setCell]
    omega
set_option maxHeartbeats 4000000 in
set_option maxRecDepth 100000 in
theorem file_closed17 (M : IsMem w base ft m vN vA vD mb n f X) (hft : ∀ k, ft k → k < w.heap.size) (kl : Lit) (hkl : WideAt.IsKeyLit kl) (g : Nat) (h : SHnd) (hf : f kl = some g) (hg : w.heap[g]? = some (.cells (shcs h) 49 (0, 0))) (hfg : ft g) (i : Nat) (hi : h.node = i) (hil : i < X.nodes.length) (hL : X.nodes.length ≤ 100000) (s : S26) (A6 : Option Addr) (c6 : Nat) (hl6 : s.f6.length ≤ c6) (hC6 : (Kd.int .u8).C w A6 s.f6.length s.f6) (hop : s.f0 = 17) (hcl : h.closed = true) :
    Calls Tryd.prog 34 #[.pointer (some ⟨m, 0, none⟩), .pointer (some ⟨g, 0, none⟩), stepA s A6 c6] w (FilePost w base ft m vN vA mb n f (X) (ans 3 0 0 [])) := by
  obtain ⟨X', hX'⟩ : ∃ X', X' = (X) := ⟨_, rfl⟩
  obtain ⟨a', ha'⟩ : ∃ a', a' = (ans 3 0 0 []) := ⟨_, rfl⟩
  rw [← ha', ← hX']
  have HX := Lib.hid hX'
  have HA := Lib.hid ha'
  clear hX' ha'
  obtain ⟨gd, cap, A2, c2, hv, hlc, hgd, p0o, p1o, p2o, p3o, p4o, l2, g2, pz, ncs, hnb⟩ := node_at M i hil
  have c2' := M.c2
  rw [hv] at c2'
  have h0 := blk_cell hg 0
  have h1o := blk_cell hg 1
  have h2o := blk_cell hg 2
  have h3o := blk_cell hg 3
  have h4o := blk_cell hg 4
  have hg1 := blk_lt hg
  have n9 : ¬ (g = gd) := fun e => by rw [← e, hg] at hnb; injection hnb with hnb; injection hnb with _ hnb; exact absurd hnb (by decide)
  have n10 : ¬ (gd = g) := fun e => n9 e.symm
  clear hnb
  have hgd1 := hft gd hgd
  have hil' : (i : Int) < (X.nodes.length : Int) := by omega
  obtain ⟨no, po, li, cl, ro⟩ := h
  obtain ⟨op, nm, ot, fl, pe, hh, dat, off, wh, N⟩ := s
  simp only [shcs] at h0 h1o h2o h3o h4o
  simp only at hi hop hl6 hC6
  subst hi
  subst hop
  unfold stepA
  have c2b := cellb c2' (below_alloc (below_alloc (Below.refl w.heap.size w) (.cells #[.int .i64 17, .string nm, .string ot, .int .i64 fl, .int .i64 pe, .int .i64 hh, .slice A6 dat.length c6, .int .i64 off, .int .i64 wh, .int .i64 N] 26)) (.cells #[.int .i64 0, .int .i64 0, .int .i64 0, .slice none 0 0, .slice none 0 0, .slice none 0 0] 33))
  have h0b := cellb h0 (below_alloc (below_alloc (Below.refl w.heap.size w) (.cells #[.int .i64 17, .string nm, .string ot, .int .i64 fl, .int .i64 pe, .int .i64 hh, .slice A6 dat.length c6, .int .i64 off, .int .i64 wh, .int .i64 N] 26)) (.cells #[.int .i64 0, .int .i64 0, .int .i64 0, .slice none 0 0, .slice none 0 0, .slice none 0 0] 33))
  have HM := Lib.hid M
  have HF := Lib.hid hf
  have HG := Lib.hid hg
  have HFT := Lib.hid hft
  have HV := Lib.hid hv
  have HC6 := Lib.hid hC6
  have HG2 := Lib.hid g2
  have HPZ := Lib.hid pz
  have HND := Lib.hid (show nodeOf X (i : Int) = nodeOf X (i : Int) from rfl)
  clear M hf hg hft hv hC6 g2 pz c2' h0
  generalize hLn : X.nodes.length = L at *
  have HLN := Lib.hid hLn
  clear hLn
  generalize hnd : nodeOf X (i : Int) = nd at *
  have HNO := Lib.hid hnd
  clear hnd HND
  obtain ⟨dir, mode, data, time, name⟩ := nd
  simp only at p0o p1o p2o p3o p4o l2 HG2
  go_enter Tryd.func34, Tryd.ntmps34
  go_wp2_with fail
  go_quiet (fail)
  obtain ⟨W2, hW2⟩ : ∃ W2, W2 = World.drewN ((w.alloc (.cells #[.int .i64 17, .string nm, .string ot, .int .i64 fl, .int .i64 pe, .int .i64 hh, .slice A6 dat.length c6, .int .i64 off, .int .i64 wh, .int .i64 N] 26)).alloc (.cells #[.int .i64 0, .int .i64 0, .int .i64 0, .slice none 0 0, .slice none 0 0, .slice none 0 0] 33)) nq := ⟨_, rfl⟩
  rw [← hW2]
  have BW : Below w.heap.size w W2 := by rw [hW2]; exact pw_below_drewN (below_alloc (below_alloc (Below.refl _ _) _) _) _
  have b1 : W2.heap[w.heap.size]? = some (.cells #[.int .i64 17, .string nm, .string ot, .int .i64 fl, .int .i64 pe, .int .i64 hh, .slice A6 dat.length c6, .int .i64 off, .int .i64 wh, .int .i64 N] 26 (0, 0)) := by rw [hW2]; exact blk_drewN (blk_alloc (blk_new _ _) _) _
  have b2 : W2.heap[w.heap.size + 1]? = some (.cells #[.int .i64 0, .int .i64 0, .int .i64 0, .slice none 0 0, .slice none 0 0, .slice none 0 0] 33 (0, 0)) := by rw [hW2]; exact blk_drewN (blk_at_ (by simp)) _
  have hsz2 : W2.heap.size = w.heap.size + 2 := by rw [hW2]; simp [World.drewN]
  have k0 := blk_cell b1 0
  have k1 := blk_cell b1 1
  have k2 := blk_cell b1 2
  have k3 := blk_cell b1 3
  have k4 := blk_cell b1 4
  have k5 := blk_cell b1 5
  have k6 := blk_cell b1 6
  have k7 := blk_cell b1 7
  have k8 := blk_cell b1 8
  have k9 := blk_cell b1 9
  have q0 := blk_cell b2 0
  have q1 := blk_cell b2 1
  have q2 := blk_cell b2 2
  have q3 := blk_cell b2 3
  have q4 := blk_cell b2 4
  have q5 := blk_cell b2 5
  have zq := blk_frozen b2
  have zg := blk_frozen (blk_below HG.out BW)
  have zd := fun j => (show W2.frozen? ⟨gd, i * 5 + j, none⟩ = false by rw [← HPZ.out j]; exact BW.frozen (p := ⟨gd, i * 5 + j, none⟩) hgd1)
  have h1 := cellb h1o BW
  have h2 := cellb h2o BW
  have h3 := cellb h3o BW
  have h4 := cellb h4o BW
  have p0 := cellb p0o BW
  have p1 := cellb p1o BW
  have p2 := cellb p2o BW
  have p3 := cellb p3o BW
  have p4 := cellb p4o BW
  have HB := Lib.hid BW
  have HM2 := Lib.hid (HM.out.below BW)
  have HGH := Lib.hid (blk_below HG.out BW)
  have HO := Lib.hid b2
  have HS2 := Lib.hid hsz2
  have n1 : ¬ (g = w.heap.size + 1) := by omega
  have n2 : ¬ (gd = w.heap.size + 1) := by omega
  have n3 : ¬ (w.heap.size + 1 = g) := by omega
  have n4 : ¬ (w.heap.size + 1 = gd) := by omega
  have n5 : ¬ (g = w.heap.size) := by omega
  have n6 : ¬ (gd = w.heap.size) := by omega
  have n7 : ¬ (w.heap.size = g) := by omega
  have n8 : ¬ (w.heap.size = gd) := by omega
  clear hW2 BW b1 b2 c2b h0b hsz2 hg1 hgd1 h1o h2o h3o h4o p0o p1o p2o p3o p4o
  simp at k0 k1 k2 k3 k4 k5 k6 k7 k8 k9 q0 q1 q2 q3 q4 q5 h1 h2 h3 h4
  obtain rfl : cl = true := hcl
  go_wp2_with fail
  have hX2 := HX.out
  have hA2 := HA.out
  try simp only [if_true, if_false, Bool.false_eq_true, reduceIte] at hX2 hA2
  rw [hX2, hA2]
  have hfar : ¬ ft (w.heap.size + 1) := fun hk => absurd (HFT.out _ hk) (by omega)
  have hM2 : Moves ft w W2 := Moves.of_below HB.out ft
  have E1 := HM2.out
  refine bodyPost_ret (v := .agg #[.int .i64 3, .int .i64 0, .int .i64 0, .slice none 0 0, .slice none 0 0, .slice none 0 0]) (by simp [results, Tryd.results34, go_sem, n1, n2, n3, n4, q0, q1, q2, q3, q4, q5]) rfl ?_
  refine ⟨_, _, _, vD, ft, rfl, Kd.R_nil _ _ _ _ _, Kd.R_nil _ _ _ _ _, Kd.R_nil _ _ _ _ _, ?_, ?_, fun k hk => .inl hk, fun k hk => ?_⟩
  · repeat (first | with_reducible exact E1 | with_reducible refine IsMem.far (p := ⟨w.heap.size + 1, _, none⟩) ?_ hfar _)
  · repeat (first | with_reducible exact hM2 | with_reducible refine Moves.setCell (p := ⟨g, _, none⟩) ?_ (.inl hfg) _ | with_reducible refine Moves.setCell (p := ⟨gd, _, none⟩) ?_ (.inl hgd) _ | with_reducible refine Moves.setCell (p := ⟨w.heap.size + 1, _, none⟩) ?_ (.inr (Nat.le_succ _)) _)
  · have := HFT.out k hk
    have := HS2.out
    simp [World.setCell]
    omega
set_option maxHeartbeats 4000000 in
set_option maxRecDepth 100000 in
theorem file_ro14 (M : IsMem w base ft m vN vA vD mb n f X) (hft : ∀ k, ft k → k < w.heap.size) (kl : Lit) (hkl : WideAt.IsKeyLit kl) (g : Nat) (h : SHnd) (hf : f kl = some g) (hg : w.heap[g]? = some (.cells (shcs h) 49 (0, 0))) (hfg : ft g) (i : Nat) (hi : h.node = i) (hil : i < X.nodes.length) (hL : X.nodes.length ≤ 100000) (s : S26) (A6 : Option Addr) (c6 : Nat) (hl6 : s.f6.length ≤ c6) (hC6 : (Kd.int .u8).C w A6 s.f6.length s.f6) (hop : s.f0 = 14) (hcl : h.closed = false) (hro : h.ro = true) :
    Calls Tryd.prog 34 #[.pointer (some ⟨m, 0, none⟩), .pointer (some ⟨g, 0, none⟩), stepA s A6 c6] w (FilePost w base ft m vN vA mb n f (X) (ans 6 0 0 [])) := by
  obtain ⟨X', hX'⟩ : ∃ X', X' = (X) := ⟨_, rfl⟩
  obtain ⟨a', ha'⟩ : ∃ a', a' = (ans 6 0 0 []) := ⟨_, rfl⟩
  rw [← ha', ← hX']
  have HX := Lib.hid hX'
  have HA := Lib.hid ha'
  clear hX' ha'
  obtain ⟨gd, cap, A2, c2, hv, hlc, hgd, p0o, p1o, p2o, p3o, p4o, l2, g2, pz, ncs, hnb⟩ := node_at M i hil
  have c2' := M.c2
  rw [hv] at c2'
  have h0 := blk_cell hg 0
  have h1o := blk_cell hg 1
  have h2o := blk_cell hg 2
  have h3o := blk_cell hg 3
  have h4o := blk_cell hg 4
  have hg1 := blk_lt hg
  have n9 : ¬ (g = gd) := fun e => by rw [← e, hg] at hnb; injection hnb with hnb; injection hnb with _ hnb; exact absurd hnb (by decide)
  have n10 : ¬ (gd = g) := fun e => n9 e.symm
  clear hnb
  have hgd1 := hft gd hgd
  have hil' : (i : Int) < (X.nodes.length : Int) := by omega
  obtain ⟨no, po, li, cl, ro⟩ := h
  obtain ⟨op, nm, ot, fl, pe, hh, dat, off, wh, N⟩ := s
  simp only [shcs] at h0 h1o h2o h3o h4o
  simp only at hi hop hl6 hC6
  subst hi
  subst hop
  unfold stepA
  have c2b := cellb c2' (below_alloc (below_alloc (Below.refl w.heap.size w) (.cells #[.int .i64 14, .string nm, .string ot, .int .i64 fl, .int .i64 pe, .int .i64 hh, .slice A6 dat.length c6, .int .i64 off, .int .i64 wh, .int .i64 N] 26)) (.cells #[.int .i64 0, .int .i64 0, .int .i64 0, .slice none 0 0, .slice none 0 0, .slice none 0 0] 33))
  have h0b := cellb h0 (below_alloc (below_alloc (Below.refl w.heap.size w) (.cells #[.int .i64 14, .string nm, .string ot, .int .i64 fl, .int .i64 pe, .int .i64 hh, .slice A6 dat.length c6, .int .i64 off, .int .i64 wh, .int .i64 N] 26)) (.cells #[.int .i64 0, .int .i64 0, .int .i64 0, .slice none 0 0, .slice none 0 0, .slice none 0 0] 33))
  have HM := Lib.hid M
  have HF := Lib.hid hf
  have HG := Lib.hid hg
  have HFT := Lib.hid hft
  have HV := Lib.hid hv
  have HC6 := Lib.hid hC6
  have HG2 := Lib.hid g2
  have HPZ := Lib.hid pz
  have HND := Lib.hid (show nodeOf X (i : Int) = nodeOf X (i : Int) from rfl)
  clear M hf hg hft hv hC6 g2 pz c2' h0
  generalize hLn : X.nodes.length = L at *
  have HLN := Lib.hid hLn
  clear hLn
  generalize hnd : nodeOf X (i : Int) = nd at *
  have HNO := Lib.hid hnd
  clear hnd HND
  obtain ⟨dir, mode, data, time, name⟩ := nd
  simp only at p0o p1o p2o p3o p4o l2 HG2
  go_enter Tryd.func34, Tryd.ntmps34
  go_wp2_with fail
  go_quiet (fail)
  obtain ⟨W2, hW2⟩ : ∃ W2, W2 = World.drewN ((w.alloc (.cells #[.int .i64 14, .string nm, .string ot, .int .i64 fl, .int .i64 pe, .int .i64 hh, .slice A6 dat.length c6, .int .i64 off, .int .i64 wh, .int .i64 N] 26)).alloc (.cells #[.int .i64 0, .int .i64 0, .int .i64 0, .slice none 0 0, .slice none 0 0, .slice none 0 0] 33)) nq := ⟨_, rfl⟩
  rw [← hW2]
  have BW : Below w.heap.size w W2 := by rw [hW2]; exact pw_below_drewN (below_alloc (below_alloc (Below.refl _ _) _) _) _
  have b1 : W2.heap[w.heap.size]? = some (.cells #[.int .i64 14, .string nm, .string ot, .int .i64 fl, .int .i64 pe, .int .i64 hh, .slice A6 dat.length c6, .int .i64 off, .int .i64 wh, .int .i64 N] 26 (0, 0)) := by rw [hW2]; exact blk_drewN (blk_alloc (blk_new _ _) _) _
  have b2 : W2.heap[w.heap.size + 1]? = some (.cells #[.int .i64 0, .int .i64 0, .int .i64 0, .slice none 0 0, .slice none 0 0, .slice none 0 0] 33 (0, 0)) := by rw [hW2]; exact blk_drewN (blk_at_ (by simp)) _
  have hsz2 : W2.heap.size = w.heap.size + 2 := by rw [hW2]; simp [World.drewN]
  have k0 := blk_cell b1 0
  have k1 := blk_cell b1 1
  have k2 := blk_cell b1 2
  have k3 := blk_cell b1 3
  have k4 := blk_cell b1 4
  have k5 := blk_cell b1 5
  have k6 := blk_cell b1 6
  have k7 := blk_cell b1 7
  have k8 := blk_cell b1 8
  have k9 := blk_cell b1 9
  have q0 := blk_cell b2 0
  have q1 := blk_cell b2 1
  have q2 := blk_cell b2 2
  have q3 := blk_cell b2 3
  have q4 := blk_cell b2 4
  have q5 := blk_cell b2 5
  have zq := blk_frozen b2
  have zg := blk_frozen (blk_below HG.out BW)
  have zd := fun j => (show W2.frozen? ⟨gd, i * 5 + j, none⟩ = false by rw [← HPZ.out j]; exact BW.frozen (p := ⟨gd, i * 5 + j, none⟩) hgd1)
  have h1 := cellb h1o BW
  have h2 := cellb h2o BW
  have h3 := cellb h3o BW
  have h4 := cellb h4o BW
  have p0 := cellb p0o BW
  have p1 := cellb p1o BW
  have p2 := cellb p2o BW
  have p3 := cellb p3o BW
  have p4 := cellb p4o BW
  have HB := Lib.hid BW
  have HM2 := Lib.hid (HM.out.below BW)
  have HGH := Lib.hid (blk_below HG.out BW)
  have HO := Lib.hid b2
  have HS2 := Lib.hid hsz2
  have n1 : ¬ (g = w.heap.size + 1) := by omega
  have n2 : ¬ (gd = w.heap.size + 1) := by omega
  have n3 : ¬ (w.heap.size + 1 = g) := by omega
  have n4 : ¬ (w.heap.size + 1 = gd) := by omega
  have n5 : ¬ (g = w.heap.size) := by omega
  have n6 : ¬ (gd = w.heap.size) := by omega
  have n7 : ¬ (w.heap.size = g) := by omega
  have n8 : ¬ (w.heap.size = gd) := by omega
  clear hW2 BW b1 b2 c2b h0b hsz2 hg1 hgd1 h1o h2o h3o h4o p0o p1o p2o p3o p4o
  simp at k0 k1 k2 k3 k4 k5 k6 k7 k8 k9 q0 q1 q2 q3 q4 q5 h1 h2 h3 h4
  obtain rfl : cl = false := hcl
  obtain rfl : ro = true := hro
  go_wp2_with fail
  have hX2 := HX.out
  have hA2 := HA.out
  try simp only [if_true, if_false, Bool.false_eq_true, reduceIte] at hX2 hA2
  rw [hX2, hA2]
  have hfar : ¬ ft (w.heap.size + 1) := fun hk => absurd (HFT.out _ hk) (by omega)
  have hM2 : Moves ft w W2 := Moves.of_below HB.out ft
  have E1 := HM2.out
  refine bodyPost_ret (v := .agg #[.int .i64 6, .int .i64 0, .int .i64 0, .slice none 0 0, .slice none 0 0, .slice none 0 0]) (by simp [results, Tryd.results34, go_sem, n1, n2, n3, n4, q0, q1, q2, q3, q4, q5]) rfl ?_
  refine ⟨_, _, _, vD, ft, rfl, Kd.R_nil _ _ _ _ _, Kd.R_nil _ _ _ _ _, Kd.R_nil _ _ _ _ _, ?_, ?_, fun k hk => .inl hk, fun k hk => ?_⟩
  · repeat (first | with_reducible exact E1 | with_reducible refine IsMem.far (p := ⟨w.heap.size + 1, _, none⟩) ?_ hfar _)
  · repeat (first | with_reducible exact hM2 | with_reducible refine Moves.setCell (p := ⟨g, _, none⟩) ?_ (.inl hfg) _ | with_reducible refine Moves.setCell (p := ⟨gd, _, none⟩) ?_ (.inl hgd) _ | with_reducible refine Moves.setCell (p := ⟨w.heap.size + 1, _, none⟩) ?_ (.inr (Nat.le_succ _)) _)
  · have := HFT.out k hk
    have := HS2.out
    simp [World.setCell]
    omega
set_option maxHeartbeats 4000000 in
set_option maxRecDepth 100000 in
theorem file_ro15 (M : IsMem w base ft m vN vA vD mb n f X) (hft : ∀ k, ft k → k < w.heap.size) (kl : Lit) (hkl : WideAt.IsKeyLit kl) (g : Nat) (h : SHnd) (hf : f kl = some g) (hg : w.heap[g]? = some (.cells (shcs h) 49 (0, 0))) (hfg : ft g) (i : Nat) (hi : h.node = i) (hil : i < X.nodes.length) (hL : X.nodes.length ≤ 100000) (s : S26) (A6 : Option Addr) (c6 : Nat) (hl6 : s.f6.length ≤ c6) (hC6 : (Kd.int .u8).C w A6 s.f6.length s.f6) (hop : s.f0 = 15) (hcl : h.closed = false) (hro : h.ro = true) :
    Calls Tryd.prog 34 #[.pointer (some ⟨m, 0, none⟩), .pointer (some ⟨g, 0, none⟩), stepA s A6 c6] w (FilePost w base ft m vN vA mb n f (hX X kl { h with pos := s.f7 }) (ans 6 0 0 [])) := by
  obtain ⟨X', hX'⟩ : ∃ X', X' = (hX X kl { h with pos := s.f7 }) := ⟨_, rfl⟩
  obtain ⟨a', ha'⟩ : ∃ a', a' = (ans 6 0 0 []) := ⟨_, rfl⟩
  rw [← ha', ← hX']
  have HX := Lib.hid hX'
  have HA := Lib.hid ha'
  clear hX' ha'
  obtain ⟨gd, cap, A2, c2, hv, hlc, hgd, p0o, p1o, p2o, p3o, p4o, l2, g2, pz, ncs, hnb⟩ := node_at M i hil
  have c2' := M.c2
  rw [hv] at c2'
  have h0 := blk_cell hg 0
  have h1o := blk_cell hg 1
  have h2o := blk_cell hg 2
  have h3o := blk_cell hg 3
  have h4o := blk_cell hg 4
  have hg1 := blk_lt hg
  have n9 : ¬ (g = gd) := fun e => by rw [← e, hg] at hnb; injection hnb with hnb; injection hnb with _ hnb; exact absurd hnb (by decide)
  have n10 : ¬ (gd = g) := fun e => n9 e.symm
  clear hnb
  have hgd1 := hft gd hgd
  have hil' : (i : Int) < (X.nodes.length : Int) := by omega
  obtain ⟨no, po, li, cl, ro⟩ := h
  obtain ⟨op, nm, ot, fl, pe, hh, dat, off, wh, N⟩ := s
  simp only [shcs] at h0 h1o h2o h3o h4o
  simp only at hi hop hl6 hC6
  subst hi
  subst hop
  unfold stepA
  have c2b := cellb c2' (below_alloc (below_alloc (Below.refl w.heap.size w) (.cells #[.int .i64 15, .string nm, .string ot, .int .i64 fl, .int .i64 pe, .int .i64 hh, .slice A6 dat.length c6, .int .i64 off, .int .i64 wh, .int .i64 N] 26)) (.cells #[.int .i64 0, .int .i64 0, .int .i64 0, .slice none 0 0, .slice none 0 0, .slice none 0 0] 33))
  have h0b := cellb h0 (below_alloc (below_alloc (Below.refl w.heap.size w) (.cells #[.int .i64 15, .string nm, .string ot, .int .i64 fl, .int .i64 pe, .int .i64 hh, .slice A6 dat.length c6, .int .i64 off, .int .i64 wh, .int .i64 N] 26)) (.cells #[.int .i64 0, .int .i64 0, .int .i64 0, .slice none 0 0, .slice none 0 0, .slice none 0 0] 33))
  have HM := Lib.hid M
  have HF := Lib.hid hf
  have HG := Lib.hid hg
  have HFT := Lib.hid hft
  have HV := Lib.hid hv
  have HC6 := Lib.hid hC6
  have HG2 := Lib.hid g2
  have HPZ := Lib.hid pz
  have HND := Lib.hid (show nodeOf X (i : Int) = nodeOf X (i : Int) from rfl)
  clear M hf hg hft hv hC6 g2 pz c2' h0
  generalize hLn : X.nodes.length = L at *
  have HLN := Lib.hid hLn
  clear hLn
  generalize hnd : nodeOf X (i : Int) = nd at *
  have HNO := Lib.hid hnd
  clear hnd HND
  obtain ⟨dir, mode, data, time, name⟩ := nd
  simp only at p0o p1o p2o p3o p4o l2 HG2
  go_enter Tryd.func34, Tryd.ntmps34
  go_wp2_with fail
  go_quiet (fail)
  obtain ⟨W2, hW2⟩ : ∃ W2, W2 = World.drewN ((w.alloc (.cells #[.int .i64 15, .string nm, .string ot, .int .i64 fl, .int .i64 pe, .int .i64 hh, .slice A6 dat.length c6, .int .i64 off, .int .i64 wh, .int .i64 N] 26)).alloc (.cells #[.int .i64 0, .int .i64 0, .int .i64 0, .slice none 0 0, .slice none 0 0, .slice none 0 0] 33)) nq := ⟨_, rfl⟩
  rw [← hW2]
  have BW : Below w.heap.size w W2 := by rw [hW2]; exact pw_below_drewN (below_alloc (below_alloc (Below.refl _ _) _) _) _
  have b1 : W2.heap[w.heap.size]? = some (.cells #[.int .i64 15, .string nm, .string ot, .int .i64 fl, .int .i64 pe, .int .i64 hh, .slice A6 dat.length c6, .int .i64 off, .int .i64 wh, .int .i64 N] 26 (0, 0)) := by rw [hW2]; exact blk_drewN (blk_alloc (blk_new _ _) _) _
  have b2 : W2.heap[w.heap.size + 1]? = some (.cells #[.int .i64 0, .int .i64 0, .int .i64 0, .slice none 0 0, .slice none 0 0, .slice none 0 0] 33 (0, 0)) := by rw [hW2]; exact blk_drewN (blk_at_ (by simp)) _
  have hsz2 : W2.heap.size = w.heap.size + 2 := by rw [hW2]; simp [World.drewN]
  have k0 := blk_cell b1 0
  have k1 := blk_cell b1 1
  have k2 := blk_cell b1 2
  have k3 := blk_cell b1 3
  have k4 := blk_cell b1 4
  have k5 := blk_cell b1 5
  have k6 := blk_cell b1 6
  have k7 := blk_cell b1 7
  have k8 := blk_cell b1 8
  have k9 := blk_cell b1 9
  have q0 := blk_cell b2 0
  have q1 := blk_cell b2 1
  have q2 := blk_cell b2 2
  have q3 := blk_cell b2 3
  have q4 := blk_cell b2 4
  have q5 := blk_cell b2 5
  have zq := blk_frozen b2
  have zg := blk_frozen (blk_below HG.out BW)
  have zd := fun j => (show W2.frozen? ⟨gd, i * 5 + j, none⟩ = false by rw [← HPZ.out j]; exact BW.frozen (p := ⟨gd, i * 5 + j, none⟩) hgd1)
  have h1 := cellb h1o BW
  have h2 := cellb h2o BW
  have h3 := cellb h3o BW
  have h4 := cellb h4o BW
  have p0 := cellb p0o BW
  have p1 := cellb p1o BW
  have p2 := cellb p2o BW
  have p3 := cellb p3o BW
  have p4 := cellb p4o BW
  have HB := Lib.hid BW
  have HM2 := Lib.hid (HM.out.below BW)
  have HGH := Lib.hid (blk_below HG.out BW)
  have HO := Lib.hid b2
  have HS2 := Lib.hid hsz2
  have n1 : ¬ (g = w.heap.size + 1) := by omega
  have n2 : ¬ (gd = w.heap.size + 1) := by omega
  have n3 : ¬ (w.heap.size + 1 = g) := by omega
  have n4 : ¬ (w.heap.size + 1 = gd) := by omega
  have n5 : ¬ (g = w.heap.size) := by omega
  have n6 : ¬ (gd = w.heap.size) := by omega
  have n7 : ¬ (w.heap.size = g) := by omega
  have n8 : ¬ (w.heap.size = gd) := by omega
  clear hW2 BW b1 b2 c2b h0b hsz2 hg1 hgd1 h1o h2o h3o h4o p0o p1o p2o p3o p4o
  simp at k0 k1 k2 k3 k4 k5 k6 k7 k8 k9 q0 q1 q2 q3 q4 q5 h1 h2 h3 h4
  obtain rfl : cl = false := hcl
  obtain rfl : ro = true := hro
  go_wp2_with fail
  have hX2 := HX.out
  have hA2 := HA.out
  try simp only [if_true, if_false, Bool.false_eq_true, reduceIte] at hX2 hA2
  rw [hX2, hA2]
  have hfar : ¬ ft (w.heap.size + 1) := fun hk => absurd (HFT.out _ hk) (by omega)
  have hM2 : Moves ft w W2 := Moves.of_below HB.out ft
  have E1 := IsMem.hsetX HM2.out hkl HF.out HGH.out 1 (.int .i64 off) (h' := ⟨(i : Int), off, li, false, true⟩) rfl
  refine bodyPost_ret (v := .agg #[.int .i64 6, .int .i64 0, .int .i64 0, .slice none 0 0, .slice none 0 0, .slice none 0 0]) (by simp [results, Tryd.results34, go_sem, n1, n2, n3, n4, q0, q1, q2, q3, q4, q5]) rfl ?_
  refine ⟨_, _, _, vD, ft, rfl, Kd.R_nil _ _ _ _ _, Kd.R_nil _ _ _ _ _, Kd.R_nil _ _ _ _ _, ?_, ?_, fun k hk => .inl hk, fun k hk => ?_⟩
  · repeat (first | with_reducible exact E1 | with_reducible refine IsMem.far (p := ⟨w.heap.size + 1, _, none⟩) ?_ hfar _)
  · repeat (first | with_reducible exact hM2 | with_reducible refine Moves.setCell (p := ⟨g, _, none⟩) ?_ (.inl hfg) _ | with_reducible refine Moves.setCell (p := ⟨gd, _, none⟩) ?_ (.inl hgd) _ | with_reducible refine Moves.setCell (p := ⟨w.heap.size + 1, _, none⟩) ?_ (.inr (Nat.le_succ _)) _)
  · have := HFT.out k hk
    have := HS2.out
    simp [World.setCell]
    omega
set_option maxHeartbeats 4000000 in
set_option maxRecDepth 100000 in
theorem file_ro17 (M : IsMem w base ft m vN vA vD mb n f X) (hft : ∀ k, ft k → k < w.heap.size) (kl : Lit) (hkl : WideAt.IsKeyLit kl) (g : Nat) (h : SHnd) (hf : f kl = some g) (hg : w.heap[g]? = some (.cells (shcs h) 49 (0, 0))) (hfg : ft g) (i : Nat) (hi : h.node = i) (hil : i < X.nodes.length) (hL : X.nodes.length ≤ 100000) (s : S26) (A6 : Option Addr) (c6 : Nat) (hl6 : s.f6.length ≤ c6) (hC6 : (Kd.int .u8).C w A6 s.f6.length s.f6) (hop : s.f0 = 17) (hcl : h.closed = false) (hro : h.ro = true) :
    Calls Tryd.prog 34 #[.pointer (some ⟨m, 0, none⟩), .pointer (some ⟨g, 0, none⟩), stepA s A6 c6] w (FilePost w base ft m vN vA mb n f (X) (ans 6 0 0 [])) := by
  obtain ⟨X', hX'⟩ : ∃ X', X' = (X) := ⟨_, rfl⟩
  obtain ⟨a', ha'⟩ : ∃ a', a' = (ans 6 0 0 []) := ⟨_, rfl⟩
  rw [← ha', ← hX']
  have HX := Lib.hid hX'
  have HA := Lib.hid ha'
  clear hX' ha'
  obtain ⟨gd, cap, A2, c2, hv, hlc, hgd, p0o, p1o, p2o, p3o, p4o, l2, g2, pz, ncs, hnb⟩ := node_at M i hil
  have c2' := M.c2
  rw [hv] at c2'
  have h0 := blk_cell hg 0
  have h1o := blk_cell hg 1
  have h2o := blk_cell hg 2
  have h3o := blk_cell hg 3
  have h4o := blk_cell hg 4
  have hg1 := blk_lt hg
  have n9 : ¬ (g = gd) := fun e => by rw [← e, hg] at hnb; injection hnb with hnb; injection hnb with _ hnb; exact absurd hnb (by decide)
  have n10 : ¬ (gd = g) := fun e => n9 e.symm
  clear hnb
  have hgd1 := hft gd hgd
  have hil' : (i : Int) < (X.nodes.length : Int) := by omega
  obtain ⟨no, po, li, cl, ro⟩ := h
  obtain ⟨op, nm, ot, fl, pe, hh, dat, off, wh, N⟩ := s
  simp only [shcs] at h0 h1o h2o h3o h4o
  simp only at hi hop hl6 hC6
  subst hi
  subst hop
  unfold stepA
  have c2b := cellb c2' (below_alloc (below_alloc (Below.refl w.heap.size w) (.cells #[.int .i64 17, .string nm, .string ot, .int .i64 fl, .int .i64 pe, .int .i64 hh, .slice A6 dat.length c6, .int .i64 off, .int .i64 wh, .int .i64 N] 26)) (.cells #[.int .i64 0, .int .i64 0, .int .i64 0, .slice none 0 0, .slice none 0 0, .slice none 0 0] 33))
  have h0b := cellb h0 (below_alloc (below_alloc (Below.refl w.heap.size w) (.cells #[.int .i64 17, .string nm, .string ot, .int .i64 fl, .int .i64 pe, .int .i64 hh, .slice A6 dat.length c6, .int .i64 off, .int .i64 wh, .int .i64 N] 26)) (.cells #[.int .i64 0, .int .i64 0, .int .i64 0, .slice none 0 0, .slice none 0 0, .slice none 0 0] 33))
  have HM := Lib.hid M
  have HF := Lib.hid hf
  have HG := Lib.hid hg
  have HFT := Lib.hid hft
  have HV := Lib.hid hv
  have HC6 := Lib.hid hC6
  have HG2 := Lib.hid g2
  have HPZ := Lib.hid pz
  have HND := Lib.hid (show nodeOf X (i : Int) = nodeOf X (i : Int) from rfl)
  clear M hf hg hft hv hC6 g2 pz c2' h0
  generalize hLn : X.nodes.length = L at *
  have HLN := Lib.hid hLn
  clear hLn
  generalize hnd : nodeOf X (i : Int) = nd at *
  have HNO := Lib.hid hnd
  clear hnd HND
  obtain ⟨dir, mode, data, time, name⟩ := nd
  simp only at p0o p1o p2o p3o p4o l2 HG2
  go_enter Tryd.func34, Tryd.ntmps34
  go_wp2_with fail
  go_quiet (fail)
  obtain ⟨W2, hW2⟩ : ∃ W2, W2 = World.drewN ((w.alloc (.cells #[.int .i64 17, .string nm, .string ot, .int .i64 fl, .int .i64 pe, .int .i64 hh, .slice A6 dat.length c6, .int .i64 off, .int .i64 wh, .int .i64 N] 26)).alloc (.cells #[.int .i64 0, .int .i64 0, .int .i64 0, .slice none 0 0, .slice none 0 0, .slice none 0 0] 33)) nq := ⟨_, rfl⟩
  rw [← hW2]
  have BW : Below w.heap.size w W2 := by rw [hW2]; exact pw_below_drewN (below_alloc (below_alloc (Below.refl _ _) _) _) _
  have b1 : W2.heap[w.heap.size]? = some (.cells #[.int .i64 17, .string nm, .string ot, .int .i64 fl, .int .i64 pe, .int .i64 hh, .slice A6 dat.length c6, .int .i64 off, .int .i64 wh, .int .i64 N] 26 (0, 0)) := by rw [hW2]; exact blk_drewN (blk_alloc (blk_new _ _) _) _
  have b2 : W2.heap[w.heap.size + 1]? = some (.cells #[.int .i64 0, .int .i64 0, .int .i64 0, .slice none 0 0, .slice none 0 0, .slice none 0 0] 33 (0, 0)) := by rw [hW2]; exact blk_drewN (blk_at_ (by simp)) _
  have hsz2 : W2.heap.size = w.heap.size + 2 := by rw [hW2]; simp [World.drewN]
  have k0 := blk_cell b1 0
  have k1 := blk_cell b1 1
  have k2 := blk_cell b1 2
  have k3 := blk_cell b1 3
  have k4 := blk_cell b1 4
  have k5 := blk_cell b1 5
  have k6 := blk_cell b1 6
  have k7 := blk_cell b1 7
  have k8 := blk_cell b1 8
  have k9 := blk_cell b1 9
  have q0 := blk_cell b2 0
  have q1 := blk_cell b2 1
  have q2 := blk_cell b2 2
  have q3 := blk_cell b2 3
  have q4 := blk_cell b2 4
  have q5 := blk_cell b2 5
  have zq := blk_frozen b2
  have zg := blk_frozen (blk_below HG.out BW)
  have zd := fun j => (show W2.frozen? ⟨gd, i * 5 + j, none⟩ = false by rw [← HPZ.out j]; exact BW.frozen (p := ⟨gd, i * 5 + j, none⟩) hgd1)
  have h1 := cellb h1o BW
  have h2 := cellb h2o BW
  have h3 := cellb h3o BW
  have h4 := cellb h4o BW
  have p0 := cellb p0o BW
  have p1 := cellb p1o BW
  have p2 := cellb p2o BW
  have p3 := cellb p3o BW
  have p4 := cellb p4o BW
  have HB := Lib.hid BW
  have HM2 := Lib.hid (HM.out.below BW)
  have HGH := Lib.hid (blk_below HG.out BW)
  have HO := Lib.hid b2
  have HS2 := Lib.hid hsz2
  have n1 : ¬ (g = w.heap.size + 1) := by omega
  have n2 : ¬ (gd = w.heap.size + 1) := by omega
  have n3 : ¬ (w.heap.size + 1 = g) := by omega
  have n4 : ¬ (w.heap.size + 1 = gd) := by omega
  have n5 : ¬ (g = w.heap.size) := by omega
  have n6 : ¬ (gd = w.heap.size) := by omega
  have n7 : ¬ (w.heap.size = g) := by omega
  have n8 : ¬ (w.heap.size = gd) := by omega
  clear hW2 BW b1 b2 c2b h0b hsz2 hg1 hgd1 h1o h2o h3o h4o p0o p1o p2o p3o p4o
  simp at k0 k1 k2 k3 k4 k5 k6 k7 k8 k9 q0 q1 q2 q3 q4 q5 h1 h2 h3 h4
  obtain rfl : cl = false := hcl
  obtain rfl : ro = true := hro
  go_wp2_with fail
  have hX2 := HX.out
  have hA2 := HA.out
  try simp only [if_true, if_false, Bool.false_eq_true, reduceIte] at hX2 hA2
  rw [hX2, hA2]
  have hfar : ¬ ft (w.heap.size + 1) := fun hk => absurd (HFT.out _ hk) (by omega)
  have hM2 : Moves ft w W2 := Moves.of_below HB.out ft
  have E1 := HM2.out
  refine bodyPost_ret (v := .agg #[.int .i64 6, .int .i64 0, .int .i64 0, .slice none 0 0, .slice none 0 0, .slice none 0 0]) (by simp [results, Tryd.results34, go_sem, n1, n2, n3, n4, q0, q1, q2, q3, q4, q5]) rfl ?_
  refine ⟨_, _, _, vD, ft, rfl, Kd.R_nil _ _ _ _ _, Kd.R_nil _ _ _ _ _, Kd.R_nil _ _ _ _ _, ?_, ?_, fun k hk => .inl hk, fun k hk => ?_⟩
  · repeat (first | with_reducible exact E1 | with_reducible refine IsMem.far (p := ⟨w.heap.size + 1, _, none⟩) ?_ hfar _)
  · repeat (first | with_reducible exact hM2 | with_reducible refine Moves.setCell (p := ⟨g, _, none⟩) ?_ (.inl hfg) _ | with_reducible refine Moves.setCell (p := ⟨gd, _, none⟩) ?_ (.inl hgd) _ | with_reducible refine Moves.setCell (p := ⟨w.heap.size + 1, _, none⟩) ?_ (.inr (Nat.le_succ _)) _)
  · have := HFT.out k hk
    have := HS2.out
    simp [World.setCell]
    omega
set_option maxHeartbeats 4000000 in
set_option maxRecDepth 100000 in
theorem file_seek0 (M : IsMem w base ft m vN vA vD mb n f X) (hft : ∀ k, ft k → k < w.heap.size) (kl : Lit) (hkl : WideAt.IsKeyLit kl) (g : Nat) (h : SHnd) (hf : f kl = some g) (hg : w.heap[g]? = some (.cells (shcs h) 49 (0, 0))) (hfg : ft g) (i : Nat) (hi : h.node = i) (hil : i < X.nodes.length) (hL : X.nodes.length ≤ 100000) (s : S26) (A6 : Option Addr) (c6 : Nat) (hl6 : s.f6.length ≤ c6) (hC6 : (Kd.int .u8).C w A6 s.f6.length s.f6) (hop : s.f0 = 16) (hcl : h.closed = false) (hwh : s.f8 = 0) :
    Calls Tryd.prog 34 #[.pointer (some ⟨m, 0, none⟩), .pointer (some ⟨g, 0, none⟩), stepA s A6 c6] w (FilePost w base ft m vN vA mb n f (hX X kl { h with pos := s.f7 }) (ans 0 0 (s.f7) [])) := by
  obtain ⟨X', hX'⟩ : ∃ X', X' = (hX X kl { h with pos := s.f7 }) := ⟨_, rfl⟩
  obtain ⟨a', ha'⟩ : ∃ a', a' = (ans 0 0 (s.f7) []) := ⟨_, rfl⟩
  rw [← ha', ← hX']
  have HX := Lib.hid hX'
  have HA := Lib.hid ha'
  clear hX' ha'
  obtain ⟨gd, cap, A2, c2, hv, hlc, hgd, p0o, p1o, p2o, p3o, p4o, l2, g2, pz, ncs, hnb⟩ := node_at M i hil
  have c2' := M.c2
  rw [hv] at c2'
  have h0 := blk_cell hg 0
  have h1o := blk_cell hg 1
  have h2o := blk_cell hg 2
  have h3o := blk_cell hg 3
  have h4o := blk_cell hg 4
  have hg1 := blk_lt hg
  have n9 : ¬ (g = gd) := fun e => by rw [← e, hg] at hnb; injection hnb with hnb; injection hnb with _ hnb; exact absurd hnb (by decide)
  have n10 : ¬ (gd = g) := fun e => n9 e.symm
  clear hnb
  have hgd1 := hft gd hgd
  have hil' : (i : Int) < (X.nodes.length : Int) := by omega
  obtain ⟨no, po, li, cl, ro⟩ := h
  obtain ⟨op, nm, ot, fl, pe, hh, dat, off, wh, N⟩ := s
  simp only [shcs] at h0 h1o h2o h3o h4o
  simp only at hi hop hl6 hC6
  subst hi
  subst hop
  obtain rfl : wh = 0 := hwh
  unfold stepA
  have c2b := cellb c2' (below_alloc (below_alloc (Below.refl w.heap.size w) (.cells #[.int .i64 16, .string nm, .string ot, .int .i64 fl, .int .i64 pe, .int .i64 hh, .slice A6 dat.length c6, .int .i64 off, .int .i64 0, .int .i64 N] 26)) (.cells #[.int .i64 0, .int .i64 0, .int .i64 0, .slice none 0 0, .slice none 0 0, .slice none 0 0] 33))
  have h0b := cellb h0 (below_alloc (below_alloc (Below.refl w.heap.size w) (.cells #[.int .i64 16, .string nm, .string ot, .int .i64 fl, .int .i64 pe, .int .i64 hh, .slice A6 dat.length c6, .int .i64 off, .int .i64 0, .int .i64 N] 26)) (.cells #[.int .i64 0, .int .i64 0, .int .i64 0, .slice none 0 0, .slice none 0 0, .slice none 0 0] 33))
  have HM := Lib.hid M
  have HF := Lib.hid hf
  have HG := Lib.hid hg
  have HFT := Lib.hid hft
  have HV := Lib.hid hv
  have HC6 := Lib.hid hC6
  have HG2 := Lib.hid g2
  have HPZ := Lib.hid pz
  have HND := Lib.hid (show nodeOf X (i : Int) = nodeOf X (i : Int) from rfl)
  clear M hf hg hft hv hC6 g2 pz c2' h0
  generalize hLn : X.nodes.length = L at *
  have HLN := Lib.hid hLn
  clear hLn
  generalize hnd : nodeOf X (i : Int) = nd at *
  have HNO := Lib.hid hnd
  clear hnd HND
  obtain ⟨dir, mode, data, time, name⟩ := nd
  simp only at p0o p1o p2o p3o p4o l2 HG2
  go_enter Tryd.func34, Tryd.ntmps34
  go_wp2_with fail
  go_quiet (fail)
  obtain ⟨W2, hW2⟩ : ∃ W2, W2 = World.drewN ((w.alloc (.cells #[.int .i64 16, .string nm, .string ot, .int .i64 fl, .int .i64 pe, .int .i64 hh, .slice A6 dat.length c6, .int .i64 off, .int .i64 0, .int .i64 N] 26)).alloc (.cells #[.int .i64 0, .int .i64 0, .int .i64 0, .slice none 0 0, .slice none 0 0, .slice none 0 0] 33)) nq := ⟨_, rfl⟩
  rw [← hW2]
  have BW : Below w.heap.size w W2 := by rw [hW2]; exact pw_below_drewN (below_alloc (below_alloc (Below.refl _ _) _) _) _
  have b1 : W2.heap[w.heap.size]? = some (.cells #[.int .i64 16, .string nm, .string ot, .int .i64 fl, .int .i64 pe, .int .i64 hh, .slice A6 dat.length c6, .int .i64 off, .int .i64 0, .int .i64 N] 26 (0, 0)) := by rw [hW2]; exact blk_drewN (blk_alloc (blk_new _ _) _) _
  have b2 : W2.heap[w.heap.size + 1]? = some (.cells #[.int .i64 0, .int .i64 0, .int .i64 0, .slice none 0 0, .slice none 0 0, .slice none 0 0] 33 (0, 0)) := by rw [hW2]; exact blk_drewN (blk_at_ (by simp)) _
  have hsz2 : W2.heap.size = w.heap.size + 2 := by rw [hW2]; simp [World.drewN]
  have k0 := blk_cell b1 0
  have k1 := blk_cell b1 1
  have k2 := blk_cell b1 2
  have k3 := blk_cell b1 3
  have k4 := blk_cell b1 4
  have k5 := blk_cell b1 5
  have k6 := blk_cell b1 6
  have k7 := blk_cell b1 7
  have k8 := blk_cell b1 8
  have k9 := blk_cell b1 9
  have q0 := blk_cell b2 0
  have q1 := blk_cell b2 1
  have q2 := blk_cell b2 2
  have q3 := blk_cell b2 3
  have q4 := blk_cell b2 4
  have q5 := blk_cell b2 5
  have zq := blk_frozen b2
  have zg := blk_frozen (blk_below HG.out BW)
  have zd := fun j => (show W2.frozen? ⟨gd, i * 5 + j, none⟩ = false by rw [← HPZ.out j]; exact BW.frozen (p := ⟨gd, i * 5 + j, none⟩) hgd1)
  have h1 := cellb h1o BW
  have h2 := cellb h2o BW
  have h3 := cellb h3o BW
  have h4 := cellb h4o BW
  have p0 := cellb p0o BW
  have p1 := cellb p1o BW
  have p2 := cellb p2o BW
  have p3 := cellb p3o BW
  have p4 := cellb p4o BW
  have HB := Lib.hid BW
  have HM2 := Lib.hid (HM.out.below BW)
  have HGH := Lib.hid (blk_below HG.out BW)
  have HO := Lib.hid b2
  have HS2 := Lib.hid hsz2
  have n1 : ¬ (g = w.heap.size + 1) := by omega
  have n2 : ¬ (gd = w.heap.size + 1) := by omega
  have n3 : ¬ (w.heap.size + 1 = g) := by omega
  have n4 : ¬ (w.heap.size + 1 = gd) := by omega
  have n5 : ¬ (g = w.heap.size) := by omega
  have n6 : ¬ (gd = w.heap.size) := by omega
  have n7 : ¬ (w.heap.size = g) := by omega
  have n8 : ¬ (w.heap.size = gd) := by omega
  clear hW2 BW b1 b2 c2b h0b hsz2 hg1 hgd1 h1o h2o h3o h4o p0o p1o p2o p3o p4o
  simp at k0 k1 k2 k3 k4 k5 k6 k7 k8 k9 q0 q1 q2 q3 q4 q5 h1 h2 h3 h4
  obtain rfl : cl = false := hcl
  go_wp2_with fail
  have hX2 := HX.out
  have hA2 := HA.out
  try simp only [if_true, if_false, Bool.false_eq_true, reduceIte] at hX2 hA2
  rw [hX2, hA2]
  have hfar : ¬ ft (w.heap.size + 1) := fun hk => absurd (HFT.out _ hk) (by omega)
  have hM2 : Moves ft w W2 := Moves.of_below HB.out ft
  have E1 := IsMem.hsetX HM2.out hkl HF.out HGH.out 1 (.int .i64 (off)) (h' := ⟨(i : Int), off, li, false, ro⟩) rfl
  refine bodyPost_ret (v := .agg #[.int .i64 0, .int .i64 0, .int .i64 (off), .slice none 0 0, .slice none 0 0, .slice none 0 0]) (by simp [results, Tryd.results34, go_sem, n1, n2, n3, n4, q0, q1, q2, q3, q4, q5]) rfl ?_
  refine ⟨_, _, _, vD, ft, rfl, Kd.R_nil _ _ _ _ _, Kd.R_nil _ _ _ _ _, Kd.R_nil _ _ _ _ _, ?_, ?_, fun k hk => .inl hk, fun k hk => ?_⟩
  · repeat (first | with_reducible exact E1 | with_reducible refine IsMem.far (p := ⟨w.heap.size + 1, _, none⟩) ?_ hfar _)
  · repeat (first | with_reducible exact hM2 | with_reducible refine Moves.setCell (p := ⟨g, _, none⟩) ?_ (.inl hfg) _ | with_reducible refine Moves.setCell (p := ⟨gd, _, none⟩) ?_ (.inl hgd) _ | with_reducible refine Moves.setCell (p := ⟨w.heap.size + 1, _, none⟩) ?_ (.inr (Nat.le_succ _)) _)
  · have := HFT.out k hk
    have := HS2.out
    simp [World.setCell]
    omega
set_option maxHeartbeats 4000000 in
set_option maxRecDepth 100000 in
theorem file_seek1 (M : IsMem w base ft m vN vA vD mb n f X) (hft : ∀ k, ft k → k < w.heap.size) (kl : Lit) (hkl : WideAt.IsKeyLit kl) (g : Nat) (h : SHnd) (hf : f kl = some g) (hg : w.heap[g]? = some (.cells (shcs h) 49 (0, 0))) (hfg : ft g) (i : Nat) (hi : h.node = i) (hil : i < X.nodes.length) (hL : X.nodes.length ≤ 100000) (s : S26) (A6 : Option Addr) (c6 : Nat) (hl6 : s.f6.length ≤ c6) (hC6 : (Kd.int .u8).C w A6 s.f6.length s.f6) (hop : s.f0 = 16) (hcl : h.closed = false) (hwh : s.f8 = 1) (hp0 : -4611686018427387904 ≤ h.pos) (hp1 : h.pos ≤ 4611686018427387904) (ho0 : -1099511627776 ≤ s.f7) (ho1 : s.f7 ≤ 1099511627776) :
    Calls Tryd.prog 34 #[.pointer (some ⟨m, 0, none⟩), .pointer (some ⟨g, 0, none⟩), stepA s A6 c6] w (FilePost w base ft m vN vA mb n f (hX X kl { h with pos := h.pos + s.f7 }) (ans 0 0 (h.pos + s.f7) [])) := by
  obtain ⟨X', hX'⟩ : ∃ X', X' = (hX X kl { h with pos := h.pos + s.f7 }) := ⟨_, rfl⟩
  obtain ⟨a', ha'⟩ : ∃ a', a' = (ans 0 0 (h.pos + s.f7) []) := ⟨_, rfl⟩
  rw [← ha', ← hX']
  have HX := Lib.hid hX'
  have HA := Lib.hid ha'
  clear hX' ha'
  obtain ⟨gd, cap, A2, c2, hv, hlc, hgd, p0o, p1o, p2o, p3o, p4o, l2, g2, pz, ncs, hnb⟩ := node_at M i hil
  have c2' := M.c2
  rw [hv] at c2'
  have h0 := blk_cell hg 0
  have h1o := blk_cell hg 1
  have h2o := blk_cell hg 2
  have h3o := blk_cell hg 3
  have h4o := blk_cell hg 4
  have hg1 := blk_lt hg
  have n9 : ¬ (g = gd) := fun e => by rw [← e, hg] at hnb; injection hnb with hnb; injection hnb with _ hnb; exact absurd hnb (by decide)
  have n10 : ¬ (gd = g) := fun e => n9 e.symm
  clear hnb
  have hgd1 := hft gd hgd
  have hil' : (i : Int) < (X.nodes.length : Int) := by omega
  obtain ⟨no, po, li, cl, ro⟩ := h
  obtain ⟨op, nm, ot, fl, pe, hh, dat, off, wh, N⟩ := s
  simp only [shcs] at h0 h1o h2o h3o h4o
  simp only at hi hop hl6 hC6
  subst hi
  subst hop
  obtain rfl : wh = 1 := hwh
  unfold stepA
  have c2b := cellb c2' (below_alloc (below_alloc (Below.refl w.heap.size w) (.cells #[.int .i64 16, .string nm, .string ot, .int .i64 fl, .int .i64 pe, .int .i64 hh, .slice A6 dat.length c6, .int .i64 off, .int .i64 1, .int .i64 N] 26)) (.cells #[.int .i64 0, .int .i64 0, .int .i64 0, .slice none 0 0, .slice none 0 0, .slice none 0 0] 33))
  have h0b := cellb h0 (below_alloc (below_alloc (Below.refl w.heap.size w) (.cells #[.int .i64 16, .string nm, .string ot, .int .i64 fl, .int .i64 pe, .int .i64 hh, .slice A6 dat.length c6, .int .i64 off, .int .i64 1, .int .i64 N] 26)) (.cells #[.int .i64 0, .int .i64 0, .int .i64 0, .slice none 0 0, .slice none 0 0, .slice none 0 0] 33))
  have HM := Lib.hid M
  have HF := Lib.hid hf
  have HG := Lib.hid hg
  have HFT := Lib.hid hft
  have HV := Lib.hid hv
  have HC6 := Lib.hid hC6
  have HG2 := Lib.hid g2
  have HPZ := Lib.hid pz
  have HND := Lib.hid (show nodeOf X (i : Int) = nodeOf X (i : Int) from rfl)
  clear M hf hg hft hv hC6 g2 pz c2' h0
  generalize hLn : X.nodes.length = L at *
  have HLN := Lib.hid hLn
  clear hLn
  generalize hnd : nodeOf X (i : Int) = nd at *
  have HNO := Lib.hid hnd
  clear hnd HND
  obtain ⟨dir, mode, data, time, name⟩ := nd
  simp only at p0o p1o p2o p3o p4o l2 HG2
  go_enter Tryd.func34, Tryd.ntmps34
  go_wp2_with fail
  go_quiet (fail)
  obtain ⟨W2, hW2⟩ : ∃ W2, W2 = World.drewN ((w.alloc (.cells #[.int .i64 16, .string nm, .string ot, .int .i64 fl, .int .i64 pe, .int .i64 hh, .slice A6 dat.length c6, .int .i64 off, .int .i64 1, .int .i64 N] 26)).alloc (.cells #[.int .i64 0, .int .i64 0, .int .i64 0, .slice none 0 0, .slice none 0 0, .slice none 0 0] 33)) nq := ⟨_, rfl⟩
  rw [← hW2]
  have BW : Below w.heap.size w W2 := by rw [hW2]; exact pw_below_drewN (below_alloc (below_alloc (Below.refl _ _) _) _) _
  have b1 : W2.heap[w.heap.size]? = some (.cells #[.int .i64 16, .string nm, .string ot, .int .i64 fl, .int .i64 pe, .int .i64 hh, .slice A6 dat.length c6, .int .i64 off, .int .i64 1, .int .i64 N] 26 (0, 0)) := by rw [hW2]; exact blk_drewN (blk_alloc (blk_new _ _) _) _
  have b2 : W2.heap[w.heap.size + 1]? = some (.cells #[.int .i64 0, .int .i64 0, .int .i64 0, .slice none 0 0, .slice none 0 0, .slice none 0 0] 33 (0, 0)) := by rw [hW2]; exact blk_drewN (blk_at_ (by simp)) _
  have hsz2 : W2.heap.size = w.heap.size + 2 := by rw [hW2]; simp [World.drewN]
  have k0 := blk_cell b1 0
  have k1 := blk_cell b1 1
  have k2 := blk_cell b1 2
  have k3 := blk_cell b1 3
  have k4 := blk_cell b1 4
  have k5 := blk_cell b1 5
  have k6 := blk_cell b1 6
  have k7 := blk_cell b1 7
  have k8 := blk_cell b1 8
  have k9 := blk_cell b1 9
  have q0 := blk_cell b2 0
  have q1 := blk_cell b2 1
  have q2 := blk_cell b2 2
  have q3 := blk_cell b2 3
  have q4 := blk_cell b2 4
  have q5 := blk_cell b2 5
  have zq := blk_frozen b2
  have zg := blk_frozen (blk_below HG.out BW)
  have zd := fun j => (show W2.frozen? ⟨gd, i * 5 + j, none⟩ = false by rw [← HPZ.out j]; exact BW.frozen (p := ⟨gd, i * 5 + j, none⟩) hgd1)
  have h1 := cellb h1o BW
  have h2 := cellb h2o BW
  have h3 := cellb h3o BW
  have h4 := cellb h4o BW
  have p0 := cellb p0o BW
  have p1 := cellb p1o BW
  have p2 := cellb p2o BW
  have p3 := cellb p3o BW
  have p4 := cellb p4o BW
  have HB := Lib.hid BW
  have HM2 := Lib.hid (HM.out.below BW)
  have HGH := Lib.hid (blk_below HG.out BW)
  have HO := Lib.hid b2
  have HS2 := Lib.hid hsz2
  have n1 : ¬ (g = w.heap.size + 1) := by omega
  have n2 : ¬ (gd = w.heap.size + 1) := by omega
  have n3 : ¬ (w.heap.size + 1 = g) := by omega
  have n4 : ¬ (w.heap.size + 1 = gd) := by omega
  have n5 : ¬ (g = w.heap.size) := by omega
  have n6 : ¬ (gd = w.heap.size) := by omega
  have n7 : ¬ (w.heap.size = g) := by omega
  have n8 : ¬ (w.heap.size = gd) := by omega
  clear hW2 BW b1 b2 c2b h0b hsz2 hg1 hgd1 h1o h2o h3o h4o p0o p1o p2o p3o p4o
  simp at k0 k1 k2 k3 k4 k5 k6 k7 k8 k9 q0 q1 q2 q3 q4 q5 h1 h2 h3 h4
  obtain rfl : cl = false := hcl
  try simp only at ho0 ho1
  try simp only at hp0 hp1
  have H1 := Lib.hid h1
  go_wp2_with fail
  go_region
  obtain ⟨W3, hW3⟩ : ∃ W3, W3 = (W2.setCell ⟨g, 1, none⟩ (.int .i64 (po + off))).drew := ⟨_, rfl⟩
  rw [← hW3]
  have h1 : W3.cell? ⟨g, 1, none⟩ = some (.int .i64 (po + off)) := by rw [hW3]; exact (World.cell?_drew _ _).trans (Go.World.cell?_setCell_same' _ _ _ (by rw [H1.out]; rfl))
  have b3 := blk_drew (blk_far HO.out (p := ⟨g, 1, none⟩) (show w.heap.size + 1 ≠ g by omega) (Value.int .i64 (po + off)))
  rw [← hW3] at b3
  have H3 := Lib.hid hW3
  clear hW3
  have q0 := blk_cell b3 0
  have q1 := blk_cell b3 1
  have q2 := blk_cell b3 2
  have q3 := blk_cell b3 3
  have q4 := blk_cell b3 4
  have q5 := blk_cell b3 5
  have zq := blk_frozen b3
  simp at q0 q1 q2 q3 q4 q5
  go_wp2_with fail
  have hX2 := HX.out
  have hA2 := HA.out
  try simp only [if_true, if_false, Bool.false_eq_true, reduceIte] at hX2 hA2
  rw [hX2, hA2]
  have hfar : ¬ ft (w.heap.size + 1) := fun hk => absurd (HFT.out _ hk) (by omega)
  have hM2 : Moves ft w W3 := by rw [H3.out]; exact Moves.drew (Moves.setCell (p := ⟨g, 1, none⟩) (Moves.of_below HB.out ft) (.inl hfg) _)
  have E1 : IsMem W3 base ft m vN vA vD mb n f (hX X kl ⟨(i : Int), po + off, li, false, ro⟩) := by rw [H3.out]; exact IsMem.below (IsMem.hsetX HM2.out hkl HF.out HGH.out 1 (.int .i64 (po + off)) (h' := ⟨(i : Int), po + off, li, false, ro⟩) rfl) (below_drew (Below.refl _ _))
  refine bodyPost_ret (v := .agg #[.int .i64 0, .int .i64 0, .int .i64 (po + off), .slice none 0 0, .slice none 0 0, .slice none 0 0]) (by simp [results, Tryd.results34, go_sem, n1, n2, n3, n4, q0, q1, q2, q3, q4, q5]) rfl ?_
  refine ⟨_, _, _, vD, ft, rfl, Kd.R_nil _ _ _ _ _, Kd.R_nil _ _ _ _ _, Kd.R_nil _ _ _ _ _, ?_, ?_, fun k hk => .inl hk, fun k hk => ?_⟩
  · repeat (first | with_reducible exact E1 | with_reducible refine IsMem.far (p := ⟨w.heap.size + 1, _, none⟩) ?_ hfar _)
  · repeat (first | with_reducible exact hM2 | with_reducible refine Moves.setCell (p := ⟨g, _, none⟩) ?_ (.inl hfg) _ | with_reducible refine Moves.setCell (p := ⟨gd, _, none⟩) ?_ (.inl hgd) _ | with_reducible refine Moves.setCell (p := ⟨w.heap.size + 1, _, none⟩) ?_ (.inr (Nat.le_succ _)) _)
  · have := HFT.out k hk
    have := HS2.out
    have : W3.heap.size = W2.heap.size := by rw [H3.out]; simp [World.setCell, World.drew]
    simp [World.setCell]
    omega
set_option maxHeartbeats 4000000 in
set_option maxRecDepth 100000 in
theorem file_seek2 (M : IsMem w base ft m vN vA vD mb n f X) (hft : ∀ k, ft k → k < w.heap.size) (kl : Lit) (hkl : WideAt.IsKeyLit kl) (g : Nat) (h : SHnd) (hf : f kl = some g) (hg : w.heap[g]? = some (.cells (shcs h) 49 (0, 0))) (hfg : ft g) (i : Nat) (hi : h.node = i) (hil : i < X.nodes.length) (hL : X.nodes.length ≤ 100000) (s : S26) (A6 : Option Addr) (c6 : Nat) (hl6 : s.f6.length ≤ c6) (hC6 : (Kd.int .u8).C w A6 s.f6.length s.f6) (hop : s.f0 = 16) (hcl : h.closed = false) (hwh : s.f8 = 2) (hdl : (nodeOf X i).f2.length ≤ 1000000) (ho0 : -1099511627776 ≤ s.f7) (ho1 : s.f7 ≤ 1099511627776) :
    Calls Tryd.prog 34 #[.pointer (some ⟨m, 0, none⟩), .pointer (some ⟨g, 0, none⟩), stepA s A6 c6] w (FilePost w base ft m vN vA mb n f (hX X kl { h with pos := ((nodeOf X i).f2.length : Int) + s.f7 }) (ans 0 0 (((nodeOf X i).f2.length : Int) + s.f7) [])) := by
  obtain ⟨X', hX'⟩ : ∃ X', X' = (hX X kl { h with pos := ((nodeOf X i).f2.length : Int) + s.f7 }) := ⟨_, rfl⟩
  obtain ⟨a', ha'⟩ : ∃ a', a' = (ans 0 0 (((nodeOf X i).f2.length : Int) + s.f7) []) := ⟨_, rfl⟩
  rw [← ha', ← hX']
  have HX := Lib.hid hX'
  have HA := Lib.hid ha'
  clear hX' ha'
  obtain ⟨gd, cap, A2, c2, hv, hlc, hgd, p0o, p1o, p2o, p3o, p4o, l2, g2, pz, ncs, hnb⟩ := node_at M i hil
  have c2' := M.c2
  rw [hv] at c2'
  have h0 := blk_cell hg 0
  have h1o := blk_cell hg 1
  have h2o := blk_cell hg 2
  have h3o := blk_cell hg 3
  have h4o := blk_cell hg 4
  have hg1 := blk_lt hg
  have n9 : ¬ (g = gd) := fun e => by rw [← e, hg] at hnb; injection hnb with hnb; injection hnb with _ hnb; exact absurd hnb (by decide)
  have n10 : ¬ (gd = g) := fun e => n9 e.symm
  clear hnb
  have hgd1 := hft gd hgd
  have hil' : (i : Int) < (X.nodes.length : Int) := by omega
  obtain ⟨no, po, li, cl, ro⟩ := h
  obtain ⟨op, nm, ot, fl, pe, hh, dat, off, wh, N⟩ := s
  simp only [shcs] at h0 h1o h2o h3o h4o
  simp only at hi hop hl6 hC6
  subst hi
  subst hop
  obtain rfl : wh = 2 := hwh
  unfold stepA
  have c2b := cellb c2' (below_alloc (below_alloc (Below.refl w.heap.size w) (.cells #[.int .i64 16, .string nm, .string ot, .int .i64 fl, .int .i64 pe, .int .i64 hh, .slice A6 dat.length c6, .int .i64 off, .int .i64 2, .int .i64 N] 26)) (.cells #[.int .i64 0, .int .i64 0, .int .i64 0, .slice none 0 0, .slice none 0 0, .slice none 0 0] 33))
  have h0b := cellb h0 (below_alloc (below_alloc (Below.refl w.heap.size w) (.cells #[.int .i64 16, .string nm, .string ot, .int .i64 fl, .int .i64 pe, .int .i64 hh, .slice A6 dat.length c6, .int .i64 off, .int .i64 2, .int .i64 N] 26)) (.cells #[.int .i64 0, .int .i64 0, .int .i64 0, .slice none 0 0, .slice none 0 0, .slice none 0 0] 33))
  have HM := Lib.hid M
  have HF := Lib.hid hf
  have HG := Lib.hid hg
  have HFT := Lib.hid hft
  have HV := Lib.hid hv
  have HC6 := Lib.hid hC6
  have HG2 := Lib.hid g2
  have HPZ := Lib.hid pz
  have HND := Lib.hid (show nodeOf X (i : Int) = nodeOf X (i : Int) from rfl)
  clear M hf hg hft hv hC6 g2 pz c2' h0
  generalize hLn : X.nodes.length = L at *
  have HLN := Lib.hid hLn
  clear hLn
  generalize hnd : nodeOf X (i : Int) = nd at *
  have HNO := Lib.hid hnd
  clear hnd HND
  obtain ⟨dir, mode, data, time, name⟩ := nd
  simp only at p0o p1o p2o p3o p4o l2 HG2
  go_enter Tryd.func34, Tryd.ntmps34
  go_wp2_with fail
  go_quiet (fail)
  obtain ⟨W2, hW2⟩ : ∃ W2, W2 = World.drewN ((w.alloc (.cells #[.int .i64 16, .string nm, .string ot, .int .i64 fl, .int .i64 pe, .int .i64 hh, .slice A6 dat.length c6, .int .i64 off, .int .i64 2, .int .i64 N] 26)).alloc (.cells #[.int .i64 0, .int .i64 0, .int .i64 0, .slice none 0 0, .slice none 0 0, .slice none 0 0] 33)) nq := ⟨_, rfl⟩
  rw [← hW2]
  have BW : Below w.heap.size w W2 := by rw [hW2]; exact pw_below_drewN (below_alloc (below_alloc (Below.refl _ _) _) _) _
  have b1 : W2.heap[w.heap.size]? = some (.cells #[.int .i64 16, .string nm, .string ot, .int .i64 fl, .int .i64 pe, .int .i64 hh, .slice A6 dat.length c6, .int .i64 off, .int .i64 2, .int .i64 N] 26 (0, 0)) := by rw [hW2]; exact blk_drewN (blk_alloc (blk_new _ _) _) _
  have b2 : W2.heap[w.heap.size + 1]? = some (.cells #[.int .i64 0, .int .i64 0, .int .i64 0, .slice none 0 0, .slice none 0 0, .slice none 0 0] 33 (0, 0)) := by rw [hW2]; exact blk_drewN (blk_at_ (by simp)) _
  have hsz2 : W2.heap.size = w.heap.size + 2 := by rw [hW2]; simp [World.drewN]
  have k0 := blk_cell b1 0
  have k1 := blk_cell b1 1
  have k2 := blk_cell b1 2
  have k3 := blk_cell b1 3
  have k4 := blk_cell b1 4
  have k5 := blk_cell b1 5
  have k6 := blk_cell b1 6
  have k7 := blk_cell b1 7
  have k8 := blk_cell b1 8
  have k9 := blk_cell b1 9
  have q0 := blk_cell b2 0
  have q1 := blk_cell b2 1
  have q2 := blk_cell b2 2
  have q3 := blk_cell b2 3
  have q4 := blk_cell b2 4
  have q5 := blk_cell b2 5
  have zq := blk_frozen b2
  have zg := blk_frozen (blk_below HG.out BW)
  have zd := fun j => (show W2.frozen? ⟨gd, i * 5 + j, none⟩ = false by rw [← HPZ.out j]; exact BW.frozen (p := ⟨gd, i * 5 + j, none⟩) hgd1)
  have h1 := cellb h1o BW
  have h2 := cellb h2o BW
  have h3 := cellb h3o BW
  have h4 := cellb h4o BW
  have p0 := cellb p0o BW
  have p1 := cellb p1o BW
  have p2 := cellb p2o BW
  have p3 := cellb p3o BW
  have p4 := cellb p4o BW
  have HB := Lib.hid BW
  have HM2 := Lib.hid (HM.out.below BW)
  have HGH := Lib.hid (blk_below HG.out BW)
  have HO := Lib.hid b2
  have HS2 := Lib.hid hsz2
  have n1 : ¬ (g = w.heap.size + 1) := by omega
  have n2 : ¬ (gd = w.heap.size + 1) := by omega
  have n3 : ¬ (w.heap.size + 1 = g) := by omega
  have n4 : ¬ (w.heap.size + 1 = gd) := by omega
  have n5 : ¬ (g = w.heap.size) := by omega
  have n6 : ¬ (gd = w.heap.size) := by omega
  have n7 : ¬ (w.heap.size = g) := by omega
  have n8 : ¬ (w.heap.size = gd) := by omega
  clear hW2 BW b1 b2 c2b h0b hsz2 hg1 hgd1 h1o h2o h3o h4o p0o p1o p2o p3o p4o
  simp at k0 k1 k2 k3 k4 k5 k6 k7 k8 k9 q0 q1 q2 q3 q4 q5 h1 h2 h3 h4
  obtain rfl : cl = false := hcl
  try simp only at ho0 ho1
  try simp only at hdl
  have H1 := Lib.hid h1
  go_wp2_with fail
  go_region
  obtain ⟨W3, hW3⟩ : ∃ W3, W3 = (W2.setCell ⟨g, 1, none⟩ (.int .i64 ((data.length : Int) + off))).drew := ⟨_, rfl⟩
  rw [← hW3]
  have h1 : W3.cell? ⟨g, 1, none⟩ = some (.int .i64 ((data.length : Int) + off)) := by rw [hW3]; exact (World.cell?_drew _ _).trans (Go.World.cell?_setCell_same' _ _ _ (by rw [H1.out]; rfl))
  have b3 := blk_drew (blk_far HO.out (p := ⟨g, 1, none⟩) (show w.heap.size + 1 ≠ g by omega) (Value.int .i64 ((data.length : Int) + off)))
  rw [← hW3] at b3
  have H3 := Lib.hid hW3
  clear hW3
  have q0 := blk_cell b3 0
  have q1 := blk_cell b3 1
  have q2 := blk_cell b3 2
  have q3 := blk_cell b3 3
  have q4 := blk_cell b3 4
  have q5 := blk_cell b3 5
  have zq := blk_frozen b3
  simp at q0 q1 q2 q3 q4 q5
  go_wp2_with fail
  have hX2 := HX.out
  have hA2 := HA.out
  try simp only [if_true, if_false, Bool.false_eq_true, reduceIte] at hX2 hA2
  rw [hX2, hA2]
  have hfar : ¬ ft (w.heap.size + 1) := fun hk => absurd (HFT.out _ hk) (by omega)
  have hM2 : Moves ft w W3 := by rw [H3.out]; exact Moves.drew (Moves.setCell (p := ⟨g, 1, none⟩) (Moves.of_below HB.out ft) (.inl hfg) _)
  have E1 : IsMem W3 base ft m vN vA vD mb n f (hX X kl ⟨(i : Int), (data.length : Int) + off, li, false, ro⟩) := by rw [H3.out]; exact IsMem.below (IsMem.hsetX HM2.out hkl HF.out HGH.out 1 (.int .i64 ((data.length : Int) + off)) (h' := ⟨(i : Int), (data.length : Int) + off, li, false, ro⟩) rfl) (below_drew (Below.refl _ _))
  refine bodyPost_ret (v := .agg #[.int .i64 0, .int .i64 0, .int .i64 ((data.length : Int) + off), .slice none 0 0, .slice none 0 0, .slice none 0 0]) (by simp [results, Tryd.results34, go_sem, n1, n2, n3, n4, q0, q1, q2, q3, q4, q5]) rfl ?_
  refine ⟨_, _, _, vD, ft, rfl, Kd.R_nil _ _ _ _ _, Kd.R_nil _ _ _ _ _, Kd.R_nil _ _ _ _ _, ?_, ?_, fun k hk => .inl hk, fun k hk => ?_⟩
  · repeat (first | with_reducible exact E1 | with_reducible refine IsMem.far (p := ⟨w.heap.size + 1, _, none⟩) ?_ hfar _)
  · repeat (first | with_reducible exact hM2 | with_reducible refine Moves.setCell (p := ⟨g, _, none⟩) ?_ (.inl hfg) _ | with_reducible refine Moves.setCell (p := ⟨gd, _, none⟩) ?_ (.inl hgd) _ | with_reducible refine Moves.setCell (p := ⟨w.heap.size + 1, _, none⟩) ?_ (.inr (Nat.le_succ _)) _)
  · have := HFT.out k hk
    have := HS2.out
    have : W3.heap.size = W2.heap.size := by rw [H3.out]; simp [World.setCell, World.drew]
    simp [World.setCell]
    omega
set_option maxHeartbeats 4000000 in
set_option maxRecDepth 100000 in
theorem file_seekx (M : IsMem w base ft m vN vA vD mb n f X) (hft : ∀ k, ft k → k < w.heap.size) (kl : Lit) (hkl : WideAt.IsKeyLit kl) (g : Nat) (h : SHnd) (hf : f kl = some g) (hg : w.heap[g]? = some (.cells (shcs h) 49 (0, 0))) (hfg : ft g) (i : Nat) (hi : h.node = i) (hil : i < X.nodes.length) (hL : X.nodes.length ≤ 100000) (s : S26) (A6 : Option Addr) (c6 : Nat) (hl6 : s.f6.length ≤ c6) (hC6 : (Kd.int .u8).C w A6 s.f6.length s.f6) (hop : s.f0 = 16) (hcl : h.closed = false) (hw0 : s.f8 ≠ 0) (hw1 : s.f8 ≠ 1) (hw2 : s.f8 ≠ 2) :
    Calls Tryd.prog 34 #[.pointer (some ⟨m, 0, none⟩), .pointer (some ⟨g, 0, none⟩), stepA s A6 c6] w (FilePost w base ft m vN vA mb n f (X) (ans 0 0 (h.pos) [])) := by
  obtain ⟨X', hX'⟩ : ∃ X', X' = (X) := ⟨_, rfl⟩
  obtain ⟨a', ha'⟩ : ∃ a', a' = (ans 0 0 (h.pos) []) := ⟨_, rfl⟩
  rw [← ha', ← hX']
  have HX := Lib.hid hX'
  have HA := Lib.hid ha'
  clear hX' ha'
  obtain ⟨gd, cap, A2, c2, hv, hlc, hgd, p0o, p1o, p2o, p3o, p4o, l2, g2, pz, ncs, hnb⟩ := node_at M i hil
  have c2' := M.c2
  rw [hv] at c2'
  have h0 := blk_cell hg 0
  have h1o := blk_cell hg 1
  have h2o := blk_cell hg 2
  have h3o := blk_cell hg 3
  have h4o := blk_cell hg 4
  have hg1 := blk_lt hg
  have n9 : ¬ (g = gd) := fun e => by rw [← e, hg] at hnb; injection hnb with hnb; injection hnb with _ hnb; exact absurd hnb (by decide)
  have n10 : ¬ (gd = g) := fun e => n9 e.symm
  clear hnb
  have hgd1 := hft gd hgd
  have hil' : (i : Int) < (X.nodes.length : Int) := by omega
  obtain ⟨no, po, li, cl, ro⟩ := h
  obtain ⟨op, nm, ot, fl, pe, hh, dat, off, wh, N⟩ := s
  simp only [shcs] at h0 h1o h2o h3o h4o
  simp only at hi hop hl6 hC6
  subst hi
  subst hop
  unfold stepA
  have c2b := cellb c2' (below_alloc (below_alloc (Below.refl w.heap.size w) (.cells #[.int .i64 16, .string nm, .string ot, .int .i64 fl, .int .i64 pe, .int .i64 hh, .slice A6 dat.length c6, .int .i64 off, .int .i64 wh, .int .i64 N] 26)) (.cells #[.int .i64 0, .int .i64 0, .int .i64 0, .slice none 0 0, .slice none 0 0, .slice none 0 0] 33))
  have h0b := cellb h0 (below_alloc (below_alloc (Below.refl w.heap.size w) (.cells #[.int .i64 16, .string nm, .string ot, .int .i64 fl, .int .i64 pe, .int .i64 hh, .slice A6 dat.length c6, .int .i64 off, .int .i64 wh, .int .i64 N] 26)) (.cells #[.int .i64 0, .int .i64 0, .int .i64 0, .slice none 0 0, .slice none 0 0, .slice none 0 0] 33))
  have HM := Lib.hid M
  have HF := Lib.hid hf
  have HG := Lib.hid hg
  have HFT := Lib.hid hft
  have HV := Lib.hid hv
  have HC6 := Lib.hid hC6
  have HG2 := Lib.hid g2
  have HPZ := Lib.hid pz
  have HND := Lib.hid (show nodeOf X (i : Int) = nodeOf X (i : Int) from rfl)
  clear M hf hg hft hv hC6 g2 pz c2' h0
  generalize hLn : X.nodes.length = L at *
  have HLN := Lib.hid hLn
  clear hLn
  generalize hnd : nodeOf X (i : Int) = nd at *
  have HNO := Lib.hid hnd
  clear hnd HND
  obtain ⟨dir, mode, data, time, name⟩ := nd
  simp only at p0o p1o p2o p3o p4o l2 HG2
  go_enter Tryd.func34, Tryd.ntmps34
  go_wp2_with fail
  go_quiet (fail)
  obtain ⟨W2, hW2⟩ : ∃ W2, W2 = World.drewN ((w.alloc (.cells #[.int .i64 16, .string nm, .string ot, .int .i64 fl, .int .i64 pe, .int .i64 hh, .slice A6 dat.length c6, .int .i64 off, .int .i64 wh, .int .i64 N] 26)).alloc (.cells #[.int .i64 0, .int .i64 0, .int .i64 0, .slice none 0 0, .slice none 0 0, .slice none 0 0] 33)) nq := ⟨_, rfl⟩
  rw [← hW2]
  have BW : Below w.heap.size w W2 := by rw [hW2]; exact pw_below_drewN (below_alloc (below_alloc (Below.refl _ _) _) _) _
  have b1 : W2.heap[w.heap.size]? = some (.cells #[.int .i64 16, .string nm, .string ot, .int .i64 fl, .int .i64 pe, .int .i64 hh, .slice A6 dat.length c6, .int .i64 off, .int .i64 wh, .int .i64 N] 26 (0, 0)) := by rw [hW2]; exact blk_drewN (blk_alloc (blk_new _ _) _) _
  have b2 : W2.heap[w.heap.size + 1]? = some (.cells #[.int .i64 0, .int .i64 0, .int .i64 0, .slice none 0 0, .slice none 0 0, .slice none 0 0] 33 (0, 0)) := by rw [hW2]; exact blk_drewN (blk_at_ (by simp)) _
  have hsz2 : W2.heap.size = w.heap.size + 2 := by rw [hW2]; simp [World.drewN]
  have k0 := blk_cell b1 0
  have k1 := blk_cell b1 1
  have k2 := blk_cell b1 2
  have k3 := blk_cell b1 3
  have k4 := blk_cell b1 4
  have k5 := blk_cell b1 5
  have k6 := blk_cell b1 6
  have k7 := blk_cell b1 7
  have k8 := blk_cell b1 8
  have k9 := blk_cell b1 9
  have q0 := blk_cell b2 0
  have q1 := blk_cell b2 1
  have q2 := blk_cell b2 2
  have q3 := blk_cell b2 3
  have q4 := blk_cell b2 4
  have q5 := blk_cell b2 5
  have zq := blk_frozen b2
  have zg := blk_frozen (blk_below HG.out BW)
  have zd := fun j => (show W2.frozen? ⟨gd, i * 5 + j, none⟩ = false by rw [← HPZ.out j]; exact BW.frozen (p := ⟨gd, i * 5 + j, none⟩) hgd1)
  have h1 := cellb h1o BW
  have h2 := cellb h2o BW
  have h3 := cellb h3o BW
  have h4 := cellb h4o BW
  have p0 := cellb p0o BW
  have p1 := cellb p1o BW
  have p2 := cellb p2o BW
  have p3 := cellb p3o BW
  have p4 := cellb p4o BW
  have HB := Lib.hid BW
  have HM2 := Lib.hid (HM.out.below BW)
  have HGH := Lib.hid (blk_below HG.out BW)
  have HO := Lib.hid b2
  have HS2 := Lib.hid hsz2
  have n1 : ¬ (g = w.heap.size + 1) := by omega
  have n2 : ¬ (gd = w.heap.size + 1) := by omega
  have n3 : ¬ (w.heap.size + 1 = g) := by omega
  have n4 : ¬ (w.heap.size + 1 = gd) := by omega
  have n5 : ¬ (g = w.heap.size) := by omega
  have n6 : ¬ (gd = w.heap.size) := by omega
  have n7 : ¬ (w.heap.size = g) := by omega
  have n8 : ¬ (w.heap.size = gd) := by omega
  clear hW2 BW b1 b2 c2b h0b hsz2 hg1 hgd1 h1o h2o h3o h4o p0o p1o p2o p3o p4o
  simp at k0 k1 k2 k3 k4 k5 k6 k7 k8 k9 q0 q1 q2 q3 q4 q5 h1 h2 h3 h4
  obtain rfl : cl = false := hcl
  have hw0 : ¬ (wh = 0) := hw0
  have hw1 : ¬ (wh = 1) := hw1
  have hw2 : ¬ (wh = 2) := hw2
  go_wp2_with fail
  have hX2 := HX.out
  have hA2 := HA.out
  try simp only [if_true, if_false, Bool.false_eq_true, reduceIte] at hX2 hA2
  rw [hX2, hA2]
  have hfar : ¬ ft (w.heap.size + 1) := fun hk => absurd (HFT.out _ hk) (by omega)
  have hM2 : Moves ft w W2 := Moves.of_below HB.out ft
  have E1 := HM2.out
  refine bodyPost_ret (v := .agg #[.int .i64 0, .int .i64 0, .int .i64 (po), .slice none 0 0, .slice none 0 0, .slice none 0 0]) (by simp [results, Tryd.results34, go_sem, n1, n2, n3, n4, q0, q1, q2, q3, q4, q5]) rfl ?_
  refine ⟨_, _, _, vD, ft, rfl, Kd.R_nil _ _ _ _ _, Kd.R_nil _ _ _ _ _, Kd.R_nil _ _ _ _ _, ?_, ?_, fun k hk => .inl hk, fun k hk => ?_⟩
  · repeat (first | with_reducible exact E1 | with_reducible refine IsMem.far (p := ⟨w.heap.size + 1, _, none⟩) ?_ hfar _)
  · repeat (first | with_reducible exact hM2 | with_reducible refine Moves.setCell (p := ⟨g, _, none⟩) ?_ (.inl hfg) _ | with_reducible refine Moves.setCell (p := ⟨gd, _, none⟩) ?_ (.inl hgd) _ | with_reducible refine Moves.setCell (p := ⟨w.heap.size + 1, _, none⟩) ?_ (.inr (Nat.le_succ _)) _)
  · have := HFT.out k hk
    have := HS2.out
    simp [World.setCell]
    omega
set_option maxHeartbeats 4000000 in
set_option maxRecDepth 100000 in
theorem file_neg17 (M : IsMem w base ft m vN vA vD mb n f X) (hft : ∀ k, ft k → k < w.heap.size) (kl : Lit) (hkl : WideAt.IsKeyLit kl) (g : Nat) (h : SHnd) (hf : f kl = some g) (hg : w.heap[g]? = some (.cells (shcs h) 49 (0, 0))) (hfg : ft g) (i : Nat) (hi : h.node = i) (hil : i < X.nodes.length) (hL : X.nodes.length ≤ 100000) (s : S26) (A6 : Option Addr) (c6 : Nat) (hl6 : s.f6.length ≤ c6) (hC6 : (Kd.int .u8).C w A6 s.f6.length s.f6) (hop : s.f0 = 17) (hcl : h.closed = false) (hro : h.ro = false) (ho : s.f7 < 0) :
    Calls Tryd.prog 34 #[.pointer (some ⟨m, 0, none⟩), .pointer (some ⟨g, 0, none⟩), stepA s A6 c6] w (FilePost w base ft m vN vA mb n f (X) (ans 7 0 0 [])) := by
  obtain ⟨X', hX'⟩ : ∃ X', X' = (X) := ⟨_, rfl⟩
  obtain ⟨a', ha'⟩ : ∃ a', a' = (ans 7 0 0 []) := ⟨_, rfl⟩
  rw [← ha', ← hX']
  have HX := Lib.hid hX'
  have HA := Lib.hid ha'
  clear hX' ha'
  obtain ⟨gd, cap, A2, c2, hv, hlc, hgd, p0o, p1o, p2o, p3o, p4o, l2, g2, pz, ncs, hnb⟩ := node_at M i hil
  have c2' := M.c2
  rw [hv] at c2'
  have h0 := blk_cell hg 0
  have h1o := blk_cell hg 1
  have h2o := blk_cell hg 2
  have h3o := blk_cell hg 3
  have h4o := blk_cell hg 4
  have hg1 := blk_lt hg
  have n9 : ¬ (g = gd) := fun e => by rw [← e, hg] at hnb; injection hnb with hnb; injection hnb with _ hnb; exact absurd hnb (by decide)
  have n10 : ¬ (gd = g) := fun e => n9 e.symm
  clear hnb
  have hgd1 := hft gd hgd
  have hil' : (i : Int) < (X.nodes.length : Int) := by omega
  obtain ⟨no, po, li, cl, ro⟩ := h
  obtain ⟨op, nm, ot, fl, pe, hh, dat, off, wh, N⟩ := s
  simp only [shcs] at h0 h1o h2o h3o h4o
  simp only at hi hop hl6 hC6
  subst hi
  subst hop
  unfold stepA
  have c2b := cellb c2' (below_alloc (below_alloc (Below.refl w.heap.size w) (.cells #[.int .i64 17, .string nm, .string ot, .int .i64 fl, .int .i64 pe, .int .i64 hh, .slice A6 dat.length c6, .int .i64 off, .int .i64 wh, .int .i64 N] 26)) (.cells #[.int .i64 0, .int .i64 0, .int .i64 0, .slice none 0 0, .slice none 0 0, .slice none 0 0] 33))
  have h0b := cellb h0 (below_alloc (below_alloc (Below.refl w.heap.size w) (.cells #[.int .i64 17, .string nm, .string ot, .int .i64 fl, .int .i64 pe, .int .i64 hh, .slice A6 dat.length c6, .int .i64 off, .int .i64 wh, .int .i64 N] 26)) (.cells #[.int .i64 0, .int .i64 0, .int .i64 0, .slice none 0 0, .slice none 0 0, .slice none 0 0] 33))
  have HM := Lib.hid M
  have HF := Lib.hid hf
  have HG := Lib.hid hg
  have HFT := Lib.hid hft
  have HV := Lib.hid hv
  have HC6 := Lib.hid hC6
  have HG2 := Lib.hid g2
  have HPZ := Lib.hid pz
  have HND := Lib.hid (show nodeOf X (i : Int) = nodeOf X (i : Int) from rfl)
  clear M hf hg hft hv hC6 g2 pz c2' h0
  generalize hLn : X.nodes.length = L at *
  have HLN := Lib.hid hLn
  clear hLn
  generalize hnd : nodeOf X (i : Int) = nd at *
  have HNO := Lib.hid hnd
  clear hnd HND
  obtain ⟨dir, mode, data, time, name⟩ := nd
  simp only at p0o p1o p2o p3o p4o l2 HG2
  go_enter Tryd.func34, Tryd.ntmps34
  go_wp2_with fail
  go_quiet (fail)
  obtain ⟨W2, hW2⟩ : ∃ W2, W2 = World.drewN ((w.alloc (.cells #[.int .i64 17, .string nm, .string ot, .int .i64 fl, .int .i64 pe, .int .i64 hh, .slice A6 dat.length c6, .int .i64 off, .int .i64 wh, .int .i64 N] 26)).alloc (.cells #[.int .i64 0, .int .i64 0, .int .i64 0, .slice none 0 0, .slice none 0 0, .slice none 0 0] 33)) nq := ⟨_, rfl⟩
  rw [← hW2]
  have BW : Below w.heap.size w W2 := by rw [hW2]; exact pw_below_drewN (below_alloc (below_alloc (Below.refl _ _) _) _) _
  have b1 : W2.heap[w.heap.size]? = some (.cells #[.int .i64 17, .string nm, .string ot, .int .i64 fl, .int .i64 pe, .int .i64 hh, .slice A6 dat.length c6, .int .i64 off, .int .i64 wh, .int .i64 N] 26 (0, 0)) := by rw [hW2]; exact blk_drewN (blk_alloc (blk_new _ _) _) _
  have b2 : W2.heap[w.heap.size + 1]? = some (.cells #[.int .i64 0, .int .i64 0, .int .i64 0, .slice none 0 0, .slice none 0 0, .slice none 0 0] 33 (0, 0)) := by rw [hW2]; exact blk_drewN (blk_at_ (by simp)) _
  have hsz2 : W2.heap.size = w.heap.size + 2 := by rw [hW2]; simp [World.drewN]
  have k0 := blk_cell b1 0
  have k1 := blk_cell b1 1
  have k2 := blk_cell b1 2
  have k3 := blk_cell b1 3
  have k4 := blk_cell b1 4
  have k5 := blk_cell b1 5
  have k6 := blk_cell b1 6
  have k7 := blk_cell b1 7
  have k8 := blk_cell b1 8
  have k9 := blk_cell b1 9
  have q0 := blk_cell b2 0
  have q1 := blk_cell b2 1
  have q2 := blk_cell b2 2
  have q3 := blk_cell b2 3
  have q4 := blk_cell b2 4
  have q5 := blk_cell b2 5
  have zq := blk_frozen b2
  have zg := blk_frozen (blk_below HG.out BW)
  have zd := fun j => (show W2.frozen? ⟨gd, i * 5 + j, none⟩ = false by rw [← HPZ.out j]; exact BW.frozen (p := ⟨gd, i * 5 + j, none⟩) hgd1)
  have h1 := cellb h1o BW
  have h2 := cellb h2o BW
  have h3 := cellb h3o BW
  have h4 := cellb h4o BW
  have p0 := cellb p0o BW
  have p1 := cellb p1o BW
  have p2 := cellb p2o BW
  have p3 := cellb p3o BW
  have p4 := cellb p4o BW
  have HB := Lib.hid BW
  have HM2 := Lib.hid (HM.out.below BW)
  have HGH := Lib.hid (blk_below HG.out BW)
  have HO := Lib.hid b2
  have HS2 := Lib.hid hsz2
  have n1 : ¬ (g = w.heap.size + 1) := by omega
  have n2 : ¬ (gd = w.heap.size + 1) := by omega
  have n3 : ¬ (w.heap.size + 1 = g) := by omega
  have n4 : ¬ (w.heap.size + 1 = gd) := by omega
  have n5 : ¬ (g = w.heap.size) := by omega
  have n6 : ¬ (gd = w.heap.size) := by omega
  have n7 : ¬ (w.heap.size = g) := by omega
  have n8 : ¬ (w.heap.size = gd) := by omega
  clear hW2 BW b1 b2 c2b h0b hsz2 hg1 hgd1 h1o h2o h3o h4o p0o p1o p2o p3o p4o
  simp at k0 k1 k2 k3 k4 k5 k6 k7 k8 k9 q0 q1 q2 q3 q4 q5 h1 h2 h3 h4
  obtain rfl : cl = false := hcl
  obtain rfl : ro = false := hro
  have ho : off < 0 := ho
  go_wp2_with fail
  have hX2 := HX.out
  have hA2 := HA.out
  try simp only [if_true, if_false, Bool.false_eq_true, reduceIte] at hX2 hA2
  rw [hX2, hA2]
  have hfar : ¬ ft (w.heap.size + 1) := fun hk => absurd (HFT.out _ hk) (by omega)
  have hM2 : Moves ft w W2 := Moves.of_below HB.out ft
  have E1 := HM2.out
  refine bodyPost_ret (v := .agg #[.int .i64 7, .int .i64 0, .int .i64 0, .slice none 0 0, .slice none 0 0, .slice none 0 0]) (by simp [results, Tryd.results34, go_sem, n1, n2, n3, n4, q0, q1, q2, q3, q4, q5]) rfl ?_
  refine ⟨_, _, _, vD, ft, rfl, Kd.R_nil _ _ _ _ _, Kd.R_nil _ _ _ _ _, Kd.R_nil _ _ _ _ _, ?_, ?_, fun k hk => .inl hk, fun k hk => ?_⟩
  · repeat (first | with_reducible exact E1 | with_reducible refine IsMem.far (p := ⟨w.heap.size + 1, _, none⟩) ?_ hfar _)
  · repeat (first | with_reducible exact hM2 | with_reducible refine Moves.setCell (p := ⟨g, _, none⟩) ?_ (.inl hfg) _ | with_reducible refine Moves.setCell (p := ⟨gd, _, none⟩) ?_ (.inl hgd) _ | with_reducible refine Moves.setCell (p := ⟨w.heap.size + 1, _, none⟩) ?_ (.inr (Nat.le_succ _)) _)
  · have := HFT.out k hk
    have := HS2.out
    simp [World.setCell]
    omega
end
end Go.Proofs.YtljcdjggjphedaaDoor.My
namespace Go.Proofs.YtljcdjggjphedaaDoor.My2
open Go.RowKit Go.Maps Go.Proofs.YtljcdjggjphedaaDoorW.PrintWords Go.Proofs.YtljcdjggjphedaaDoorW.PrintLast Go.Proofs.YtljcdjggjphedaaDoorW.PrintMore Go.Proofs.YtljcdjggjphedaaDoor.PFnHandleScript Go.Proofs.YtljcdjggjphedaaDoor.Hd Go.Proofs.YtljcdjggjphedaaDoor.Ms Go.Proofs.YtljcdjggjphedaaDoor.Mn Go.Proofs.YtljcdjggjphedaaDoor.Pm Go.Proofs.YtljcdjggjphedaaDoor.Mf Go.Proofs.YtljcdjggjphedaaDoor.Mq Go.Proofs.YtljcdjggjphedaaDoor.Bq Go.Proofs.YtljcdjggjphedaaDoor.Mr Go.Proofs.YtljcdjggjphedaaDoor.Mt Go.Proofs.YtljcdjggjphedaaDoor.Mu Go.Proofs.YtljcdjggjphedaaDoor.Mv Go.Proofs.YtljcdjggjphedaaDoor.Ml Go.Proofs.YtljcdjggjphedaaDoor.Mw Go.Proofs.YtljcdjggjphedaaDoor.Lw
set_option linter.unusedVariables false
set_option linter.unusedSimpArgs false
section
variable {w : World} {base : Nat} {ft : Nat → Prop} {m : Nat} {vN vA vD : Value} {mb n : Nat} {f : Lit → Option Nat} {X : SMem}
def memInfo (x : S42) : S75 := ⟨memBase x.f4, if x.f0 then 42 else (x.f2.length : Int), x.f1, x.f0, x.f3⟩
def InfoIs (w : World) (x : S75) (e : Ending) (w' : World) : Prop := e = .returned (.agg #[.string x.f0, .int .i64 x.f1, .int .i64 x.f2, .bool x.f3, .int .i64 x.f4]) ∧ Below w.heap.size w w'
set_option maxHeartbeats 4000000 in
set_option maxRecDepth 100000 in
theorem info_any (M : IsMem w base ft m vN vA vD mb n f X) (i : Nat) (hil : i < X.nodes.length) (hs : X.nodes.length ≤ 100000) (hnm : (nodeOf X i).f4.size ≤ 100000) (hdl : (nodeOf X i).f2.length ≤ 100000000) :
    Calls Tryd.prog 64 #[.pointer (some ⟨m, 0, none⟩), .int .i64 i] w (InfoIs w (memInfo (nodeOf X i))) := by
  obtain ⟨ad, A2, c2, c, hv, hlc, p0, p1, p2, p3, p4, l2, g2⟩ := node_cells M i (by omega)
  have c2' := M.c2
  rw [hv] at c2'
  have hil' : (i : Int) < (X.nodes.length : Int) := by omega
  obtain ⟨nf, hnf⟩ : ∃ nf, nf = memInfo (nodeOf X i) := ⟨_, rfl⟩
  rw [← hnf]
  have HNF := Lib.hid hnf
  clear hnf
  generalize hnd : nodeOf X (i : Int) = nd at *
  obtain ⟨dir, mode, data, time, name⟩ := nd
  simp only at p0 p1 p2 p3 p4 l2 g2 hnm hdl
  have HMB := Lib.hid (fun W => base_any name W (by omega))
  generalize X.nodes.length = L at *
  clear hv g2 M hnd
  go_enter Tryd.func64, Tryd.ntmps64
  go_upto_region 1 with (fail)
  obtain ⟨Wa, hWa⟩ : ∃ Wa, Wa = w.alloc (.cells #[.string ⟨#[]⟩, .int .i64 0, .int .i64 0, .bool false, .int .i64 0] 75) := ⟨_, rfl⟩
  rw [← hWa]
  have BA : Below w.heap.size w Wa := by rw [hWa]; exact below_alloc (Below.refl _ _) _
  have bn : Wa.heap[w.heap.size]? = some (.cells #[.string ⟨#[]⟩, .int .i64 0, .int .i64 0, .bool false, .int .i64 0] 75 (0, 0)) := by rw [hWa]; exact blk_new _ _
  have hsz : Wa.heap.size = w.heap.size + 1 := by rw [hWa]; simp
  have c2' := cellb c2' BA
  have p0 := cellb p0 BA
  have p1 := cellb p1 BA
  have p2 := cellb p2 BA
  have p3 := cellb p3 BA
  have p4 := cellb p4 BA
  have q0 := blk_cell bn 0
  have q1 := blk_cell bn 1
  have q2 := blk_cell bn 2
  have q3 := blk_cell bn 3
  have q4 := blk_cell bn 4
  have zq := blk_frozen bn
  have HB := Lib.hid BA
  simp at q0 q1 q2 q3 q4
  have BN := Lib.hid bn
  clear BA bn
  clear hWa
  go_wp2_with fail
  obtain ⟨W2, hW2⟩ : ∃ W2, W2 = (Wa.alloc (.cells #[.bool dir, .int .i64 mode, .slice A2 data.length c2, .int .i64 time, .string name] 42)) := ⟨_, rfl⟩
  try rw [← hW2]
  have bo := blk_below BN.out (show Below Wa.heap.size Wa W2 by rw [hW2]; exact below_alloc (Below.refl _ _) _)
  have bn : W2.heap[w.heap.size + 1]? = some (.cells #[.bool dir, .int .i64 mode, .slice A2 data.length c2, .int .i64 time, .string name] 42 (0, 0)) := by rw [hW2, ← hsz]; exact blk_new _ _
  have B2 : Below w.heap.size w W2 := by rw [hW2]; exact below_alloc HB.out _
  have HB2 := Lib.hid B2
  have hsz2 : W2.heap.size = w.heap.size + 2 := by rw [hW2]; simp; omega
  try rw [hsz]
  have u0 := blk_cell bn 0
  have u1 := blk_cell bn 1
  have u2 := blk_cell bn 2
  have u3 := blk_cell bn 3
  have u4 := blk_cell bn 4
  have zu := blk_frozen bn
  have q0 := blk_cell bo 0
  have q1 := blk_cell bo 1
  have q2 := blk_cell bo 2
  have q3 := blk_cell bo 3
  have q4 := blk_cell bo 4
  have zq := blk_frozen bo
  simp at u0 u1 u2 u3 u4 q0 q1 q2 q3 q4
  have BO := Lib.hid bo
  clear hW2 B2 bo bn
  go_region_held3 (fun w' => w'.cell? ⟨w.heap.size + 1, 0, none⟩ = some (.bool dir) ∧ w'.cell? ⟨w.heap.size + 1, 1, none⟩ = some (.int .i64 mode) ∧ w'.cell? ⟨w.heap.size + 1, 2, none⟩ = some (.slice A2 data.length c2) ∧ w'.cell? ⟨w.heap.size + 1, 3, none⟩ = some (.int .i64 time) ∧ w'.cell? ⟨w.heap.size + 1, 4, none⟩ = some (.string name))
    (go_keep)
    ((go_at_call 96; (refine (HMB.out _).mono ?_); rintro e w1 ⟨rfl, rfl⟩))
  all_goals
    obtain ⟨W3, hW3⟩ : ∃ W3, W3 = (W2.alloc (.cells #[.string (memBase name), .int .i64 data.length, .int .i64 mode, .bool dir, .int .i64 time] 75)).drew := ⟨_, rfl⟩
    try rw [← hW3]
    have b3 : W3.heap[w.heap.size + 2]? = some (.cells #[.string (memBase name), .int .i64 data.length, .int .i64 mode, .bool dir, .int .i64 time] 75 (0, 0)) := by rw [hW3, ← hsz2]; exact blk_drew (blk_new _ _)
    have B23 : Below W2.heap.size W2 W3 := by rw [hW3]; exact below_drew (below_alloc (Below.refl _ _) _)
    have u0 := cellb u0 B23
    have q0 := cellb q0 B23
    have q1 := cellb q1 B23
    have q2 := cellb q2 B23
    have q3 := cellb q3 B23
    have q4 := cellb q4 B23
    have zq := blk_frozen (blk_below BO.out B23)
    have v0 := blk_cell b3 0
    have v1 := blk_cell b3 1
    have v2 := blk_cell b3 2
    have v3 := blk_cell b3 3
    have v4 := blk_cell b3 4
    have zv := blk_frozen b3
    have HB3 := Lib.hid (below_then HB2.out HB2.out.size B23)
    simp at v0 v1 v2 v3 v4
    clear u1 u2 u3 u4 zu hW3 b3 B23 p0 p1 p2 p3 p4 c2'
    cases dir with
    | true =>
      go_wp2_with fail
      refine bodyPost_ret (v := .agg #[.string (memBase name), .int .i64 42, .int .i64 mode, .bool true, .int .i64 time]) (by simp [results, Tryd.results64, go_sem, zv, zq, v0, v1, v2, v3, v4, q0, q1, q2, q3, q4]) rfl ?_
      refine ⟨by rw [HNF.out]; rfl, ?_⟩
      repeat (first | with_reducible exact HB3.out | with_reducible refine below_set ?_ (by omega))
    | false =>
      go_wp2_with fail
      refine bodyPost_ret (v := .agg #[.string (memBase name), .int .i64 data.length, .int .i64 mode, .bool false, .int .i64 time]) (by simp [results, Tryd.results64, go_sem, zv, zq, v0, v1, v2, v3, v4, q0, q1, q2, q3, q4]) rfl ?_
      refine ⟨by rw [HNF.out]; rfl, ?_⟩
      repeat (first | with_reducible exact HB3.out | with_reducible refine below_set ?_ (by omega))
theorem row_k {α : Type} (d : Kd α) {e : Nat} (hE : d.E = []) {w1 w' : World} {b0 b1 : Nat} {ft : Nat → Prop} {v : Value} {l : List α} (h : d.R e w1 b1 (fun _ => True) v l) (hb : b0 ≤ b1) (hft : ∀ k, ft k → k < b1) (hh : ∀ k, b1 ≤ k → w'.heap[k]? = w1.heap[k]?) : d.R e w' b0 (fun k => ¬ ft k) v l := by
  have h2 := Kd.R_base h
  have h3 := Kd.R_step (w1 := w') (Kd.R_tight hE h) (fun k hk _ => hh k (h2 k hk.symm))
  exact Kd.R_lower (Kd.R_mono h3 (fun k hk hf => by have a1 := hft k hf; have a2 := h2 k hk.symm; omega)) hb
set_option maxHeartbeats 4000000 in
set_option maxRecDepth 100000 in
theorem file_name (M : IsMem w base ft m vN vA vD mb n f X) (hft : ∀ k, ft k → k < w.heap.size) (kl : Lit) (hkl : WideAt.IsKeyLit kl) (g : Nat) (h : SHnd) (hf : f kl = some g) (hg : w.heap[g]? = some (.cells (shcs h) 49 (0, 0))) (hfg : ft g) (i : Nat) (hi : h.node = i) (hil : i < X.nodes.length) (hL : X.nodes.length ≤ 100000) (s : S26) (A6 : Option Addr) (c6 : Nat) (hl6 : s.f6.length ≤ c6) (hC6 : (Kd.int .u8).C w A6 s.f6.length s.f6) (hop : s.f0 = 22) :
    Calls Tryd.prog 34 #[.pointer (some ⟨m, 0, none⟩), .pointer (some ⟨g, 0, none⟩), stepA s A6 c6] w (FilePost w base ft m vN vA mb n f (X) ((⟨0, 0, 0, [], [(nodeOf X i).f4], []⟩ : S33))) := by
  obtain ⟨X', hX'⟩ : ∃ X', X' = (X) := ⟨_, rfl⟩
  obtain ⟨a', ha'⟩ : ∃ a', a' = ((⟨0, 0, 0, [], [(nodeOf X i).f4], []⟩ : S33)) := ⟨_, rfl⟩
  rw [← ha', ← hX']
  have HX := Lib.hid hX'
  have HA := Lib.hid ha'
  clear hX' ha'
  obtain ⟨gd, cap, A2, c2, hv, hlc, hgd, p0o, p1o, p2o, p3o, p4o, l2, g2, pz, ncs, hnb⟩ := node_at M i hil
  have c2' := M.c2
  rw [hv] at c2'
  have h0 := blk_cell hg 0
  have h1o := blk_cell hg 1
  have h2o := blk_cell hg 2
  have h3o := blk_cell hg 3
  have h4o := blk_cell hg 4
  have hg1 := blk_lt hg
  have n9 : ¬ (g = gd) := fun e => by rw [← e, hg] at hnb; injection hnb with hnb; injection hnb with _ hnb; exact absurd hnb (by decide)
  have n10 : ¬ (gd = g) := fun e => n9 e.symm
  clear hnb
  have hgd1 := hft gd hgd
  have hil' : (i : Int) < (X.nodes.length : Int) := by omega
  obtain ⟨no, po, li, cl, ro⟩ := h
  obtain ⟨op, nm, ot, fl, pe, hh, dat, off, wh, N⟩ := s
  simp only [shcs] at h0 h1o h2o h3o h4o
  simp only at hi hop hl6 hC6
  subst hi
  subst hop
  unfold stepA
  have c2b := cellb c2' (below_alloc (below_alloc (Below.refl w.heap.size w) (.cells #[.int .i64 22, .string nm, .string ot, .int .i64 fl, .int .i64 pe, .int .i64 hh, .slice A6 dat.length c6, .int .i64 off, .int .i64 wh, .int .i64 N] 26)) (.cells #[.int .i64 0, .int .i64 0, .int .i64 0, .slice none 0 0, .slice none 0 0, .slice none 0 0] 33))
  have h0b := cellb h0 (below_alloc (below_alloc (Below.refl w.heap.size w) (.cells #[.int .i64 22, .string nm, .string ot, .int .i64 fl, .int .i64 pe, .int .i64 hh, .slice A6 dat.length c6, .int .i64 off, .int .i64 wh, .int .i64 N] 26)) (.cells #[.int .i64 0, .int .i64 0, .int .i64 0, .slice none 0 0, .slice none 0 0, .slice none 0 0] 33))
  have HM := Lib.hid M
  have HF := Lib.hid hf
  have HG := Lib.hid hg
  have HFT := Lib.hid hft
  have HV := Lib.hid hv
  have HC6 := Lib.hid hC6
  have HG2 := Lib.hid g2
  have HPZ := Lib.hid pz
  have HND := Lib.hid (show nodeOf X (i : Int) = nodeOf X (i : Int) from rfl)
  clear M hf hg hft hv hC6 g2 pz c2' h0
  generalize hLn : X.nodes.length = L at *
  have HLN := Lib.hid hLn
  clear hLn
  generalize hnd : nodeOf X (i : Int) = nd at *
  have HNO := Lib.hid hnd
  clear hnd HND
  obtain ⟨dir, mode, data, time, name⟩ := nd
  simp only at p0o p1o p2o p3o p4o l2 HG2
  go_enter Tryd.func34, Tryd.ntmps34
  go_wp2_with fail
  go_quiet (fail)
  obtain ⟨W2, hW2⟩ : ∃ W2, W2 = World.drewN ((w.alloc (.cells #[.int .i64 22, .string nm, .string ot, .int .i64 fl, .int .i64 pe, .int .i64 hh, .slice A6 dat.length c6, .int .i64 off, .int .i64 wh, .int .i64 N] 26)).alloc (.cells #[.int .i64 0, .int .i64 0, .int .i64 0, .slice none 0 0, .slice none 0 0, .slice none 0 0] 33)) nq := ⟨_, rfl⟩
  rw [← hW2]
  have BW : Below w.heap.size w W2 := by rw [hW2]; exact pw_below_drewN (below_alloc (below_alloc (Below.refl _ _) _) _) _
  have b1 : W2.heap[w.heap.size]? = some (.cells #[.int .i64 22, .string nm, .string ot, .int .i64 fl, .int .i64 pe, .int .i64 hh, .slice A6 dat.length c6, .int .i64 off, .int .i64 wh, .int .i64 N] 26 (0, 0)) := by rw [hW2]; exact blk_drewN (blk_alloc (blk_new _ _) _) _
  have b2 : W2.heap[w.heap.size + 1]? = some (.cells #[.int .i64 0, .int .i64 0, .int .i64 0, .slice none 0 0, .slice none 0 0, .slice none 0 0] 33 (0, 0)) := by rw [hW2]; exact blk_drewN (blk_at_ (by simp)) _
  have hsz2 : W2.heap.size = w.heap.size + 2 := by rw [hW2]; simp [World.drewN]
  have k0 := blk_cell b1 0
  have k1 := blk_cell b1 1
  have k2 := blk_cell b1 2
  have k3 := blk_cell b1 3
  have k4 := blk_cell b1 4
  have k5 := blk_cell b1 5
  have k6 := blk_cell b1 6
  have k7 := blk_cell b1 7
  have k8 := blk_cell b1 8
  have k9 := blk_cell b1 9
  have q0 := blk_cell b2 0
  have q1 := blk_cell b2 1
  have q2 := blk_cell b2 2
  have q3 := blk_cell b2 3
  have q4 := blk_cell b2 4
  have q5 := blk_cell b2 5
  have zq := blk_frozen b2
  have zg := blk_frozen (blk_below HG.out BW)
  have zd := fun j => (show W2.frozen? ⟨gd, i * 5 + j, none⟩ = false by rw [← HPZ.out j]; exact BW.frozen (p := ⟨gd, i * 5 + j, none⟩) hgd1)
  have h1 := cellb h1o BW
  have h2 := cellb h2o BW
  have h3 := cellb h3o BW
  have h4 := cellb h4o BW
  have p0 := cellb p0o BW
  have p1 := cellb p1o BW
  have p2 := cellb p2o BW
  have p3 := cellb p3o BW
  have p4 := cellb p4o BW
  have HB := Lib.hid BW
  have HM2 := Lib.hid (HM.out.below BW)
  have HGH := Lib.hid (blk_below HG.out BW)
  have HO := Lib.hid b2
  have HS2 := Lib.hid hsz2
  have n1 : ¬ (g = w.heap.size + 1) := by omega
  have n2 : ¬ (gd = w.heap.size + 1) := by omega
  have n3 : ¬ (w.heap.size + 1 = g) := by omega
  have n4 : ¬ (w.heap.size + 1 = gd) := by omega
  have n5 : ¬ (g = w.heap.size) := by omega
  have n6 : ¬ (gd = w.heap.size) := by omega
  have n7 : ¬ (w.heap.size = g) := by omega
  have n8 : ¬ (w.heap.size = gd) := by omega
  clear hW2 BW b1 b2 c2b h0b hsz2 hg1 hgd1 h1o h2o h3o h4o p0o p1o p2o p3o p4o
  simp at k0 k1 k2 k3 k4 k5 k6 k7 k8 k9 q0 q1 q2 q3 q4 q5 h1 h2 h3 h4
  have ba := blk_below HO.out (below_alloc (Below.refl W2.heap.size W2) (.cells #[.string name] 9))
  have q0 := blk_cell ba 0
  have q1 := blk_cell ba 1
  have q2 := blk_cell ba 2
  have q3 := blk_cell ba 3
  have q4 := blk_cell ba 4
  have q5 := blk_cell ba 5
  have zq := blk_frozen ba
  simp at q0 q1 q2 q3 q4 q5
  have RL := Lib.hid (lit_row Kd.string (W := W2) (base := W2.heap.size) (e := 9) (x := name) (cs := [.string name]) (ok := fun _ => True) (okp := fun _ => True) rfl (fun _ _ => trivial) trivial (Nat.le_refl _))
  go_wp2_with fail
  have hX2 := HX.out
  have hA2 := HA.out
  try simp only [if_true, if_false, Bool.false_eq_true, reduceIte] at hX2 hA2
  rw [hX2, hA2]
  have hfar : ¬ ft (w.heap.size + 1) := fun hk => absurd (HFT.out _ hk) (by omega)
  have hM2 : Moves ft w (W2.alloc (.cells #[.string name] 9)) := Moves.of_below (below_alloc HB.out _) ft
  have E1 := IsMem.below HM2.out (below_alloc (Below.refl W2.heap.size W2) (.cells #[.string name] 9))
  refine bodyPost_ret (v := .agg #[.int .i64 0, .int .i64 0, .int .i64 0, .slice none 0 0, .slice (some ⟨W2.heap.size, 0, none⟩) 1 1, .slice none 0 0]) (by simp [results, Tryd.results34, go_sem, n1, n2, n3, n4, q0, q1, q2, q3, q4, q5]) rfl ?_
  refine ⟨_, _, _, vD, ft, rfl, Kd.R_nil _ _ _ _ _, row_k Kd.string rfl RL.out (by have := HS2.out; show _ ≤ W2.heap.size; omega) (fun k hk => by have := HFT.out k hk; have := HS2.out; show _ < W2.heap.size; omega) ?_, Kd.R_nil _ _ _ _ _, ?_, ?_, fun k hk => .inl hk, fun k hk => ?_⟩
  · intro k hk
    have hk : W2.heap.size ≤ k := hk
    have a1 := HS2.out
    have a2 := HFT.out g hfg
    repeat (first | with_reducible rfl | with_reducible refine (Below.heap_setCell _ ⟨w.heap.size + 1, _, none⟩ _ k (by show k ≠ w.heap.size + 1; omega)).trans ?_)
  · repeat (first | with_reducible exact E1 | with_reducible refine IsMem.far (p := ⟨w.heap.size + 1, _, none⟩) ?_ hfar _)
  · repeat (first | with_reducible exact hM2 | with_reducible refine Moves.setCell (p := ⟨g, _, none⟩) ?_ (.inl hfg) _ | with_reducible refine Moves.setCell (p := ⟨gd, _, none⟩) ?_ (.inl hgd) _ | with_reducible refine Moves.setCell (p := ⟨w.heap.size + 1, _, none⟩) ?_ (.inr (Nat.le_succ _)) _)
  · have := HFT.out k hk
    have := HS2.out
    have := (below_alloc (Below.refl W2.heap.size W2) (.cells #[.string name] 9)).size
    simp [World.setCell]
    omega
set_option maxHeartbeats 4000000 in
set_option maxRecDepth 100000 in
theorem file_stat (M : IsMem w base ft m vN vA vD mb n f X) (hft : ∀ k, ft k → k < w.heap.size) (kl : Lit) (hkl : WideAt.IsKeyLit kl) (g : Nat) (h : SHnd) (hf : f kl = some g) (hg : w.heap[g]? = some (.cells (shcs h) 49 (0, 0))) (hfg : ft g) (i : Nat) (hi : h.node = i) (hil : i < X.nodes.length) (hL : X.nodes.length ≤ 100000) (s : S26) (A6 : Option Addr) (c6 : Nat) (hl6 : s.f6.length ≤ c6) (hC6 : (Kd.int .u8).C w A6 s.f6.length s.f6) (hop : s.f0 = 21) (hnm : (nodeOf X i).f4.size ≤ 100000) (hdl : (nodeOf X i).f2.length ≤ 100000000) :
    Calls Tryd.prog 34 #[.pointer (some ⟨m, 0, none⟩), .pointer (some ⟨g, 0, none⟩), stepA s A6 c6] w (FilePost w base ft m vN vA mb n f (X) ((⟨0, 0, 0, [], [], [memInfo (nodeOf X i)]⟩ : S33))) := by
  obtain ⟨X', hX'⟩ : ∃ X', X' = (X) := ⟨_, rfl⟩
  obtain ⟨a', ha'⟩ : ∃ a', a' = ((⟨0, 0, 0, [], [], [memInfo (nodeOf X i)]⟩ : S33)) := ⟨_, rfl⟩
  rw [← ha', ← hX']
  have HX := Lib.hid hX'
  have HA := Lib.hid ha'
  clear hX' ha'
  obtain ⟨gd, cap, A2, c2, hv, hlc, hgd, p0o, p1o, p2o, p3o, p4o, l2, g2, pz, ncs, hnb⟩ := node_at M i hil
  have c2' := M.c2
  rw [hv] at c2'
  have h0 := blk_cell hg 0
  have h1o := blk_cell hg 1
  have h2o := blk_cell hg 2
  have h3o := blk_cell hg 3
  have h4o := blk_cell hg 4
  have hg1 := blk_lt hg
  have n9 : ¬ (g = gd) := fun e => by rw [← e, hg] at hnb; injection hnb with hnb; injection hnb with _ hnb; exact absurd hnb (by decide)
  have n10 : ¬ (gd = g) := fun e => n9 e.symm
  clear hnb
  have hgd1 := hft gd hgd
  have hil' : (i : Int) < (X.nodes.length : Int) := by omega
  obtain ⟨no, po, li, cl, ro⟩ := h
  obtain ⟨op, nm, ot, fl, pe, hh, dat, off, wh, N⟩ := s
  simp only [shcs] at h0 h1o h2o h3o h4o
  simp only at hi hop hl6 hC6
  subst hi
  subst hop
  unfold stepA
  have c2b := cellb c2' (below_alloc (below_alloc (Below.refl w.heap.size w) (.cells #[.int .i64 21, .string nm, .string ot, .int .i64 fl, .int .i64 pe, .int .i64 hh, .slice A6 dat.length c6, .int .i64 off, .int .i64 wh, .int .i64 N] 26)) (.cells #[.int .i64 0, .int .i64 0, .int .i64 0, .slice none 0 0, .slice none 0 0, .slice none 0 0] 33))
  have h0b := cellb h0 (below_alloc (below_alloc (Below.refl w.heap.size w) (.cells #[.int .i64 21, .string nm, .string ot, .int .i64 fl, .int .i64 pe, .int .i64 hh, .slice A6 dat.length c6, .int .i64 off, .int .i64 wh, .int .i64 N] 26)) (.cells #[.int .i64 0, .int .i64 0, .int .i64 0, .slice none 0 0, .slice none 0 0, .slice none 0 0] 33))
  have HM := Lib.hid M
  have HF := Lib.hid hf
  have HG := Lib.hid hg
  have HFT := Lib.hid hft
  have HV := Lib.hid hv
  have HC6 := Lib.hid hC6
  have HG2 := Lib.hid g2
  have HPZ := Lib.hid pz
  have HND := Lib.hid (show nodeOf X (i : Int) = nodeOf X (i : Int) from rfl)
  clear M hf hg hft hv hC6 g2 pz c2' h0
  generalize hLn : X.nodes.length = L at *
  have HLN := Lib.hid hLn
  clear hLn
  generalize hnd : nodeOf X (i : Int) = nd at *
  have HNO := Lib.hid hnd
  clear hnd HND
  obtain ⟨dir, mode, data, time, name⟩ := nd
  simp only at p0o p1o p2o p3o p4o l2 HG2
  go_enter Tryd.func34, Tryd.ntmps34
  go_wp2_with fail
  go_quiet (fail)
  obtain ⟨W2, hW2⟩ : ∃ W2, W2 = World.drewN ((w.alloc (.cells #[.int .i64 21, .string nm, .string ot, .int .i64 fl, .int .i64 pe, .int .i64 hh, .slice A6 dat.length c6, .int .i64 off, .int .i64 wh, .int .i64 N] 26)).alloc (.cells #[.int .i64 0, .int .i64 0, .int .i64 0, .slice none 0 0, .slice none 0 0, .slice none 0 0] 33)) nq := ⟨_, rfl⟩
  rw [← hW2]
  have BW : Below w.heap.size w W2 := by rw [hW2]; exact pw_below_drewN (below_alloc (below_alloc (Below.refl _ _) _) _) _
  have b1 : W2.heap[w.heap.size]? = some (.cells #[.int .i64 21, .string nm, .string ot, .int .i64 fl, .int .i64 pe, .int .i64 hh, .slice A6 dat.length c6, .int .i64 off, .int .i64 wh, .int .i64 N] 26 (0, 0)) := by rw [hW2]; exact blk_drewN (blk_alloc (blk_new _ _) _) _
  have b2 : W2.heap[w.heap.size + 1]? = some (.cells #[.int .i64 0, .int .i64 0, .int .i64 0, .slice none 0 0, .slice none 0 0, .slice none 0 0] 33 (0, 0)) := by rw [hW2]; exact blk_drewN (blk_at_ (by simp)) _
  have hsz2 : W2.heap.size = w.heap.size + 2 := by rw [hW2]; simp [World.drewN]
  have k0 := blk_cell b1 0
  have k1 := blk_cell b1 1
  have k2 := blk_cell b1 2
  have k3 := blk_cell b1 3
  have k4 := blk_cell b1 4
  have k5 := blk_cell b1 5
  have k6 := blk_cell b1 6
  have k7 := blk_cell b1 7
  have k8 := blk_cell b1 8
  have k9 := blk_cell b1 9
  have q0 := blk_cell b2 0
  have q1 := blk_cell b2 1
  have q2 := blk_cell b2 2
  have q3 := blk_cell b2 3
  have q4 := blk_cell b2 4
  have q5 := blk_cell b2 5
  have zq := blk_frozen b2
  have zg := blk_frozen (blk_below HG.out BW)
  have zd := fun j => (show W2.frozen? ⟨gd, i * 5 + j, none⟩ = false by rw [← HPZ.out j]; exact BW.frozen (p := ⟨gd, i * 5 + j, none⟩) hgd1)
  have h1 := cellb h1o BW
  have h2 := cellb h2o BW
  have h3 := cellb h3o BW
  have h4 := cellb h4o BW
  have p0 := cellb p0o BW
  have p1 := cellb p1o BW
  have p2 := cellb p2o BW
  have p3 := cellb p3o BW
  have p4 := cellb p4o BW
  have HB := Lib.hid BW
  have HM2 := Lib.hid (HM.out.below BW)
  have HGH := Lib.hid (blk_below HG.out BW)
  have HO := Lib.hid b2
  have HS2 := Lib.hid hsz2
  have n1 : ¬ (g = w.heap.size + 1) := by omega
  have n2 : ¬ (gd = w.heap.size + 1) := by omega
  have n3 : ¬ (w.heap.size + 1 = g) := by omega
  have n4 : ¬ (w.heap.size + 1 = gd) := by omega
  have n5 : ¬ (g = w.heap.size) := by omega
  have n6 : ¬ (gd = w.heap.size) := by omega
  have n7 : ¬ (w.heap.size = g) := by omega
  have n8 : ¬ (w.heap.size = gd) := by omega
  clear hW2 BW b1 b2 c2b h0b hsz2 hg1 hgd1 h1o h2o h3o h4o p0o p1o p2o p3o p4o
  simp at k0 k1 k2 k3 k4 k5 k6 k7 k8 k9 q0 q1 q2 q3 q4 q5 h1 h2 h3 h4
  have h0 := blk_cell HGH.out 0
  simp [shcs] at h0
  have hil3 : i < X.nodes.length := by have := HLN.out; omega
  have HIN := Lib.hid (fun W (hb : Below W2.heap.size W2 W) => info_any (IsMem.below HM2.out hb) i hil3 (by have := HLN.out; omega) (by rw [HNO.out]; exact hnm) (by rw [HNO.out]; exact hdl))
  obtain ⟨nf, hnf⟩ : ∃ nf, nf = memInfo (nodeOf X (i : Int)) := ⟨_, rfl⟩
  rw [← hnf] at HIN
  have HNF := Lib.hid hnf
  obtain ⟨nf0, nf1, nf2, nf3, nf4⟩ := nf
  clear hnf
  go_wp2_with (first | (go_at_call 64; (refine (HIN.out _ (Below.refl _ _)).mono ?_); rintro e w1 ⟨rfl, BB⟩; have ba := blk_below HO.out (below_then BB BB.size (below_alloc (Below.refl w1.heap.size w1) (.cells #[.string nf0, .int .i64 nf1, .int .i64 nf2, .bool nf3, .int .i64 nf4] 75))); have BB2 := Lib.hid BB; have q0 := blk_cell ba 0; have q1 := blk_cell ba 1; have q2 := blk_cell ba 2; have q3 := blk_cell ba 3; have q4 := blk_cell ba 4; have q5 := blk_cell ba 5; have zq := blk_frozen ba; simp at q0 q1 q2 q3 q4 q5; clear ba BB))
  have RL := Lib.hid (lit_row k75 (W := w1) (base := w1.heap.size) (e := 75) (x := ⟨nf0, nf1, nf2, nf3, nf4⟩) (cs := [.string nf0, .int .i64 nf1, .int .i64 nf2, .bool nf3, .int .i64 nf4]) (ok := fun _ => True) (okp := fun _ => True) (k75_mkM w1 _ _ ⟨nf0, nf1, nf2, nf3, nf4⟩) (fun _ _ => trivial) trivial (Nat.le_refl _))
  have BBA := Lib.hid (below_then BB2.out BB2.out.size (below_alloc (Below.refl w1.heap.size w1) (.cells #[.string nf0, .int .i64 nf1, .int .i64 nf2, .bool nf3, .int .i64 nf4] 75)))
  have hX2 := HX.out
  have hA2 := HA.out
  try simp only [if_true, if_false, Bool.false_eq_true, reduceIte] at hX2 hA2
  rw [hX2, hA2]
  have hfar : ¬ ft (w.heap.size + 1) := fun hk => absurd (HFT.out _ hk) (by omega)
  have hM2 : Moves ft w (w1.alloc (.cells #[.string nf0, .int .i64 nf1, .int .i64 nf2, .bool nf3, .int .i64 nf4] 75)) := Moves.of_below (below_then HB.out HB.out.size BBA.out) ft
  have E1 := IsMem.below HM2.out BBA.out
  have e9 : memInfo ⟨dir, mode, data, time, name⟩ = ⟨nf0, nf1, nf2, nf3, nf4⟩ := by have := HNF.out; rw [HNO.out] at this; exact this.symm
  rw [e9]
  refine bodyPost_ret (v := .agg #[.int .i64 0, .int .i64 0, .int .i64 0, .slice none 0 0, .slice none 0 0, .slice (some ⟨w1.heap.size, 0, none⟩) 1 1]) (by simp [results, Tryd.results34, go_sem, n1, n2, n3, n4, q0, q1, q2, q3, q4, q5]) rfl ?_
  refine ⟨_, _, _, vD, ft, rfl, Kd.R_nil _ _ _ _ _, Kd.R_nil _ _ _ _ _, row_k k75 rfl RL.out (by have := HS2.out; have := BB2.out.size; show _ ≤ w1.heap.size; omega) (fun k hk => by have := HFT.out k hk; have := HS2.out; have := BB2.out.size; show _ < w1.heap.size; omega) ?_, ?_, ?_, fun k hk => .inl hk, fun k hk => ?_⟩
  · intro k hk
    have hk : w1.heap.size ≤ k := hk
    have a3 := BB2.out.size
    have a1 := HS2.out
    have a2 := HFT.out g hfg
    repeat (first | with_reducible rfl | with_reducible refine (Below.heap_setCell _ ⟨w.heap.size + 1, _, none⟩ _ k (by show k ≠ w.heap.size + 1; omega)).trans ?_)
  · repeat (first | with_reducible exact E1 | with_reducible refine IsMem.far (p := ⟨w.heap.size + 1, _, none⟩) ?_ hfar _)
  · repeat (first | with_reducible exact hM2 | with_reducible refine Moves.setCell (p := ⟨g, _, none⟩) ?_ (.inl hfg) _ | with_reducible refine Moves.setCell (p := ⟨gd, _, none⟩) ?_ (.inl hgd) _ | with_reducible refine Moves.setCell (p := ⟨w.heap.size + 1, _, none⟩) ?_ (.inr (Nat.le_succ _)) _)
  · have := HFT.out k hk
    have := HS2.out
    have := BB2.out.size
    simp [World.setCell]
    omega
end
end Go.Proofs.YtljcdjggjphedaaDoor.My2
