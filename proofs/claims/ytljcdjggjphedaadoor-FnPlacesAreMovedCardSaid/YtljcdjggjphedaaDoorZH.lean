/- A part of the proof that FnHandleScript answers true for every file and all steps. -/
import Derived.Test.YtljcdjggjphedaaDoorZF
import Derived.Deep.RegionHeld3
import Derived.StillTailTactics
import Derived.IntWalk
import Derived.Test.YtljcdjggjphedaaDoorZG
namespace Go.Proofs.YtljcdjggjphedaaDoor.Mz
open Go.RowKit Go.Maps Go.Proofs.YtljcdjggjphedaaDoorW.PrintWords Go.Proofs.YtljcdjggjphedaaDoorW.PrintLast Go.Proofs.YtljcdjggjphedaaDoorW.PrintMore Go.Proofs.YtljcdjggjphedaaDoor.PFnHandleScript Go.Proofs.YtljcdjggjphedaaDoor.Hd Go.Proofs.YtljcdjggjphedaaDoor.Ms Go.Proofs.YtljcdjggjphedaaDoor.Mn Go.Proofs.YtljcdjggjphedaaDoor.Pm Go.Proofs.YtljcdjggjphedaaDoor.Mf Go.Proofs.YtljcdjggjphedaaDoor.Mq Go.Proofs.YtljcdjggjphedaaDoor.Bq Go.Proofs.YtljcdjggjphedaaDoor.Mr Go.Proofs.YtljcdjggjphedaaDoor.Mt Go.Proofs.YtljcdjggjphedaaDoor.Mu Go.Proofs.YtljcdjggjphedaaDoor.Mv Go.Proofs.YtljcdjggjphedaaDoor.Ml Go.Proofs.YtljcdjggjphedaaDoor.Mw Go.Proofs.YtljcdjggjphedaaDoor.Mx Go.Proofs.YtljcdjggjphedaaDoor.Lw
set_option linter.unusedVariables false
set_option linter.unusedSimpArgs false
section
variable {w : World} {base : Nat} {ft : Nat → Prop} {m : Nat} {vN vA vD : Value} {mb n : Nat} {f : Lit → Option Nat} {X : SMem}
theorem nX_twice (X : SMem) (i : Nat) (hi : i < X.nodes.length) (a : S42) (t : Int) : nX (nX X i a) i { nodeOf (nX X i a) i with f3 := t } = nX X i { a with f3 := t } := by
  have e : nodeOf (nX X i a) i = a := by
    unfold nodeOf nX rd_T42
    rw [Int.toNat_natCast, List.getD_eq_getElem?_getD]
    simp [hi]
  rw [e]
  unfold nX
  simp
set_option maxHeartbeats 4000000 in
set_option maxRecDepth 100000 in
theorem file_trunc (M : IsMem w base ft m vN vA vD mb n f X) (hft : ∀ k, ft k → k < w.heap.size) (kl : Lit) (hkl : WideAt.IsKeyLit kl) (g : Nat) (h : SHnd) (hf : f kl = some g) (hg : w.heap[g]? = some (.cells (shcs h) 49 (0, 0))) (hfg : ft g) (i : Nat) (hi : h.node = i) (hil : i < X.nodes.length) (hL : X.nodes.length ≤ 100000) (s : S26) (A6 : Option Addr) (c6 : Nat) (hl6 : s.f6.length ≤ c6) (hC6 : (Kd.int .u8).C w A6 s.f6.length s.f6) (hop : s.f0 = 17) (hcl : h.closed = false) (hro : h.ro = false) (ho0 : 0 ≤ s.f7) (ho1 : s.f7 ≤ 1048576) (hdl : (nodeOf X i).f2.length ≤ 1000000) :
    Calls Tryd.prog 34 #[.pointer (some ⟨m, 0, none⟩), .pointer (some ⟨g, 0, none⟩), stepA s A6 c6] w (FilePost w base ft m vN vA mb n f (nX X i { nodeOf X i with f2 := fillTo ((nodeOf X i).f2.take (min (nodeOf X i).f2.length s.f7.toNat)) s.f7, f3 := 0 }) (ans 0 0 0 [])) := by
  obtain ⟨X', hX'⟩ : ∃ X', X' = (nX X i { nodeOf X i with f2 := fillTo ((nodeOf X i).f2.take (min (nodeOf X i).f2.length s.f7.toNat)) s.f7, f3 := 0 }) := ⟨_, rfl⟩
  obtain ⟨a', ha'⟩ : ∃ a', a' = (ans 0 0 0 []) := ⟨_, rfl⟩
  rw [← ha', ← hX']
  have HX := Lib.hid hX'
  have HA := Lib.hid ha'
  clear hX' ha'
  obtain ⟨gd, cap, A2, c2, hv, hlc, hgd, p0o, p1o, p2o, p3o, p4o, l2, g2, pz, ncs, hnb⟩ := node_at M i hil
  have c2' := M.c2
  rw [hv] at c2'
  have h0 := blk_cell hg 0
  have h1o := blk_cell hg 1
  have h2o := blk_cell hg 2
  have h3o := blk_cell hg 3
  have h4o := blk_cell hg 4
  have hg1 := blk_lt hg
  have n9 : ¬ (g = gd) := fun e => by rw [← e, hg] at hnb; injection hnb with hnb; injection hnb with _ hnb; exact absurd hnb (by decide)
  have n10 : ¬ (gd = g) := fun e => n9 e.symm
  clear hnb
  have hgd1 := hft gd hgd
  have hil' : (i : Int) < (X.nodes.length : Int) := by omega
  obtain ⟨no, po, li, cl, ro⟩ := h
  obtain ⟨op, nm, ot, fl, pe, hh, dat, off, wh, N⟩ := s
  simp only [shcs] at h0 h1o h2o h3o h4o
  simp only at hi hop hl6 hC6
  subst hi
  subst hop
  unfold stepA
  have c2b := cellb c2' (below_alloc (below_alloc (Below.refl w.heap.size w) (.cells #[.int .i64 17, .string nm, .string ot, .int .i64 fl, .int .i64 pe, .int .i64 hh, .slice A6 dat.length c6, .int .i64 off, .int .i64 wh, .int .i64 N] 26)) (.cells #[.int .i64 0, .int .i64 0, .int .i64 0, .slice none 0 0, .slice none 0 0, .slice none 0 0] 33))
  have h0b := cellb h0 (below_alloc (below_alloc (Below.refl w.heap.size w) (.cells #[.int .i64 17, .string nm, .string ot, .int .i64 fl, .int .i64 pe, .int .i64 hh, .slice A6 dat.length c6, .int .i64 off, .int .i64 wh, .int .i64 N] 26)) (.cells #[.int .i64 0, .int .i64 0, .int .i64 0, .slice none 0 0, .slice none 0 0, .slice none 0 0] 33))
  have HM := Lib.hid M
  have HF := Lib.hid hf
  have HG := Lib.hid hg
  have HFT := Lib.hid hft
  have HV := Lib.hid hv
  have HC6 := Lib.hid hC6
  have HG2 := Lib.hid g2
  have HPZ := Lib.hid pz
  have HND := Lib.hid (show nodeOf X (i : Int) = nodeOf X (i : Int) from rfl)
  clear M hf hg hft hv hC6 g2 pz c2' h0
  generalize hLn : X.nodes.length = L at *
  have HLN := Lib.hid hLn
  clear hLn
  generalize hnd : nodeOf X (i : Int) = nd at *
  have HNO := Lib.hid hnd
  clear hnd HND
  obtain ⟨dir, mode, data, time, name⟩ := nd
  simp only at p0o p1o p2o p3o p4o l2 HG2
  go_enter Tryd.func34, Tryd.ntmps34
  go_wp2_with fail
  go_quiet (fail)
  obtain ⟨W2, hW2⟩ : ∃ W2, W2 = World.drewN ((w.alloc (.cells #[.int .i64 17, .string nm, .string ot, .int .i64 fl, .int .i64 pe, .int .i64 hh, .slice A6 dat.length c6, .int .i64 off, .int .i64 wh, .int .i64 N] 26)).alloc (.cells #[.int .i64 0, .int .i64 0, .int .i64 0, .slice none 0 0, .slice none 0 0, .slice none 0 0] 33)) nq := ⟨_, rfl⟩
  rw [← hW2]
  have BW : Below w.heap.size w W2 := by rw [hW2]; exact pw_below_drewN (below_alloc (below_alloc (Below.refl _ _) _) _) _
  have b1 : W2.heap[w.heap.size]? = some (.cells #[.int .i64 17, .string nm, .string ot, .int .i64 fl, .int .i64 pe, .int .i64 hh, .slice A6 dat.length c6, .int .i64 off, .int .i64 wh, .int .i64 N] 26 (0, 0)) := by rw [hW2]; exact blk_drewN (blk_alloc (blk_new _ _) _) _
  have b2 : W2.heap[w.heap.size + 1]? = some (.cells #[.int .i64 0, .int .i64 0, .int .i64 0, .slice none 0 0, .slice none 0 0, .slice none 0 0] 33 (0, 0)) := by rw [hW2]; exact blk_drewN (blk_at_ (by simp)) _
  have hsz2 : W2.heap.size = w.heap.size + 2 := by rw [hW2]; simp [World.drewN]
  have k0 := blk_cell b1 0
  have k1 := blk_cell b1 1
  have k2 := blk_cell b1 2
  have k3 := blk_cell b1 3
  have k4 := blk_cell b1 4
  have k5 := blk_cell b1 5
  have k6 := blk_cell b1 6
  have k7 := blk_cell b1 7
  have k8 := blk_cell b1 8
  have k9 := blk_cell b1 9
  have q0 := blk_cell b2 0
  have q1 := blk_cell b2 1
  have q2 := blk_cell b2 2
  have q3 := blk_cell b2 3
  have q4 := blk_cell b2 4
  have q5 := blk_cell b2 5
  have zq := blk_frozen b2
  have zg := blk_frozen (blk_below HG.out BW)
  have zd := fun j => (show W2.frozen? ⟨gd, i * 5 + j, none⟩ = false by rw [← HPZ.out j]; exact BW.frozen (p := ⟨gd, i * 5 + j, none⟩) hgd1)
  have h1 := cellb h1o BW
  have h2 := cellb h2o BW
  have h3 := cellb h3o BW
  have h4 := cellb h4o BW
  have p0 := cellb p0o BW
  have p1 := cellb p1o BW
  have p2 := cellb p2o BW
  have p3 := cellb p3o BW
  have p4 := cellb p4o BW
  have HB := Lib.hid BW
  have HM2 := Lib.hid (HM.out.below BW)
  have HGH := Lib.hid (blk_below HG.out BW)
  have HO := Lib.hid b2
  have HS2 := Lib.hid hsz2
  have n1 : ¬ (g = w.heap.size + 1) := by omega
  have n2 : ¬ (gd = w.heap.size + 1) := by omega
  have n3 : ¬ (w.heap.size + 1 = g) := by omega
  have n4 : ¬ (w.heap.size + 1 = gd) := by omega
  have n5 : ¬ (g = w.heap.size) := by omega
  have n6 : ¬ (gd = w.heap.size) := by omega
  have n7 : ¬ (w.heap.size = g) := by omega
  have n8 : ¬ (w.heap.size = gd) := by omega
  clear hW2 BW b1 b2 c2b h0b hsz2 hg1 hgd1 h1o h2o h3o h4o p0o p1o p2o p3o p4o
  simp at k0 k1 k2 k3 k4 k5 k6 k7 k8 k9 q0 q1 q2 q3 q4 q5 h1 h2 h3 h4
  obtain rfl : cl = false := hcl
  obtain rfl : ro = false := hro
  try simp only at ho0 ho1 hdl
  have hmin : (if off < (data.length : Int) then off else (data.length : Int)) = ((min data.length off.toNat : Nat) : Int) := by split <;> omega
  obtain ⟨t, ht⟩ : ∃ t, t = min data.length off.toNat := ⟨_, rfl⟩
  rw [← ht] at hmin
  have htl : t ≤ data.length := by omega
  have htc : t ≤ c2 := by omega
  have hlt : (data.take t).length = t := by simp; omega
  have HG := Lib.hid (fun W (hb : Below W2.heap.size W2 W) => grown_any W (data.take t) A2 t c2 (by have h9 := Kd.C_take (m := t) (Kd.C_below (Kd.C_below HG2.out HB.out) hb) htl; rw [hlt] at h9; exact h9) (by omega) off (by omega))
  have HT := Lib.hid ht
  clear ht
  have K7 := Lib.hid k7
  have K2 := Lib.hid p2
  have K3 := Lib.hid p3
  have KZ := Lib.hid zd
  have LT := Lib.hid (show gd < W2.heap.size by have := HFT.out gd hgd; have := HS2.out; omega)
  go_wp2_with fail
  have hS0 : (fun w' : World => w'.cell? ⟨gd, i * 5 + 2, none⟩ = some (.slice A2 data.length c2) ∧ w'.cell? ⟨w.heap.size, 7, none⟩ = some (.int .i64 off)) W2.drew := ⟨p2, k7⟩
  clear q0 q1 q2 q3 q4 q5 k0 k1 k2 k3 k4 k5 k8 k9 h1 h2 p0 p1 p4 zq zg n1 n2 n3 n4 n5 n6 n7 n8 n9 n10
  refine Lw.wp_region_gate (S0 := fun w' => w'.cell? ⟨gd, i * 5 + 2, none⟩ = some (.slice A2 data.length c2) ∧ w'.cell? ⟨w.heap.size, 7, none⟩ = some (.int .i64 off)) (S1 := fun _ => True) (k := 20) (by kernel_rfl) ?_
  rw [show ({ W2 with drawn := W2.drawn + 1 } : World) = W2.drew from rfl]
  refine Lw.wpAnyL_take0 (i := 0) (v := ?_) rfl (by decide) (by kernel_rfl) (by kernel_rfl) (by kernel_rfl) (fun _ _ _ h => h) (Or.inl ⟨by rfl, ?_⟩) ⟨trivial, fun _ => hS0⟩ ?_
  rotate_left
  · (intro w _; go_simp; try with_reducible rfl)
  (try simp only [Act.put, List.setIfInBounds_toArray, List.set_cons_zero, List.set_cons_succ])
  refine Lw.wpAnyL_take0 (i := 1) (v := ?_) rfl (by decide) (by kernel_rfl) (by kernel_rfl) (by kernel_rfl) (fun _ _ _ h => h) (Or.inl ⟨by rfl, ?_⟩) ⟨trivial, fun _ => hS0⟩ ?_
  rotate_left
  · (intro w _; go_simp; try with_reducible rfl)
  (try simp only [Act.put, List.setIfInBounds_toArray, List.set_cons_zero, List.set_cons_succ])
  refine Lw.wpAnyL_take0 (i := 2) (v := ?_) rfl (by decide) (by kernel_rfl) (by kernel_rfl) (by kernel_rfl) (fun _ _ _ h => h) (Or.inl ⟨by rfl, ?_⟩) ⟨trivial, fun _ => hS0⟩ ?_
  rotate_left
  · (intro w _; go_simp; try with_reducible rfl)
  (try simp only [Act.put, List.setIfInBounds_toArray, List.set_cons_zero, List.set_cons_succ])
  refine Lw.wpAnyL_take0 (i := 3) (v := ?_) rfl (by decide) (by kernel_rfl) (by kernel_rfl) (by kernel_rfl) (fun _ _ _ h => h) (Or.inl ⟨by rfl, ?_⟩) ⟨trivial, fun _ => hS0⟩ ?_
  rotate_left
  · (intro w _; go_simp; try with_reducible rfl)
  (try simp only [Act.put, List.setIfInBounds_toArray, List.set_cons_zero, List.set_cons_succ])
  refine Lw.wpAnyL_take0 (i := 4) (v := ?_) rfl (by decide) (by kernel_rfl) (by kernel_rfl) (by kernel_rfl) (fun _ _ _ h => h) (Or.inl ⟨by rfl, ?_⟩) ⟨trivial, fun _ => hS0⟩ ?_
  rotate_left
  · (intro w _; go_simp; try with_reducible rfl)
  (try simp only [Act.put, List.setIfInBounds_toArray, List.set_cons_zero, List.set_cons_succ])
  refine Lw.wpAnyL_take (i := 5) (v := ?_) rfl rfl (by kernel_rfl) (by kernel_rfl) (by kernel_rfl) (by kernel_rfl) (fun _ _ _ h => h) (Or.inl ⟨by rfl, ?_⟩) hS0 trivial ?_
  rotate_left
  · (intro w hw; obtain ⟨hw0, hw1⟩ := hw; go_simp; try with_reducible rfl)
  (try simp only [Act.put, List.setIfInBounds_toArray, List.set_cons_zero, List.set_cons_succ])
  refine Lw.wpAnyL_take0 (i := 6) (v := ?_) rfl (by decide) (by kernel_rfl) (by kernel_rfl) (by kernel_rfl) (fun _ _ _ h => h) (Or.inl ⟨by rfl, ?_⟩) ⟨trivial, fun _ => hS0⟩ ?_
  rotate_left
  · (intro w _; go_simp; try with_reducible rfl)
  (try simp only [Act.put, List.setIfInBounds_toArray, List.set_cons_zero, List.set_cons_succ])
  refine Lw.wpAnyL_take0 (i := 7) (v := ?_) rfl (by decide) (by kernel_rfl) (by kernel_rfl) (by kernel_rfl) (fun _ _ _ h => h) (Or.inl ⟨by rfl, ?_⟩) ⟨trivial, fun _ => hS0⟩ ?_
  rotate_left
  · (intro w _; go_simp; try with_reducible rfl)
  (try simp only [Act.put, List.setIfInBounds_toArray, List.set_cons_zero, List.set_cons_succ])
  refine Lw.wpAnyL_take0 (i := 8) (v := ?_) rfl (by decide) (by kernel_rfl) (by kernel_rfl) (by kernel_rfl) (fun _ _ _ h => h) (Or.inl ⟨by rfl, ?_⟩) ⟨trivial, fun _ => hS0⟩ ?_
  rotate_left
  · (intro w _; go_simp; try with_reducible rfl)
  (try simp only [Act.put, List.setIfInBounds_toArray, List.set_cons_zero, List.set_cons_succ])
  refine Lw.wpAnyL_take (i := 9) (v := ?_) rfl rfl (by kernel_rfl) (by kernel_rfl) (by kernel_rfl) (by kernel_rfl) (fun _ _ _ h => h) (Or.inl ⟨by rfl, ?_⟩) hS0 trivial ?_
  rotate_left
  · (intro w hw; obtain ⟨hw0, hw1⟩ := hw; go_simp; try with_reducible rfl)
  (try simp only [Act.put, List.setIfInBounds_toArray, List.set_cons_zero, List.set_cons_succ])
  refine Lw.wpAnyL_take0 (i := 10) (v := ?_) rfl (by decide) (by kernel_rfl) (by kernel_rfl) (by kernel_rfl) (fun _ _ _ h => h) (Or.inl ⟨by rfl, ?_⟩) ⟨trivial, fun _ => hS0⟩ ?_
  rotate_left
  · (intro w _; go_simp; try with_reducible rfl)
  (try simp only [Act.put, List.setIfInBounds_toArray, List.set_cons_zero, List.set_cons_succ])
  refine Lw.wpAnyL_take0 (i := 11) (v := ?_) rfl (by decide) (by kernel_rfl) (by kernel_rfl) (by kernel_rfl) (fun _ _ _ h => h) (Or.inl ⟨by rfl, ?_⟩) ⟨trivial, fun _ => hS0⟩ ?_
  rotate_left
  · (intro w _; go_simp; try with_reducible rfl)
  (try simp only [Act.put, List.setIfInBounds_toArray, List.set_cons_zero, List.set_cons_succ])
  refine Lw.wpAnyL_take (i := 12) (v := ?_) rfl rfl (by kernel_rfl) (by kernel_rfl) (by kernel_rfl) (by kernel_rfl) (fun _ _ _ h => h) (Or.inl ⟨by rfl, ?_⟩) hS0 trivial ?_
  rotate_left
  · (intro w hw; obtain ⟨hw0, hw1⟩ := hw; go_simp; try with_reducible rfl)
  (try simp only [Act.put, List.setIfInBounds_toArray, List.set_cons_zero, List.set_cons_succ])
  refine Lw.wpAnyL_take0 (i := 13) (v := ?_) rfl (by decide) (by kernel_rfl) (by kernel_rfl) (by kernel_rfl) (fun _ _ _ h => h) (Or.inl ⟨by rfl, ?_⟩) ⟨trivial, fun _ => hS0⟩ ?_
  rotate_left
  · (intro w _; go_simp; try with_reducible rfl)
  (try simp only [Act.put, List.setIfInBounds_toArray, List.set_cons_zero, List.set_cons_succ])
  refine Lw.wpAnyL_take0 (i := 14) (v := ?_) rfl (by decide) (by kernel_rfl) (by kernel_rfl) (by kernel_rfl) (fun _ _ _ h => h) (Or.inl ⟨by rfl, ?_⟩) ⟨trivial, fun _ => hS0⟩ ?_
  rotate_left
  · (intro w _; go_simp; try with_reducible rfl)
  (try simp only [Act.put, List.setIfInBounds_toArray, List.set_cons_zero, List.set_cons_succ])
  refine Lw.wpAnyL_take0 (i := 15) (v := ?_) rfl (by decide) (by kernel_rfl) (by kernel_rfl) (by kernel_rfl) (fun _ _ _ h => h) (Or.inl ⟨by rfl, ?_⟩) ⟨trivial, fun _ => hS0⟩ ?_
  rotate_left
  · (intro w _; go_simp; try with_reducible rfl)
  (try simp only [Act.put, List.setIfInBounds_toArray, List.set_cons_zero, List.set_cons_succ])
  refine Lw.wpAnyL_take (i := 16) (v := ?_) rfl rfl (by kernel_rfl) (by kernel_rfl) (by kernel_rfl) (by kernel_rfl) (fun _ _ _ h => h) (Or.inl ⟨by rfl, ?_⟩) hS0 trivial ?_
  rotate_left
  · (intro w hw; obtain ⟨hw0, hw1⟩ := hw; go_simp; try with_reducible rfl)
  (try simp only [Act.put, List.setIfInBounds_toArray, List.set_cons_zero, List.set_cons_succ])
  refine Lw.wpAnyL_one (i := 17) (by kernel_rfl) rfl (fun K hK => ?_)
  go_simp
  go_at_call 67
  (refine (HG.out _ (below_drew (Below.refl _ _))).mono ?_)
  rintro e w1 ⟨A1, c1, rfl, r1, BB⟩
  have R1 := Lib.hid r1
  have BB := Lib.hid (un_drew BB)
  clear r1
  have hS1 : (fun w' : World => w'.cell? ⟨gd, i * 5 + 2, none⟩ = some (.slice A2 data.length c2) ∧ w'.cell? ⟨w.heap.size, 7, none⟩ = some (.int .i64 off)) w1 := ⟨cellb K2.out BB.out, cellb K7.out BB.out⟩
  have p2 := cellb K2.out BB.out
  have p3 := cellb K3.out BB.out
  have zd := fun j => (BB.out.frozen (p := ⟨gd, i * 5 + j, none⟩) LT.out).trans (KZ.out j)
  refine hK.out _ _ ⟨trivial, fun _ => hS1⟩ ?_
  (try simp only [Act.put, List.setIfInBounds_toArray, List.set_cons_zero, List.set_cons_succ])
  refine Lw.wpAnyL_take0 (i := 18) (v := ?_) rfl (by decide) (by kernel_rfl) (by kernel_rfl) (by kernel_rfl) (fun _ _ _ h => h) (Or.inl ⟨by rfl, ?_⟩) ⟨trivial, fun _ => hS1⟩ ?_
  rotate_left
  · (intro w _; go_simp; try with_reducible rfl)
  (try simp only [Act.put, List.setIfInBounds_toArray, List.set_cons_zero, List.set_cons_succ])
  refine Lw.wpAnyL_take0 (i := 19) (v := ?_) rfl (by decide) (by kernel_rfl) (by kernel_rfl) (by kernel_rfl) (fun _ _ _ h => h) (Or.inl ⟨by rfl, ?_⟩) ⟨trivial, fun _ => hS1⟩ ?_
  rotate_left
  · (intro w _; go_simp; try with_reducible rfl)
  (try simp only [Act.put, List.setIfInBounds_toArray, List.set_cons_zero, List.set_cons_succ])
  refine Lw.wpAnyL_one (i := 20) (by kernel_rfl) rfl (fun K hK => ?_)
  go_simp
  refine hK.out _ _ ⟨trivial, fun h => absurd h (by simp)⟩ ?_
  (try simp only [Act.put, List.setIfInBounds_toArray, List.set_cons_zero, List.set_cons_succ])
  refine Lw.wpAnyL_take0 (i := 21) (v := ?_) rfl (by decide) (by kernel_rfl) (by kernel_rfl) (by kernel_rfl) (fun _ _ _ h => h) (Or.inl ⟨by rfl, ?_⟩) ⟨trivial, fun h => absurd h (by simp)⟩ ?_
  rotate_left
  · (intro w _; go_simp; try with_reducible rfl)
  (try simp only [Act.put, List.setIfInBounds_toArray, List.set_cons_zero, List.set_cons_succ])
  refine Lw.wpAnyL_take0 (i := 22) (v := ?_) rfl (by decide) (by kernel_rfl) (by kernel_rfl) (by kernel_rfl) (fun _ _ _ h => h) (Or.inl ⟨by rfl, ?_⟩) ⟨trivial, fun h => absurd h (by simp)⟩ ?_
  rotate_left
  · (intro w _; go_simp; try with_reducible rfl)
  (try simp only [Act.put, List.setIfInBounds_toArray, List.set_cons_zero, List.set_cons_succ])
  refine Lw.wpAnyL_one (i := 23) (by kernel_rfl) rfl (fun K hK => ?_)
  go_simp
  refine hK.out _ _ ⟨trivial, fun h => absurd h (by simp)⟩ ?_
  (try simp only [Act.put, List.setIfInBounds_toArray, List.set_cons_zero, List.set_cons_succ])
  refine Lw.wpAnyL_done (by kernel_rfl) ?_ _
  obtain ⟨W4, hW4⟩ : ∃ W4, W4 = (w1.setCell ⟨gd, i * 5 + 2, none⟩ (.slice A1 (fillTo (data.take t) off).length c1)).setCell ⟨gd, i * 5 + 3, none⟩ (.int .i64 0) := ⟨_, rfl⟩
  rw [← hW4]
  have b3 := blk_far (p := ⟨gd, i * 5 + 3, none⟩) (blk_far (p := ⟨gd, i * 5 + 2, none⟩) (blk_below HO.out BB.out) (show w.heap.size + 1 ≠ gd by have := HFT.out gd hgd; omega) (.slice A1 (fillTo (data.take t) off).length c1)) (show w.heap.size + 1 ≠ gd by have := HFT.out gd hgd; omega) (.int .i64 0)
  rw [← hW4] at b3
  have H4 := Lib.hid hW4
  clear hW4
  have q0 := blk_cell b3 0
  have q1 := blk_cell b3 1
  have q2 := blk_cell b3 2
  have q3 := blk_cell b3 3
  have q4 := blk_cell b3 4
  have q5 := blk_cell b3 5
  have zq := blk_frozen b3
  simp at q0 q1 q2 q3 q4 q5
  have n1 : ¬ (g = w.heap.size + 1) := by have := HFT.out g hfg; omega
  have n3 : ¬ (w.heap.size + 1 = g) := by omega
  have n2 : ¬ (gd = w.heap.size + 1) := by have := HFT.out gd hgd; omega
  have n4 : ¬ (w.heap.size + 1 = gd) := by omega
  go_wp2_with fail
  have hX2 := HX.out
  have hA2 := HA.out
  try simp only [if_true, if_false, Bool.false_eq_true, reduceIte] at hX2 hA2
  rw [hX2, hA2]
  have hfar : ¬ ft (w.heap.size + 1) := fun hk => absurd (HFT.out _ hk) (by omega)
  have hM2 : Moves ft w W4 := by rw [H4.out]; exact Moves.setCell (p := ⟨gd, _, none⟩) (Moves.setCell (p := ⟨gd, _, none⟩) (Moves.of_below (below_then HB.out HB.out.size BB.out) ft) (.inl hgd) _) (.inl hgd) _
  have bw : base ≤ W2.heap.size := by have b1 := Kd.R_base HM2.out.rD gd (by rw [HV.out]; rfl); have b2 := HFT.out gd hgd; have b3 := HS2.out; omega
  have r1 : (Kd.int .u8).R 5 w1 base (fun _ => True) (.slice A1 (fillTo (data.take t) off).length c1) (fillTo (data.take t) off) := Kd.R_lower R1.out bw
  have hv2 : vD = .slice (some ⟨gd, 0, none⟩) X.nodes.length cap := by rw [HV.out, HLN.out]
  have hil2 : i < X.nodes.length := by rw [HLN.out]; omega
  have EA := IsMem.nset2 (IsMem.below HM2.out BB.out) hv2 i hil2 _ _ r1
  have EB := IsMem.nset3 EA (gd := gd) (cap := cap) (by rw [hv2]; show Value.slice _ _ _ = Value.slice _ (X.nodes.set i _).length _; rw [List.length_set]) i (by show i < (X.nodes.set i _).length; rw [List.length_set]; exact hil2) 0
  rw [← H4.out, nX_twice X i hil2, HNO.out] at EB
  have E1 : IsMem W4 base (fun k => ft k ∨ some k = (Value.slice A1 (fillTo (data.take t) off).length c1).ownBlock) m vN vA vD mb n f (nX X i ⟨dir, mode, fillTo (data.take (min data.length off.toNat)) off, 0, name⟩) := by
    have e : fillTo (data.take (min data.length off.toNat)) off = fillTo (data.take t) off := by rw [HT.out]
    rw [e]
    exact EB
  have hd4 : W2.drew.heap.size = W2.heap.size := rfl
  have hfar : ¬ (ft (w.heap.size + 1) ∨ some (w.heap.size + 1) = (Value.slice A1 (fillTo (data.take t) off).length c1).ownBlock) := fun hk => hk.elim (fun hk => absurd (HFT.out _ hk) (by omega)) (fun h => by have b1 := Kd.R_base R1.out _ h.symm; have b2 := HS2.out; omega)
  have hsz4 : W4.heap.size = w1.heap.size := by rw [H4.out]; simp [World.setCell]
  have hlast : ∀ k, (ft k ∨ some k = (Value.slice A1 (fillTo (data.take t) off).length c1).ownBlock) → k < w1.heap.size := fun k hk => hk.elim (fun hk => by have := HFT.out k hk; have := HS2.out; have := BB.out.size; omega) (fun h => Kd.R_lt R1.out k h.symm)
  refine bodyPost_ret (v := .agg #[.int .i64 0, .int .i64 0, .int .i64 0, .slice none 0 0, .slice none 0 0, .slice none 0 0]) (by simp [results, Tryd.results34, go_sem, n1, n2, n3, n4, q0, q1, q2, q3, q4, q5]) rfl ?_
  refine ⟨_, _, _, vD, (fun k => ft k ∨ some k = (Value.slice A1 (fillTo (data.take t) off).length c1).ownBlock), rfl, Kd.R_nil _ _ _ _ _, Kd.R_nil _ _ _ _ _, Kd.R_nil _ _ _ _ _, ?_, ?_, fun k hk => hk.elim .inl (fun h => .inr (by have b1 := Kd.R_base R1.out k h.symm; have b2 := HS2.out; show _ ≤ k; omega)), fun k hk => ?_⟩
  · repeat (first | with_reducible exact E1 | with_reducible refine IsMem.far (p := ⟨w.heap.size + 1, _, none⟩) ?_ hfar _)
  · repeat (first | with_reducible exact hM2 | with_reducible refine Moves.setCell (p := ⟨g, _, none⟩) ?_ (.inl hfg) _ | with_reducible refine Moves.setCell (p := ⟨gd, _, none⟩) ?_ (.inl hgd) _ | with_reducible refine Moves.setCell (p := ⟨w.heap.size + 1, _, none⟩) ?_ (.inr (Nat.le_succ _)) _)
  · exact Nat.lt_of_lt_of_eq (hlast k hk) (hsz4.symm.trans (by simp [World.setCell]))
set_option maxHeartbeats 4000000 in
set_option maxRecDepth 100000 in
theorem file_write14 (M : IsMem w base ft m vN vA vD mb n f X) (hft : ∀ k, ft k → k < w.heap.size) (kl : Lit) (hkl : WideAt.IsKeyLit kl) (g : Nat) (h : SHnd) (hf : f kl = some g) (hg : w.heap[g]? = some (.cells (shcs h) 49 (0, 0))) (hfg : ft g) (i : Nat) (hi : h.node = i) (hil : i < X.nodes.length) (hL : X.nodes.length ≤ 100000) (s : S26) (A6 : Option Addr) (c6 : Nat) (hl6 : s.f6.length ≤ c6) (hC6 : (Kd.int .u8).C w A6 s.f6.length s.f6) (hop : s.f0 = 14) (hcl : h.closed = false) (hro : h.ro = false) (ho0 : 0 ≤ h.pos) (ho1 : h.pos ≤ 1048576) (hdl : (nodeOf X i).f2.length ≤ 1000000) (hd6 : s.f6.length ≤ 1000000) :
    Calls Tryd.prog 34 #[.pointer (some ⟨m, 0, none⟩), .pointer (some ⟨g, 0, none⟩), stepA s A6 c6] w (FilePost w base ft m vN vA mb n f (hX (nX X i { nodeOf X i with f2 := overB (nodeOf X i).f2 h.pos.toNat s.f6, f3 := 0 }) kl { h with pos := h.pos + (s.f6.length : Int) }) (ans 0 (s.f6.length : Int) 0 [])) := by
  obtain ⟨X', hX'⟩ : ∃ X', X' = (hX (nX X i { nodeOf X i with f2 := overB (nodeOf X i).f2 h.pos.toNat s.f6, f3 := 0 }) kl { h with pos := h.pos + (s.f6.length : Int) }) := ⟨_, rfl⟩
  obtain ⟨a', ha'⟩ : ∃ a', a' = (ans 0 (s.f6.length : Int) 0 []) := ⟨_, rfl⟩
  rw [← ha', ← hX']
  have HX := Lib.hid hX'
  have HA := Lib.hid ha'
  clear hX' ha'
  obtain ⟨gd, cap, A2, c2, hv, hlc, hgd, p0o, p1o, p2o, p3o, p4o, l2, g2, pz, ncs, hnb⟩ := node_at M i hil
  have c2' := M.c2
  rw [hv] at c2'
  have h0 := blk_cell hg 0
  have h1o := blk_cell hg 1
  have h2o := blk_cell hg 2
  have h3o := blk_cell hg 3
  have h4o := blk_cell hg 4
  have hg1 := blk_lt hg
  have n9 : ¬ (g = gd) := fun e => by rw [← e, hg] at hnb; injection hnb with hnb; injection hnb with _ hnb; exact absurd hnb (by decide)
  have n10 : ¬ (gd = g) := fun e => n9 e.symm
  clear hnb
  have hgd1 := hft gd hgd
  have hil' : (i : Int) < (X.nodes.length : Int) := by omega
  obtain ⟨no, po, li, cl, ro⟩ := h
  obtain ⟨op, nm, ot, fl, pe, hh, dat, off, wh, N⟩ := s
  simp only [shcs] at h0 h1o h2o h3o h4o
  simp only at hi hop hl6 hC6
  subst hi
  subst hop
  unfold stepA
  have c2b := cellb c2' (below_alloc (below_alloc (Below.refl w.heap.size w) (.cells #[.int .i64 14, .string nm, .string ot, .int .i64 fl, .int .i64 pe, .int .i64 hh, .slice A6 dat.length c6, .int .i64 off, .int .i64 wh, .int .i64 N] 26)) (.cells #[.int .i64 0, .int .i64 0, .int .i64 0, .slice none 0 0, .slice none 0 0, .slice none 0 0] 33))
  have h0b := cellb h0 (below_alloc (below_alloc (Below.refl w.heap.size w) (.cells #[.int .i64 14, .string nm, .string ot, .int .i64 fl, .int .i64 pe, .int .i64 hh, .slice A6 dat.length c6, .int .i64 off, .int .i64 wh, .int .i64 N] 26)) (.cells #[.int .i64 0, .int .i64 0, .int .i64 0, .slice none 0 0, .slice none 0 0, .slice none 0 0] 33))
  have HM := Lib.hid M
  have HF := Lib.hid hf
  have HG := Lib.hid hg
  have HFT := Lib.hid hft
  have HV := Lib.hid hv
  have HC6 := Lib.hid hC6
  have HG2 := Lib.hid g2
  have HPZ := Lib.hid pz
  have HND := Lib.hid (show nodeOf X (i : Int) = nodeOf X (i : Int) from rfl)
  clear M hf hg hft hv hC6 g2 pz c2' h0
  generalize hLn : X.nodes.length = L at *
  have HLN := Lib.hid hLn
  clear hLn
  generalize hnd : nodeOf X (i : Int) = nd at *
  have HNO := Lib.hid hnd
  clear hnd HND
  obtain ⟨dir, mode, data, time, name⟩ := nd
  simp only at p0o p1o p2o p3o p4o l2 HG2
  go_enter Tryd.func34, Tryd.ntmps34
  go_wp2_with fail
  go_quiet (fail)
  obtain ⟨W2, hW2⟩ : ∃ W2, W2 = World.drewN ((w.alloc (.cells #[.int .i64 14, .string nm, .string ot, .int .i64 fl, .int .i64 pe, .int .i64 hh, .slice A6 dat.length c6, .int .i64 off, .int .i64 wh, .int .i64 N] 26)).alloc (.cells #[.int .i64 0, .int .i64 0, .int .i64 0, .slice none 0 0, .slice none 0 0, .slice none 0 0] 33)) nq := ⟨_, rfl⟩
  rw [← hW2]
  have BW : Below w.heap.size w W2 := by rw [hW2]; exact pw_below_drewN (below_alloc (below_alloc (Below.refl _ _) _) _) _
  have b1 : W2.heap[w.heap.size]? = some (.cells #[.int .i64 14, .string nm, .string ot, .int .i64 fl, .int .i64 pe, .int .i64 hh, .slice A6 dat.length c6, .int .i64 off, .int .i64 wh, .int .i64 N] 26 (0, 0)) := by rw [hW2]; exact blk_drewN (blk_alloc (blk_new _ _) _) _
  have b2 : W2.heap[w.heap.size + 1]? = some (.cells #[.int .i64 0, .int .i64 0, .int .i64 0, .slice none 0 0, .slice none 0 0, .slice none 0 0] 33 (0, 0)) := by rw [hW2]; exact blk_drewN (blk_at_ (by simp)) _
  have hsz2 : W2.heap.size = w.heap.size + 2 := by rw [hW2]; simp [World.drewN]
  have k0 := blk_cell b1 0
  have k1 := blk_cell b1 1
  have k2 := blk_cell b1 2
  have k3 := blk_cell b1 3
  have k4 := blk_cell b1 4
  have k5 := blk_cell b1 5
  have k6 := blk_cell b1 6
  have k7 := blk_cell b1 7
  have k8 := blk_cell b1 8
  have k9 := blk_cell b1 9
  have q0 := blk_cell b2 0
  have q1 := blk_cell b2 1
  have q2 := blk_cell b2 2
  have q3 := blk_cell b2 3
  have q4 := blk_cell b2 4
  have q5 := blk_cell b2 5
  have zq := blk_frozen b2
  have zg := blk_frozen (blk_below HG.out BW)
  have zd := fun j => (show W2.frozen? ⟨gd, i * 5 + j, none⟩ = false by rw [← HPZ.out j]; exact BW.frozen (p := ⟨gd, i * 5 + j, none⟩) hgd1)
  have h1 := cellb h1o BW
  have h2 := cellb h2o BW
  have h3 := cellb h3o BW
  have h4 := cellb h4o BW
  have p0 := cellb p0o BW
  have p1 := cellb p1o BW
  have p2 := cellb p2o BW
  have p3 := cellb p3o BW
  have p4 := cellb p4o BW
  have HB := Lib.hid BW
  have HM2 := Lib.hid (HM.out.below BW)
  have HGH := Lib.hid (blk_below HG.out BW)
  have HO := Lib.hid b2
  have HS2 := Lib.hid hsz2
  have n1 : ¬ (g = w.heap.size + 1) := by omega
  have n2 : ¬ (gd = w.heap.size + 1) := by omega
  have n3 : ¬ (w.heap.size + 1 = g) := by omega
  have n4 : ¬ (w.heap.size + 1 = gd) := by omega
  have n5 : ¬ (g = w.heap.size) := by omega
  have n6 : ¬ (gd = w.heap.size) := by omega
  have n7 : ¬ (w.heap.size = g) := by omega
  have n8 : ¬ (w.heap.size = gd) := by omega
  clear hW2 BW b1 b2 c2b h0b hsz2 hg1 hgd1 h1o h2o h3o h4o p0o p1o p2o p3o p4o
  simp at k0 k1 k2 k3 k4 k5 k6 k7 k8 k9 q0 q1 q2 q3 q4 q5 h1 h2 h3 h4
  obtain rfl : cl = false := hcl
  obtain rfl : ro = false := hro
  try simp only at ho0 ho1 hdl hd6
  obtain ⟨p, rfl⟩ := Int.eq_ofNat_of_zero_le ho0
  have HX := Lib.hid (by have := HX.out; (try simp only [Int.toNat_natCast] at this); exact this)
  have HG := Lib.hid (fun W (hb : Below W2.heap.size W2 W) => over_any W data dat A2 A6 data.length c2 dat.length c6 (Kd.C_below (Kd.C_below HG2.out HB.out) hb) (Kd.C_below (Kd.C_below HC6.out HB.out) hb) (by omega) (by omega) p (by omega))
  have K7 := Lib.hid h1
  have K6 := Lib.hid k6
  have K2 := Lib.hid p2
  have K3 := Lib.hid p3
  have KZ := Lib.hid zd
  have H1 := Lib.hid h1
  have N9 := Lib.hid n9
  have LT := Lib.hid (show gd < W2.heap.size by have := HFT.out gd hgd; have := HS2.out; omega)
  have LG := Lib.hid (show g < W2.heap.size by have := HFT.out g hfg; have := HS2.out; omega)
  have ht0 : ¬ ((p : Int) < 0) := by omega
  go_wp2_with fail
  have hS0 : (fun w' : World => w'.cell? ⟨gd, i * 5 + 2, none⟩ = some (.slice A2 data.length c2) ∧ w'.cell? ⟨g, 1, none⟩ = some (.int .i64 p) ∧ w'.cell? ⟨w.heap.size, 6, none⟩ = some (.slice A6 dat.length c6)) W2.drew := ⟨p2, h1, k6⟩
  clear q0 q1 q2 q3 q4 q5 k0 k1 k2 k3 k4 k5 k8 k9 h1 h2 p0 p1 p4 zq zg n1 n2 n3 n4 n5 n6 n7 n8 n9 n10
  refine Lw.wp_region_gate (S0 := fun w' => w'.cell? ⟨gd, i * 5 + 2, none⟩ = some (.slice A2 data.length c2) ∧ w'.cell? ⟨g, 1, none⟩ = some (.int .i64 p) ∧ w'.cell? ⟨w.heap.size, 6, none⟩ = some (.slice A6 dat.length c6)) (S1 := fun _ => True) (k := 15) (by kernel_rfl) ?_
  rw [show ({ W2 with drawn := W2.drawn + 1 } : World) = W2.drew from rfl]
  refine Lw.wpAnyL_take0 (i := 0) (v := ?_) rfl (by decide) (by kernel_rfl) (by kernel_rfl) (by kernel_rfl) (fun _ _ _ h => h) (Or.inl ⟨by rfl, ?_⟩) ⟨trivial, fun _ => hS0⟩ ?_
  rotate_left
  · (intro w _; go_simp; try with_reducible rfl)
  (try simp only [Act.put, List.setIfInBounds_toArray, List.set_cons_zero, List.set_cons_succ])
  refine Lw.wpAnyL_take0 (i := 1) (v := ?_) rfl (by decide) (by kernel_rfl) (by kernel_rfl) (by kernel_rfl) (fun _ _ _ h => h) (Or.inl ⟨by rfl, ?_⟩) ⟨trivial, fun _ => hS0⟩ ?_
  rotate_left
  · (intro w _; go_simp; try with_reducible rfl)
  (try simp only [Act.put, List.setIfInBounds_toArray, List.set_cons_zero, List.set_cons_succ])
  refine Lw.wpAnyL_take0 (i := 2) (v := ?_) rfl (by decide) (by kernel_rfl) (by kernel_rfl) (by kernel_rfl) (fun _ _ _ h => h) (Or.inl ⟨by rfl, ?_⟩) ⟨trivial, fun _ => hS0⟩ ?_
  rotate_left
  · (intro w _; go_simp; try with_reducible rfl)
  (try simp only [Act.put, List.setIfInBounds_toArray, List.set_cons_zero, List.set_cons_succ])
  refine Lw.wpAnyL_take0 (i := 3) (v := ?_) rfl (by decide) (by kernel_rfl) (by kernel_rfl) (by kernel_rfl) (fun _ _ _ h => h) (Or.inl ⟨by rfl, ?_⟩) ⟨trivial, fun _ => hS0⟩ ?_
  rotate_left
  · (intro w _; go_simp; try with_reducible rfl)
  (try simp only [Act.put, List.setIfInBounds_toArray, List.set_cons_zero, List.set_cons_succ])
  refine Lw.wpAnyL_take0 (i := 4) (v := ?_) rfl (by decide) (by kernel_rfl) (by kernel_rfl) (by kernel_rfl) (fun _ _ _ h => h) (Or.inl ⟨by rfl, ?_⟩) ⟨trivial, fun _ => hS0⟩ ?_
  rotate_left
  · (intro w _; go_simp; try with_reducible rfl)
  (try simp only [Act.put, List.setIfInBounds_toArray, List.set_cons_zero, List.set_cons_succ])
  refine Lw.wpAnyL_take (i := 5) (v := ?_) rfl rfl (by kernel_rfl) (by kernel_rfl) (by kernel_rfl) (by kernel_rfl) (fun _ _ _ h => h) (Or.inl ⟨by rfl, ?_⟩) hS0 trivial ?_
  rotate_left
  · (intro w hw; obtain ⟨hw0, hw1, hw2⟩ := hw; go_simp; try with_reducible rfl)
  (try simp only [Act.put, List.setIfInBounds_toArray, List.set_cons_zero, List.set_cons_succ])
  refine Lw.wpAnyL_take0 (i := 6) (v := ?_) rfl (by decide) (by kernel_rfl) (by kernel_rfl) (by kernel_rfl) (fun _ _ _ h => h) (Or.inl ⟨by rfl, ?_⟩) ⟨trivial, fun _ => hS0⟩ ?_
  rotate_left
  · (intro w _; go_simp; try with_reducible rfl)
  (try simp only [Act.put, List.setIfInBounds_toArray, List.set_cons_zero, List.set_cons_succ])
  refine Lw.wpAnyL_take0 (i := 7) (v := ?_) rfl (by decide) (by kernel_rfl) (by kernel_rfl) (by kernel_rfl) (fun _ _ _ h => h) (Or.inl ⟨by rfl, ?_⟩) ⟨trivial, fun _ => hS0⟩ ?_
  rotate_left
  · (intro w _; go_simp; try with_reducible rfl)
  (try simp only [Act.put, List.setIfInBounds_toArray, List.set_cons_zero, List.set_cons_succ])
  refine Lw.wpAnyL_take0 (i := 8) (v := ?_) rfl (by decide) (by kernel_rfl) (by kernel_rfl) (by kernel_rfl) (fun _ _ _ h => h) (Or.inl ⟨by rfl, ?_⟩) ⟨trivial, fun _ => hS0⟩ ?_
  rotate_left
  · (intro w _; go_simp; try with_reducible rfl)
  (try simp only [Act.put, List.setIfInBounds_toArray, List.set_cons_zero, List.set_cons_succ])
  refine Lw.wpAnyL_take (i := 9) (v := ?_) rfl rfl (by kernel_rfl) (by kernel_rfl) (by kernel_rfl) (by kernel_rfl) (fun _ _ _ h => h) (Or.inl ⟨by rfl, ?_⟩) hS0 trivial ?_
  rotate_left
  · (intro w hw; obtain ⟨hw0, hw1, hw2⟩ := hw; go_simp; try with_reducible rfl)
  (try simp only [Act.put, List.setIfInBounds_toArray, List.set_cons_zero, List.set_cons_succ])
  refine Lw.wpAnyL_take0 (i := 10) (v := ?_) rfl (by decide) (by kernel_rfl) (by kernel_rfl) (by kernel_rfl) (fun _ _ _ h => h) (Or.inl ⟨by rfl, ?_⟩) ⟨trivial, fun _ => hS0⟩ ?_
  rotate_left
  · (intro w _; go_simp; try with_reducible rfl)
  (try simp only [Act.put, List.setIfInBounds_toArray, List.set_cons_zero, List.set_cons_succ])
  refine Lw.wpAnyL_take (i := 11) (v := ?_) rfl rfl (by kernel_rfl) (by kernel_rfl) (by kernel_rfl) (by kernel_rfl) (fun _ _ _ h => h) (Or.inl ⟨by rfl, ?_⟩) hS0 trivial ?_
  rotate_left
  · (intro w hw; obtain ⟨hw0, hw1, hw2⟩ := hw; go_simp; try with_reducible rfl)
  (try simp only [Act.put, List.setIfInBounds_toArray, List.set_cons_zero, List.set_cons_succ])
  refine Lw.wpAnyL_one (i := 12) (by kernel_rfl) rfl (fun K hK => ?_)
  go_simp
  go_at_call 68
  (refine (HG.out _ (below_drew (Below.refl _ _))).mono ?_)
  rintro e w1 ⟨A1, c1, rfl, r1, BB⟩
  have R1 := Lib.hid r1
  have BB := Lib.hid (un_drew BB)
  clear r1
  have hS1 : (fun w' : World => w'.cell? ⟨gd, i * 5 + 2, none⟩ = some (.slice A2 data.length c2) ∧ w'.cell? ⟨g, 1, none⟩ = some (.int .i64 p) ∧ w'.cell? ⟨w.heap.size, 6, none⟩ = some (.slice A6 dat.length c6)) w1 := ⟨cellb K2.out BB.out, cellb K7.out BB.out, cellb K6.out BB.out⟩
  have p2 := cellb K2.out BB.out
  have p3 := cellb K3.out BB.out
  have zd := fun j => (BB.out.frozen (p := ⟨gd, i * 5 + j, none⟩) LT.out).trans (KZ.out j)
  refine hK.out _ _ ⟨trivial, fun _ => hS1⟩ ?_
  (try simp only [Act.put, List.setIfInBounds_toArray, List.set_cons_zero, List.set_cons_succ])
  refine Lw.wpAnyL_take0 (i := 13) (v := ?_) rfl (by decide) (by kernel_rfl) (by kernel_rfl) (by kernel_rfl) (fun _ _ _ h => h) (Or.inl ⟨by rfl, ?_⟩) ⟨trivial, fun _ => hS1⟩ ?_
  rotate_left
  · (intro w _; go_simp; try with_reducible rfl)
  (try simp only [Act.put, List.setIfInBounds_toArray, List.set_cons_zero, List.set_cons_succ])
  refine Lw.wpAnyL_take0 (i := 14) (v := ?_) rfl (by decide) (by kernel_rfl) (by kernel_rfl) (by kernel_rfl) (fun _ _ _ h => h) (Or.inl ⟨by rfl, ?_⟩) ⟨trivial, fun _ => hS1⟩ ?_
  rotate_left
  · (intro w _; go_simp; try with_reducible rfl)
  (try simp only [Act.put, List.setIfInBounds_toArray, List.set_cons_zero, List.set_cons_succ])
  refine Lw.wpAnyL_one (i := 15) (by kernel_rfl) rfl (fun K hK => ?_)
  go_simp
  refine hK.out _ _ ⟨trivial, fun h => absurd h (by simp)⟩ ?_
  (try simp only [Act.put, List.setIfInBounds_toArray, List.set_cons_zero, List.set_cons_succ])
  refine Lw.wpAnyL_take0 (i := 16) (v := ?_) rfl (by decide) (by kernel_rfl) (by kernel_rfl) (by kernel_rfl) (fun _ _ _ h => h) (Or.inl ⟨by rfl, ?_⟩) ⟨trivial, fun h => absurd h (by simp)⟩ ?_
  rotate_left
  · (intro w _; go_simp; try with_reducible rfl)
  (try simp only [Act.put, List.setIfInBounds_toArray, List.set_cons_zero, List.set_cons_succ])
  refine Lw.wpAnyL_take0 (i := 17) (v := ?_) rfl (by decide) (by kernel_rfl) (by kernel_rfl) (by kernel_rfl) (fun _ _ _ h => h) (Or.inl ⟨by rfl, ?_⟩) ⟨trivial, fun h => absurd h (by simp)⟩ ?_
  rotate_left
  · (intro w _; go_simp; try with_reducible rfl)
  (try simp only [Act.put, List.setIfInBounds_toArray, List.set_cons_zero, List.set_cons_succ])
  refine Lw.wpAnyL_one (i := 18) (by kernel_rfl) rfl (fun K hK => ?_)
  go_simp
  refine hK.out _ _ ⟨trivial, fun h => absurd h (by simp)⟩ ?_
  (try simp only [Act.put, List.setIfInBounds_toArray, List.set_cons_zero, List.set_cons_succ])
  refine Lw.wpAnyL_done (by kernel_rfl) ?_ _
  obtain ⟨W4, hW4⟩ : ∃ W4, W4 = (w1.setCell ⟨gd, i * 5 + 2, none⟩ (.slice A1 (overB data p dat).length c1)).setCell ⟨gd, i * 5 + 3, none⟩ (.int .i64 0) := ⟨_, rfl⟩
  rw [← hW4]
  have b3 := blk_far (p := ⟨gd, i * 5 + 3, none⟩) (blk_far (p := ⟨gd, i * 5 + 2, none⟩) (blk_below HO.out BB.out) (show w.heap.size + 1 ≠ gd by have := HFT.out gd hgd; omega) (.slice A1 (overB data p dat).length c1)) (show w.heap.size + 1 ≠ gd by have := HFT.out gd hgd; omega) (.int .i64 0)
  rw [← hW4] at b3
  have H4 := Lib.hid hW4
  clear hW4
  have q0 := blk_cell b3 0
  have q1 := blk_cell b3 1
  have q2 := blk_cell b3 2
  have q3 := blk_cell b3 3
  have q4 := blk_cell b3 4
  have q5 := blk_cell b3 5
  have zq := blk_frozen b3
  simp at q0 q1 q2 q3 q4 q5
  have n1 : ¬ (g = w.heap.size + 1) := by have := HFT.out g hfg; omega
  have n3 : ¬ (w.heap.size + 1 = g) := by omega
  have n2 : ¬ (gd = w.heap.size + 1) := by have := HFT.out gd hgd; omega
  have n4 : ¬ (w.heap.size + 1 = gd) := by omega
  have n5 : ¬ (g = w.heap.size) := by have := HFT.out g hfg; omega
  have n6 : ¬ (gd = w.heap.size) := by have := HFT.out gd hgd; omega
  have n7 : ¬ (w.heap.size = g) := by omega
  have n8 : ¬ (w.heap.size = gd) := by omega
  have n9 := N9.out
  have n10 : ¬ (gd = g) := fun e => n9 e.symm
  have h1 : W4.cell? ⟨g, 1, none⟩ = some (.int .i64 p) := (by rw [H4.out]; exact (World.cell?_setCell_far _ _ _ _ n10).trans ((World.cell?_setCell_far _ _ _ _ n10).trans (cellb H1.out BB.out)))
  have k6 : W4.cell? ⟨w.heap.size, 6, none⟩ = some (.slice A6 dat.length c6) := (by rw [H4.out]; exact (World.cell?_setCell_far _ _ _ _ n6).trans ((World.cell?_setCell_far _ _ _ _ n6).trans (cellb K6.out BB.out)))
  have HG4 := Lib.hid (show W4.heap[g]? = some (.cells (shcs ⟨(i : Int), p, li, false, false⟩) 49 (0, 0)) by rw [H4.out]; exact blk_far (p := ⟨gd, _, none⟩) (blk_far (p := ⟨gd, _, none⟩) (blk_below HGH.out BB.out) n9 _) n9 _)
  have zg := blk_frozen HG4.out
  go_wp2_with fail
  go_region
  obtain ⟨W3, hW3⟩ : ∃ W3, W3 = (W4.setCell ⟨g, 1, none⟩ (.int .i64 ((p : Int) + (dat.length : Int)))).drew := ⟨_, rfl⟩
  rw [← hW3]
  have b3 := blk_drew (blk_far (blk_far (p := ⟨gd, i * 5 + 3, none⟩) (blk_far (p := ⟨gd, i * 5 + 2, none⟩) (blk_below HO.out BB.out) n4 (.slice A1 (overB data p dat).length c1)) n4 (.int .i64 0)) (p := ⟨g, 1, none⟩) n3 (Value.int .i64 ((p : Int) + (dat.length : Int))))
  rw [← H4.out, ← hW3] at b3
  have K6' := Lib.hid k6
  have H3 := Lib.hid hW3
  have k6 : W3.cell? ⟨w.heap.size, 6, none⟩ = some (.slice A6 dat.length c6) := by rw [H3.out]; exact (World.cell?_drew _ _).trans ((World.cell?_setCell_far _ _ _ _ n5).trans K6'.out)
  clear hW3
  have q0 := blk_cell b3 0
  have q1 := blk_cell b3 1
  have q2 := blk_cell b3 2
  have q3 := blk_cell b3 3
  have q4 := blk_cell b3 4
  have q5 := blk_cell b3 5
  have zq := blk_frozen b3
  simp at q0 q1 q2 q3 q4 q5
  go_wp2_with fail
  have hX2 := HX.out
  have hA2 := HA.out
  try simp only [if_true, if_false, Bool.false_eq_true, reduceIte] at hX2 hA2
  rw [hX2, hA2]
  have hfar : ¬ ft (w.heap.size + 1) := fun hk => absurd (HFT.out _ hk) (by omega)
  have hM2 : Moves ft w W3 := by rw [H3.out, H4.out]; exact Moves.drew (Moves.setCell (p := ⟨g, 1, none⟩) (Moves.setCell (p := ⟨gd, _, none⟩) (Moves.setCell (p := ⟨gd, _, none⟩) (Moves.of_below (below_then HB.out HB.out.size BB.out) ft) (.inl hgd) _) (.inl hgd) _) (.inl hfg) _)
  have bw : base ≤ W2.heap.size := by have b1 := Kd.R_base HM2.out.rD gd (by rw [HV.out]; rfl); have b2 := HFT.out gd hgd; have b3 := HS2.out; omega
  have r1 : (Kd.int .u8).R 5 w1 base (fun _ => True) (.slice A1 (overB data p dat).length c1) (overB data p dat) := Kd.R_lower R1.out bw
  have hv2 : vD = .slice (some ⟨gd, 0, none⟩) X.nodes.length cap := by rw [HV.out, HLN.out]
  have hil2 : i < X.nodes.length := by rw [HLN.out]; omega
  have EA := IsMem.nset2 (IsMem.below HM2.out BB.out) hv2 i hil2 _ _ r1
  have EB := IsMem.nset3 EA (gd := gd) (cap := cap) (by rw [hv2]; show Value.slice _ _ _ = Value.slice _ (X.nodes.set i _).length _; rw [List.length_set]) i (by show i < (X.nodes.set i _).length; rw [List.length_set]; exact hil2) 0
  rw [← H4.out, nX_twice X i hil2, HNO.out] at EB
  have EC := IsMem.hsetX EB hkl HF.out HG4.out 1 (.int .i64 ((p : Int) + (dat.length : Int))) (h' := ⟨(i : Int), ((p : Int) + (dat.length : Int)), li, false, false⟩) rfl
  have E1 : IsMem W3 base (fun k => ft k ∨ some k = (Value.slice A1 (overB data p dat).length c1).ownBlock) m vN vA vD mb n f (hX (nX X i ⟨dir, mode, overB data p dat, 0, name⟩) kl ⟨(i : Int), ((p : Int) + (dat.length : Int)), li, false, false⟩) := by rw [H3.out]; exact IsMem.below EC (below_drew (Below.refl _ _))
  have hd4 : W2.drew.heap.size = W2.heap.size := rfl
  have hfar : ¬ (ft (w.heap.size + 1) ∨ some (w.heap.size + 1) = (Value.slice A1 (overB data p dat).length c1).ownBlock) := fun hk => hk.elim (fun hk => absurd (HFT.out _ hk) (by omega)) (fun h => by have b1 := Kd.R_base R1.out _ h.symm; have b2 := HS2.out; omega)
  have hsz4 : W3.heap.size = w1.heap.size := by rw [H3.out, H4.out]; simp [World.setCell, World.drew]
  have hlast : ∀ k, (ft k ∨ some k = (Value.slice A1 (overB data p dat).length c1).ownBlock) → k < w1.heap.size := fun k hk => hk.elim (fun hk => by have := HFT.out k hk; have := HS2.out; have := BB.out.size; omega) (fun h => Kd.R_lt R1.out k h.symm)
  refine bodyPost_ret (v := .agg #[.int .i64 0, .int .i64 dat.length, .int .i64 0, .slice none 0 0, .slice none 0 0, .slice none 0 0]) (by simp [results, Tryd.results34, go_sem, n1, n2, n3, n4, q0, q1, q2, q3, q4, q5]) rfl ?_
  refine ⟨_, _, _, vD, (fun k => ft k ∨ some k = (Value.slice A1 (overB data p dat).length c1).ownBlock), rfl, Kd.R_nil _ _ _ _ _, Kd.R_nil _ _ _ _ _, Kd.R_nil _ _ _ _ _, ?_, ?_, fun k hk => hk.elim .inl (fun h => .inr (by have b1 := Kd.R_base R1.out k h.symm; have b2 := HS2.out; show _ ≤ k; omega)), fun k hk => ?_⟩
  · repeat (first | with_reducible exact E1 | with_reducible refine IsMem.far (p := ⟨w.heap.size + 1, _, none⟩) ?_ hfar _)
  · repeat (first | with_reducible exact hM2 | with_reducible refine Moves.setCell (p := ⟨g, _, none⟩) ?_ (.inl hfg) _ | with_reducible refine Moves.setCell (p := ⟨gd, _, none⟩) ?_ (.inl hgd) _ | with_reducible refine Moves.setCell (p := ⟨w.heap.size + 1, _, none⟩) ?_ (.inr (Nat.le_succ _)) _)
  · exact Nat.lt_of_lt_of_eq (hlast k hk) (hsz4.symm.trans (by simp [World.setCell]))
set_option maxHeartbeats 4000000 in
set_option maxRecDepth 100000 in
theorem file_write15 (M : IsMem w base ft m vN vA vD mb n f X) (hft : ∀ k, ft k → k < w.heap.size) (kl : Lit) (hkl : WideAt.IsKeyLit kl) (g : Nat) (h : SHnd) (hf : f kl = some g) (hg : w.heap[g]? = some (.cells (shcs h) 49 (0, 0))) (hfg : ft g) (i : Nat) (hi : h.node = i) (hil : i < X.nodes.length) (hL : X.nodes.length ≤ 100000) (s : S26) (A6 : Option Addr) (c6 : Nat) (hl6 : s.f6.length ≤ c6) (hC6 : (Kd.int .u8).C w A6 s.f6.length s.f6) (hop : s.f0 = 15) (hcl : h.closed = false) (hro : h.ro = false) (ho0 : 0 ≤ s.f7) (ho1 : s.f7 ≤ 1048576) (hdl : (nodeOf X i).f2.length ≤ 1000000) (hd6 : s.f6.length ≤ 1000000) :
    Calls Tryd.prog 34 #[.pointer (some ⟨m, 0, none⟩), .pointer (some ⟨g, 0, none⟩), stepA s A6 c6] w (FilePost w base ft m vN vA mb n f (hX (nX X i { nodeOf X i with f2 := overB (nodeOf X i).f2 s.f7.toNat s.f6, f3 := 0 }) kl { h with pos := s.f7 + (s.f6.length : Int) }) (ans 0 (s.f6.length : Int) 0 [])) := by
  obtain ⟨X', hX'⟩ : ∃ X', X' = (hX (nX X i { nodeOf X i with f2 := overB (nodeOf X i).f2 s.f7.toNat s.f6, f3 := 0 }) kl { h with pos := s.f7 + (s.f6.length : Int) }) := ⟨_, rfl⟩
  obtain ⟨a', ha'⟩ : ∃ a', a' = (ans 0 (s.f6.length : Int) 0 []) := ⟨_, rfl⟩
  rw [← ha', ← hX']
  have HX := Lib.hid hX'
  have HA := Lib.hid ha'
  clear hX' ha'
  obtain ⟨gd, cap, A2, c2, hv, hlc, hgd, p0o, p1o, p2o, p3o, p4o, l2, g2, pz, ncs, hnb⟩ := node_at M i hil
  have c2' := M.c2
  rw [hv] at c2'
  have h0 := blk_cell hg 0
  have h1o := blk_cell hg 1
  have h2o := blk_cell hg 2
  have h3o := blk_cell hg 3
  have h4o := blk_cell hg 4
  have hg1 := blk_lt hg
  have n9 : ¬ (g = gd) := fun e => by rw [← e, hg] at hnb; injection hnb with hnb; injection hnb with _ hnb; exact absurd hnb (by decide)
  have n10 : ¬ (gd = g) := fun e => n9 e.symm
  clear hnb
  have hgd1 := hft gd hgd
  have hil' : (i : Int) < (X.nodes.length : Int) := by omega
  obtain ⟨no, po, li, cl, ro⟩ := h
  obtain ⟨op, nm, ot, fl, pe, hh, dat, off, wh, N⟩ := s
  simp only [shcs] at h0 h1o h2o h3o h4o
  simp only at hi hop hl6 hC6
  subst hi
  subst hop
  unfold stepA
  have c2b := cellb c2' (below_alloc (below_alloc (Below.refl w.heap.size w) (.cells #[.int .i64 15, .string nm, .string ot, .int .i64 fl, .int .i64 pe, .int .i64 hh, .slice A6 dat.length c6, .int .i64 off, .int .i64 wh, .int .i64 N] 26)) (.cells #[.int .i64 0, .int .i64 0, .int .i64 0, .slice none 0 0, .slice none 0 0, .slice none 0 0] 33))
  have h0b := cellb h0 (below_alloc (below_alloc (Below.refl w.heap.size w) (.cells #[.int .i64 15, .string nm, .string ot, .int .i64 fl, .int .i64 pe, .int .i64 hh, .slice A6 dat.length c6, .int .i64 off, .int .i64 wh, .int .i64 N] 26)) (.cells #[.int .i64 0, .int .i64 0, .int .i64 0, .slice none 0 0, .slice none 0 0, .slice none 0 0] 33))
  have HM := Lib.hid M
  have HF := Lib.hid hf
  have HG := Lib.hid hg
  have HFT := Lib.hid hft
  have HV := Lib.hid hv
  have HC6 := Lib.hid hC6
  have HG2 := Lib.hid g2
  have HPZ := Lib.hid pz
  have HND := Lib.hid (show nodeOf X (i : Int) = nodeOf X (i : Int) from rfl)
  clear M hf hg hft hv hC6 g2 pz c2' h0
  generalize hLn : X.nodes.length = L at *
  have HLN := Lib.hid hLn
  clear hLn
  generalize hnd : nodeOf X (i : Int) = nd at *
  have HNO := Lib.hid hnd
  clear hnd HND
  obtain ⟨dir, mode, data, time, name⟩ := nd
  simp only at p0o p1o p2o p3o p4o l2 HG2
  go_enter Tryd.func34, Tryd.ntmps34
  go_wp2_with fail
  go_quiet (fail)
  obtain ⟨W2, hW2⟩ : ∃ W2, W2 = World.drewN ((w.alloc (.cells #[.int .i64 15, .string nm, .string ot, .int .i64 fl, .int .i64 pe, .int .i64 hh, .slice A6 dat.length c6, .int .i64 off, .int .i64 wh, .int .i64 N] 26)).alloc (.cells #[.int .i64 0, .int .i64 0, .int .i64 0, .slice none 0 0, .slice none 0 0, .slice none 0 0] 33)) nq := ⟨_, rfl⟩
  rw [← hW2]
  have BW : Below w.heap.size w W2 := by rw [hW2]; exact pw_below_drewN (below_alloc (below_alloc (Below.refl _ _) _) _) _
  have b1 : W2.heap[w.heap.size]? = some (.cells #[.int .i64 15, .string nm, .string ot, .int .i64 fl, .int .i64 pe, .int .i64 hh, .slice A6 dat.length c6, .int .i64 off, .int .i64 wh, .int .i64 N] 26 (0, 0)) := by rw [hW2]; exact blk_drewN (blk_alloc (blk_new _ _) _) _
  have b2 : W2.heap[w.heap.size + 1]? = some (.cells #[.int .i64 0, .int .i64 0, .int .i64 0, .slice none 0 0, .slice none 0 0, .slice none 0 0] 33 (0, 0)) := by rw [hW2]; exact blk_drewN (blk_at_ (by simp)) _
  have hsz2 : W2.heap.size = w.heap.size + 2 := by rw [hW2]; simp [World.drewN]
  have k0 := blk_cell b1 0
  have k1 := blk_cell b1 1
  have k2 := blk_cell b1 2
  have k3 := blk_cell b1 3
  have k4 := blk_cell b1 4
  have k5 := blk_cell b1 5
  have k6 := blk_cell b1 6
  have k7 := blk_cell b1 7
  have k8 := blk_cell b1 8
  have k9 := blk_cell b1 9
  have q0 := blk_cell b2 0
  have q1 := blk_cell b2 1
  have q2 := blk_cell b2 2
  have q3 := blk_cell b2 3
  have q4 := blk_cell b2 4
  have q5 := blk_cell b2 5
  have zq := blk_frozen b2
  have zg := blk_frozen (blk_below HG.out BW)
  have zd := fun j => (show W2.frozen? ⟨gd, i * 5 + j, none⟩ = false by rw [← HPZ.out j]; exact BW.frozen (p := ⟨gd, i * 5 + j, none⟩) hgd1)
  have h1 := cellb h1o BW
  have h2 := cellb h2o BW
  have h3 := cellb h3o BW
  have h4 := cellb h4o BW
  have p0 := cellb p0o BW
  have p1 := cellb p1o BW
  have p2 := cellb p2o BW
  have p3 := cellb p3o BW
  have p4 := cellb p4o BW
  have HB := Lib.hid BW
  have HM2 := Lib.hid (HM.out.below BW)
  have HGH := Lib.hid (blk_below HG.out BW)
  have HO := Lib.hid b2
  have HS2 := Lib.hid hsz2
  have n1 : ¬ (g = w.heap.size + 1) := by omega
  have n2 : ¬ (gd = w.heap.size + 1) := by omega
  have n3 : ¬ (w.heap.size + 1 = g) := by omega
  have n4 : ¬ (w.heap.size + 1 = gd) := by omega
  have n5 : ¬ (g = w.heap.size) := by omega
  have n6 : ¬ (gd = w.heap.size) := by omega
  have n7 : ¬ (w.heap.size = g) := by omega
  have n8 : ¬ (w.heap.size = gd) := by omega
  clear hW2 BW b1 b2 c2b h0b hsz2 hg1 hgd1 h1o h2o h3o h4o p0o p1o p2o p3o p4o
  simp at k0 k1 k2 k3 k4 k5 k6 k7 k8 k9 q0 q1 q2 q3 q4 q5 h1 h2 h3 h4
  obtain rfl : cl = false := hcl
  obtain rfl : ro = false := hro
  try simp only at ho0 ho1 hdl hd6
  obtain ⟨p, rfl⟩ := Int.eq_ofNat_of_zero_le ho0
  have HX := Lib.hid (by have := HX.out; (try simp only [Int.toNat_natCast] at this); exact this)
  have HG := Lib.hid (fun W (hb : Below W2.heap.size W2 W) => over_any W data dat A2 A6 data.length c2 dat.length c6 (Kd.C_below (Kd.C_below HG2.out HB.out) hb) (Kd.C_below (Kd.C_below HC6.out HB.out) hb) (by omega) (by omega) p (by omega))
  have K7 := Lib.hid k7
  have K6 := Lib.hid k6
  have K2 := Lib.hid p2
  have K3 := Lib.hid p3
  have KZ := Lib.hid zd
  have H1 := Lib.hid h1
  have N9 := Lib.hid n9
  have LT := Lib.hid (show gd < W2.heap.size by have := HFT.out gd hgd; have := HS2.out; omega)
  have LG := Lib.hid (show g < W2.heap.size by have := HFT.out g hfg; have := HS2.out; omega)
  have ht0 : ¬ ((p : Int) < 0) := by omega
  go_wp2_with fail
  have hS0 : (fun w' : World => w'.cell? ⟨gd, i * 5 + 2, none⟩ = some (.slice A2 data.length c2) ∧ w'.cell? ⟨w.heap.size, 7, none⟩ = some (.int .i64 p) ∧ w'.cell? ⟨w.heap.size, 6, none⟩ = some (.slice A6 dat.length c6)) W2.drew := ⟨p2, k7, k6⟩
  clear q0 q1 q2 q3 q4 q5 k0 k1 k2 k3 k4 k5 k8 k9 h1 h2 p0 p1 p4 zq zg n1 n2 n3 n4 n5 n6 n7 n8 n9 n10
  refine Lw.wp_region_gate (S0 := fun w' => w'.cell? ⟨gd, i * 5 + 2, none⟩ = some (.slice A2 data.length c2) ∧ w'.cell? ⟨w.heap.size, 7, none⟩ = some (.int .i64 p) ∧ w'.cell? ⟨w.heap.size, 6, none⟩ = some (.slice A6 dat.length c6)) (S1 := fun _ => True) (k := 13) (by kernel_rfl) ?_
  rw [show ({ W2 with drawn := W2.drawn + 1 } : World) = W2.drew from rfl]
  refine Lw.wpAnyL_take0 (i := 0) (v := ?_) rfl (by decide) (by kernel_rfl) (by kernel_rfl) (by kernel_rfl) (fun _ _ _ h => h) (Or.inl ⟨by rfl, ?_⟩) ⟨trivial, fun _ => hS0⟩ ?_
  rotate_left
  · (intro w _; go_simp; try with_reducible rfl)
  (try simp only [Act.put, List.setIfInBounds_toArray, List.set_cons_zero, List.set_cons_succ])
  refine Lw.wpAnyL_take0 (i := 1) (v := ?_) rfl (by decide) (by kernel_rfl) (by kernel_rfl) (by kernel_rfl) (fun _ _ _ h => h) (Or.inl ⟨by rfl, ?_⟩) ⟨trivial, fun _ => hS0⟩ ?_
  rotate_left
  · (intro w _; go_simp; try with_reducible rfl)
  (try simp only [Act.put, List.setIfInBounds_toArray, List.set_cons_zero, List.set_cons_succ])
  refine Lw.wpAnyL_take0 (i := 2) (v := ?_) rfl (by decide) (by kernel_rfl) (by kernel_rfl) (by kernel_rfl) (fun _ _ _ h => h) (Or.inl ⟨by rfl, ?_⟩) ⟨trivial, fun _ => hS0⟩ ?_
  rotate_left
  · (intro w _; go_simp; try with_reducible rfl)
  (try simp only [Act.put, List.setIfInBounds_toArray, List.set_cons_zero, List.set_cons_succ])
  refine Lw.wpAnyL_take0 (i := 3) (v := ?_) rfl (by decide) (by kernel_rfl) (by kernel_rfl) (by kernel_rfl) (fun _ _ _ h => h) (Or.inl ⟨by rfl, ?_⟩) ⟨trivial, fun _ => hS0⟩ ?_
  rotate_left
  · (intro w _; go_simp; try with_reducible rfl)
  (try simp only [Act.put, List.setIfInBounds_toArray, List.set_cons_zero, List.set_cons_succ])
  refine Lw.wpAnyL_take0 (i := 4) (v := ?_) rfl (by decide) (by kernel_rfl) (by kernel_rfl) (by kernel_rfl) (fun _ _ _ h => h) (Or.inl ⟨by rfl, ?_⟩) ⟨trivial, fun _ => hS0⟩ ?_
  rotate_left
  · (intro w _; go_simp; try with_reducible rfl)
  (try simp only [Act.put, List.setIfInBounds_toArray, List.set_cons_zero, List.set_cons_succ])
  refine Lw.wpAnyL_take (i := 5) (v := ?_) rfl rfl (by kernel_rfl) (by kernel_rfl) (by kernel_rfl) (by kernel_rfl) (fun _ _ _ h => h) (Or.inl ⟨by rfl, ?_⟩) hS0 trivial ?_
  rotate_left
  · (intro w hw; obtain ⟨hw0, hw1, hw2⟩ := hw; go_simp; try with_reducible rfl)
  (try simp only [Act.put, List.setIfInBounds_toArray, List.set_cons_zero, List.set_cons_succ])
  refine Lw.wpAnyL_take0 (i := 6) (v := ?_) rfl (by decide) (by kernel_rfl) (by kernel_rfl) (by kernel_rfl) (fun _ _ _ h => h) (Or.inl ⟨by rfl, ?_⟩) ⟨trivial, fun _ => hS0⟩ ?_
  rotate_left
  · (intro w _; go_simp; try with_reducible rfl)
  (try simp only [Act.put, List.setIfInBounds_toArray, List.set_cons_zero, List.set_cons_succ])
  refine Lw.wpAnyL_take (i := 7) (v := ?_) rfl rfl (by kernel_rfl) (by kernel_rfl) (by kernel_rfl) (by kernel_rfl) (fun _ _ _ h => h) (Or.inl ⟨by rfl, ?_⟩) hS0 trivial ?_
  rotate_left
  · (intro w hw; obtain ⟨hw0, hw1, hw2⟩ := hw; go_simp; try with_reducible rfl)
  (try simp only [Act.put, List.setIfInBounds_toArray, List.set_cons_zero, List.set_cons_succ])
  refine Lw.wpAnyL_take0 (i := 8) (v := ?_) rfl (by decide) (by kernel_rfl) (by kernel_rfl) (by kernel_rfl) (fun _ _ _ h => h) (Or.inl ⟨by rfl, ?_⟩) ⟨trivial, fun _ => hS0⟩ ?_
  rotate_left
  · (intro w _; go_simp; try with_reducible rfl)
  (try simp only [Act.put, List.setIfInBounds_toArray, List.set_cons_zero, List.set_cons_succ])
  refine Lw.wpAnyL_take (i := 9) (v := ?_) rfl rfl (by kernel_rfl) (by kernel_rfl) (by kernel_rfl) (by kernel_rfl) (fun _ _ _ h => h) (Or.inl ⟨by rfl, ?_⟩) hS0 trivial ?_
  rotate_left
  · (intro w hw; obtain ⟨hw0, hw1, hw2⟩ := hw; go_simp; try with_reducible rfl)
  (try simp only [Act.put, List.setIfInBounds_toArray, List.set_cons_zero, List.set_cons_succ])
  refine Lw.wpAnyL_one (i := 10) (by kernel_rfl) rfl (fun K hK => ?_)
  go_simp
  go_at_call 68
  (refine (HG.out _ (below_drew (Below.refl _ _))).mono ?_)
  rintro e w1 ⟨A1, c1, rfl, r1, BB⟩
  have R1 := Lib.hid r1
  have BB := Lib.hid (un_drew BB)
  clear r1
  have hS1 : (fun w' : World => w'.cell? ⟨gd, i * 5 + 2, none⟩ = some (.slice A2 data.length c2) ∧ w'.cell? ⟨w.heap.size, 7, none⟩ = some (.int .i64 p) ∧ w'.cell? ⟨w.heap.size, 6, none⟩ = some (.slice A6 dat.length c6)) w1 := ⟨cellb K2.out BB.out, cellb K7.out BB.out, cellb K6.out BB.out⟩
  have p2 := cellb K2.out BB.out
  have p3 := cellb K3.out BB.out
  have zd := fun j => (BB.out.frozen (p := ⟨gd, i * 5 + j, none⟩) LT.out).trans (KZ.out j)
  refine hK.out _ _ ⟨trivial, fun _ => hS1⟩ ?_
  (try simp only [Act.put, List.setIfInBounds_toArray, List.set_cons_zero, List.set_cons_succ])
  refine Lw.wpAnyL_take0 (i := 11) (v := ?_) rfl (by decide) (by kernel_rfl) (by kernel_rfl) (by kernel_rfl) (fun _ _ _ h => h) (Or.inl ⟨by rfl, ?_⟩) ⟨trivial, fun _ => hS1⟩ ?_
  rotate_left
  · (intro w _; go_simp; try with_reducible rfl)
  (try simp only [Act.put, List.setIfInBounds_toArray, List.set_cons_zero, List.set_cons_succ])
  refine Lw.wpAnyL_take0 (i := 12) (v := ?_) rfl (by decide) (by kernel_rfl) (by kernel_rfl) (by kernel_rfl) (fun _ _ _ h => h) (Or.inl ⟨by rfl, ?_⟩) ⟨trivial, fun _ => hS1⟩ ?_
  rotate_left
  · (intro w _; go_simp; try with_reducible rfl)
  (try simp only [Act.put, List.setIfInBounds_toArray, List.set_cons_zero, List.set_cons_succ])
  refine Lw.wpAnyL_one (i := 13) (by kernel_rfl) rfl (fun K hK => ?_)
  go_simp
  refine hK.out _ _ ⟨trivial, fun h => absurd h (by simp)⟩ ?_
  (try simp only [Act.put, List.setIfInBounds_toArray, List.set_cons_zero, List.set_cons_succ])
  refine Lw.wpAnyL_take0 (i := 14) (v := ?_) rfl (by decide) (by kernel_rfl) (by kernel_rfl) (by kernel_rfl) (fun _ _ _ h => h) (Or.inl ⟨by rfl, ?_⟩) ⟨trivial, fun h => absurd h (by simp)⟩ ?_
  rotate_left
  · (intro w _; go_simp; try with_reducible rfl)
  (try simp only [Act.put, List.setIfInBounds_toArray, List.set_cons_zero, List.set_cons_succ])
  refine Lw.wpAnyL_take0 (i := 15) (v := ?_) rfl (by decide) (by kernel_rfl) (by kernel_rfl) (by kernel_rfl) (fun _ _ _ h => h) (Or.inl ⟨by rfl, ?_⟩) ⟨trivial, fun h => absurd h (by simp)⟩ ?_
  rotate_left
  · (intro w _; go_simp; try with_reducible rfl)
  (try simp only [Act.put, List.setIfInBounds_toArray, List.set_cons_zero, List.set_cons_succ])
  refine Lw.wpAnyL_one (i := 16) (by kernel_rfl) rfl (fun K hK => ?_)
  go_simp
  refine hK.out _ _ ⟨trivial, fun h => absurd h (by simp)⟩ ?_
  (try simp only [Act.put, List.setIfInBounds_toArray, List.set_cons_zero, List.set_cons_succ])
  refine Lw.wpAnyL_done (by kernel_rfl) ?_ _
  obtain ⟨W4, hW4⟩ : ∃ W4, W4 = (w1.setCell ⟨gd, i * 5 + 2, none⟩ (.slice A1 (overB data p dat).length c1)).setCell ⟨gd, i * 5 + 3, none⟩ (.int .i64 0) := ⟨_, rfl⟩
  rw [← hW4]
  have b3 := blk_far (p := ⟨gd, i * 5 + 3, none⟩) (blk_far (p := ⟨gd, i * 5 + 2, none⟩) (blk_below HO.out BB.out) (show w.heap.size + 1 ≠ gd by have := HFT.out gd hgd; omega) (.slice A1 (overB data p dat).length c1)) (show w.heap.size + 1 ≠ gd by have := HFT.out gd hgd; omega) (.int .i64 0)
  rw [← hW4] at b3
  have H4 := Lib.hid hW4
  clear hW4
  have q0 := blk_cell b3 0
  have q1 := blk_cell b3 1
  have q2 := blk_cell b3 2
  have q3 := blk_cell b3 3
  have q4 := blk_cell b3 4
  have q5 := blk_cell b3 5
  have zq := blk_frozen b3
  simp at q0 q1 q2 q3 q4 q5
  have n1 : ¬ (g = w.heap.size + 1) := by have := HFT.out g hfg; omega
  have n3 : ¬ (w.heap.size + 1 = g) := by omega
  have n2 : ¬ (gd = w.heap.size + 1) := by have := HFT.out gd hgd; omega
  have n4 : ¬ (w.heap.size + 1 = gd) := by omega
  have n5 : ¬ (g = w.heap.size) := by have := HFT.out g hfg; omega
  have n6 : ¬ (gd = w.heap.size) := by have := HFT.out gd hgd; omega
  have n7 : ¬ (w.heap.size = g) := by omega
  have n8 : ¬ (w.heap.size = gd) := by omega
  have n9 := N9.out
  have n10 : ¬ (gd = g) := fun e => n9 e.symm
  have h1 : W4.cell? ⟨g, 1, none⟩ = some (.int .i64 po) := (by rw [H4.out]; exact (World.cell?_setCell_far _ _ _ _ n10).trans ((World.cell?_setCell_far _ _ _ _ n10).trans (cellb H1.out BB.out)))
  have k6 : W4.cell? ⟨w.heap.size, 6, none⟩ = some (.slice A6 dat.length c6) := (by rw [H4.out]; exact (World.cell?_setCell_far _ _ _ _ n6).trans ((World.cell?_setCell_far _ _ _ _ n6).trans (cellb K6.out BB.out)))
  have k7 : W4.cell? ⟨w.heap.size, 7, none⟩ = some (.int .i64 p) := (by rw [H4.out]; exact (World.cell?_setCell_far _ _ _ _ n6).trans ((World.cell?_setCell_far _ _ _ _ n6).trans (cellb K7.out BB.out)))
  have HG4 := Lib.hid (show W4.heap[g]? = some (.cells (shcs ⟨(i : Int), po, li, false, false⟩) 49 (0, 0)) by rw [H4.out]; exact blk_far (p := ⟨gd, _, none⟩) (blk_far (p := ⟨gd, _, none⟩) (blk_below HGH.out BB.out) n9 _) n9 _)
  have zg := blk_frozen HG4.out
  go_wp2_with fail
  have hX2 := HX.out
  have hA2 := HA.out
  try simp only [if_true, if_false, Bool.false_eq_true, reduceIte] at hX2 hA2
  rw [hX2, hA2]
  have hfar : ¬ ft (w.heap.size + 1) := fun hk => absurd (HFT.out _ hk) (by omega)
  have hM2 : Moves ft w W4 := by rw [H4.out]; exact Moves.setCell (p := ⟨gd, _, none⟩) (Moves.setCell (p := ⟨gd, _, none⟩) (Moves.of_below (below_then HB.out HB.out.size BB.out) ft) (.inl hgd) _) (.inl hgd) _
  have bw : base ≤ W2.heap.size := by have b1 := Kd.R_base HM2.out.rD gd (by rw [HV.out]; rfl); have b2 := HFT.out gd hgd; have b3 := HS2.out; omega
  have r1 : (Kd.int .u8).R 5 w1 base (fun _ => True) (.slice A1 (overB data p dat).length c1) (overB data p dat) := Kd.R_lower R1.out bw
  have hv2 : vD = .slice (some ⟨gd, 0, none⟩) X.nodes.length cap := by rw [HV.out, HLN.out]
  have hil2 : i < X.nodes.length := by rw [HLN.out]; omega
  have EA := IsMem.nset2 (IsMem.below HM2.out BB.out) hv2 i hil2 _ _ r1
  have EB := IsMem.nset3 EA (gd := gd) (cap := cap) (by rw [hv2]; show Value.slice _ _ _ = Value.slice _ (X.nodes.set i _).length _; rw [List.length_set]) i (by show i < (X.nodes.set i _).length; rw [List.length_set]; exact hil2) 0
  rw [← H4.out, nX_twice X i hil2, HNO.out] at EB
  have EC := IsMem.hsetX EB hkl HF.out HG4.out 1 (.int .i64 ((p : Int) + (dat.length : Int))) (h' := ⟨(i : Int), ((p : Int) + (dat.length : Int)), li, false, false⟩) rfl
  have E1 : IsMem (W4.setCell ⟨g, 1, none⟩ (.int .i64 ((p : Int) + (dat.length : Int)))) base (fun k => ft k ∨ some k = (Value.slice A1 (overB data p dat).length c1).ownBlock) m vN vA vD mb n f (hX (nX X i ⟨dir, mode, overB data p dat, 0, name⟩) kl ⟨(i : Int), ((p : Int) + (dat.length : Int)), li, false, false⟩) := EC
  have hd4 : W2.drew.heap.size = W2.heap.size := rfl
  have hfar : ¬ (ft (w.heap.size + 1) ∨ some (w.heap.size + 1) = (Value.slice A1 (overB data p dat).length c1).ownBlock) := fun hk => hk.elim (fun hk => absurd (HFT.out _ hk) (by omega)) (fun h => by have b1 := Kd.R_base R1.out _ h.symm; have b2 := HS2.out; omega)
  have hsz4 : W4.heap.size = w1.heap.size := by rw [H4.out]; simp [World.setCell]
  have hlast : ∀ k, (ft k ∨ some k = (Value.slice A1 (overB data p dat).length c1).ownBlock) → k < w1.heap.size := fun k hk => hk.elim (fun hk => by have := HFT.out k hk; have := HS2.out; have := BB.out.size; omega) (fun h => Kd.R_lt R1.out k h.symm)
  refine bodyPost_ret (v := .agg #[.int .i64 0, .int .i64 dat.length, .int .i64 0, .slice none 0 0, .slice none 0 0, .slice none 0 0]) (by simp [results, Tryd.results34, go_sem, n1, n2, n3, n4, q0, q1, q2, q3, q4, q5]) rfl ?_
  refine ⟨_, _, _, vD, (fun k => ft k ∨ some k = (Value.slice A1 (overB data p dat).length c1).ownBlock), rfl, Kd.R_nil _ _ _ _ _, Kd.R_nil _ _ _ _ _, Kd.R_nil _ _ _ _ _, ?_, ?_, fun k hk => hk.elim .inl (fun h => .inr (by have b1 := Kd.R_base R1.out k h.symm; have b2 := HS2.out; show _ ≤ k; omega)), fun k hk => ?_⟩
  · repeat (first | with_reducible exact E1 | with_reducible refine IsMem.far (p := ⟨w.heap.size + 1, _, none⟩) ?_ hfar _)
  · repeat (first | with_reducible exact hM2 | with_reducible refine Moves.setCell (p := ⟨g, _, none⟩) ?_ (.inl hfg) _ | with_reducible refine Moves.setCell (p := ⟨gd, _, none⟩) ?_ (.inl hgd) _ | with_reducible refine Moves.setCell (p := ⟨w.heap.size + 1, _, none⟩) ?_ (.inr (Nat.le_succ _)) _)
  · exact Nat.lt_of_lt_of_eq (hlast k hk) (hsz4.symm.trans (by simp [World.setCell]))
end
end Go.Proofs.YtljcdjggjphedaaDoor.Mz
namespace Go.Proofs.YtljcdjggjphedaaDoor.Mb
open Go.RowKit Go.Maps Go.Proofs.YtljcdjggjphedaaDoorW.PrintWords Go.Proofs.YtljcdjggjphedaaDoorW.PrintLast Go.Proofs.YtljcdjggjphedaaDoorW.PrintMore Go.Proofs.YtljcdjggjphedaaDoor.PFnHandleScript Go.Proofs.YtljcdjggjphedaaDoor.Hd Go.Proofs.YtljcdjggjphedaaDoor.Ms Go.Proofs.YtljcdjggjphedaaDoor.Mn Go.Proofs.YtljcdjggjphedaaDoor.Pm Go.Proofs.YtljcdjggjphedaaDoor.Mf Go.Proofs.YtljcdjggjphedaaDoor.Mq Go.Proofs.YtljcdjggjphedaaDoor.Bq Go.Proofs.YtljcdjggjphedaaDoor.Mr Go.Proofs.YtljcdjggjphedaaDoor.Mt Go.Proofs.YtljcdjggjphedaaDoor.Mu Go.Proofs.YtljcdjggjphedaaDoor.Mv Go.Proofs.YtljcdjggjphedaaDoor.Ml Go.Proofs.YtljcdjggjphedaaDoor.Mw Go.Proofs.YtljcdjggjphedaaDoor.Mx Go.Proofs.YtljcdjggjphedaaDoor.My Go.Proofs.YtljcdjggjphedaaDoor.My2 Go.Proofs.YtljcdjggjphedaaDoor.Mz
set_option linter.unusedVariables false
set_option linter.unusedSimpArgs false
section
variable {w : World} {base : Nat} {ft : Nat → Prop} {m : Nat} {vN vA vD : Value} {mb n : Nat} {f : Lit → Option Nat} {X : SMem}
open Go.Proofs.YtljcdjggjphedaaDoor.My2
theorem hX_same (X : SMem) (kl : Lit) (h : SHnd) (e : X.hs kl = some h) : hX X kl h = X := by
  have : upS X.hs kl h = X.hs := by
    funext x
    unfold upS
    split
    · rename_i e2; rw [e2, e]
    · rfl
  unfold hX
  rw [this]
def seekP (h : SHnd) (x : S42) (s : S26) : Int := if s.f8 = 0 then s.f7 else if s.f8 = 1 then h.pos + s.f7 else if s.f8 = 2 then (x.f2.length : Int) + s.f7 else h.pos
/-- What a step on an open file that is no directory does: the handle, the node, the answer. -/
def fstep (h : SHnd) (x : S42) (s : S26) : (SHnd × S42) × S33 :=
  if s.f0 = 18 then (({ h with closed := true }, { x with f3 := if h.ro then x.f3 else 0 }), ans 0 0 0 [])
  else if s.f0 = 21 then ((h, x), ⟨0, 0, 0, [], [], [memInfo x]⟩)
  else if s.f0 = 22 then ((h, x), ⟨0, 0, 0, [], [x.f4], []⟩)
  else if s.f0 = 23 then ((h, x), ans 0 0 0 [])
  else if s.f0 = 19 ∨ s.f0 = 20 then ((h, x), ans 8 0 0 [])
  else if h.closed = true then ((h, x), ans 3 0 0 [])
  else if s.f0 = 12 then (({ h with pos := h.pos + ((rdD false x.f2 h.pos.toNat s.f9.toNat).length : Int) }, x), ans (rdE false x.f2.length h.pos.toNat s.f9.toNat) 0 0 (rdD false x.f2 h.pos.toNat s.f9.toNat))
  else if s.f0 = 13 then ((h, x), ans (rdE false x.f2.length s.f7.toNat s.f9.toNat) 0 0 (rdD false x.f2 s.f7.toNat s.f9.toNat))
  else if s.f0 = 16 then (({ h with pos := seekP h x s }, x), ans 0 0 (seekP h x s) [])
  else if h.ro = true then ((if s.f0 = 15 then { h with pos := s.f7 } else h, x), ans 6 0 0 [])
  else if s.f0 = 17 then (if s.f7 < 0 then ((h, x), ans 7 0 0 []) else ((h, { x with f2 := fillTo (x.f2.take (min x.f2.length s.f7.toNat)) s.f7, f3 := 0 }), ans 0 0 0 []))
  else if s.f0 = 14 then (({ h with pos := h.pos + (s.f6.length : Int) }, { x with f2 := overB x.f2 h.pos.toNat s.f6, f3 := 0 }), ans 0 (s.f6.length : Int) 0 [])
  else (({ h with pos := s.f7 + (s.f6.length : Int) }, { x with f2 := overB x.f2 s.f7.toNat s.f6, f3 := 0 }), ans 0 (s.f6.length : Int) 0 [])
/-- The bounds that are kept. -/
structure HFine (h : SHnd) (x : S42) : Prop where
  dir : x.f0 = false
  len : x.f2.length ≤ 10000
  nm : x.f4.size ≤ 10000
  p0 : -4398046511104 ≤ h.pos
  p1 : h.pos ≤ 4398046511104
theorem op_cases (k : Int) (h0 : 12 ≤ k) (h1 : k ≤ 23) : k = 12 ∨ k = 13 ∨ k = 14 ∨ k = 15 ∨ k = 16 ∨ k = 17 ∨ k = 18 ∨ k = 19 ∨ k = 20 ∨ k = 21 ∨ k = 22 ∨ k = 23 := by omega
theorem spk_open {X : SMem} {h : SHnd} {s : S26} (hs : spkFile X h s = true) (h0 : 12 ≤ s.f0) (h1 : s.f0 ≤ 17) : s.f6.length ≤ 4096 ∧ 0 ≤ s.f9 ∧ s.f9 ≤ 4096 ∧ s.f7 ≤ 1099511627776 ∧ -1099511627776 ≤ s.f7 ∧ spkKind h s = true := by
  unfold spkFile at hs
  rw [if_neg (by omega), if_neg (by omega)] at hs
  by_cases hb : spkBad (nodeOf X h.node).f0 s = true
  · rw [if_pos hb] at hs
    exact absurd hs (by simp)
  · rw [if_neg hb] at hs
    unfold spkBad at hb
    simp at hb
    refine ⟨?_, ?_, ?_, ?_, ?_, hs⟩ <;> omega
set_option maxHeartbeats 1000000 in
theorem file_any (M : IsMem w base ft m vN vA vD mb n f X) (hft : ∀ k, ft k → k < w.heap.size) (kl : Lit) (hkl : WideAt.IsKeyLit kl) (g : Nat) (h : SHnd) (hf : f kl = some g) (hg : w.heap[g]? = some (.cells (shcs h) 49 (0, 0))) (hfg : ft g) (i : Nat) (hi : h.node = i) (hil : i < X.nodes.length) (hL : X.nodes.length ≤ 100000) (s : S26) (A6 : Option Addr) (c6 : Nat) (hl6 : s.f6.length ≤ c6) (hC6 : (Kd.int .u8).C w A6 s.f6.length s.f6) (h0 : 12 ≤ s.f0) (h1 : s.f0 ≤ 23) (hx : X.hs kl = some h) (F : HFine h (nodeOf X i)) (hsp : spkFile X h s = true) :
    Calls Tryd.prog 34 #[.pointer (some ⟨m, 0, none⟩), .pointer (some ⟨g, 0, none⟩), stepA s A6 c6] w (FilePost w base ft m vN vA mb n f (nX (hX X kl (fstep h (nodeOf X i) s).1.1) i (fstep h (nodeOf X i) s).1.2) (fstep h (nodeOf X i) s).2) := by
  have hsame := hX_same X kl h hx
  have nsame := nX_same X i hil
  have nsame2 : ∀ h', nX (hX X kl h') i (nodeOf X i) = hX X kl h' := fun h' => nX_same (hX X kl h') i hil
  have d0 := F.dir
  have d1 := F.len
  have d2 := F.nm
  have d3 := F.p0
  have d4 := F.p1
  rcases op_cases s.f0 h0 h1 with e | e | e | e | e | e | e | e | e | e | e | e
  · obtain ⟨b0, b1, b2, b3, b4, b5⟩ := spk_open hsp (by omega) (by omega)
    unfold spkKind at b5
    simp [e] at b5
    cases hc : h.closed with
    | true =>
      rw [show fstep h (nodeOf X i) s = ((h, nodeOf X i), ans 3 0 0 []) by unfold fstep; rw [if_neg (by omega)]; rw [if_neg (by omega)]; rw [if_neg (by omega)]; rw [if_neg (by omega)]; rw [if_neg (by omega)]; rw [if_pos hc]]
      simp only [hsame, nsame]
      exact file_closed12 M hft kl hkl g h hf hg hfg i hi hil hL s A6 c6 hl6 hC6 e hc
    | false =>
      rw [hc] at b5
      simp at b5
      rw [show fstep h (nodeOf X i) s = (({ h with pos := h.pos + ((rdD false (nodeOf X i).f2 h.pos.toNat s.f9.toNat).length : Int) }, nodeOf X i), ans (rdE false (nodeOf X i).f2.length h.pos.toNat s.f9.toNat) 0 0 (rdD false (nodeOf X i).f2 h.pos.toNat s.f9.toNat)) by unfold fstep; rw [if_neg (by omega)]; rw [if_neg (by omega)]; rw [if_neg (by omega)]; rw [if_neg (by omega)]; rw [if_neg (by omega)]; rw [if_neg (by rw [hc]; decide)]; rw [if_pos e]]
      simp only [nsame2]
      exact file_read12 M hft kl hkl g h hf hg hfg i hi hil hL s A6 c6 hl6 hC6 e hc b5 (by omega) b1 b2 (by omega)
  · obtain ⟨b0, b1, b2, b3, b4, b5⟩ := spk_open hsp (by omega) (by omega)
    unfold spkKind at b5
    simp [e] at b5
    cases hc : h.closed with
    | true =>
      rw [show fstep h (nodeOf X i) s = ((h, nodeOf X i), ans 3 0 0 []) by unfold fstep; rw [if_neg (by omega)]; rw [if_neg (by omega)]; rw [if_neg (by omega)]; rw [if_neg (by omega)]; rw [if_neg (by omega)]; rw [if_pos hc]]
      simp only [hsame, nsame]
      exact file_closed13 M hft kl hkl g h hf hg hfg i hi hil hL s A6 c6 hl6 hC6 e hc
    | false =>
      rw [show fstep h (nodeOf X i) s = ((h, nodeOf X i), ans (rdE false (nodeOf X i).f2.length s.f7.toNat s.f9.toNat) 0 0 (rdD false (nodeOf X i).f2 s.f7.toNat s.f9.toNat)) by unfold fstep; rw [if_neg (by omega)]; rw [if_neg (by omega)]; rw [if_neg (by omega)]; rw [if_neg (by omega)]; rw [if_neg (by omega)]; rw [if_neg (by rw [hc]; decide)]; rw [if_neg (by omega)]; rw [if_pos e]]
      simp only [hsame, nsame]
      exact file_read13 M hft kl hkl g h hf hg hfg i hi hil hL s A6 c6 hl6 hC6 e hc b5 (by omega) b1 b2 (by omega)
  · obtain ⟨b0, b1, b2, b3, b4, b5⟩ := spk_open hsp (by omega) (by omega)
    unfold spkKind at b5
    simp [e] at b5
    cases hc : h.closed with
    | true =>
      rw [show fstep h (nodeOf X i) s = ((h, nodeOf X i), ans 3 0 0 []) by unfold fstep; rw [if_neg (by omega)]; rw [if_neg (by omega)]; rw [if_neg (by omega)]; rw [if_neg (by omega)]; rw [if_neg (by omega)]; rw [if_pos hc]]
      simp only [hsame, nsame]
      exact file_closed14 M hft kl hkl g h hf hg hfg i hi hil hL s A6 c6 hl6 hC6 e hc
    | false =>
      cases hr : h.ro with
      | true =>
        rw [show fstep h (nodeOf X i) s = ((h, nodeOf X i), ans 6 0 0 []) by unfold fstep; rw [if_neg (by omega)]; rw [if_neg (by omega)]; rw [if_neg (by omega)]; rw [if_neg (by omega)]; rw [if_neg (by omega)]; rw [if_neg (by rw [hc]; decide)]; rw [if_neg (by omega)]; rw [if_neg (by omega)]; rw [if_neg (by omega)]; rw [if_pos hr, if_neg (by omega)]]
        simp only [hsame, nsame]
        exact file_ro14 M hft kl hkl g h hf hg hfg i hi hil hL s A6 c6 hl6 hC6 e hc hr
      | false =>
        rw [show fstep h (nodeOf X i) s = (({ h with pos := h.pos + (s.f6.length : Int) }, { nodeOf X i with f2 := overB (nodeOf X i).f2 h.pos.toNat s.f6, f3 := 0 }), ans 0 (s.f6.length : Int) 0 []) by unfold fstep; rw [if_neg (by omega)]; rw [if_neg (by omega)]; rw [if_neg (by omega)]; rw [if_neg (by omega)]; rw [if_neg (by omega)]; rw [if_neg (by rw [hc]; decide)]; rw [if_neg (by omega)]; rw [if_neg (by omega)]; rw [if_neg (by omega)]; rw [if_neg (by rw [hr]; decide)]; rw [if_neg (by omega), if_pos e]]
        show Calls _ _ _ _ (FilePost _ _ _ _ _ _ _ _ _ (hX (nX X i _) kl _) _)
        exact file_write14 M hft kl hkl g h hf hg hfg i hi hil hL s A6 c6 hl6 hC6 e hc hr b5.1 (by omega) (by omega) (by omega)
  · obtain ⟨b0, b1, b2, b3, b4, b5⟩ := spk_open hsp (by omega) (by omega)
    unfold spkKind at b5
    simp [e] at b5
    cases hc : h.closed with
    | true =>
      rw [show fstep h (nodeOf X i) s = ((h, nodeOf X i), ans 3 0 0 []) by unfold fstep; rw [if_neg (by omega)]; rw [if_neg (by omega)]; rw [if_neg (by omega)]; rw [if_neg (by omega)]; rw [if_neg (by omega)]; rw [if_pos hc]]
      simp only [hsame, nsame]
      exact file_closed15 M hft kl hkl g h hf hg hfg i hi hil hL s A6 c6 hl6 hC6 e hc
    | false =>
      cases hr : h.ro with
      | true =>
        rw [show fstep h (nodeOf X i) s = (({ h with pos := s.f7 }, nodeOf X i), ans 6 0 0 []) by unfold fstep; rw [if_neg (by omega)]; rw [if_neg (by omega)]; rw [if_neg (by omega)]; rw [if_neg (by omega)]; rw [if_neg (by omega)]; rw [if_neg (by rw [hc]; decide)]; rw [if_neg (by omega)]; rw [if_neg (by omega)]; rw [if_neg (by omega)]; rw [if_pos hr, if_pos e]]
        simp only [nsame2]
        exact file_ro15 M hft kl hkl g h hf hg hfg i hi hil hL s A6 c6 hl6 hC6 e hc hr
      | false =>
        rw [show fstep h (nodeOf X i) s = (({ h with pos := s.f7 + (s.f6.length : Int) }, { nodeOf X i with f2 := overB (nodeOf X i).f2 s.f7.toNat s.f6, f3 := 0 }), ans 0 (s.f6.length : Int) 0 []) by unfold fstep; rw [if_neg (by omega)]; rw [if_neg (by omega)]; rw [if_neg (by omega)]; rw [if_neg (by omega)]; rw [if_neg (by omega)]; rw [if_neg (by rw [hc]; decide)]; rw [if_neg (by omega)]; rw [if_neg (by omega)]; rw [if_neg (by omega)]; rw [if_neg (by rw [hr]; decide)]; rw [if_neg (by omega), if_neg (by omega)]]
        show Calls _ _ _ _ (FilePost _ _ _ _ _ _ _ _ _ (hX (nX X i _) kl _) _)
        exact file_write15 M hft kl hkl g h hf hg hfg i hi hil hL s A6 c6 hl6 hC6 e hc hr b5.1 (by omega) (by omega) (by omega)
  · obtain ⟨b0, b1, b2, b3, b4, b5⟩ := spk_open hsp (by omega) (by omega)
    unfold spkKind at b5
    simp [e] at b5
    cases hc : h.closed with
    | true =>
      rw [show fstep h (nodeOf X i) s = ((h, nodeOf X i), ans 3 0 0 []) by unfold fstep; rw [if_neg (by omega)]; rw [if_neg (by omega)]; rw [if_neg (by omega)]; rw [if_neg (by omega)]; rw [if_neg (by omega)]; rw [if_pos hc]]
      simp only [hsame, nsame]
      exact file_closed16 M hft kl hkl g h hf hg hfg i hi hil hL s A6 c6 hl6 hC6 e hc
    | false =>
      rw [show fstep h (nodeOf X i) s = (({ h with pos := seekP h (nodeOf X i) s }, nodeOf X i), ans 0 0 (seekP h (nodeOf X i) s) []) by unfold fstep; rw [if_neg (by omega)]; rw [if_neg (by omega)]; rw [if_neg (by omega)]; rw [if_neg (by omega)]; rw [if_neg (by omega)]; rw [if_neg (by rw [hc]; decide)]; rw [if_neg (by omega)]; rw [if_neg (by omega)]; rw [if_pos e]]
      simp only [nsame2]
      by_cases w0 : s.f8 = 0
      · rw [show seekP h (nodeOf X i) s = s.f7 by unfold seekP; rw [if_pos w0]]
        exact file_seek0 M hft kl hkl g h hf hg hfg i hi hil hL s A6 c6 hl6 hC6 e hc w0
      · by_cases w1 : s.f8 = 1
        · rw [show seekP h (nodeOf X i) s = h.pos + s.f7 by unfold seekP; rw [if_neg w0, if_pos w1]]
          exact file_seek1 M hft kl hkl g h hf hg hfg i hi hil hL s A6 c6 hl6 hC6 e hc w1 (by omega) (by omega) b4 b3
        · by_cases w2 : s.f8 = 2
          · rw [show seekP h (nodeOf X i) s = ((nodeOf X i).f2.length : Int) + s.f7 by unfold seekP; rw [if_neg w0, if_neg w1, if_pos w2]]
            exact file_seek2 M hft kl hkl g h hf hg hfg i hi hil hL s A6 c6 hl6 hC6 e hc w2 (by omega) b4 b3
          · rw [show seekP h (nodeOf X i) s = h.pos by unfold seekP; rw [if_neg w0, if_neg w1, if_neg w2]]
            have e9 : ({ h with pos := h.pos } : SHnd) = h := rfl
            rw [e9, hsame]
            exact file_seekx M hft kl hkl g h hf hg hfg i hi hil hL s A6 c6 hl6 hC6 e hc w0 w1 w2
  · obtain ⟨b0, b1, b2, b3, b4, b5⟩ := spk_open hsp (by omega) (by omega)
    unfold spkKind at b5
    simp [e] at b5
    cases hc : h.closed with
    | true =>
      rw [show fstep h (nodeOf X i) s = ((h, nodeOf X i), ans 3 0 0 []) by unfold fstep; rw [if_neg (by omega)]; rw [if_neg (by omega)]; rw [if_neg (by omega)]; rw [if_neg (by omega)]; rw [if_neg (by omega)]; rw [if_pos hc]]
      simp only [hsame, nsame]
      exact file_closed17 M hft kl hkl g h hf hg hfg i hi hil hL s A6 c6 hl6 hC6 e hc
    | false =>
      cases hr : h.ro with
      | true =>
        rw [show fstep h (nodeOf X i) s = ((h, nodeOf X i), ans 6 0 0 []) by unfold fstep; rw [if_neg (by omega)]; rw [if_neg (by omega)]; rw [if_neg (by omega)]; rw [if_neg (by omega)]; rw [if_neg (by omega)]; rw [if_neg (by rw [hc]; decide)]; rw [if_neg (by omega)]; rw [if_neg (by omega)]; rw [if_neg (by omega)]; rw [if_pos hr, if_neg (by omega)]]
        simp only [hsame, nsame]
        exact file_ro17 M hft kl hkl g h hf hg hfg i hi hil hL s A6 c6 hl6 hC6 e hc hr
      | false =>
        by_cases w0 : s.f7 < 0
        · rw [show fstep h (nodeOf X i) s = ((h, nodeOf X i), ans 7 0 0 []) by unfold fstep; rw [if_neg (by omega)]; rw [if_neg (by omega)]; rw [if_neg (by omega)]; rw [if_neg (by omega)]; rw [if_neg (by omega)]; rw [if_neg (by rw [hc]; decide)]; rw [if_neg (by omega)]; rw [if_neg (by omega)]; rw [if_neg (by omega)]; rw [if_neg (by rw [hr]; decide)]; rw [if_pos e, if_pos w0]]
          simp only [hsame, nsame]
          exact file_neg17 M hft kl hkl g h hf hg hfg i hi hil hL s A6 c6 hl6 hC6 e hc hr w0
        · rw [show fstep h (nodeOf X i) s = ((h, { nodeOf X i with f2 := fillTo ((nodeOf X i).f2.take (min (nodeOf X i).f2.length s.f7.toNat)) s.f7, f3 := 0 }), ans 0 0 0 []) by unfold fstep; rw [if_neg (by omega)]; rw [if_neg (by omega)]; rw [if_neg (by omega)]; rw [if_neg (by omega)]; rw [if_neg (by omega)]; rw [if_neg (by rw [hc]; decide)]; rw [if_neg (by omega)]; rw [if_neg (by omega)]; rw [if_neg (by omega)]; rw [if_neg (by rw [hr]; decide)]; rw [if_pos e, if_neg w0]]
          simp only [hsame]
          exact file_trunc M hft kl hkl g h hf hg hfg i hi hil hL s A6 c6 hl6 hC6 e hc hr (by omega) (by omega) (by omega)
  · rw [show fstep h (nodeOf X i) s = (({ h with closed := true }, { nodeOf X i with f3 := if h.ro then (nodeOf X i).f3 else 0 }), ans 0 0 0 []) by unfold fstep; rw [if_pos e]]
    exact file_close M hft kl hkl g h hf hg hfg i hi hil hL s A6 c6 hl6 hC6 e
  · rw [show fstep h (nodeOf X i) s = ((h, nodeOf X i), ans 8 0 0 []) by unfold fstep; rw [if_neg (by omega)]; rw [if_neg (by omega)]; rw [if_neg (by omega)]; rw [if_neg (by omega)]; rw [if_pos (by omega)]]
    simp only [hsame, nsame]
    exact file_list19 M hft kl hkl g h hf hg hfg i hi hil hL s A6 c6 hl6 hC6 e d0
  · rw [show fstep h (nodeOf X i) s = ((h, nodeOf X i), ans 8 0 0 []) by unfold fstep; rw [if_neg (by omega)]; rw [if_neg (by omega)]; rw [if_neg (by omega)]; rw [if_neg (by omega)]; rw [if_pos (by omega)]]
    simp only [hsame, nsame]
    exact file_list20 M hft kl hkl g h hf hg hfg i hi hil hL s A6 c6 hl6 hC6 e d0
  · rw [show fstep h (nodeOf X i) s = ((h, nodeOf X i), ⟨0, 0, 0, [], [], [memInfo (nodeOf X i)]⟩) by unfold fstep; rw [if_neg (by omega)]; rw [if_pos e]]
    simp only [hsame, nsame]
    exact file_stat M hft kl hkl g h hf hg hfg i hi hil hL s A6 c6 hl6 hC6 e (by omega) (by omega)
  · rw [show fstep h (nodeOf X i) s = ((h, nodeOf X i), ⟨0, 0, 0, [], [(nodeOf X i).f4], []⟩) by unfold fstep; rw [if_neg (by omega)]; rw [if_neg (by omega)]; rw [if_pos e]]
    simp only [hsame, nsame]
    exact file_name M hft kl hkl g h hf hg hfg i hi hil hL s A6 c6 hl6 hC6 e
  · rw [show fstep h (nodeOf X i) s = ((h, nodeOf X i), ans 0 0 0 []) by unfold fstep; rw [if_neg (by omega)]; rw [if_neg (by omega)]; rw [if_neg (by omega)]; rw [if_pos e]]
    simp only [hsame, nsame]
    exact file_sync M hft kl hkl g h hf hg hfg i hi hil hL s A6 c6 hl6 hC6 e
end
end Go.Proofs.YtljcdjggjphedaaDoor.Mb
namespace Go.Proofs.YtljcdjggjphedaaDoor.Mo
open Go.RowKit Go.Maps Go.Proofs.YtljcdjggjphedaaDoorW.PrintWords Go.Proofs.YtljcdjggjphedaaDoorW.PrintLast Go.Proofs.YtljcdjggjphedaaDoorW.PrintMore Go.Proofs.YtljcdjggjphedaaDoor.PFnHandleScript Go.Proofs.YtljcdjggjphedaaDoor.Hd Go.Proofs.YtljcdjggjphedaaDoor.Ms Go.Proofs.YtljcdjggjphedaaDoor.Mn Go.Proofs.YtljcdjggjphedaaDoor.Pm Go.Proofs.YtljcdjggjphedaaDoor.Mf Go.Proofs.YtljcdjggjphedaaDoor.Mq Go.Proofs.YtljcdjggjphedaaDoor.Bq Go.Proofs.YtljcdjggjphedaaDoor.Mr Go.Proofs.YtljcdjggjphedaaDoor.Mt Go.Proofs.YtljcdjggjphedaaDoor.Mu Go.Proofs.YtljcdjggjphedaaDoor.Mv Go.Proofs.YtljcdjggjphedaaDoor.Ml Go.Proofs.YtljcdjggjphedaaDoor.Mw Go.Proofs.YtljcdjggjphedaaDoor.Mx Go.Proofs.YtljcdjggjphedaaDoor.My Go.Proofs.YtljcdjggjphedaaDoor.My2 Go.Proofs.YtljcdjggjphedaaDoor.Mz Go.Proofs.YtljcdjggjphedaaDoor.Mb
set_option linter.unusedVariables false
set_option linter.unusedSimpArgs false
section
variable {w : World} {base : Nat} {ft : Nat → Prop} {m : Nat} {vN vA vD : Value} {mb n : Nat} {f : Lit → Option Nat} {X : SMem}
theorem row_u {α : Type} (d : Kd α) {e : Nat} (hE : d.E = []) {w1 w' : World} {b0 b1 : Nat} {ok : Nat → Prop} {v : Value} {l : List α} (h : d.R e w1 b1 ok v l) (hb : b0 ≤ b1) (hh : ∀ k, b1 ≤ k → w'.heap[k]? = w1.heap[k]?) : d.R e w' b0 ok v l := by
  have h2 := Kd.R_base h
  exact Kd.R_lower (Kd.R_mono (Kd.R_step (w1 := w') (Kd.R_tight hE h) (fun k hk _ => hh k (h2 k hk.symm))) (fun k hk => h.1 k hk.symm)) hb
set_option maxHeartbeats 4000000 in
set_option maxRecDepth 100000 in
theorem do_file (s : S26) (kk : Int) (hkk : (Lit.int .i64 s.f5).wf = true) (M : IsMem w base ft m vN vA vD mb n f X) (hft : ∀ k, ft k → k < w.heap.size) (g : Nat) (h : SHnd) (hf : f (keyI s.f5) = some g) (hg : w.heap[g]? = some (.cells (shcs h) 49 (0, 0))) (hfg : ft g) (i : Nat) (hi : h.node = i) (hil : i < X.nodes.length) (hL : X.nodes.length ≤ 100000) (A6 : Option Addr) (c6 : Nat) (hl6 : s.f6.length ≤ c6) (hC6 : (Kd.int .u8).C w A6 s.f6.length s.f6) (h0 : 12 ≤ s.f0) (h1 : s.f0 ≤ 23) (hx : X.hs (keyI s.f5) = some h) (F : HFine h (nodeOf X i)) (hsp : spkFile X h s = true) :
    Calls Tryd.prog 16 #[.pointer (some ⟨m, 0, none⟩), .int .i64 kk, stepA s A6 c6] w (FilePost w base ft m vN vA mb n f (nX (hX X (keyI s.f5) (fstep h (nodeOf X i) s).1.1) i (fstep h (nodeOf X i) s).1.2) (fstep h (nodeOf X i) s).2) := by
  have HLK := Lib.hid (fun W (hb : Below w.heap.size w W) => look_any (M.below hb) s.f5 hkk)
  have HFI := Lib.hid (fun W (hb : Below w.heap.size w W) => file_any (M.below hb) (fun k hk => Nat.lt_of_lt_of_le (hft k hk) hb.size) (keyI s.f5) trivial g h hf (blk_below hg hb) hfg i hi hil hL s A6 c6 hl6 (Kd.C_below hC6 hb) h0 h1 hx F hsp)
  rw [hf] at HLK
  have c3 := M.c3
  have HFT := Lib.hid hft
  generalize nX (hX X (keyI s.f5) (fstep h (nodeOf X i) s).1.1) i (fstep h (nodeOf X i) s).1.2 = X' at *
  generalize (fstep h (nodeOf X i) s).2 = a' at *
  clear hft M hf hg hx F hsp hC6 hi
  obtain ⟨op, nm, ot, fl, pe, hh, dat, off, wh, N⟩ := s
  unfold stepA at *
  simp only [ptrV] at *
  try simp only at h0 h1
  have o1 : 0 ≤ op := by omega
  have o2 : ¬ (op ≤ 2) := by omega
  have o3 : 3 ≤ op := by omega
  have o4 : ¬ (op ≤ 11) := by omega
  have o5 : ¬ (op < 12) := by omega
  have o6 : ¬ (23 < op) := by omega
  go_enter Tryd.func16, Tryd.ntmps16
  go_wp2_with fail
  obtain ⟨W1, hW1⟩ : ∃ W1, W1 = (w.alloc (.cells #[.int .i64 op, .string nm, .string ot, .int .i64 fl, .int .i64 pe, .int .i64 hh, .slice A6 dat.length c6, .int .i64 off, .int .i64 wh, .int .i64 N] 26)).alloc (.cells #[.int .i64 0, .int .i64 0, .int .i64 0, .slice none 0 0, .slice none 0 0, .slice none 0 0] 33) := ⟨_, rfl⟩
  rw [← hW1]
  have BW : Below w.heap.size w W1 := by rw [hW1]; exact below_alloc (below_alloc (Below.refl _ _) _) _
  have b1 : W1.heap[w.heap.size]? = some (.cells #[.int .i64 op, .string nm, .string ot, .int .i64 fl, .int .i64 pe, .int .i64 hh, .slice A6 dat.length c6, .int .i64 off, .int .i64 wh, .int .i64 N] 26 (0, 0)) := by rw [hW1]; exact blk_alloc (blk_new _ _) _
  have b2 : W1.heap[w.heap.size + 1]? = some (.cells #[.int .i64 0, .int .i64 0, .int .i64 0, .slice none 0 0, .slice none 0 0, .slice none 0 0] 33 (0, 0)) := by rw [hW1]; exact blk_at_ (by simp)
  have hsz2 : W1.heap.size = w.heap.size + 2 := by rw [hW1]; simp
  have k0 := blk_cell b1 0
  have k1 := blk_cell b1 1
  have k2 := blk_cell b1 2
  have k3 := blk_cell b1 3
  have k4 := blk_cell b1 4
  have k5 := blk_cell b1 5
  have k6 := blk_cell b1 6
  have k7 := blk_cell b1 7
  have k8 := blk_cell b1 8
  have k9 := blk_cell b1 9
  have c3' := cellb c3 BW
  have L1 := fun q => HLK.out _ (pw_below_drewN BW q)
  simp at k0 k1 k2 k3 k4 k5 k6 k7 k8 k9
  have HB := Lib.hid BW
  have HO := Lib.hid b2
  clear c3 BW b1 b2 hW1
  go_quiet (fail)
  go_wp2_with (first | (go_at_call 34; (refine (HFI.out _ (pw_below_drewN HB.out _)).mono ?_); rintro e w1 ⟨v3, v4, v5, vD', ft', rfl, r3, r4, r5, E1, mv, sub, lst⟩; obtain ⟨A3, d3, rfl, _, _⟩ := Kd.R_reads r3; obtain ⟨A4, d4, rfl, _, _⟩ := Kd.R_reads r4; obtain ⟨A5, d5, rfl, _, _⟩ := Kd.R_reads r5; have b3 := mv.blk (blk_drewN HO.out _) (show ¬ ft (w.heap.size + 1) from fun hk => by have := HFT.out _ hk; omega); have q0 := blk_cell b3 0; have q1 := blk_cell b3 1; have q2 := blk_cell b3 2; have q3 := blk_cell b3 3; have q4 := blk_cell b3 4; have q5 := blk_cell b3 5; have zq := blk_frozen b3; simp at q0 q1 q2 q3 q4 q5; have R3 := Lib.hid r3; have R4 := Lib.hid r4; have R5 := Lib.hid r5; have E1 := Lib.hid E1; have MV := Lib.hid mv; have SUB := Lib.hid sub; have LST := Lib.hid lst; clear r3 r4 r5 mv sub lst b3))
  have hn1 : ¬ ft (w.heap.size + 1) := fun hk => by have := HFT.out _ hk; omega
  have hdr : (W1.drewN nq).heap.size = w.heap.size + 2 := hsz2
  have hn2 : ¬ ft' (w.heap.size + 1) := fun hk => (SUB.out _ hk).elim hn1 (fun h => by omega)
  have MV2 := (Moves.of_below (pw_below_drewN HB.out nq) ft).then_ MV.out (fun k hk => .inl hk)
  have E2 := E1.out
  refine bodyPost_ret (v := .agg #[.int .i64 a'.f0, .int .i64 a'.f1, .int .i64 a'.f2, .slice A3 a'.f3.length d3, .slice A4 a'.f4.length d4, .slice A5 a'.f5.length d5]) (by simp [results, Tryd.results16, go_sem, q0, q1, q2, q3, q4, q5]) rfl ?_
  refine ⟨_, _, _, vD', ft', rfl, row_u (Kd.int .u8) rfl R3.out (by omega) ?_, row_u Kd.string rfl R4.out (by omega) ?_, row_u k75 rfl R5.out (by omega) ?_, ?_, ?_, fun k hk => (SUB.out k hk).imp id (fun h => by omega), fun k hk => ?_⟩
  iterate 3
    · intro k hk
      have hk : w.heap.size + 2 ≤ k := by omega
      repeat (first | with_reducible rfl | with_reducible refine (Below.heap_setCell _ ⟨w.heap.size + 1, _, none⟩ _ k (by show k ≠ w.heap.size + 1; omega)).trans ?_)
  · repeat (first | with_reducible exact E2 | with_reducible refine IsMem.far (p := ⟨w.heap.size + 1, _, none⟩) ?_ hn2 _)
  · repeat (first | with_reducible exact MV2 | with_reducible refine Moves.setCell (p := ⟨w.heap.size + 1, _, none⟩) ?_ (.inr (Nat.le_succ _)) _)
  · have h9 := LST.out k hk
    exact Nat.lt_of_lt_of_eq h9 (by simp [World.setCell])
end
end Go.Proofs.YtljcdjggjphedaaDoor.Mo
