/- The attributes that fit into the inode, and those that fit into the block. -/
import Derived.Test.YtckjbgneblfceaaDoorFe
namespace Go.Proofs.YtckjbgneblfceaaDoor.Ff
open Go.RowKit Go.Maps Go.Proofs.YtckjbgneblfceaaDoorW.PrintWords Go.Proofs.YtckjbgneblfceaaDoorW.PrintLast Go.Proofs.YtckjbgneblfceaaDoorW.PrintMore Go.Proofs.YtckjbgneblfceaaDoor.PFnFitFirst Go.Proofs.YtckjbgneblfceaaDoor.Fa Go.Proofs.YtckjbgneblfceaaDoor.Fm Go.Proofs.YtckjbgneblfceaaDoor.Fb Go.Proofs.YtckjbgneblfceaaDoor.Fc Go.Proofs.YtckjbgneblfceaaDoor.Fd Go.Proofs.YtckjbgneblfceaaDoor.Fe
set_option linter.unusedVariables false
set_option linter.unusedSimpArgs false
/-- What each attribute wants. -/
def LsOf (l : List S58) (i : Nat) : Int := need (l.getD i z58).f0 (l.getD i z58).f1.length
def pick (l : List S58) (ks : List Nat) : List S58 := ks.map (fun k => l.getD k z58)
theorem pick_len (l : List S58) (ks : List Nat) : (pick l ks).length = ks.length := by unfold pick; rw [List.length_map]
theorem fit1_bound (L : Int) (i : Nat) (s : FS) (h : ∀ k ∈ s.ins ++ s.outs, k < i) : ∀ k ∈ (fit1 L i s).1.ins ++ (fit1 L i s).1.outs, k < i + 1 := by
  unfold fit1
  intro k hk
  simp only [List.mem_append] at h
  split at hk
  · simp only [List.mem_append, List.mem_singleton] at hk
    rcases hk with (hk | rfl) | hk
    · have := h k (.inl hk); omega
    · omega
    · have := h k (.inr hk); omega
  · split at hk
    · simp only [List.mem_append, List.mem_singleton] at hk
      rcases hk with hk | hk | rfl
      · have := h k (.inl hk); omega
      · have := h k (.inr hk); omega
      · omega
    · simp only [List.mem_append] at hk
      have := h k hk; omega
theorem fitF_bound (Ls : Nat → Int) : ∀ i, ∀ k ∈ (fitF Ls i).1.ins ++ (fitF Ls i).1.outs, k < i
  | 0 => fun k hk => by cases hk
  | i + 1 => by
    have e : fitF Ls (i + 1) = if (fitF Ls i).2 = true then fit1 (Ls i) i (fitF Ls i).1 else fitF Ls i := rfl
    rw [e]
    split
    · exact fit1_bound _ _ _ (fitF_bound Ls i)
    · intro k hk
      have := fitF_bound Ls i k hk
      omega
theorem at_num {w w1 : World} {A : Option Addr} {n : Nat} {ks : List Nat} (h : (Kd.int .i64).C w A n (Fd.nums ks)) (hb : Below w.heap.size w w1) (i : Nat) (h1 : i < n) : ∃ ad, A = some ad ∧ w1.cell? (ad.add i) = some (.int .i64 ((ks.getD i 0 : Nat) : Int)) := by
  obtain ⟨ad, c, e, _, hK, hc0⟩ := Kd.C_get h (0 : Int) (i : Int) (by omega) (by omega)
  have hc : ∀ j u, c[j]? = some u → w.cell? (ad.add (i * 1 + j)) = some u := hc0
  have hK : c = [.int .i64 ((Fd.nums ks).getD i 0)] := hK
  have e2 : (Fd.nums ks).getD i 0 = ((ks.getD i 0 : Nat) : Int) := by
    have hl := h.1
    rw [nums_len] at hl
    unfold Fd.nums
    rw [List.getD_eq_getElem?_getD, List.getD_eq_getElem?_getD, List.getElem?_map, List.getElem?_eq_getElem (by omega)]
    rfl
  rw [e2] at hK
  exact ⟨ad, e, cellb0 (by have hq := hc 0 _ (by rw [hK]; rfl); rwa [Nat.mul_one, Nat.add_zero] at hq) hb⟩
theorem pick_take (l : List S58) (ks : List Nat) (i : Nat) (h : i < ks.length) : (pick l ks).take (i + 1) = (pick l ks).take i ++ [l.getD (ks.getD i 0) z58] := take_succ (fun k => l.getD k z58) ks i 0 h
set_option maxHeartbeats 4000000 in
set_option maxRecDepth 100000 in
theorem fitx_calls (W : World) (t : TypeId) (fr : Nat × Nat) (hg : W.heap[4]? = some (.cells cells14 t fr)) (l : List S58) (A : Option Addr) (c : Nat) (hC : k58.C W A l.length l) (hl : l.length ≤ 1000) (hs : ∀ i : Nat, i < l.length → (l.getD i z58).f0.size ≤ 2147483647) (hv : ∀ i : Nat, i < l.length → (l.getD i z58).f1.length ≤ 2147483647) :
    Calls Tryd.prog 9 #[.slice A l.length c] W fun e w' => ∃ B1 d1 B2 d2, e = .returned (.tuple #[.slice B1 (fitF (LsOf l) l.length).1.ins.length d1, .slice B2 (fitF (LsOf l) l.length).1.outs.length d2, .bool (fitF (LsOf l) l.length).2]) ∧ (fitF (LsOf l) l.length).1.ins.length ≤ d1 ∧ (fitF (LsOf l) l.length).1.outs.length ≤ d2 ∧ k58.C w' B1 (fitF (LsOf l) l.length).1.ins.length (pick l (fitF (LsOf l) l.length).1.ins) ∧ k58.C w' B2 (fitF (LsOf l) l.length).1.outs.length (pick l (fitF (LsOf l) l.length).1.outs) ∧ Below W.heap.size W w' := by
  have HC := Lib.hid hC
  have HG := Lib.hid hg
  have HBD := Lib.hid (fitF_bound (LsOf l) l.length)
  have HLE := Lib.hid (fitF_le (LsOf l) l.length)
  have HS1 := Lib.hid (split_calls W l A c hC hl (fun i hi => by unfold rd_T58; rw [Int.toNat_natCast]; exact hv i hi))
  have HF : ∀ (w1 : World) (A1 : Option Addr) (c1 : Nat) (A2 : Option Addr) (c2 : Nat), Below W.heap.size W w1 → Kd.string.C w1 A1 l.length (l.map (fun x => x.f0)) → kLen.C w1 A2 l.length (l.map (fun x => x.f1.length)) → _ := fun w1 A1 c1 A2 c2 hb h1 h2 =>
    fit_calls w1 t fr ((hb.block 4 (blk_lt hg)).trans hg) l.length (l.map (fun x => x.f0)) (l.map (fun x => x.f1.length)) A1 A2 c1 c2 h1 h2 hl (fun i hi => by
      rw [List.getD_eq_getElem?_getD, List.getElem?_map, List.getElem?_eq_getElem hi]
      have := hs i hi
      rw [List.getD_eq_getElem?_getD, List.getElem?_eq_getElem hi] at this
      exact this) (fun i hi => by
      rw [List.getD_eq_getElem?_getD, List.getElem?_map, List.getElem?_eq_getElem hi]
      have := hv i hi
      rw [List.getD_eq_getElem?_getD, List.getElem?_eq_getElem hi] at this
      exact this) (LsOf l) (fun i hi => by
      unfold LsOf
      rw [List.getD_eq_getElem?_getD, List.getD_eq_getElem?_getD, List.getD_eq_getElem?_getD, List.getElem?_map, List.getElem?_map, List.getElem?_eq_getElem hi]
      rfl)
  have HF := Lib.hid HF
  obtain ⟨n, hn⟩ : ∃ n, n = l.length := ⟨_, rfl⟩
  obtain ⟨F, hF⟩ : ∃ F, F = fitF (LsOf l) l.length := ⟨_, rfl⟩
  rw [← hF, ← hn] at HLE HBD
  rw [← hF, ← hn]
  rw [← hn] at HC HS1 hl
  have HFE := Lib.hid hF
  have HN := Lib.hid hn
  obtain ⟨⟨a, b, ins, outs⟩, ok⟩ := F
  obtain ⟨q1, _, _⟩ := HLE.out
  have q1 : ins.length + outs.length ≤ n := q1
  clear hC hg hs hv hF hn
  show Calls Tryd.prog 9 #[.slice A n c] W fun e w' => ∃ B1 d1 B2 d2, e = .returned (.tuple #[.slice B1 ins.length d1, .slice B2 outs.length d2, .bool ok]) ∧ ins.length ≤ d1 ∧ outs.length ≤ d2 ∧ k58.C w' B1 ins.length (pick l ins) ∧ k58.C w' B2 outs.length (pick l outs) ∧ Below W.heap.size W w'
  go_enter Tryd.func9, Tryd.ntmps9
  go_upto_region 2 with (first
    | (go_at_call 28; (refine (HS1.out).mono ?_); rintro e w1 ⟨A1, c1, A2, c2, rfl, g1, g2, hb1⟩; have G1 := Lib.hid g1; have G2 := Lib.hid g2; have B1 := Lib.hid hb1; clear g1 g2 hb1))
  have HF2 := HF.out w1 A1 c1 A2 c2 B1.out (by rw [← HN.out]; exact G1.out) (by rw [← HN.out]; exact G2.out)
  rw [← HFE.out, ← HN.out] at HF2
  have HF2 := Lib.hid HF2
  clear HF
  go_wp2_with (first
    | (go_at_call 29; (refine (HF2.out).mono ?_); rintro e w2 ⟨D1, f1, D2, f2, rfl, g1, g2, hb2⟩; have E1 := Lib.hid g1; have E2 := Lib.hid g2; have B2 := Lib.hid (below_then B1.out B1.out.size hb2); clear g1 g2 hb2))
  go_loopw [28, 2] (fun v28 v2 wr => ∃ j : Nat, v28 = .int .i64 j ∧ j ≤ ins.length ∧ Hid ((Kf k58 W).R 58 wr w2.heap.size (fun _ => True) v2 ((pick l ins).take j)) ∧ Hid (Below w2.heap.size w2 wr)) (fun v28 _ _ => ins.length - (intOf v28).toNat)
  case atStart => exact ⟨0, rfl, Nat.zero_le _, Lib.hid (Kd.R_nil _ _ _ _ _), Lib.hid (Below.refl _ _)⟩
  case round =>
    obtain ⟨j, rfl, hj, R1, BI⟩ := hrel
    by_cases hlt : j < ins.length
    · have hlt' : (j : Int) < (ins.length : Int) := by omega
      obtain ⟨nd, eN, y0⟩ := at_num E1.out BI.out j hlt
      have hk := HBD.out (ins.getD j 0) (List.mem_append.2 (.inl (by rw [List.getD_eq_getElem?_getD, List.getElem?_eq_getElem hlt]; exact List.getElem_mem hlt)))
      have T1 := Lib.hid (pick_take l ins j hlt)
      obtain ⟨k, hkk⟩ : ∃ k, k = ins.getD j 0 := ⟨_, rfl⟩
      rw [← hkk] at y0 hk T1
      have hk' : (k : Int) < (n : Int) := by omega
      have BW := Lib.hid (below_then B2.out B2.out.size BI.out)
      obtain ⟨ad, X1, x1, eA, k0, k1, m1, g1⟩ := at58b HC.out BW.out k hk
      obtain ⟨x, hx⟩ : ∃ x, x = l.getD k z58 := ⟨_, rfl⟩
      rw [← hx] at T1 k0 k1 m1 g1
      subst eN eA
      have GX := Lib.hid g1
      have hle1 : ((pick l ins).take j).length ≤ j := List.length_take_le _ _
      clear hkk hx g1
      go_wp2_with (first
        | ((with_reducible refine gate_builtin (b := .append) (xs := #[.tmp 32, .tmp 37]) rfl ?_); at_builtin; refine app58 (W := wr) (w0 := W) (wb := w2) w2.heap.size rfl (.tmp 32) (.tmp 37) rfl u2 _ x X1 x1 rfl rfl (by simp) m1 GX.out R1.out BI.out BI.out.size (by omega) ?_; intro v4 w4 hr hb; have R4 := Lib.hid hr; have B4 := Lib.hid hb; clear hr hb))
      go_roundw
      case rel => exact ⟨j + 1, by push_cast; rfl, hlt, Lib.hid (by rw [T1.out]; exact R4.out), B4⟩
      case measure => simp only [intOf]; omega
    · obtain rfl : j = ins.length := by omega
      have e1 : (pick l ins).take ins.length = pick l ins := List.take_of_length_le (by rw [pick_len]; exact Nat.le_refl _)
      have r1 := R1.out
      rw [e1] at r1
      obtain ⟨A27, c27, h7, hc7, g7⟩ := Kd.R_reads r1
      rw [pick_len] at h7 g7 hc7
      subst h7
      have BW := Lib.hid (below_then B2.out B2.out.size BI.out)
      have G7 := Lib.hid (Kf_C g7 BW.out)
      clear r1 g7 R1 e1 hlt
      obtain ⟨wq, hwq⟩ : ∃ wq, wq = wr := ⟨_, rfl⟩
      subst hwq
      have C7 := G7
      have HC7 := hc7
      have E2q := Lib.hid (Kd.C_below E2.out BI.out)
      have BWq := BW
      clear G7 hc7 BW BI hj
      go_wp2_with fail
      go_loopw [42, 3] (fun v42 v3 wr => ∃ j : Nat, v42 = .int .i64 j ∧ j ≤ outs.length ∧ Hid ((Kf k58 W).R 58 wr wq.heap.size (fun _ => True) v3 ((pick l outs).take j)) ∧ Hid (Below wq.heap.size wq wr)) (fun v42 _ _ => outs.length - (intOf v42).toNat)
      case atStart => exact ⟨0, rfl, Nat.zero_le _, Lib.hid (Kd.R_nil _ _ _ _ _), Lib.hid (Below.refl _ _)⟩
      case round =>
        obtain ⟨j, rfl, hj, R1, BI⟩ := hrel
        by_cases hlt : j < outs.length
        · have hlt' : (j : Int) < (outs.length : Int) := by omega
          obtain ⟨nd, eN, y0⟩ := at_num E2q.out BI.out j hlt
          have hk := HBD.out (outs.getD j 0) (List.mem_append.2 (.inr (by rw [List.getD_eq_getElem?_getD, List.getElem?_eq_getElem hlt]; exact List.getElem_mem hlt)))
          have T1 := Lib.hid (pick_take l outs j hlt)
          obtain ⟨k, hkk⟩ : ∃ k, k = outs.getD j 0 := ⟨_, rfl⟩
          rw [← hkk] at y0 hk T1
          have hk' : (k : Int) < (n : Int) := by omega
          have BW := Lib.hid (below_then BWq.out BWq.out.size BI.out)
          obtain ⟨ad, X1, x1, eA, k0, k1, m1, g1⟩ := at58b HC.out BW.out k hk
          obtain ⟨x, hx⟩ : ∃ x, x = l.getD k z58 := ⟨_, rfl⟩
          rw [← hx] at T1 k0 k1 m1 g1
          subst eN eA
          have GX := Lib.hid g1
          have hle1 : ((pick l outs).take j).length ≤ j := List.length_take_le _ _
          clear hkk hx g1
          go_wp2_with (first
            | ((with_reducible refine gate_builtin (b := .append) (xs := #[.tmp 46, .tmp 51]) rfl ?_); at_builtin; refine app58 (W := wr) (w0 := W) (wb := wq) wq.heap.size rfl (.tmp 46) (.tmp 51) rfl u3 _ x X1 x1 rfl rfl (by simp) m1 GX.out R1.out BI.out BI.out.size (by omega) ?_; intro v4 w4 hr hb; have R4 := Lib.hid hr; have B4 := Lib.hid hb; clear hr hb))
          go_roundw
          case rel => exact ⟨j + 1, by push_cast; rfl, hlt, Lib.hid (by rw [T1.out]; exact R4.out), B4⟩
          case measure => simp only [intOf]; omega
        · obtain rfl : j = outs.length := by omega
          have e1 : (pick l outs).take outs.length = pick l outs := List.take_of_length_le (by rw [pick_len]; exact Nat.le_refl _)
          have r1 := R1.out
          rw [e1] at r1
          obtain ⟨A37, c37, h7, hc7, g7⟩ := Kd.R_reads r1
          rw [pick_len] at h7 g7 hc7
          subst h7
          have BW := Lib.hid (below_then BWq.out BWq.out.size BI.out)
          have G7 := Lib.hid (Kf_C g7 BW.out)
          clear r1 g7 R1 e1 hlt
          have Q7 := Lib.hid (Kd.C_below C7.out BI.out)
          go_wp2_with fail
          refine bodyPost_ret (v := .tuple #[.slice A27 ins.length c27, .slice A37 outs.length c37, .bool ok]) (by simp [results, Tryd.results9, go_sem]) rfl ?_
          exact ⟨A27, c27, A37, c37, rfl, HC7, hc7, Q7.out, G7.out, BW.out⟩
end Go.Proofs.YtckjbgneblfceaaDoor.Ff
