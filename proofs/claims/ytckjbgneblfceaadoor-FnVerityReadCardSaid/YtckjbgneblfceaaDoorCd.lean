/- The search through a file. -/
import Derived.Test.YtckjbgneblfceaaDoorCc
namespace Go.Proofs.YtckjbgneblfceaaDoor.Cd
open Go.RowKit Go.Maps Go.Proofs.YtckjbgneblfceaaDoorW.PrintWords Go.Proofs.YtckjbgneblfceaaDoorW.PrintLast Go.Proofs.YtckjbgneblfceaaDoorW.PrintMore Go.Proofs.YtckjbgneblfceaaDoor.Fa Go.Proofs.YtckjbgneblfceaaDoor.Fm Go.Proofs.YtckjbgneblfceaaDoor.Ca Go.Proofs.YtckjbgneblfceaaDoor.Cb Go.Proofs.YtckjbgneblfceaaDoor.Cc
open Go.Proofs.YtckjbgneblfceaaDoor.PFnFitFirst (rd_L2 at_L2)
set_option linter.unusedVariables false
set_option linter.unusedSimpArgs false
theorem info5 : (Tryd.prog.info? 5).map (fun i => (i.zero, i.size, i.bytes)) = some (some (.int .u8 0), 1, 1) := by kernel_rfl
theorem make_bytes {ops : Array Oper} {rest : List Oper} {o : Oper} {a : Act} {Q : Exit → Act → World → Prop} {W : World} (hgd : o.guard = none) {N : Tmp} (hd : o.dst = some N) (x y : Operand) (ho : o.op = .makeSlice 33 x y) (n : Nat) (hx : a.eval x = .int .i64 n) (hy : a.eval y = .int .i64 n) (hn0 : 0 < n) (hn : n ≤ 100000000)
    (h : ∀ g c1 w1, Kd.R (Kd.int .u8) 5 w1 W.heap.size (fun _ => True) (.slice (some ⟨g, 0, none⟩) n c1) (List.replicate n 0) → n ≤ c1 → Below W.heap.size W w1 → wpList Tryd.prog ops Q rest (a.put o.dst (.slice (some ⟨g, 0, none⟩) n c1)) w1) :
    wpList Tryd.prog ops Q (o :: rest) a W := by
  refine Kd.R_make (Kd.int .u8) (w0 := W) W.heap.size 5 hgd hd 33 x y ho n hx hy Tryd.underlying33 (.int .u8 0) 1 info5 rfl (by decide) (by decide) 0 (ok := fun _ => True) (okp := fun _ => False) rfl (fun _ hk => hk.elim) trivial (by omega) (by simp; omega) (Below.refl _ _) (Nat.le_refl _) ?_
  intro v1 w1 h1 h2 _ _
  rw [Int.toNat_natCast] at h1
  obtain ⟨g, c1, e1, h5, _, _⟩ := Kd.R_form h1 (by rw [List.length_replicate]; exact hn0)
  rw [List.length_replicate] at e1
  subst e1
  exact h _ _ _ h1 ((Kd.R_reads' h1).2.1) h2
theorem mxl_take (l : List (List Int)) (i : Nat) (h : i < l.length) : mxl (l.take (i + 1)) = max (mxl (l.take i)) (rd_L2 l (i : Int)).length := by
  rw [List.take_add_one, List.getElem?_eq_getElem h]
  show mxl (l.take i ++ [l[i]]) = _
  rw [mxl_app]
  unfold rd_L2
  rw [Int.toNat_natCast, List.getD_eq_getElem?_getD, List.getElem?_eq_getElem h]
  rfl
theorem rd_mem (l : List (List Int)) (i : Nat) (h : i < l.length) : rd_L2 l (i : Int) ∈ l := by
  unfold rd_L2
  rw [Int.toNat_natCast, List.getD_eq_getElem?_getD, List.getElem?_eq_getElem h]
  exact List.getElem_mem h
theorem at_sub {w w1 : World} {A : Option Addr} {n : Nat} {xs : List (List Int)} (h : Kd.C (Kd.slice 5 (Kd.int .u8)) w A n xs) (hb : Below w.heap.size w w1) (i : Nat) (h1 : i < n) : ∃ ad A0 c0, A = some ad ∧ w1.cell? (ad.add i) = some (.slice A0 (rd_L2 xs i).length c0) ∧ (rd_L2 xs i).length ≤ c0 ∧ (Kd.int .u8).C w A0 (rd_L2 xs i).length (rd_L2 xs i) := by
  obtain ⟨ad, A0, c0, e, k0, l0, g0⟩ := at_L2 h (i : Int) (by omega) (by omega)
  rw [Int.toNat_natCast] at k0
  exact ⟨ad, A0, c0, e, cellb0 k0 hb, l0, g0⟩
theorem mul_pre (r h : Nat) (hr : 1 ≤ r) : r * h = (r - 1) * h + h := by
  obtain ⟨j, rfl⟩ : ∃ j, r = j + 1 := ⟨r - 1, by omega⟩
  rw [Nat.add_sub_cancel, Nat.succ_mul]
/-- What the buffer holds behind a round's reading. -/
theorem aft_of (data xs : List Int) (h m r k o fr en : Nat) (hx : xs.length = 2 * h) (pre : (r = 0 ∧ o = 0) ∨ (1 ≤ r ∧ o = h ∧ xs.take h = (data.drop ((r - 1) * h)).take h)) (hk : k ≤ h) (hd : r * h + k ≤ data.length) (hf : k = h ∨ r * h + k = data.length) (h1 : fr < en) (h2 : en ≤ data.length) (hm : en - fr ≤ m) (hh : h = 2 * m) (hr : r * h < en) :
    (xs.take o ++ (data.drop (r * h)).take k ++ xs.drop (o + k)).length = 2 * h ∧ (en ≤ (r + 1) * h → ∃ q, Occ (strOfNums (xs.take o ++ (data.drop (r * h)).take k ++ xs.drop (o + k))) (strOfNums ((data.drop fr).take (en - fr))) q) ∧ ((r + 1) * h < en → k = h ∧ Buf data h (r + 1) (xs.take o ++ (data.drop (r * h)).take k ++ xs.drop (o + k))) := by
  have hL : ((data.drop fr).take (en - fr)).length = en - fr := by rw [List.length_take, List.length_drop]; omega
  have hsucc : (r + 1) * h = r * h + h := Nat.succ_mul r h
  rcases pre with ⟨rfl, rfl⟩ | ⟨p1, rfl, p3⟩
  · rw [Nat.zero_mul] at hd hf hr hsucc ⊢
    obtain ⟨e1, e2⟩ := buf_0 data xs h k hx hk (by omega)
    refine ⟨e2, fun hl => ⟨fr, occ_of _ _ fr (by rw [hL, e2]; omega) ?_⟩, fun hl => ⟨by omega, e2, fun _ => ?_, fun h9 => by omega⟩⟩
    · rw [hL]
      exact window _ data 0 k fr (en - fr) e1 (by omega) (by omega)
    · obtain rfl : k = h := by omega
      rw [e1, List.drop_zero]
  · have hp := mul_pre r o p1
    obtain ⟨e1, e2, e3⟩ := buf_i data xs o k r p1 hx p3 hd hk
    refine ⟨e2, fun hl => ⟨fr - (r - 1) * o, occ_of _ _ _ (by rw [hL, e2]; omega) ?_⟩, fun hl => ⟨by omega, e2, fun h9 => by omega, fun _ => ?_⟩⟩
    · rw [hL]
      exact window _ data ((r - 1) * o) (o + k) fr (en - fr) e1 (by omega) (by omega)
    · obtain rfl : k = o := by omega
      have e9 : xs.drop (k + k) = [] := List.drop_eq_nil_of_le (by omega)
      rw [e3, e9, List.append_nil, Nat.add_sub_cancel]
/-- Reading tells how much there was. -/
theorem rl_any {w0 : World} {f d p : Nat} {ad : Addr} {cd : Nat} {data : List Int} {a1 a2 : Addr} {W : World} (F : Fl w0 f d p (some ad) cd data a1 a2 W) {bb g n cap : Nat} {xs : List Int} (HB : Kd.R (Kd.int .u8) 5 W bb (fun _ => True) (.slice (some ⟨g, 0, none⟩) n cap) xs) (hbb : w0.heap.size ≤ bb) (o h cm : Nat) (hom : o + h ≤ xs.length) (hcm : h ≤ cm) (hpl : p < data.length) (hm0 : 0 < h) (hh : h ≤ 100000) (hdl : data.length ≤ 100000) :
    ∃ (k : Nat) (ev : Value), 0 < k ∧ k ≤ h ∧ p + k ≤ data.length ∧ (k = h ∨ p + k = data.length) ∧ (k = h → ev = .nilIface) ∧ Calls Tryd.prog 68 #[.pointer (some ⟨f, 0, none⟩), .slice (some ⟨g, o, none⟩) h cm, .int .i64 h] W fun e w' => e = .returned (.tuple #[.int .i64 (k : Int), ev]) ∧ Rd w0 f d p ad cd data a1 a2 bb g n cap xs o k w' := by
  by_cases hc : p + h ≤ data.length
  · exact ⟨h, .nilIface, hm0, Nat.le_refl _, hc, .inl rfl, fun _ => rfl, rl_full F HB hbb o h cm hom hcm hc hm0 (by omega)⟩
  · exact ⟨data.length - p, .iface 156 (.pointer (some a2)), by omega, by omega, by omega, .inr (by omega), fun h9 => by omega, rl_part F HB hbb o h cm (data.length - p) (by omega) hom hcm (by omega) (by omega) (by omega) (by omega)⟩
set_option maxHeartbeats 8000000 in
set_option maxRecDepth 100000 in
theorem search_calls {w0 : World} {f d : Nat} {ad : Addr} {cd : Nat} {data : List Int} {a1 a2 : Addr} {W : World} (F : Fl w0 f d 0 (some ad) cd data a1 a2 W) (subs : List (List Int)) (As : Option Addr) (cs : Nat) (hS : (Kd.slice 5 (Kd.int .u8)).C w0 As subs.length subs) (hn : subs.length ≤ 20) (hb : ∀ x ∈ subs, x.length ≤ 20000) (hd : data.length ≤ 20000) (fr en : Nat) (h1 : fr < en) (h2 : en ≤ data.length) (j0 : Nat) (hj : j0 < subs.length) (hs : rd_L2 subs (j0 : Int) = (data.drop fr).take (en - fr)) :
    Calls Tryd.prog 57 #[.pointer (some ⟨f, 0, none⟩), .slice As subs.length cs] W fun e w' => e = .returned (.bool true) ∧ Below w0.heap.size w0 w' := by
  have HF := Lib.hid F
  have HS := Lib.hid hS
  have HB := Lib.hid hb
  have HJ := Lib.hid hs
  obtain ⟨ns, hns⟩ : ∃ ns, ns = subs.length := ⟨_, rfl⟩
  have hml := mxl_le subs _ (rd_mem subs j0 hj)
  rw [hs, List.length_take, List.length_drop] at hml
  have hmb := mxl_bound 20000 subs hb
  obtain ⟨m, hm⟩ : ∃ m, m = mxl subs := ⟨_, rfl⟩
  rw [← hm] at hml hmb
  have HMX := Lib.hid hm
  rw [← hns] at HS hn hj
  rw [← hns]
  have HNS := Lib.hid hns
  have hm0 : en - fr ≤ m := by omega
  have hnz : ((ns : Int) == 0) = false := by simp; omega
  clear F hS hb hs hml hm hns
  go_enter Tryd.func57, Tryd.ntmps57
  go_wp2_with fail
  go_loopw [25, 5] (fun v25 v5 wr => ∃ i : Nat, v25 = .int .i64 i ∧ i ≤ ns ∧ v5 = .int .i64 ((mxl (subs.take i) : Nat) : Int) ∧ wr = W) (fun v25 _ _ => ns - (intOf v25).toNat)
  case atStart => exact ⟨0, rfl, Nat.zero_le _, rfl, rfl⟩
  case round =>
    obtain ⟨i, rfl, hi, rfl, rfl⟩ := hrel
    by_cases hlt : i < ns
    · have hlt' : (i : Int) < (ns : Int) := by omega
      have T := Lib.hid (mxl_take subs i (by rw [← HNS.out]; exact hlt))
      obtain ⟨sd, B1, e1, eA, k1, l1, g1⟩ := at_sub HS.out HF.out.bel i hlt
      subst eA
      obtain ⟨L, hL⟩ : ∃ L, L = (rd_L2 subs (i : Int)).length := ⟨_, rfl⟩
      obtain ⟨M, hM⟩ : ∃ M, M = mxl (subs.take i) := ⟨_, rfl⟩
      rw [← hL, ← hM] at T
      rw [← hL] at k1
      rw [← hM]
      clear hL hM g1 l1
      by_cases hgt : (M : Int) < (L : Int)
      · go_wp2_with fail
        go_roundw
        case rel => exact ⟨i + 1, by push_cast; rfl, hlt, by rw [T.out, Nat.max_eq_right (by omega)], by first | trivial | rfl⟩
        case measure => simp only [intOf]; omega
      · go_wp2_with fail
        go_roundw
        case rel => exact ⟨i + 1, by push_cast; rfl, hlt, by rw [T.out, Nat.max_eq_left (by omega)], by first | trivial | rfl⟩
        case measure => simp only [intOf]; omega
    · obtain rfl : i = ns := by omega
      rw [show mxl (subs.take i) = m by rw [HMX.out, List.take_of_length_le (by rw [← HNS.out]; exact Nat.le_refl _)]]
      have hmz : ((m : Int) == 0) = false := by simp; omega
      obtain ⟨h, hh⟩ : ∃ h, h = 2 * m := ⟨_, rfl⟩
      obtain ⟨B, hB⟩ : ∃ B, B = 2 * h := ⟨_, rfl⟩
      have q1 : IntKind.i64.wrap ((m : Int) * 4) = (B : Int) := by rw [IntWalk.i64_in _ (by omega)]; omega
      have q2 : (B : Int) / 2 = (h : Int) := by omega
      have q3 : Int.tdiv (B : Int) 2 = (h : Int) := by rw [Int.tdiv_eq_ediv_of_nonneg (by omega)]; exact q2
      have hh0 : 0 < h := by omega
      have hh1 : h ≤ 40000 := by omega
      have hB0 : 0 < B := by omega
      have hB1 : B ≤ 80000 := by omega
      have hml2 : m ≤ h := by omega
      have HH := Lib.hid hh
      have HBB := Lib.hid hB
      clear hh hB
      go_upto_region 17 with (first
        | ((with_reducible refine gate_dst (N := 43) rfl ?_); refine make_bytes rfl rfl (.tmp 42) (.tmp 42) rfl B rfl rfl hB0 (by omega) ?_; intro g c1 w1 hr hc hb1; have R0 := Lib.hid hr; have hcB := hc; have B1 := Lib.hid hb1; clear hr hc hb1))
      have F1 := Lib.hid (HF.out.below B1.out)
      have hgb : w0.heap.size ≤ wr.heap.size := HF.out.bel.size
      obtain ⟨w2, hw2⟩ : ∃ w2, w2 = wr.heap.size := ⟨_, rfl⟩
      rw [← hw2] at R0 hgb
      clear hw2 B1 HF
      go_loopw [13] (fun v13 wr => ∃ r : Nat, v13 = .int .i64 r ∧ r * h < en ∧ Hid (Fl w0 f d (r * h) (some ad) cd data a1 a2 wr) ∧ Hid (∃ xs, Kd.R (Kd.int .u8) 5 wr w2 (fun _ => True) (.slice (some ⟨g, 0, none⟩) B c1) xs ∧ Buf data h r xs)) (fun v13 _ => en - (intOf v13).toNat * h)
      case atStart => exact ⟨0, rfl, by rw [Nat.zero_mul]; omega, Lib.hid (by rw [Nat.zero_mul]; exact F1.out), Lib.hid ⟨_, R0.out, by rw [List.length_replicate]; exact HBB.out, fun h9 => by omega, fun h9 => by omega⟩⟩
      case round =>
        obtain ⟨r, rfl, hr, FR, BR⟩ := hrel
        obtain ⟨xs, hRX, hBX⟩ := BR.out
        have RX := Lib.hid hRX
        have BX := Lib.hid hBX
        clear hRX hBX BR R0 F1
        have hrl : r ≤ 20000 := by
          have := Nat.le_mul_of_pos_right r hh0
          omega
        have wr1 : IntKind.i64.wrap ((r : Int) + 1) = (r : Int) + 1 := IntWalk.i64_in _ (by omega)
        have hBh : B - h = h := by have := HBB.out; omega
        have hi1 : (h : Int) ≤ (B : Int) := by have := HBB.out; omega
        have hi2 : (B : Int) ≤ (c1 : Int) := by omega
        have hi3 : (h : Int) ≤ (c1 : Int) := by omega
        have hi4 : ¬ c1 = h := by have := HBB.out; omega
        have hi5 : (0 : Int) ≤ (h : Int) := by omega
        rcases (show r = 0 ∨ r = 1 ∨ 2 ≤ r by omega) with hr0 | hr0 | hr0
        · subst hr0
          have HRD := rl_any FR.out RX.out hgb 0 h c1 (by have := BX.out.1; omega) (by omega) (by omega) hh0 (by omega) (by omega)
          obtain ⟨k, ev, k0, k1, k2, k3, k4, hC⟩ := HRD
          have HA := Lib.hid (aft_of data xs h m 0 k 0 fr en BX.out.1 (.inl ⟨rfl, rfl⟩) k1 k2 k3 h1 h2 hm0 HH.out hr)
          have HC := Lib.hid hC
          have hki : (0 : Int) < (k : Int) := by omega
          clear hC
          go_upto_region 24 with (first | (go_at_call 68; (refine (HC.out).mono ?_); rintro e w4 ⟨rfl, hq⟩; have HQ := Lib.hid hq; clear hq))
          obtain ⟨ys, r4, hyl, hyo, hyn⟩ : ∃ ys, Kd.R (Kd.int .u8) 5 w4 w2 (fun _ => True) (.slice (some ⟨g, 0, none⟩) B c1) ys ∧ ys.length = 2 * h ∧ (en ≤ (0 + 1) * h → ∃ q, Occ (strOfNums ys) (strOfNums ((data.drop fr).take (en - fr))) q) ∧ ((0 + 1) * h < en → k = h ∧ Buf data h (0 + 1) ys) := ⟨_, HQ.out.2, HA.out.1, HA.out.2.1, HA.out.2.2⟩
          have R4 := Lib.hid r4
          have F4 := Lib.hid HQ.out.1
          have YO := Lib.hid hyo
          have YN := Lib.hid hyn
          have hyB : ys.length = B := by rw [hyl, HBB.out]
          clear r4 hyo hyn HQ HA HC
          go_wp2_with fail
          go_loopw [78] (fun v78 wj => ∃ j : Nat, v78 = .int .i64 j ∧ j ≤ i ∧ Hid (en ≤ (0 + 1) * h → j ≤ j0) ∧ Hid (Below w4.heap.size w4 wj)) (fun v78 _ => i - (intOf v78).toNat)
          case atStart => exact ⟨0, rfl, Nat.zero_le _, Lib.hid (fun _ => Nat.zero_le _), Lib.hid (Below.refl _ _)⟩
          case round =>
            rename World => wj
            obtain ⟨j, rfl, hji, LJ, BJ⟩ := hrel
            have B0j := Lib.hid (below_then F4.out.bel F4.out.bel.size BJ.out)
            by_cases hlt2 : j < i
            · have hlt2' : (j : Int) < (i : Int) := by omega
              obtain ⟨sd, D1, e1, eA, k7, l7, g7⟩ := at_sub HS.out B0j.out j hlt2
              subst eA
              have hsb := HB.out _ (rd_mem subs j (by rw [← HNS.out]; exact hlt2))
              obtain ⟨rb, hcall, hocc⟩ := contains_any (strOfNums ys) (strOfNums (rd_L2 subs (j : Int))) (by rw [strOfNums_size]; omega) (by rw [strOfNums_size]; omega)
              have cv1 := Kd.C_string (dst := 9) Tryd.underlying33 Tryd.underlying5 Tryd.underlying9 (show Kd.C (Kd.int .u8) wj (some ⟨g, 0, none⟩) B ys from by have h9 := (Kd.R_reads' (Kd.R_below R4.out BJ.out)).2.2; rw [hyB] at h9; exact h9) (c := c1)
              have cv2 := Kd.C_string (dst := 9) (P := Tryd.prog) Tryd.underlying33 Tryd.underlying5 Tryd.underlying9 (Kd.C_below g7 B0j.out) (c := e1)
              have HC69 := Lib.hid hcall
              have HO := Lib.hid hocc
              clear hcall hocc g7 l7 hsb
              cases rb with
              | true =>
                go_wp2_with (first | (go_at_call 69; (refine (HC69.out _).mono ?_); rintro e w5 ⟨rfl, hb5⟩; have B5 := Lib.hid (below_then B0j.out B0j.out.size hb5); clear hb5))
                go_ret
                exact ⟨rfl, B5.out⟩
              | false =>
                have HNJ := Lib.hid (show en ≤ (0 + 1) * h → j + 1 ≤ j0 from fun hl => by
                  have h5 := LJ.out hl
                  rcases Nat.lt_or_ge j j0 with h6 | h6
                  · omega
                  · obtain rfl : j = j0 := by omega
                    obtain ⟨q, hq⟩ := YO.out hl
                    have h7 := HO.out ⟨q, by rw [HJ.out]; exact hq⟩
                    cases h7)
                go_wp2_with (first | (go_at_call 69; (refine (HC69.out _).mono ?_); rintro e w5 ⟨rfl, hb5⟩; have B5 := Lib.hid (below_then BJ.out BJ.out.size hb5); clear hb5))
                go_roundw
                case rel => exact ⟨j + 1, by push_cast; rfl, hlt2, HNJ, B5⟩
                case measure => simp only [intOf]; omega
            · obtain rfl : j = i := by omega
              have hnl : (0 + 1) * h < en := by
                rcases Nat.lt_or_ge ((0 + 1) * h) en with h5 | h5
                · exact h5
                · have := LJ.out h5
                  omega
              obtain ⟨hkh, hbuf⟩ := YN.out hnl
              obtain rfl := k4 hkh
              subst hkh
              have HBU := Lib.hid hbuf
              have F5 := Lib.hid (show Fl w0 f d ((0 + 1) * k) (some ad) cd data a1 a2 wj from by
                have h9 := F4.out.below BJ.out
                rw [show 0 * k + k = (0 + 1) * k from (Nat.succ_mul 0 k).symm] at h9
                exact h9)
              have R5 := Lib.hid (Kd.R_below R4.out BJ.out)
              clear hbuf YN YO
              go_wp2_with fail
              go_roundw
              case rel => exact ⟨0 + 1, by first | rfl | (push_cast; rfl), hnl, F5, Lib.hid ⟨ys, R5.out, HBU.out⟩⟩
              case measure =>
                have h8 := hr
                have h7 := hh0
                show en - 1 * k < en - 0 * k
                omega
        · subst hr0
          have HRD := rl_any FR.out RX.out hgb h h (c1 - h) (by have := BX.out.1; omega) (by have := HBB.out; omega) (by omega) hh0 (by omega) (by omega)
          obtain ⟨k, ev, k0, k1, k2, k3, k4, hC⟩ := HRD
          have HA := Lib.hid (aft_of data xs h m 1 k h fr en BX.out.1 (.inr ⟨Nat.le_refl _, rfl, by rw [Nat.sub_self, Nat.zero_mul, List.drop_zero]; exact BX.out.2.1 rfl⟩) k1 k2 k3 h1 h2 hm0 HH.out hr)
          have HC := Lib.hid hC
          have hki : (0 : Int) < (k : Int) := by omega
          clear hC
          go_upto_region 24 with (first | (go_at_call 68; (refine (HC.out).mono ?_); rintro e w4 ⟨rfl, hq⟩; have HQ := Lib.hid hq; clear hq))
          obtain ⟨ys, r4, hyl, hyo, hyn⟩ : ∃ ys, Kd.R (Kd.int .u8) 5 w4 w2 (fun _ => True) (.slice (some ⟨g, 0, none⟩) B c1) ys ∧ ys.length = 2 * h ∧ (en ≤ (1 + 1) * h → ∃ q, Occ (strOfNums ys) (strOfNums ((data.drop fr).take (en - fr))) q) ∧ ((1 + 1) * h < en → k = h ∧ Buf data h (1 + 1) ys) := ⟨_, HQ.out.2, HA.out.1, HA.out.2.1, HA.out.2.2⟩
          have R4 := Lib.hid r4
          have F4 := Lib.hid HQ.out.1
          have YO := Lib.hid hyo
          have YN := Lib.hid hyn
          have hyB : ys.length = B := by rw [hyl, HBB.out]
          clear r4 hyo hyn HQ HA HC
          go_wp2_with fail
          go_loopw [78] (fun v78 wj => ∃ j : Nat, v78 = .int .i64 j ∧ j ≤ i ∧ Hid (en ≤ (1 + 1) * h → j ≤ j0) ∧ Hid (Below w4.heap.size w4 wj)) (fun v78 _ => i - (intOf v78).toNat)
          case atStart => exact ⟨0, rfl, Nat.zero_le _, Lib.hid (fun _ => Nat.zero_le _), Lib.hid (Below.refl _ _)⟩
          case round =>
            rename World => wj
            obtain ⟨j, rfl, hji, LJ, BJ⟩ := hrel
            have B0j := Lib.hid (below_then F4.out.bel F4.out.bel.size BJ.out)
            by_cases hlt2 : j < i
            · have hlt2' : (j : Int) < (i : Int) := by omega
              obtain ⟨sd, D1, e1, eA, k7, l7, g7⟩ := at_sub HS.out B0j.out j hlt2
              subst eA
              have hsb := HB.out _ (rd_mem subs j (by rw [← HNS.out]; exact hlt2))
              obtain ⟨rb, hcall, hocc⟩ := contains_any (strOfNums ys) (strOfNums (rd_L2 subs (j : Int))) (by rw [strOfNums_size]; omega) (by rw [strOfNums_size]; omega)
              have cv1 := Kd.C_string (dst := 9) Tryd.underlying33 Tryd.underlying5 Tryd.underlying9 (show Kd.C (Kd.int .u8) wj (some ⟨g, 0, none⟩) B ys from by have h9 := (Kd.R_reads' (Kd.R_below R4.out BJ.out)).2.2; rw [hyB] at h9; exact h9) (c := c1)
              have cv2 := Kd.C_string (dst := 9) (P := Tryd.prog) Tryd.underlying33 Tryd.underlying5 Tryd.underlying9 (Kd.C_below g7 B0j.out) (c := e1)
              have HC69 := Lib.hid hcall
              have HO := Lib.hid hocc
              clear hcall hocc g7 l7 hsb
              cases rb with
              | true =>
                go_wp2_with (first | (go_at_call 69; (refine (HC69.out _).mono ?_); rintro e w5 ⟨rfl, hb5⟩; have B5 := Lib.hid (below_then B0j.out B0j.out.size hb5); clear hb5))
                go_ret
                exact ⟨rfl, B5.out⟩
              | false =>
                have HNJ := Lib.hid (show en ≤ (1 + 1) * h → j + 1 ≤ j0 from fun hl => by
                  have h5 := LJ.out hl
                  rcases Nat.lt_or_ge j j0 with h6 | h6
                  · omega
                  · obtain rfl : j = j0 := by omega
                    obtain ⟨q, hq⟩ := YO.out hl
                    have h7 := HO.out ⟨q, by rw [HJ.out]; exact hq⟩
                    cases h7)
                go_wp2_with (first | (go_at_call 69; (refine (HC69.out _).mono ?_); rintro e w5 ⟨rfl, hb5⟩; have B5 := Lib.hid (below_then BJ.out BJ.out.size hb5); clear hb5))
                go_roundw
                case rel => exact ⟨j + 1, by push_cast; rfl, hlt2, HNJ, B5⟩
                case measure => simp only [intOf]; omega
            · obtain rfl : j = i := by omega
              have hnl : (1 + 1) * h < en := by
                rcases Nat.lt_or_ge ((1 + 1) * h) en with h5 | h5
                · exact h5
                · have := LJ.out h5
                  omega
              obtain ⟨hkh, hbuf⟩ := YN.out hnl
              obtain rfl := k4 hkh
              subst hkh
              have HBU := Lib.hid hbuf
              have F5 := Lib.hid (show Fl w0 f d ((1 + 1) * k) (some ad) cd data a1 a2 wj from by
                have h9 := F4.out.below BJ.out
                rw [show 1 * k + k = (1 + 1) * k from (Nat.succ_mul 1 k).symm] at h9
                exact h9)
              have R5 := Lib.hid (Kd.R_below R4.out BJ.out)
              clear hbuf YN YO
              go_wp2_with fail
              go_roundw
              case rel => exact ⟨1 + 1, by first | rfl | (push_cast; rfl), hnl, F5, Lib.hid ⟨ys, R5.out, HBU.out⟩⟩
              case measure =>
                have h8 := hr
                have h7 := hh0
                show en - 2 * k < en - 1 * k
                omega
        · have hb1 : ((r : Int) + 1 == 1) = false := by simp; omega
          have hb2 : ((r : Int) + 1 == 2) = false := by simp; omega
          have hxl := BX.out.1
          go_upto_region 21 with (fail)
          have CP := Lib.hid (C_part (Kd.R_below RX.out (below_drew1 (Below.refl _ _))) h h (by omega))
          have F1d := Lib.hid (FR.out.drew)
          go_region_held3 (fun w' => True)
            (first | trivial | go_keep)
            ((refine copy_step (by rfl) _ _ 33 33 5 (by rfl) Tryd.underlying33 info5s xs ((xs.drop h).take h) (some ⟨g, h, none⟩) h (c1 - h) 0 B c1 (fun _ => True) (by rfl) (by rfl) (Kd.R_below RX.out (below_drew1 (Below.refl _ _))) CP.out (by omega) (by have := HBB.out; omega) ?_; intro w3 hr3 hg3; have R3 := Lib.hid hr3; have F3 := Lib.hid (F1d.out.grown hg3 (Kd.R_ne (Kd.R_below RX.out (below_drew1 (Below.refl _ _))) F1d.out.hf (by decide)) (fun k hk => Nat.le_trans hgb (Kd.R_base RX.out k hk))); clear hr3 hg3))
          obtain ⟨x3, hx3⟩ : ∃ x3, x3 = xs.take 0 ++ (xs.drop h).take h ++ xs.drop (0 + h) := ⟨_, rfl⟩
          rw [← hx3] at R3
          have hx3e : x3 = (xs.drop h).take h ++ xs.drop h := by rw [hx3, List.take_zero, List.nil_append, Nat.zero_add]
          have hdl2 : ((xs.drop h).take h).length = h := by rw [List.length_take, List.length_drop]; omega
          have hx3l : x3.length = 2 * h := by rw [hx3e, List.length_append, hdl2, List.length_drop]; omega
          have hx3t : x3.take h = (data.drop ((r - 1) * h)).take h := by
            rw [hx3e, List.take_left' hdl2, BX.out.2.2 hr0, List.take_take, Nat.min_self]
          have HRD := rl_any F3.out R3.out hgb h h (c1 - h) (by omega) (by have := HBB.out; omega) (by omega) hh0 (by omega) (by omega)
          obtain ⟨k, ev, k0, k1, k2, k3, k4, hC⟩ := HRD
          have HA := Lib.hid (aft_of data x3 h m r k h fr en hx3l (.inr ⟨by omega, rfl, hx3t⟩) k1 k2 k3 h1 h2 hm0 HH.out hr)
          have HC := Lib.hid hC
          have hki : (0 : Int) < (k : Int) := by omega
          clear hC hx3 hx3e hdl2 hx3l hx3t CP F1d
          go_upto_region 24 with (first | (go_at_call 68; (refine (HC.out).mono ?_); rintro e w4 ⟨rfl, hq⟩; have HQ := Lib.hid hq; clear hq))
          obtain ⟨ys, r4, hyl, hyo, hyn⟩ : ∃ ys, Kd.R (Kd.int .u8) 5 w4 w2 (fun _ => True) (.slice (some ⟨g, 0, none⟩) B c1) ys ∧ ys.length = 2 * h ∧ (en ≤ (r + 1) * h → ∃ q, Occ (strOfNums ys) (strOfNums ((data.drop fr).take (en - fr))) q) ∧ ((r + 1) * h < en → k = h ∧ Buf data h (r + 1) ys) := ⟨_, HQ.out.2, HA.out.1, HA.out.2.1, HA.out.2.2⟩
          have R4 := Lib.hid r4
          have F4 := Lib.hid HQ.out.1
          have YO := Lib.hid hyo
          have YN := Lib.hid hyn
          have hyB : ys.length = B := by rw [hyl, HBB.out]
          clear r4 hyo hyn HQ HA HC
          go_wp2_with fail
          go_loopw [78] (fun v78 wj => ∃ j : Nat, v78 = .int .i64 j ∧ j ≤ i ∧ Hid (en ≤ (r + 1) * h → j ≤ j0) ∧ Hid (Below w4.heap.size w4 wj)) (fun v78 _ => i - (intOf v78).toNat)
          case atStart => exact ⟨0, rfl, Nat.zero_le _, Lib.hid (fun _ => Nat.zero_le _), Lib.hid (Below.refl _ _)⟩
          case round =>
            rename World => wj
            obtain ⟨j, rfl, hji, LJ, BJ⟩ := hrel
            have B0j := Lib.hid (below_then F4.out.bel F4.out.bel.size BJ.out)
            by_cases hlt2 : j < i
            · have hlt2' : (j : Int) < (i : Int) := by omega
              obtain ⟨sd, D1, e1, eA, k7, l7, g7⟩ := at_sub HS.out B0j.out j hlt2
              subst eA
              have hsb := HB.out _ (rd_mem subs j (by rw [← HNS.out]; exact hlt2))
              obtain ⟨rb, hcall, hocc⟩ := contains_any (strOfNums ys) (strOfNums (rd_L2 subs (j : Int))) (by rw [strOfNums_size]; omega) (by rw [strOfNums_size]; omega)
              have cv1 := Kd.C_string (dst := 9) Tryd.underlying33 Tryd.underlying5 Tryd.underlying9 (show Kd.C (Kd.int .u8) wj (some ⟨g, 0, none⟩) B ys from by have h9 := (Kd.R_reads' (Kd.R_below R4.out BJ.out)).2.2; rw [hyB] at h9; exact h9) (c := c1)
              have cv2 := Kd.C_string (dst := 9) (P := Tryd.prog) Tryd.underlying33 Tryd.underlying5 Tryd.underlying9 (Kd.C_below g7 B0j.out) (c := e1)
              have HC69 := Lib.hid hcall
              have HO := Lib.hid hocc
              clear hcall hocc g7 l7 hsb
              cases rb with
              | true =>
                go_wp2_with (first | (go_at_call 69; (refine (HC69.out _).mono ?_); rintro e w5 ⟨rfl, hb5⟩; have B5 := Lib.hid (below_then B0j.out B0j.out.size hb5); clear hb5))
                go_ret
                exact ⟨rfl, B5.out⟩
              | false =>
                have HNJ := Lib.hid (show en ≤ (r + 1) * h → j + 1 ≤ j0 from fun hl => by
                  have h5 := LJ.out hl
                  rcases Nat.lt_or_ge j j0 with h6 | h6
                  · omega
                  · obtain rfl : j = j0 := by omega
                    obtain ⟨q, hq⟩ := YO.out hl
                    have h7 := HO.out ⟨q, by rw [HJ.out]; exact hq⟩
                    cases h7)
                go_wp2_with (first | (go_at_call 69; (refine (HC69.out _).mono ?_); rintro e w5 ⟨rfl, hb5⟩; have B5 := Lib.hid (below_then BJ.out BJ.out.size hb5); clear hb5))
                go_roundw
                case rel => exact ⟨j + 1, by push_cast; rfl, hlt2, HNJ, B5⟩
                case measure => simp only [intOf]; omega
            · obtain rfl : j = i := by omega
              have hnl : (r + 1) * h < en := by
                rcases Nat.lt_or_ge ((r + 1) * h) en with h5 | h5
                · exact h5
                · have := LJ.out h5
                  omega
              obtain ⟨hkh, hbuf⟩ := YN.out hnl
              obtain rfl := k4 hkh
              subst hkh
              have HBU := Lib.hid hbuf
              have F5 := Lib.hid (show Fl w0 f d ((r + 1) * k) (some ad) cd data a1 a2 wj from by
                have h9 := F4.out.below BJ.out
                rw [show r * k + k = (r + 1) * k from (Nat.succ_mul r k).symm] at h9
                exact h9)
              have R5 := Lib.hid (Kd.R_below R4.out BJ.out)
              clear hbuf YN YO
              go_wp2_with fail
              go_roundw
              case rel => exact ⟨r + 1, by first | rfl | (push_cast; rfl), hnl, F5, Lib.hid ⟨ys, R5.out, HBU.out⟩⟩
              case measure =>
                have h8 := hr
                have h7 := hh0
                have h9 := Nat.succ_mul r k
                have h5 : ((r : Int) + 1).toNat = r + 1 := by omega
                simp only [intOf, Int.toNat_natCast, h5]
                have h6 : (r + 1) * k = r * k + k := h9
                omega
end Go.Proofs.YtckjbgneblfceaaDoor.Cd
