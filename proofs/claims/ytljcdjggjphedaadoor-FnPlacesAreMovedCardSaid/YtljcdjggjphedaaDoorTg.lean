/- The law's walk: places are moved. -/
import Derived.Test.YtljcdjggjphedaaDoorTe
import Derived.Test.YtljcdjggjphedaaDoorTf
import Derived.StillTailTactics
import Derived.Lib.QuoteBits
import Derived.IntWalk
namespace Go.Proofs.YtljcdjggjphedaaDoor.Tg
open Go.RowKit Go.Maps Go.Proofs.YtljcdjggjphedaaDoorW.PrintWords Go.Proofs.YtljcdjggjphedaaDoorW.PrintLast Go.Proofs.YtljcdjggjphedaaDoorW.PrintMore Go.Proofs.YtljcdjggjphedaaDoor.PFnHandleScript Go.Proofs.YtljcdjggjphedaaDoor.Hd Go.Proofs.YtljcdjggjphedaaDoor.Ms Go.Proofs.YtljcdjggjphedaaDoor.Mn Go.Proofs.YtljcdjggjphedaaDoor.Pm Go.Proofs.YtljcdjggjphedaaDoor.Mf Go.Proofs.YtljcdjggjphedaaDoor.Mq Go.Proofs.YtljcdjggjphedaaDoor.Bq Go.Proofs.YtljcdjggjphedaaDoor.Mr Go.Proofs.YtljcdjggjphedaaDoor.Mw Go.Proofs.YtljcdjggjphedaaDoor.Mb Go.Proofs.YtljcdjggjphedaaDoor.Mk Go.Proofs.YtljcdjggjphedaaDoor.Sx Go.Proofs.YtljcdjggjphedaaDoor.Sy Go.Proofs.YtljcdjggjphedaaDoor.Sz Go.Proofs.YtljcdjggjphedaaDoor.Ta Go.Proofs.YtljcdjggjphedaaDoor.Tb Go.Proofs.YtljcdjggjphedaaDoor.Td Go.Proofs.YtljcdjggjphedaaDoor.Te Go.Proofs.YtljcdjggjphedaaDoor.Tf
set_option linter.unusedVariables false
set_option linter.unusedSimpArgs false
section
variable {ops : Array Oper} {rest : List Oper} {o : Oper} {a : Act} {Q : Exit → Act → World → Prop}
theorem app_bytes {W wb : World} (base : Nat) (hgd : o.guard = none) (s x : Operand) (ho : o.op = .call { callee := .builtin .append, args := #[s, x], argTypes := #[22, 22] })
    (v : Value) (xs ys : List Int) (A : Option Addr) (m c : Nat) (hs : a.eval s = v) (hx : a.eval x = .slice A m c)
    (HO : (Kd.int .u8).R 5 W base (fun _ => True) v xs) (HR : (Kd.int .u8).C W A m ys) (HB : Below base wb W) (hbase : base ≤ W.heap.size) (hl : xs.length + m ≤ 100000)
    (h : ∀ A1 c1 w1, (Kd.int .u8).R 5 w1 base (fun _ => True) (.slice A1 (xs ++ ys).length c1) (xs ++ ys) → Below base wb w1 → W.grownBy w1 v.ownBlock → wpList Tryd.prog ops Q rest (a.put o.dst (.slice A1 (xs ++ ys).length c1)) w1) :
    wpList Tryd.prog ops Q (o :: rest) a W := by
  refine Kd.R_append_rows (Kd.int .u8) (w0 := wb) base hgd s x 22 5 (.int .u8 0) 1 ho Tryd.underlying22 PFnHandleScript.info5 rfl (by decide) (by decide) v xs ys A m c (fun _ => True) (fun _ => False) hs hx HO HR (fun x cs hc => hc) (fun _ hk => hk.elim) (fun _ _ => trivial) HB hbase (by omega) ?_
  intro v1 w1 h1 hb h2 _
  obtain ⟨A1, c1, e1, _, _⟩ := Kd.R_reads h1
  subst e1
  exact h A1 c1 w1 h1 hb h2
end
theorem str_app (a b : List Int) : strOfNums (a ++ b) = strOfNums a ++ strOfNums b := by
  apply ByteArray.ext
  rw [ByteArray.data_append]
  simp [strOfNums]
theorem c_nil {α : Type} (d : Kd α) (w : World) (A : Option Addr) : d.C w A 0 [] := ⟨rfl, by simp, fun h => absurd h (Nat.lt_irrefl 0)⟩
/-- Two answers that are alike, by the reference's check. -/
theorem same_call (W : World) (a b c : Int) (dl : List Int) (A3 A4 A5 B3 B4 B5 : Option Addr) (c3 c4 c5 d3 d4 d5 : Nat) (h3 : (Kd.int .u8).C W A3 dl.length dl) (l3 : dl.length ≤ c3) (g3 : (Kd.int .u8).C W B3 dl.length dl) (k3 : dl.length ≤ d3) :
    Calls Tryd.prog 19 #[.agg #[.int .i64 a, .int .i64 b, .int .i64 c, .slice A3 dl.length c3, .slice A4 0 c4, .slice A5 0 c5], .agg #[.int .i64 a, .int .i64 b, .int .i64 c, .slice B3 dl.length d3, .slice B4 0 d4, .slice B5 0 d5]] W fun e w' => e = .returned (.bool true) ∧ Below W.heap.size W w' :=
  spec_SameAnswer.calls (0 + 3) a b c A3 c3 dl A4 c4 [] A5 c5 [] a b c B3 d3 dl B4 d4 [] B5 d5 [] true W h3 l3 (c_nil _ _ _) (Nat.zero_le _) (c_nil _ _ _) (Nat.zero_le _) g3 k3 (c_nil _ _ _) (Nat.zero_le _) (c_nil _ _ _) (Nat.zero_le _) (same_one0 0 a b c dl)
/-- The place that seeking tells is within bounds. -/
theorem told_place {d : List Int} {ro : Bool} {ss : List S26} (S : Spk d ro ss) (i : Nat) (hi : i < ss.length) : -4398046511104 ≤ (ysn (h0 ro) (x0 d) ss i).f2 ∧ (ysn (h0 ro) (x0 d) ss i).f2 ≤ 4398046511104 := by
  have hf := (S.fine (i + 1) (by omega)).1
  have K := S.kept i (by omega)
  obtain ⟨o0, o1⟩ := S.ops i hi
  by_cases e : (rd_T26 ss i).f0 = 16
  · have e1 : (ysn (h0 ro) (x0 d) ss i).f2 = (runS (h0 ro) (x0 d) ss (i + 1)).1.pos := by
      show (fstep (runS (h0 ro) (x0 d) ss i).1 (runS (h0 ro) (x0 d) ss i).2 (rd_T26 ss i)).2.f2 = (fstep (runS (h0 ro) (x0 d) ss i).1 (runS (h0 ro) (x0 d) ss i).2 (rd_T26 ss i)).1.1.pos
      unfold fstep
      simp only [e, K.cl]
      rfl
    rw [e1]
    exact ⟨hf.p0, hf.p1⟩
  · have e1 : (ysn (h0 ro) (x0 d) ss i).f2 = 0 := by
      show (fstep (runS (h0 ro) (x0 d) ss i).1 (runS (h0 ro) (x0 d) ss i).2 (rd_T26 ss i)).2.f2 = 0
      unfold fstep
      rw [if_neg (by omega), if_neg (by omega), if_neg (by omega), if_neg (by omega), if_neg (by omega), if_neg (by rw [K.cl]; decide)]
      repeat' split
      all_goals first | rfl | omega
    rw [e1]
    exact ⟨by decide, by decide⟩
theorem rd_rng (f : Nat → S33) (m j : Nat) (h : j < m) : rd_T33 ((List.range m).map f) (j : Int) = f j := by
  unfold rd_T33
  rw [Int.toNat_natCast, List.getD_eq_getElem?_getD]
  simp [h]
theorem movA_cases (n : Int) (s : S26) (x : S33) : ((s.f0 == 16) = true ∧ movA n s x = { x with f2 := x.f2 + n }) ∨ ((s.f0 == 16) = false ∧ movA n s x = x) := by
  unfold movA
  by_cases h : s.f0 = 16
  · left; exact ⟨by rw [h]; rfl, if_pos h⟩
  · right; exact ⟨by simp [h], if_neg h⟩
theorem ops_cases (s : S26) : (s.f0 < 12) ∨ (12 ≤ s.f0 ∧ 17 < s.f0) ∨ (12 ≤ s.f0 ∧ s.f0 ≤ 17 ∧ (s.f0 == 17) = true ∧ s.f7 < 0) ∨ (12 ≤ s.f0 ∧ s.f0 ≤ 17 ∧ (s.f0 == 17) = true ∧ 0 ≤ s.f7) ∨ (12 ≤ s.f0 ∧ s.f0 ≤ 17 ∧ (s.f0 == 17) = false) := by
  cases h : s.f0 == 17 <;> simp at h ⊢ <;> omega
set_option maxHeartbeats 8000000 in
set_option maxRecDepth 100000 in
theorem law6in (w : World) (A : Nat → Addr) (hS : Sent A w) (q : List Int) (Aq : Option Addr) (cq : Nat) (d : List Int) (Ad : Option Addr) (cd : Nat) (ro : Bool) (ss : List S26) (As : Option Addr) (cs : Nat) (hQ : Kd.C (Kd.int .u8) w Aq q.length q) (hcq : q.length ≤ cq) (hD : Kd.C (Kd.int .u8) w Ad d.length d) (hcd : d.length ≤ cd) (hC : k26.C w As ss.length ss) (hcs : ss.length ≤ cs)
    (hZ : ∀ W, Below w.heap.size w W → Calls Tryd.prog 12 #[.slice As ss.length cs] W fun e w' => e = .returned (.bool true) ∧ Below W.heap.size W w') (hq : (q.length : Int) ≤ 1000) (hd : (d.length : Int) ≤ 1000) (hs : (ss.length : Int) ≤ 40) :
    Calls Tryd.prog 6 #[.slice Aq q.length cq, .slice Ad d.length cd, .bool ro, .slice As ss.length cs] w fun e w' => e = .returned (.bool true) ∧ Below w.heap.size w w' := by
  have HZ := Lib.hid hZ
  have HQ := Lib.hid hQ
  have HD := Lib.hid hD
  have HC := Lib.hid hC
  have HS := Lib.hid hS
  have HCS := Lib.hid hcs
  clear hZ hQ hD hC hS
  have g1 : (q.length : Int) ≤ 2147483647 := by omega
  have g2 : (d.length : Int) ≤ 2147483647 := by omega
  go_enter Tryd.func6, Tryd.ntmps6
  go_upto_region 3 with (first | (go_at_call 12; (with_reducible refine (HZ.out _ (Below.refl _ _)).mono ?_); rintro e w1 ⟨rfl, hb1⟩; have B1 := Lib.hid hb1; clear hb1))
  have HSP := Lib.hid (spoken_all w1 d ro Ad cd (Kd.C_below HD.out B1.out) ss As cs (Kd.C_below HC.out B1.out) HCS.out)
  go_wp2_with (first | (go_at_call 14; (refine (HSP.out).mono ?_); rintro e w5 ⟨t, rfl, hb5, hg⟩; have B5 := Lib.hid hb5; have HG := Lib.hid hg; clear hb5 hg))
  · go_ret
    exact ⟨rfl, below_then B1.out B1.out.size B5.out⟩
  have hbt : t = true := by simp_all
  obtain ⟨hl1, hn1, hgood⟩ := HG.out hbt
  have HGD := Lib.hid hgood
  clear hgood HSP HG
  subst hbt
  simp only [Bool.not_true, Bool.or_false]
  have B15 := Lib.hid (below_then B1.out B1.out.size B5.out)
  clear B5
  go_loopw [53] (fun v53 wr => ∃ i : Nat, v53 = .int .i64 i ∧ i ≤ ss.length ∧ Hid (Below w.heap.size w wr) ∧ Hid (∀ j : Nat, j < i → (12 ≤ (rd_T26 ss j).f0 ∧ (rd_T26 ss j).f0 ≤ 17) ∧ ((rd_T26 ss j).f0 = 17 → 0 ≤ (rd_T26 ss j).f7))) (fun v53 _ => ss.length - (intOf v53).toNat)
  case atStart => exact ⟨0, rfl, Nat.zero_le _, B15, Lib.hid (fun j hj => absurd hj (by omega))⟩
  case round =>
    obtain ⟨i, rfl, hi, BI, NI⟩ := hrel
    by_cases hlt : i < ss.length
    · obtain ⟨ad, A6, c6, rfl, x0, x1, x2, x3, x4, x5, x6, x7, x8, x9, l6, g6⟩ := at26b HC.out BI.out i hlt
      obtain ⟨s, hs⟩ : ∃ s, s = rd_T26 ss (i : Int) := ⟨_, rfl⟩
      rw [← hs] at x0 x1 x2 x3 x4 x5 x6 x7 x8 x9
      have HSI := Lib.hid hs
      clear hs g6 l6
      have hlt' : (i : Int) < (ss.length : Int) := by omega
      rcases ops_cases s with q1 | ⟨q0, q1⟩ | ⟨q0, q1, q2, q3⟩ | ⟨q0, q1, q2, q3⟩ | ⟨q0, q1, q2⟩
      iterate 3
        · go_wp2_with fail
          go_ret
          exact ⟨rfl, below_then BI.out BI.out.size (below_alloc (Below.refl _ _) _)⟩
      all_goals
        go_wp2_with fail
        go_roundw
        case rel => exact ⟨i + 1, by push_cast; rfl, hlt, Lib.hid (below_then BI.out BI.out.size (below_alloc (Below.refl _ _) _)), Lib.hid (fun j hj => by
            rcases Nat.lt_or_ge j i with h | h
            · exact NI.out j h
            · obtain rfl : j = i := by omega
              rw [← HSI.out]
              refine ⟨⟨by omega, by omega⟩, fun e => ?_⟩
              simp_all)⟩
        case measure => simp only [intOf]; omega
    · obtain rfl : i = ss.length := by omega
      have S : Spk d ro ss := ⟨hl1, by omega, HGD.out, fun j hj => (NI.out j hj).1⟩
      have HSK := Lib.hid S
      have HN17 := Lib.hid (fun j hj => (NI.out j hj).2)
      clear S hlt NI HGD
      have HT1 := Lib.hid (tell_all (cd := cd) HS.out HD.out HSK.out As cs BI.out (Kd.C_below HC.out BI.out))
      go_upto_region 12 with (first | (go_at_call 13; (with_reducible refine (HT1.out).mono ?_); rintro e w8 ⟨⟨A8, c8, A9, c9, rfl, hk, hc8, hl, hc9⟩, hb8⟩; have HK1 := Lib.hid hk; have HL1 := Lib.hid hl; have B8 := Lib.hid (below_then BI.out BI.out.size hb8); clear hk hl hb8))
      have H7 := Lib.hid (show ∀ i : Nat, i < ss.length → -4611686018427387904 ≤ (rd_T26 ss i).f7 ∧ (rd_T26 ss i).f7 ≤ 4611686018427387904 from fun j hj => by
        obtain ⟨o0, o1⟩ := HSK.out.ops j hj
        obtain ⟨_, _, _, b3, b4, _⟩ := spk_open (HSK.out.good j hj).2.2.2 o0 o1
        exact ⟨by omega, by omega⟩)
      have hw8 : w.heap.size ≤ w8.heap.size := B8.out.size
      obtain ⟨n, hn⟩ : ∃ n, n = ss.length := ⟨_, rfl⟩
      go_upto_region 13 with (first
        | (go_at_call 18; (with_reducible refine (moved_calls w _ (below_then B8.out B8.out.size (below_alloc (Below.refl _ _) _)) ss As cs q.length HC.out (by omega) (by omega) H7.out).mono ?_); rintro e w9 ⟨A10, c10, rfl, hc10, hC10, hb9⟩; have B89 := Lib.hid (below_then (below_alloc (Below.refl _ _) _ : Below w8.heap.size w8 _) (by simp) hb9); have C10 := Lib.hid hC10; have LK := Lib.hid (Kd.R_below (lit_row (Kx w) (W := w8) (base := w8.heap.size) (e := 26) (x := sk0 q.length) (ok := fun _ => True) (okp := fun _ => False) (k26_mk w (sk0 q.length) (A6 := none) (c6 := 0) (Nat.le_refl _) (Kd.C_nil _ _)) (fun _ hk => hk.elim) trivial (Nat.le_refl _)) hb9); clear hC10 hb9)
        | ((with_reducible refine gate_builtin (b := .append) (xs := #[.tmp 86, .tmp 90]) rfl ?_); at_builtin; refine app_steps (w0 := w) (wb := w8) w8.heap.size rfl (.tmp 86) (.tmp 90) rfl (.slice (some ⟨w8.heap.size, 0, none⟩) 1 1) [sk0 q.length] (ss.map (mov q.length)) A10 ss.length c10 rfl rfl LK.out C10.out B89.out B89.out.size (by simp; omega) ?_; intro A12 c12 w10 hr hb10 hg; have B10 := Lib.hid hb10; have BW10 := Lib.hid (below_then B8.out hw8 hb10); have C12 := Lib.hid (Kx_C (Kd.R_reads' hr).2.2 BW10.out); clear hr hb10 hg LK B89))
      have hw10 : w.heap.size ≤ w10.heap.size := BW10.out.size
      have HT3 : ∀ (W : World) (A14 : Option Addr) (c14 : Nat), Below w.heap.size w W → Kd.C (Kd.int .u8) W A14 (q ++ d).length (q ++ d) → k26.C W A12 (ss.length + 1) (movs q.length ss) → Calls Tryd.prog 13 #[.slice A14 (q.length + d.length) c14, .bool ro, .slice A12 (ss.length + 1) c12] W fun e w' => Ta.Told w' (ss.length + 1) (ysM q d ro ss) (q ++ (runS (h0 ro) (x0 d) ss ss.length).2.f2) e ∧ Below W.heap.size W w' := fun W A14 c14 hb h1 h2 => by
        have h := tell_moved (cd := c14) HS.out (by omega) HN17.out HSK.out hb h1 A12 c12 h2
        rw [show (q ++ d).length = q.length + d.length from List.length_append] at h
        exact h
      obtain ⟨fin, hfin⟩ : ∃ fin, fin = (runS (h0 ro) (x0 d) ss ss.length).2.f2 := ⟨_, rfl⟩
      obtain ⟨rs, hrs⟩ : ∃ rs, rs = q ++ fin := ⟨_, rfl⟩
      rw [← hfin, ← hrs] at HT3
      rw [← hfin] at HL1 ⊢
      have HT3 := Lib.hid HT3
      have HFIN := Lib.hid hfin
      have HRS := Lib.hid hrs
      clear hfin hrs
      go_upto_region 14 with (first
        | ((with_reducible refine gate_builtin (b := .append) (xs := #[.tmp 93, .tmp 94]) rfl ?_); at_builtin; refine app_bytes (wb := w10) w10.heap.size rfl (.tmp 93) (.tmp 94) rfl (.slice (some ⟨w10.heap.size, 0, none⟩) 0 0) [] q Aq q.length cq rfl rfl (zero_row (Kd.int .u8) trivial (Nat.le_refl _)) (Kd.C_below HQ.out (below_then BW10.out hw10 (below_alloc (Below.refl _ _) _))) (below_alloc (Below.refl _ _) _) (by simp) (by simp; omega) ?_; intro A13 c13 w11 hr hb11 hg; have R13 := Lib.hid hr; have B11 := Lib.hid hb11; clear hr hb11 hg)
        | ((with_reducible refine gate_builtin (b := .append) (xs := #[.tmp 95, .tmp 96]) rfl ?_); at_builtin; refine app_bytes (wb := w10) w10.heap.size rfl (.tmp 95) (.tmp 96) rfl (.slice A13 ([] ++ q).length c13) ([] ++ q) d Ad d.length cd rfl rfl R13.out (Kd.C_below HD.out (below_then BW10.out hw10 B11.out)) B11.out B11.out.size (by simp; omega) ?_; intro A14 c14 w12 hr hb12 hg; have B12 := Lib.hid hb12; have BW12 := Lib.hid (below_then BW10.out hw10 hb12); have C14 := Lib.hid (Kd.R_reads' hr).2.2; clear hr hb12 hg R13 B11)
        | (go_at_call 13; (refine (HT3.out w12 A14 c14 BW12.out C14.out (Kd.C_below (len_fix (by simp [Nat.add_comm]) C12.out) B12.out)).mono ?_); rintro e w13 ⟨⟨A15, c15, A16, c16, rfl, hk, hc15, hl, hc16⟩, hb13⟩; have HK3 := Lib.hid hk; have HL3 := Lib.hid hl; have B13 := Lib.hid (below_then B12.out B12.out.size hb13); have BW13 := Lib.hid (below_then BW12.out BW12.out.size hb13); clear hk hl hb13))
      have es : strOfNums rs = strOfNums q ++ strOfNums fin := by rw [HRS.out, str_app]
      have B8d := Lib.hid (below_then B10.out B10.out.size (Below.refl _ _))
      have B813 := Lib.hid (show Below w8.heap.size w8 w13 from below_then B10.out B10.out.size B13.out)
      have cv1 := Kd.C_string (dst := 9) Tryd.underlying22 Tryd.underlying5 Tryd.underlying9 HL3.out (c := c16)
      have cv2 := Kd.C_string (dst := 9) (P := Tryd.prog) Tryd.underlying22 Tryd.underlying5 Tryd.underlying9 (Kd.C_below HQ.out BW13.out) (c := cq)
      have cv3 := Kd.C_string (dst := 9) (P := Tryd.prog) Tryd.underlying22 Tryd.underlying5 Tryd.underlying9 (Kd.C_below HL1.out B813.out) (c := c9)
      rw [es] at cv1
      have sf : fin.length ≤ 10000 := by rw [HFIN.out]; exact (HSK.out.fine ss.length (Nat.le_refl _)).1.len
      have sq1 : (strOfNums q).size ≤ 1000 := by rw [strOfNums_size]; omega
      have sq2 : (strOfNums fin).size ≤ 10000 := by rw [strOfNums_size]; exact sf
      clear es B8d
      go_wp2_with fail
      clear cv1 cv2 cv3 sq1 sq2
      go_loopw [127] (fun v127 wj => ∃ j : Nat, v127 = .int .i64 j ∧ j ≤ ss.length ∧ Hid (Below w13.heap.size w13 wj)) (fun v127 _ => ss.length - (intOf v127).toNat)
      case atStart => exact ⟨0, rfl, Nat.zero_le _, Lib.hid (Below.refl _ _)⟩
      case round =>
        rename World => wj
        obtain ⟨j, rfl, hj, BJ⟩ := hrel
        have BWj := Lib.hid (below_then BW13.out BW13.out.size BJ.out)
        have B8j := Lib.hid (below_then B813.out B813.out.size BJ.out)
        by_cases hlt : j < ss.length
        · have hlt' : (j : Int) < (ss.length : Int) := by omega
          obtain ⟨a8, A3, c3, A4, c4, A5, c5, eA8, y0, y1, y2, y3, y4, y5, l3, g3, l4, g4, l5, g5⟩ := at_T33 (Kd.C_below HK1.out B8j.out) (j : Int) (by omega) (by omega)
          obtain ⟨a15, E3, e3, E4, e4, E5, e5, eA15, z0, z1, z2, z3, z4, z5, m3, h3, m4, h4, m5, h5⟩ := at_T33 (Kd.C_below HK3.out BJ.out) ((j + 1 : Nat) : Int) (by omega) (by push_cast; omega)
          obtain ⟨ad, A6, c6, eA, t0, _, _, _, _, _, _, _, _, _, _, _⟩ := at26b HC.out BWj.out j hlt
          subst eA8 eA15 eA
          have i0 : (0 : Int) ≤ (j : Int) + 1 := by omega
          have i1 : (j : Int) + 1 < (ss.length : Int) + 1 := by omega
          have i2 : (j : Int) + 1 < ((ss.length + 1 : Nat) : Int) := by push_cast; omega
          have i3 : IntKind.i64.wrap ((j : Int) + 1) = (j : Int) + 1 := IntWalk.i64_in _ (by omega)
          have i4 : ((j : Int) + 1).toNat = j + 1 := by omega
          have hpl := plain (runS (h0 ro) (x0 d) ss j).1 (runS (h0 ro) (x0 d) ss j).2 (rd_T26 ss (j : Int)) (by have := (HSK.out.ops j hlt).2; omega) (by have := (HSK.out.ops j hlt).2; omega)
          obtain ⟨k1, k2⟩ := told_place HSK.out j hlt
          have e1 : rd_T33 ((List.range ss.length).map (ysn (h0 ro) (x0 d) ss)) (j : Int) = ysn (h0 ro) (x0 d) ss j := rd_rng _ _ _ hlt
          have e2 : rd_T33 ((List.range (ss.length + 1)).map (ysM q d ro ss)) ((j + 1 : Nat) : Int) = movA q.length (rd_T26 ss (j : Int)) (ysn (h0 ro) (x0 d) ss j) := rd_rng _ _ _ (by omega)
          rw [e2] at z0 z1 z2 z3 z4 z5 m3 h3
          rw [e1] at y0 y1 y2 y3 y4 y5 l3 g3
          rw [Int.toNat_natCast] at y0 y1 y2 y3 y4 y5 z0 z1 z2 z3 z4 z5
          clear e1 e2 l4 g4 l5 g5 m4 h4 m5 h5
          obtain ⟨x, hx⟩ : ∃ x, x = ysn (h0 ro) (x0 d) ss j := ⟨_, rfl⟩
          obtain ⟨s, hs⟩ : ∃ s, s = rd_T26 ss (j : Int) := ⟨_, rfl⟩
          have p4 : x.f4 = [] := by rw [hx]; exact hpl.1
          have p5 : x.f5 = [] := by rw [hx]; exact hpl.2
          rw [← hs] at t0 z0 z1 z2 z3 z4 z5 m3 h3
          rw [← hx] at y0 y1 y2 y3 y4 y5 l3 g3 k1 k2 z0 z1 z2 z3 z4 z5 m3 h3
          clear hpl hs hx
          have G3 := Lib.hid g3
          clear g3
          rcases movA_cases (q.length : Int) s x with ⟨b, hp⟩ | ⟨b, hp⟩
          all_goals
            rw [hp] at z0 z1 z2 z3 z4 z5 m3 h3
            have H3 := Lib.hid h3
            clear h3 hp
            try dsimp only at z0 z1 z2 z3 z4 z5 m3 H3
            rw [p4] at y4 z4
            rw [p5] at y5 z5
            rw [List.length_nil] at y4 z4 y5 z5
            have t0 := cellb t0 (below_alloc (Below.refl _ _) (.cells #[.int .i64 x.f0, .int .i64 x.f1, .int .i64 x.f2, .slice A3 x.f3.length c3, .slice A4 0 c4, .slice A5 0 c5] 33))
          · go_upto_region 21 with (fail)
            have blk := blk_at_ (w := wj) (o := .cells #[.int .i64 x.f0, .int .i64 x.f1, .int .i64 (x.f2 + (q.length : Int)), .slice A3 x.f3.length c3, .slice A4 0 c4, .slice A5 0 c5] 33) rfl
            have SS := Lib.hid (show ∀ W, Below (wj.alloc (.cells #[.int .i64 x.f0, .int .i64 x.f1, .int .i64 (x.f2 + (q.length : Int)), .slice A3 x.f3.length c3, .slice A4 0 c4, .slice A5 0 c5] 33)).heap.size (wj.alloc (.cells #[.int .i64 x.f0, .int .i64 x.f1, .int .i64 (x.f2 + (q.length : Int)), .slice A3 x.f3.length c3, .slice A4 0 c4, .slice A5 0 c5] 33)) W → (fun w' => w'.cell? ⟨wj.heap.size, 0, none⟩ = some (.int .i64 x.f0) ∧ w'.cell? ⟨wj.heap.size, 1, none⟩ = some (.int .i64 x.f1) ∧ w'.cell? ⟨wj.heap.size, 2, none⟩ = some (.int .i64 (x.f2 + (q.length : Int))) ∧ w'.cell? ⟨wj.heap.size, 3, none⟩ = some (.slice A3 x.f3.length c3) ∧ w'.cell? ⟨wj.heap.size, 4, none⟩ = some (.slice A4 0 c4) ∧ w'.cell? ⟨wj.heap.size, 5, none⟩ = some (.slice A5 0 c5) ∧ w'.cell? (a15.add ((j + 1) * 6)) = some (.int .i64 x.f0) ∧ w'.cell? ⟨(a15.add ((j + 1) * 6)).block, (a15.add ((j + 1) * 6)).off + 1, none⟩ = some (.int .i64 x.f1) ∧ w'.cell? ⟨(a15.add ((j + 1) * 6)).block, (a15.add ((j + 1) * 6)).off + 2, none⟩ = some (.int .i64 (x.f2 + (q.length : Int))) ∧ w'.cell? ⟨(a15.add ((j + 1) * 6)).block, (a15.add ((j + 1) * 6)).off + 3, none⟩ = some (.slice E3 x.f3.length e3) ∧ w'.cell? ⟨(a15.add ((j + 1) * 6)).block, (a15.add ((j + 1) * 6)).off + 4, none⟩ = some (.slice E4 0 e4) ∧ w'.cell? ⟨(a15.add ((j + 1) * 6)).block, (a15.add ((j + 1) * 6)).off + 5, none⟩ = some (.slice E5 0 e5)) W from fun W hb => by
              have hz := below_then (below_alloc (Below.refl _ _) _ : Below wj.heap.size wj (wj.alloc (.cells #[.int .i64 x.f0, .int .i64 x.f1, .int .i64 (x.f2 + (q.length : Int)), .slice A3 x.f3.length c3, .slice A4 0 c4, .slice A5 0 c5] 33))) (by simp) hb
              exact ⟨cellb (blk_cell blk 0) hb, cellb (blk_cell blk 1) hb, cellb (blk_cell blk 2) hb, cellb (blk_cell blk 3) hb, cellb (blk_cell blk 4) hb, cellb (blk_cell blk 5) hb, cellb z0 hz, cellb z1 hz, cellb z2 hz, cellb z3 hz, cellb z4 hz, cellb z5 hz⟩)
            have BD := Lib.hid (below_drew (below_alloc (Below.refl _ _) _) : Below wj.heap.size wj (wj.alloc (.cells #[.int .i64 x.f0, .int .i64 x.f1, .int .i64 (x.f2 + (q.length : Int)), .slice A3 x.f3.length c3, .slice A4 0 c4, .slice A5 0 c5] 33)).drew)
            have S3 := Lib.hid (SS.out (wj.alloc (.cells #[.int .i64 x.f0, .int .i64 x.f1, .int .i64 (x.f2 + (q.length : Int)), .slice A3 x.f3.length c3, .slice A4 0 c4, .slice A5 0 c5] 33)).drew (below_drew (Below.refl _ _)))
            have HSA := Lib.hid (same_call (wj.alloc (.cells #[.int .i64 x.f0, .int .i64 x.f1, .int .i64 (x.f2 + (q.length : Int)), .slice A3 x.f3.length c3, .slice A4 0 c4, .slice A5 0 c5] 33)).drew x.f0 x.f1 (x.f2 + (q.length : Int)) x.f3 A3 A4 A5 E3 E4 E5 c3 c4 c5 e3 e4 e5 (Kd.C_below G3.out BD.out) l3 (Kd.C_below H3.out BD.out) m3)
            clear y0 y1 y2 y3 y4 y5 z0 z1 z2 z3 z4 z5 blk
            go_region_held3 (fun w' => w'.cell? ⟨wj.heap.size, 0, none⟩ = some (.int .i64 x.f0) ∧ w'.cell? ⟨wj.heap.size, 1, none⟩ = some (.int .i64 x.f1) ∧ w'.cell? ⟨wj.heap.size, 2, none⟩ = some (.int .i64 (x.f2 + (q.length : Int))) ∧ w'.cell? ⟨wj.heap.size, 3, none⟩ = some (.slice A3 x.f3.length c3) ∧ w'.cell? ⟨wj.heap.size, 4, none⟩ = some (.slice A4 0 c4) ∧ w'.cell? ⟨wj.heap.size, 5, none⟩ = some (.slice A5 0 c5) ∧ w'.cell? (a15.add ((j + 1) * 6)) = some (.int .i64 x.f0) ∧ w'.cell? ⟨(a15.add ((j + 1) * 6)).block, (a15.add ((j + 1) * 6)).off + 1, none⟩ = some (.int .i64 x.f1) ∧ w'.cell? ⟨(a15.add ((j + 1) * 6)).block, (a15.add ((j + 1) * 6)).off + 2, none⟩ = some (.int .i64 (x.f2 + (q.length : Int))) ∧ w'.cell? ⟨(a15.add ((j + 1) * 6)).block, (a15.add ((j + 1) * 6)).off + 3, none⟩ = some (.slice E3 x.f3.length e3) ∧ w'.cell? ⟨(a15.add ((j + 1) * 6)).block, (a15.add ((j + 1) * 6)).off + 4, none⟩ = some (.slice E4 0 e4) ∧ w'.cell? ⟨(a15.add ((j + 1) * 6)).block, (a15.add ((j + 1) * 6)).off + 5, none⟩ = some (.slice E5 0 e5))
              (first | exact S3.out | go_keep)
              ((go_at_call 19; (refine (HSA.out).mono ?_); rintro e w15 ⟨rfl, hb15⟩; have HB15 := Lib.hid (un_drew7 hb15); have S3 := Lib.hid (SS.out w15 HB15.out); clear hb15))
            go_wp2_with fail
            go_roundw
            case rel => exact ⟨j + 1, by push_cast; rfl, hlt, Lib.hid (below_then BJ.out BJ.out.size (below_then (below_alloc (Below.refl _ _) _) (by simp) HB15.out))⟩
            case measure => simp only [intOf]; omega
          · go_upto_region 21 with (fail)
            have blk := blk_at_ (w := wj) (o := .cells #[.int .i64 x.f0, .int .i64 x.f1, .int .i64 (x.f2), .slice A3 x.f3.length c3, .slice A4 0 c4, .slice A5 0 c5] 33) rfl
            have SS := Lib.hid (show ∀ W, Below (wj.alloc (.cells #[.int .i64 x.f0, .int .i64 x.f1, .int .i64 (x.f2), .slice A3 x.f3.length c3, .slice A4 0 c4, .slice A5 0 c5] 33)).heap.size (wj.alloc (.cells #[.int .i64 x.f0, .int .i64 x.f1, .int .i64 (x.f2), .slice A3 x.f3.length c3, .slice A4 0 c4, .slice A5 0 c5] 33)) W → (fun w' => w'.cell? ⟨wj.heap.size, 0, none⟩ = some (.int .i64 x.f0) ∧ w'.cell? ⟨wj.heap.size, 1, none⟩ = some (.int .i64 x.f1) ∧ w'.cell? ⟨wj.heap.size, 2, none⟩ = some (.int .i64 (x.f2)) ∧ w'.cell? ⟨wj.heap.size, 3, none⟩ = some (.slice A3 x.f3.length c3) ∧ w'.cell? ⟨wj.heap.size, 4, none⟩ = some (.slice A4 0 c4) ∧ w'.cell? ⟨wj.heap.size, 5, none⟩ = some (.slice A5 0 c5) ∧ w'.cell? (a15.add ((j + 1) * 6)) = some (.int .i64 x.f0) ∧ w'.cell? ⟨(a15.add ((j + 1) * 6)).block, (a15.add ((j + 1) * 6)).off + 1, none⟩ = some (.int .i64 x.f1) ∧ w'.cell? ⟨(a15.add ((j + 1) * 6)).block, (a15.add ((j + 1) * 6)).off + 2, none⟩ = some (.int .i64 (x.f2)) ∧ w'.cell? ⟨(a15.add ((j + 1) * 6)).block, (a15.add ((j + 1) * 6)).off + 3, none⟩ = some (.slice E3 x.f3.length e3) ∧ w'.cell? ⟨(a15.add ((j + 1) * 6)).block, (a15.add ((j + 1) * 6)).off + 4, none⟩ = some (.slice E4 0 e4) ∧ w'.cell? ⟨(a15.add ((j + 1) * 6)).block, (a15.add ((j + 1) * 6)).off + 5, none⟩ = some (.slice E5 0 e5)) W from fun W hb => by
              have hz := below_then (below_alloc (Below.refl _ _) _ : Below wj.heap.size wj (wj.alloc (.cells #[.int .i64 x.f0, .int .i64 x.f1, .int .i64 (x.f2), .slice A3 x.f3.length c3, .slice A4 0 c4, .slice A5 0 c5] 33))) (by simp) hb
              exact ⟨cellb (blk_cell blk 0) hb, cellb (blk_cell blk 1) hb, cellb (blk_cell blk 2) hb, cellb (blk_cell blk 3) hb, cellb (blk_cell blk 4) hb, cellb (blk_cell blk 5) hb, cellb z0 hz, cellb z1 hz, cellb z2 hz, cellb z3 hz, cellb z4 hz, cellb z5 hz⟩)
            have BD := Lib.hid (below_drew (below_alloc (Below.refl _ _) _) : Below wj.heap.size wj (wj.alloc (.cells #[.int .i64 x.f0, .int .i64 x.f1, .int .i64 (x.f2), .slice A3 x.f3.length c3, .slice A4 0 c4, .slice A5 0 c5] 33)).drew)
            have S3 := Lib.hid (SS.out (wj.alloc (.cells #[.int .i64 x.f0, .int .i64 x.f1, .int .i64 (x.f2), .slice A3 x.f3.length c3, .slice A4 0 c4, .slice A5 0 c5] 33)).drew (below_drew (Below.refl _ _)))
            have HSA := Lib.hid (same_call (wj.alloc (.cells #[.int .i64 x.f0, .int .i64 x.f1, .int .i64 (x.f2), .slice A3 x.f3.length c3, .slice A4 0 c4, .slice A5 0 c5] 33)).drew x.f0 x.f1 (x.f2) x.f3 A3 A4 A5 E3 E4 E5 c3 c4 c5 e3 e4 e5 (Kd.C_below G3.out BD.out) l3 (Kd.C_below H3.out BD.out) m3)
            clear y0 y1 y2 y3 y4 y5 z0 z1 z2 z3 z4 z5 blk
            go_region_held3 (fun w' => w'.cell? ⟨wj.heap.size, 0, none⟩ = some (.int .i64 x.f0) ∧ w'.cell? ⟨wj.heap.size, 1, none⟩ = some (.int .i64 x.f1) ∧ w'.cell? ⟨wj.heap.size, 2, none⟩ = some (.int .i64 (x.f2)) ∧ w'.cell? ⟨wj.heap.size, 3, none⟩ = some (.slice A3 x.f3.length c3) ∧ w'.cell? ⟨wj.heap.size, 4, none⟩ = some (.slice A4 0 c4) ∧ w'.cell? ⟨wj.heap.size, 5, none⟩ = some (.slice A5 0 c5) ∧ w'.cell? (a15.add ((j + 1) * 6)) = some (.int .i64 x.f0) ∧ w'.cell? ⟨(a15.add ((j + 1) * 6)).block, (a15.add ((j + 1) * 6)).off + 1, none⟩ = some (.int .i64 x.f1) ∧ w'.cell? ⟨(a15.add ((j + 1) * 6)).block, (a15.add ((j + 1) * 6)).off + 2, none⟩ = some (.int .i64 (x.f2)) ∧ w'.cell? ⟨(a15.add ((j + 1) * 6)).block, (a15.add ((j + 1) * 6)).off + 3, none⟩ = some (.slice E3 x.f3.length e3) ∧ w'.cell? ⟨(a15.add ((j + 1) * 6)).block, (a15.add ((j + 1) * 6)).off + 4, none⟩ = some (.slice E4 0 e4) ∧ w'.cell? ⟨(a15.add ((j + 1) * 6)).block, (a15.add ((j + 1) * 6)).off + 5, none⟩ = some (.slice E5 0 e5))
              (first | exact S3.out | go_keep)
              ((go_at_call 19; (refine (HSA.out).mono ?_); rintro e w15 ⟨rfl, hb15⟩; have HB15 := Lib.hid (un_drew7 hb15); have S3 := Lib.hid (SS.out w15 HB15.out); clear hb15))
            go_wp2_with fail
            go_roundw
            case rel => exact ⟨j + 1, by push_cast; rfl, hlt, Lib.hid (below_then BJ.out BJ.out.size (below_then (below_alloc (Below.refl _ _) _) (by simp) HB15.out))⟩
            case measure => simp only [intOf]; omega
        · obtain rfl : j = ss.length := by omega
          go_wp2_with fail
          go_ret
          exact ⟨rfl, BWj.out⟩
set_option maxHeartbeats 2000000 in
set_option maxRecDepth 100000 in
theorem law6 (w : World) (A : Nat → Addr) (hS : Sent A w) (q : List Int) (Aq : Option Addr) (mq cq : Nat) (d : List Int) (Ad : Option Addr) (md cd : Nat) (ro : Bool) (ss : List S26) (As : Option Addr) (ms cs : Nat) (hQ : Kd.C (Kd.int .u8) w Aq mq q) (hcq : mq ≤ cq) (hD : Kd.C (Kd.int .u8) w Ad md d) (hcd : md ≤ cd) (hC : k26.C w As ms ss) (hcs : ms ≤ cs) :
    Calls Tryd.prog 6 #[.slice Aq mq cq, .slice Ad md cd, .bool ro, .slice As ms cs] w fun e w' => e = .returned (.bool true) ∧ Below w.heap.size w w' := by
  obtain ⟨r, hZ⟩ := zz12 w ss As ms cs hC hcs
  obtain rfl := hQ.1
  obtain rfl := hD.1
  obtain rfl := hC.1
  have hb0 := hQ.2.1
  have hb1 := hD.2.1
  have hb2 := hC.2.1
  have hx : (2147483647 < (q.length : Int)) ∨ ((q.length : Int) ≤ 2147483647 ∧ 2147483647 < (d.length : Int)) ∨ ((q.length : Int) ≤ 2147483647 ∧ (d.length : Int) ≤ 2147483647 ∧ r = false) ∨ ((q.length : Int) ≤ 2147483647 ∧ (d.length : Int) ≤ 2147483647 ∧ r = true ∧ 1000 < (q.length : Int)) ∨ ((d.length : Int) ≤ 2147483647 ∧ r = true ∧ (q.length : Int) ≤ 1000 ∧ 1000 < (d.length : Int)) ∨ ((q.length : Int) ≤ 1000 ∧ (d.length : Int) ≤ 1000 ∧ r = true ∧ 40 < (ss.length : Int)) ∨ (r = true ∧ (q.length : Int) ≤ 1000 ∧ (d.length : Int) ≤ 1000 ∧ (ss.length : Int) ≤ 40) := by
    cases r <;> simp <;> omega
  rcases hx with h1 | ⟨h1, h2⟩ | ⟨h1, h2, rfl⟩ | ⟨h1, h2, rfl, h3⟩ | ⟨h1, rfl, h2, h3⟩ | ⟨h1, h2, rfl, h3⟩ | ⟨rfl, h1, h2, h3⟩
  case inr.inr.inr.inr.inr.inr => exact law6in w A hS q Aq cq d Ad cd ro ss As cs hQ hcq hD hcd hC hcs hZ h1 h2 h3
  all_goals
    have HZ := Lib.hid hZ
    have B0 := Lib.hid (Below.refl w.heap.size w)
    have g1 : (q.length : Int) ≤ 2147483647 ∨ True := .inr trivial
    clear hZ hS hD hQ hC g1
    try have g1 : (q.length : Int) ≤ 2147483647 := by omega
    try have g2 : (d.length : Int) ≤ 2147483647 := by omega
    go_enter Tryd.func6, Tryd.ntmps6
    go_wp2_with (first | (go_at_call 12; (with_reducible refine (HZ.out _ (Below.refl _ _)).mono ?_); rintro e w1 ⟨rfl, hb1⟩; have B1 := Lib.hid hb1; clear hb1))
    go_ret
    first
      | exact ⟨rfl, B1.out⟩
      | exact ⟨rfl, B0.out⟩
end Go.Proofs.YtljcdjggjphedaaDoor.Tg
