/- The law's walk: a script cut in two. -/
import Derived.Test.YtljcdjggjphedaaDoorTa
import Derived.Test.YtljcdjggjphedaaDoorZC
import Derived.Test.YtljcdjggjphedaaDoorZD
import Derived.StillTailTactics
import Derived.Lib.QuoteBits
import Derived.IntWalk
namespace Go.Proofs.YtljcdjggjphedaaDoor.Tb
open Go.RowKit Go.Maps Go.Proofs.YtljcdjggjphedaaDoorW.PrintWords Go.Proofs.YtljcdjggjphedaaDoorW.PrintLast Go.Proofs.YtljcdjggjphedaaDoorW.PrintMore Go.Proofs.YtljcdjggjphedaaDoor.PFnHandleScript Go.Proofs.YtljcdjggjphedaaDoor.Hd Go.Proofs.YtljcdjggjphedaaDoor.Ms Go.Proofs.YtljcdjggjphedaaDoor.Mn Go.Proofs.YtljcdjggjphedaaDoor.Pm Go.Proofs.YtljcdjggjphedaaDoor.Mf Go.Proofs.YtljcdjggjphedaaDoor.Mq Go.Proofs.YtljcdjggjphedaaDoor.Bq Go.Proofs.YtljcdjggjphedaaDoor.Mr Go.Proofs.YtljcdjggjphedaaDoor.Mt Go.Proofs.YtljcdjggjphedaaDoor.Mu Go.Proofs.YtljcdjggjphedaaDoor.Mv Go.Proofs.YtljcdjggjphedaaDoor.Mw Go.Proofs.YtljcdjggjphedaaDoor.Mb Go.Proofs.YtljcdjggjphedaaDoor.Mp Go.Proofs.YtljcdjggjphedaaDoor.Me Go.Proofs.YtljcdjggjphedaaDoor.Mk Go.Proofs.YtljcdjggjphedaaDoor.Sx Go.Proofs.YtljcdjggjphedaaDoor.Sy Go.Proofs.YtljcdjggjphedaaDoor.Sz Go.Proofs.YtljcdjggjphedaaDoor.Ta
set_option linter.unusedVariables false
set_option linter.unusedSimpArgs false
/-- Steps that lead to what the caller laid (in w0). -/
def Kx (w0 : World) : Kd S26 where
  sz := k26.sz
  E := []
  K := fun _ x cs => k26.K w0 x cs
  M := fun _ _ _ x cs => k26.K w0 x cs
  K_len := k26.K_len
  K_one := k26.K_one
  K_below := fun _ h => h
  K_of_M := fun h => h
  M_mono := fun _ h => h
  M_bound := fun h => h
  M_move := fun _ h => h
  M_lower := fun _ h => h
theorem Kx_C {w0 W : World} {A : Option Addr} {n : Nat} {xs : List S26} (h : (Kx w0).C W A n xs) (hb : Below w0.heap.size w0 W) : k26.C W A n xs := by
  unfold Kd.C at h ⊢
  exact h.imp_ (Below.refl _ _) (fun _ _ hp => k26.K_below hb hp)
theorem Kx_of {w0 W : World} {A : Option Addr} {n : Nat} {xs : List S26} (h : k26.C w0 A n xs) (hb : Below w0.heap.size w0 W) : (Kx w0).C W A n xs := by
  unfold Kd.C at h ⊢
  exact h.imp_ hb (fun _ _ hp => hp)
theorem info26 : (Tryd.prog.info? 26).map (fun i => (i.zero, i.size, i.bytes)) = some (some (.agg #[.int .i64 0, .string ⟨#[]⟩, .string ⟨#[]⟩, .int .i64 0, .int .i64 0, .int .i64 0, .slice none 0 0, .int .i64 0, .int .i64 0, .int .i64 0]), 10, 112) := by kernel_rfl
section
variable {ops : Array Oper} {rest : List Oper} {o : Oper} {a : Act} {Q : Exit → Act → World → Prop}
theorem app_steps {W w0 wb : World} (base : Nat) (hgd : o.guard = none) (s x : Operand) (ho : o.op = .call { callee := .builtin .append, args := #[s, x], argTypes := #[23, 23] })
    (v : Value) (xs ys : List S26) (A : Option Addr) (m c : Nat) (hs : a.eval s = v) (hx : a.eval x = .slice A m c)
    (HO : (Kx w0).R 26 W base (fun _ => True) v xs) (HR : (Kx w0).C W A m ys) (HB : Below base wb W) (hbase : base ≤ W.heap.size) (hl : xs.length + m ≤ 1000)
    (h : ∀ A1 c1 w1, (Kx w0).R 26 w1 base (fun _ => True) (.slice A1 (xs ++ ys).length c1) (xs ++ ys) → Below base wb w1 → W.grownBy w1 v.ownBlock → wpList Tryd.prog ops Q rest (a.put o.dst (.slice A1 (xs ++ ys).length c1)) w1) :
    wpList Tryd.prog ops Q (o :: rest) a W := by
  refine Kd.R_append_rows (Kx w0) (w0 := wb) base hgd s x 23 26 _ 112 ho Tryd.underlying23 info26 rfl (by show 0 < 10; decide) (by decide) v xs ys A m c (fun _ => True) (fun _ => False) hs hx HO HR (fun x cs hc => hc) (fun _ hk => hk.elim) (fun _ _ => trivial) HB hbase (by omega) ?_
  intro v1 w1 h1 hb h2 _
  obtain ⟨A1, c1, e1, _, _⟩ := Kd.R_reads h1
  subst e1
  exact h A1 c1 w1 h1 hb h2
end
theorem len_fix {α : Type} {d : Kd α} {W : World} {A : Option Addr} {n m : Nat} {xs : List α} (e : n = m) (h : d.C W A n xs) : d.C W A m xs := e ▸ h
theorem drop_map (f : Nat → S33) (m k : Nat) : ((List.range (m + k)).map f).drop m = (List.range k).map (fun j => f (m + j)) := by
  apply List.ext_getElem
  · simp
  · intro j h1 h2
    simp
theorem drop_one (f : Nat → S33) (k : Nat) : ((List.range (k + 1)).map f).drop 1 = (List.range k).map (fun j => f (j + 1)) := by
  rw [Nat.add_comm k 1, drop_map]
  congr 1
  funext j
  rw [Nat.add_comm]
set_option maxHeartbeats 8000000 in
set_option maxRecDepth 100000 in
theorem law5in (w : World) (A : Nat → Addr) (hS : Sent A w) (data : List Int) (Ad : Option Addr) (cd : Nat) (ro : Bool) (a : List S26) (Aa : Option Addr) (ca : Nat) (b : List S26) (Ab : Option Addr) (cb : Nat) (hD : Kd.C (Kd.int .u8) w Ad data.length data) (hcd : data.length ≤ cd) (hA : k26.C w Aa a.length a) (hca : a.length ≤ ca) (hB : k26.C w Ab b.length b) (hcb : b.length ≤ cb)
    (hZ1 : ∀ W, Below w.heap.size w W → Calls Tryd.prog 12 #[.slice Aa a.length ca] W fun e w' => e = .returned (.bool true) ∧ Below W.heap.size W w') (hZ2 : ∀ W, Below w.heap.size w W → Calls Tryd.prog 12 #[.slice Ab b.length cb] W fun e w' => e = .returned (.bool true) ∧ Below W.heap.size W w') (hm : (data.length : Int) ≤ 2147483647) (ha : (a.length : Int) ≤ 30) (hb : (b.length : Int) ≤ 30) :
    Calls Tryd.prog 5 #[.slice Ad data.length cd, .bool ro, .slice Aa a.length ca, .slice Ab b.length cb] w fun e w' => e = .returned (.bool true) ∧ Below w.heap.size w w' := by
  have HZ1 := Lib.hid hZ1
  have HZ2 := Lib.hid hZ2
  have HD := Lib.hid hD
  have HA := Lib.hid hA
  have HB := Lib.hid hB
  have HS := Lib.hid hS
  clear hZ1 hZ2 hD hA hB hS
  go_enter Tryd.func5, Tryd.ntmps5
  go_upto_region 5 with (first | (go_at_call 12; (with_reducible refine (HZ1.out _ (Below.refl _ _)).mono ?_); rintro e w1 ⟨rfl, hb1⟩; have B1 := Lib.hid hb1; clear hb1) | (go_at_call 12; (with_reducible refine (HZ2.out _ B1.out).mono ?_); rintro e w2 ⟨rfl, hb2⟩; have B2 := Lib.hid (below_then B1.out B1.out.size hb2); clear hb2))
  have hbz : w.heap.size ≤ w2.heap.size := B2.out.size
  go_upto_region 6 with (first
    | ((with_reducible refine gate_builtin (b := .append) (xs := #[.tmp 39, .tmp 40]) rfl ?_); at_builtin; refine app_steps (w0 := w) (wb := w) w.heap.size rfl (.tmp 39) (.tmp 40) rfl (.slice (some ⟨w2.heap.size, 0, none⟩) 0 0) [] a Aa a.length ca rfl rfl (zero_row (Kx w) trivial hbz) (Kx_of HA.out (below_then B2.out hbz (below_alloc (Below.refl _ _) _))) (below_then B2.out hbz (below_alloc (Below.refl _ _) _)) (by simp; omega) (by simp; omega) ?_; intro A3 c3 w3 hr hb3 hg; have R3 := Lib.hid hr; have B3 := Lib.hid hb3; clear hr hb3 hg)
    | ((with_reducible refine gate_builtin (b := .append) (xs := #[.tmp 41, .tmp 42]) rfl ?_); at_builtin; refine app_steps (w0 := w) (wb := w) w.heap.size rfl (.tmp 41) (.tmp 42) rfl (.slice A3 ([] ++ a).length c3) ([] ++ a) b Ab b.length cb rfl rfl R3.out (Kx_of HB.out B3.out) B3.out B3.out.size (by simp; omega) ?_; intro A4 c4 w4 hr hb4 hg; have R4 := Lib.hid hr; have B4 := Lib.hid hb4; clear hr hb4 hg))
  obtain ⟨ss, hss⟩ : ∃ ss, ss = a ++ b := ⟨_, rfl⟩
  obtain ⟨n, hn⟩ : ∃ n, n = a.length + b.length := ⟨_, rfl⟩
  have hsl : ss.length = n := by rw [hss, hn, List.length_append]
  obtain ⟨hq1, hc4, hC4⟩ := Kd.R_reads' R4.out
  have eL : ([] ++ a ++ b).length = n := by rw [hn]; simp
  rw [eL] at hc4 hC4
  rw [List.nil_append, ← hss] at hC4
  have hC4 := Kx_C hC4 B4.out
  have HSP := spoken_all w4 data ro Ad cd (Kd.C_below HD.out B4.out) ss A4 c4 (by rw [hsl]; exact hC4) (by rw [hsl]; exact hc4)
  rw [hsl] at HSP
  have HSP := Lib.hid HSP
  have HC4 := Lib.hid hC4
  have HSS := Lib.hid hss
  have HSL := Lib.hid hsl
  rw [← hn]
  have HN := Lib.hid hn
  have hn60 : n ≤ 60 := by omega
  clear hss hq1 hC4 eL hsl hn R3 R4 HZ1 HZ2 B1 B3
  go_wp2_with (first | (go_at_call 14; (refine (HSP.out).mono ?_); rintro e w5 ⟨t, rfl, hb5, hg⟩; have B5 := Lib.hid hb5; have HG := Lib.hid hg; clear hb5 hg))
  · go_ret
    exact ⟨rfl, below_then B4.out B4.out.size B5.out⟩
  have hbt : t = true := by simp_all
  obtain ⟨hl1, hn1, hgood⟩ := HG.out hbt
  have HGD := Lib.hid hgood
  clear hgood HSP HG
  have B45 := Lib.hid (below_then B4.out B4.out.size B5.out)
  have HCc := Lib.hid (Kd.C_below HC4.out B5.out)
  clear B5
  go_loopw [51] (fun v51 wr => ∃ i : Nat, v51 = .int .i64 i ∧ i ≤ n ∧ Hid (Below w5.heap.size w5 wr) ∧ Hid (∀ j : Nat, j < i → 12 ≤ (rd_T26 ss j).f0 ∧ (rd_T26 ss j).f0 ≤ 17)) (fun v51 _ => n - (intOf v51).toNat)
  case atStart => exact ⟨0, rfl, Nat.zero_le _, Lib.hid (Below.refl _ _), Lib.hid (fun j hj => absurd hj (by omega))⟩
  case round =>
    obtain ⟨i, rfl, hi, BI, NI⟩ := hrel
    by_cases hlt : i < n
    · obtain ⟨ad, A6, c6, eA, x0, x1, x2, x3, x4, x5, x6, x7, x8, x9, l6, g6⟩ := at_T26 (Kd.C_below HCc.out BI.out) (i : Int) (by omega) (by omega)
      subst eA
      rw [Int.toNat_natCast] at x0 x1 x2 x3 x4 x5 x6 x7 x8 x9
      obtain ⟨s, hs⟩ : ∃ s, s = rd_T26 ss (i : Int) := ⟨_, rfl⟩
      rw [← hs] at x0 x1 x2 x3 x4 x5 x6 x7 x8 x9
      have HSI := Lib.hid hs
      clear hs g6 l6
      have hlt' : (i : Int) < (n : Int) := by omega
      have bfin := Lib.hid (below_then B45.out B45.out.size BI.out)
      by_cases q1 : s.f0 < 12
      · go_wp2_with fail
        go_ret
        exact ⟨rfl, below_then bfin.out bfin.out.size (below_alloc (Below.refl _ _) _)⟩
      · by_cases q2 : 17 < s.f0
        · go_wp2_with fail
          go_ret
          exact ⟨rfl, below_then bfin.out bfin.out.size (below_alloc (Below.refl _ _) _)⟩
        · go_wp2_with fail
          go_roundw
          case rel => exact ⟨i + 1, by push_cast; rfl, hlt, Lib.hid (below_then BI.out BI.out.size (below_alloc (Below.refl _ _) _)), Lib.hid (fun j hj => by
            rcases Nat.lt_or_ge j i with h | h
            · exact NI.out j h
            · obtain rfl : j = i := by omega
              rw [← HSI.out]
              exact ⟨by omega, by omega⟩)⟩
          case measure => simp only [intOf]; omega
    · obtain rfl : i = n := by omega
      have S : Spk data ro (a ++ b) := ⟨hl1, by rw [← HSS.out, HSL.out]; exact hn60, by rw [← HSS.out]; exact HGD.out, by rw [← HSS.out, HSL.out]; exact NI.out⟩
      have HSK := Lib.hid S
      have BW := Lib.hid (below_then B45.out B45.out.size BI.out)
      clear S hlt NI HGD
      go_upto_region 14 with (fail)
      have hbw : w.heap.size ≤ wr.heap.size := BW.out.size
      go_upto_region 15 with (first
        | ((with_reducible refine gate_builtin (b := .append) (xs := #[.tmp 67, .tmp 68]) rfl ?_); at_builtin; refine app_steps (w0 := w) (wb := wr) wr.heap.size rfl (.tmp 67) (.tmp 68) rfl (.slice (some ⟨wr.heap.size, 0, none⟩) 0 0) [] a Aa a.length ca rfl rfl (zero_row (Kx w) trivial (Nat.le_refl _)) (Kx_of HA.out (below_then BW.out hbw (below_alloc (Below.refl _ _) _))) (below_alloc (Below.refl _ _) _) (by simp) (by simp; omega) ?_; intro A5 c5 w6 hr hb6 hg; have R5 := Lib.hid hr; have B6 := Lib.hid hb6; have L5 := Lib.hid (lit_row (Kx w) (W := w6) (base := wr.heap.size) (e := 26) (x := sk1) (ok := fun _ => True) (okp := fun _ => False) (k26_mk w sk1 (A6 := none) (c6 := 0) (Nat.le_refl _) (Kd.C_nil _ _)) (fun _ hk => hk.elim) trivial hb6.size); clear hr hb6 hg)
        | ((with_reducible refine gate_builtin (b := .append) (xs := #[.tmp 69, .tmp 71]) rfl ?_); at_builtin; refine app_steps (w0 := w) (wb := wr) wr.heap.size rfl (.tmp 69) (.tmp 71) rfl (.slice A5 ([] ++ a).length c5) ([] ++ a) [sk1] (some ⟨w6.heap.size, 0, none⟩) 1 1 rfl rfl (Kd.R_below R5.out (below_alloc (Below.refl _ _) _)) (Kd.R_reads' L5.out).2.2 (below_then B6.out B6.out.size (below_alloc (Below.refl _ _) _)) (by have := B6.out.size; simp; omega) (by simp; omega) ?_; intro A6 c6 w7 hr hb7 hg; have B7 := Lib.hid hb7; have BW7 := Lib.hid (below_then BW.out hbw hb7); have C7 := Lib.hid (Kx_C (Kd.R_reads' hr).2.2 BW7.out); clear hr hb7 hg; have HT1 := Lib.hid (tell_first (cd := cd) HS.out HD.out HSK.out A6 c6 BW7.out (len_fix (by simp) C7.out)))
        | (go_at_call 13; (with_reducible refine (HT1.out).mono ?_); rintro e w8 ⟨⟨A8, c8, A9, c9, rfl, hk, hc8, hl, hc9⟩, hb8⟩; have HK1 := Lib.hid hk; have HL1 := Lib.hid hl; have B78 := Lib.hid (below_then B7.out B7.out.size hb8); have B8 := Lib.hid (below_then BW.out hbw (below_then B7.out B7.out.size hb8)); clear hk hl hb8))
      obtain ⟨lf, hlf⟩ : ∃ lf, lf = left1 data ro a b := ⟨_, rfl⟩
      obtain ⟨pl, hpl⟩ : ∃ pl, pl = placeAt1 data ro a b := ⟨_, rfl⟩
      have HPL := Lib.hid hpl
      rw [← hlf] at HL1
      try rw [← hlf]
      have HLF := Lib.hid hlf
      clear hlf hpl
      by_cases h8 : (8192 : Int) < (lf.length : Int)
      · go_wp2_with fail
        go_ret
        exact ⟨by simp, B8.out⟩
      · obtain ⟨ad, q3, d3, q4, d4, q5, d5, eA8, y0, y1, y2, _⟩ := at_T33 HK1.out (a.length : Int) (by omega) (by push_cast; omega)
        subst eA8
        have ey : rd_T33 ((List.range (a.length + 1)).map (ysA data ro a b)) (a.length : Int) = ans 0 0 pl [] := by
          unfold rd_T33
          rw [Int.toNat_natCast, List.getD_eq_getElem?_getD]
          simp
          unfold ysA
          rw [if_neg (by omega), HPL.out]
        rw [ey, Int.toNat_natCast] at y2
        have y2 : w8.cell? ⟨(ad.add (a.length * 6)).block, (ad.add (a.length * 6)).off + 2, none⟩ = some (.int .i64 pl) := y2
        have Y2 := Lib.hid y2
        have eab : (a ++ b).length = i := by rw [← HSS.out, HSL.out]
        have HT2 := tell_all (cd := cd) HS.out HD.out HSK.out A4 c4 B8.out (by rw [← HSS.out, HSL.out]; exact Kd.C_below (Kd.C_below HCc.out BI.out) B78.out)
        rw [eab] at HT2
        have HT2 := Lib.hid HT2
        clear eab y0 y1 ey
        go_upto_region 18 with (first | (go_at_call 13; (with_reducible refine (HT2.out).mono ?_); rintro e w9 ⟨⟨A10, c10, A11, c11, rfl, hk, hc10, hl, hc11⟩, hb9⟩; have HK2 := Lib.hid hk; have HL2 := Lib.hid hl; have B9 := Lib.hid hb9; have y2 := cellb Y2.out hb9; clear hk hl hb9))
        have LK := Lib.hid (lit_row (Kx w) (W := w9) (base := w9.heap.size) (e := 26) (x := sk0 pl) (ok := fun _ => True) (okp := fun _ => False) (k26_mk w (sk0 pl) (A6 := none) (c6 := 0) (Nat.le_refl _) (Kd.C_nil _ _)) (fun _ hk => hk.elim) trivial (Nat.le_refl _))
        have BW9 := Lib.hid (below_then B8.out B8.out.size B9.out)
        have hw9 : w.heap.size ≤ w9.heap.size := BW9.out.size
        go_upto_region 19 with (first
          | ((with_reducible refine gate_builtin (b := .append) (xs := #[.tmp 110, .tmp 111]) rfl ?_); at_builtin; refine app_steps (w0 := w) (wb := w9) w9.heap.size rfl (.tmp 110) (.tmp 111) rfl (.slice (some ⟨w9.heap.size, 0, none⟩) 1 1) [sk0 pl] b Ab b.length cb rfl rfl LK.out (Kx_of HB.out (below_then BW9.out hw9 (below_alloc (Below.refl _ _) _))) (below_alloc (Below.refl _ _) _) (by simp) (by simp; omega) ?_; intro A12 c12 w10 hr hb10 hg; have B10 := Lib.hid hb10; have BW10 := Lib.hid (below_then BW9.out hw9 hb10); have C12 := Lib.hid (Kx_C (Kd.R_reads' hr).2.2 BW10.out); clear hr hb10 hg; have HT3 := tell_second (cd := c9) HS.out HSK.out BW10.out (by rw [← HLF.out]; exact Kd.C_below (Kd.C_below HL1.out B9.out) B10.out) A12 c12 (by rw [← HPL.out]; exact len_fix (by simp [Nat.add_comm]) C12.out))
          | (go_at_call 13; (rw [← HLF.out] at HT3); (with_reducible refine (HT3).mono ?_); rintro e w11 ⟨⟨A13, c13, A14, c14, rfl, hk, hc13, hl, hc14⟩, hb11⟩; have HK3 := Lib.hid hk; have HL3 := Lib.hid hl; have B11 := Lib.hid (below_then B10.out B10.out.size hb11); clear hk hl hb11))
        have hn' := HN.out
        obtain ⟨LW, hLW⟩ : ∃ LW, LW = (List.range b.length).map (fun j => ysn (h0 ro) (x0 data) (a ++ b) (a.length + j)) := ⟨_, rfl⟩
        have hLl : LW.length = b.length := by rw [hLW]; simp
        have k2 := Kd.C_drop (m := a.length) (c := c10) (len_fix (show i = ((List.range i).map (ysn (h0 ro) (x0 data) (a ++ b))).length by simp) HK2.out) (by simp; omega) (by simp; omega)
        have k3 := Kd.C_drop (m := 1) (c := c13) (len_fix (show b.length + 1 = ((List.range (b.length + 1)).map (ysP data ro a b)).length by simp) HK3.out) (by simp) (by simp; omega)
        have e2 : ((List.range i).map (ysn (h0 ro) (x0 data) (a ++ b))).drop a.length = LW := by rw [hn', hLW]; exact drop_map _ _ _
        have e3 : ((List.range (b.length + 1)).map (ysP data ro a b)).drop 1 = LW := by rw [hLW, drop_one]; rfl
        rw [e2] at k2
        rw [e3] at k3
        have hsz : k33.sz = 6 := rfl
        rw [hsz] at k2 k3
        obtain ⟨i27, hi27, hz27⟩ := Option.map_eq_some_iff.1 info33
        simp only [Prod.mk.injEq] at hz27
        have cut1 := cut_from (P := Tryd.prog) 27 33 .i64 Tryd.underlying27 hi27 6 hz27.2.1 A10 i c10 (a.length : Int) (by omega) (by omega)
        have cut2 := cut_from (P := Tryd.prog) 27 33 .i64 Tryd.underlying27 hi27 6 hz27.2.1 A13 (b.length + 1) c13 1 (by decide) (by omega)
        rw [Int.toNat_natCast, show i - a.length = b.length by omega] at cut1
        rw [show (1 : Int).toNat = 1 from rfl, show b.length + 1 - 1 = b.length by omega] at cut2
        generalize (if c10 = a.length then A10 else Option.map (fun x => x.add (a.length * 6)) A10) = D1 at cut1 k2
        generalize (if c13 = 1 then A13 else Option.map (fun x => x.add (1 * 6)) A13) = D2 at cut2 k3
        have K2 := Lib.hid k2
        have K3 := Lib.hid k3
        have HLL := Lib.hid hLl
        have hplain : ∀ j : Nat, j < LW.length → (rd_T33 LW j).f4 = [] ∧ (rd_T33 LW j).f5 = [] := fun j hj => by
          have e : rd_T33 LW (j : Int) = ysn (h0 ro) (x0 data) (a ++ b) (a.length + j) := by
            rw [hLW]
            unfold rd_T33
            rw [Int.toNat_natCast, List.getD_eq_getElem?_getD]
            simp [show j < b.length by omega]
          rw [e]
          have o := HSK.out.ops (a.length + j) (by rw [List.length_append]; omega)
          exact plain _ _ _ (by omega) (by omega)
        have HSF := Lib.hid (same_f LW hplain (by omega))
        obtain ⟨fin, hfin⟩ : ∃ fin, fin = (runS (h0 ro) (x0 data) (a ++ b) i).2.f2 := ⟨_, rfl⟩
        have hL2 := HL2.out
        have hL3 := HL3.out
        rw [← hfin] at hL2
        rw [show (a ++ b).length = i by rw [← HSS.out, HSL.out], ← hfin] at hL3
        have HE2 := Lib.hid hL2
        have HE3 := Lib.hid hL3
        try rw [← hn']
        try rw [← hfin]
        try rw [← hfin]
        have HNN := Lib.hid hn'
        clear hn'
        clear hL2 hL3 hplain e2 e3 k2 k3 hsz hz27 hi27 hLW hLl hfin HL2 HL3 HK2 HK3
        go_upto_region 21 with (fail)
        have SS := Lib.hid (show ∀ W, Below w11.heap.size w11 W → (fun w' => (convert 22 9 (.slice A11 fin.length c11)).run Tryd.prog w' = .ok (.string (strOfNums fin)) w' ∧ (convert 22 9 (.slice A14 fin.length c14)).run Tryd.prog w' = .ok (.string (strOfNums fin)) w') W from fun W hb =>
          ⟨Kd.C_string (dst := 9) Tryd.underlying22 Tryd.underlying5 Tryd.underlying9 (Kd.C_below (Kd.C_below HE2.out B11.out) hb) (c := c11), Kd.C_string (dst := 9) (P := Tryd.prog) Tryd.underlying22 Tryd.underlying5 Tryd.underlying9 (Kd.C_below HE3.out hb) (c := c14)⟩)
        have S3 := Lib.hid (SS.out w11.drew (below_drew (Below.refl _ _)))
        have HSD := Lib.hid (show Calls Tryd.prog 17 #[.slice D1 b.length (c10 - a.length), .slice D2 b.length (c13 - 1)] w11.drew fun e w' => e = .returned (.bool true) ∧ Below w11.drew.heap.size w11.drew w' by
          have q := spec_SameAnswers.calls (0 + 3 + LW.length + 1) D1 (c10 - a.length) LW D2 (c13 - 1) LW true w11.drew (Kd.C_below K2.out (below_then B11.out B11.out.size (below_drew (Below.refl _ _)))) (by have := HLL.out; have := HNN.out; omega) (Kd.C_below K3.out (below_drew (Below.refl _ _))) (by have := HLL.out; omega) HSF.out
          rw [HLL.out] at q
          exact q)
        have BW11 := Lib.hid (below_then BW9.out hw9 B11.out)
        go_region_held3 (fun w' => (convert 22 9 (.slice A11 fin.length c11)).run Tryd.prog w' = .ok (.string (strOfNums fin)) w' ∧ (convert 22 9 (.slice A14 fin.length c14)).run Tryd.prog w' = .ok (.string (strOfNums fin)) w')
          (first | exact S3.out | go_keep)
          ((go_at_call 17; (refine (HSD.out).mono ?_); rintro e w12 ⟨rfl, hb12⟩; have HB12 := Lib.hid (un_drew7 hb12); have S3 := Lib.hid (SS.out w12 HB12.out); clear hb12))
        go_wp2_with fail
        go_ret
        exact ⟨rfl, below_then BW11.out BW11.out.size HB12.out⟩
set_option maxHeartbeats 2000000 in
set_option maxRecDepth 100000 in
theorem law5 (w : World) (A : Nat → Addr) (hS : Sent A w) (data : List Int) (Ad : Option Addr) (md cd : Nat) (ro : Bool) (a : List S26) (Aa : Option Addr) (ma ca : Nat) (b : List S26) (Ab : Option Addr) (mb cb : Nat) (hD : Kd.C (Kd.int .u8) w Ad md data) (hcd : md ≤ cd) (hA : k26.C w Aa ma a) (hca : ma ≤ ca) (hB : k26.C w Ab mb b) (hcb : mb ≤ cb) :
    Calls Tryd.prog 5 #[.slice Ad md cd, .bool ro, .slice Aa ma ca, .slice Ab mb cb] w fun e w' => e = .returned (.bool true) ∧ Below w.heap.size w w' := by
  obtain ⟨r1, hZ1⟩ := zz12 w a Aa ma ca hA hca
  obtain ⟨r2, hZ2⟩ := zz12 w b Ab mb cb hB hcb
  obtain rfl := hD.1
  obtain rfl := hA.1
  obtain rfl := hB.1
  have hx : (2147483647 < (data.length : Int)) ∨ ((data.length : Int) ≤ 2147483647 ∧ r1 = false) ∨ ((data.length : Int) ≤ 2147483647 ∧ r1 = true ∧ r2 = false) ∨ ((data.length : Int) ≤ 2147483647 ∧ r1 = true ∧ r2 = true ∧ 30 < (a.length : Int)) ∨ ((data.length : Int) ≤ 2147483647 ∧ r1 = true ∧ r2 = true ∧ (a.length : Int) ≤ 30 ∧ 30 < (b.length : Int)) ∨ ((data.length : Int) ≤ 2147483647 ∧ r1 = true ∧ r2 = true ∧ (a.length : Int) ≤ 30 ∧ (b.length : Int) ≤ 30) := by
    cases r1 <;> cases r2 <;> simp <;> omega
  have hb0 := hD.2.1
  have hb1 := hA.2.1
  have hb2 := hB.2.1
  rcases hx with h1 | ⟨h1, rfl⟩ | ⟨h1, rfl, rfl⟩ | ⟨h1, rfl, rfl, h2⟩ | ⟨h1, rfl, rfl, h2, h3⟩ | ⟨h1, rfl, rfl, h2, h3⟩
  case inr.inr.inr.inr.inr => exact law5in w A hS data Ad cd ro a Aa ca b Ab cb hD hcd hA hca hB hcb hZ1 hZ2 h1 h2 h3
  all_goals
    have HZ1 := Lib.hid hZ1
    have HZ2 := Lib.hid hZ2
    have B0 := Lib.hid (Below.refl w.heap.size w)
    clear hZ1 hZ2 hS hD hA hB
    go_enter Tryd.func5, Tryd.ntmps5
    go_wp2_with (first | (go_at_call 12; (with_reducible refine (HZ1.out _ (Below.refl _ _)).mono ?_); rintro e w1 ⟨rfl, hb1⟩; have B1 := Lib.hid hb1; clear hb1) | (go_at_call 12; (with_reducible refine (HZ2.out _ B1.out).mono ?_); rintro e w2 ⟨rfl, hb2⟩; have B2 := Lib.hid (below_then B1.out B1.out.size hb2); clear hb2))
    go_ret
    first
      | exact ⟨rfl, B2.out⟩
      | exact ⟨rfl, B1.out⟩
      | exact ⟨rfl, B0.out⟩
end Go.Proofs.YtljcdjggjphedaaDoor.Tb
