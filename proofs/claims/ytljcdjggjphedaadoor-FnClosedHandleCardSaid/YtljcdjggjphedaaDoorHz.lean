/- A script on an open file: what impl.HandleScript answers. -/
import Derived.Test.YtljcdjggjphedaaDoorHq
import Derived.Test.YtljcdjggjphedaaDoorHp
import Derived.IntWalk
namespace Go.Proofs.YtljcdjggjphedaaDoor.Hd
open Go.RowKit Go.Proofs.YtljcdjggjphedaaDoorW.PrintWords Go.Proofs.YtljcdjggjphedaaDoorW.PrintLast Go.Proofs.YtljcdjggjphedaaDoorW.PrintMore
open Go.Proofs.YtljcdjggjphedaaDoor.PFnHandleScript
set_option linter.unusedVariables false
set_option linter.unusedSimpArgs false
theorem info33 : (Tryd.prog.info? 33).map (fun i => (i.zero, i.size, i.bytes)) = some (some (.agg #[.int .i64 0, .int .i64 0, .int .i64 0, .slice none 0 0, .slice none 0 0, .slice none 0 0]), 6, 96) := by kernel_rfl
section
variable {ops : Array Oper} {rest : List Oper} {o : Oper} {a : Act} {Q : Exit → Act → World → Prop}
theorem app_ans {W : World} (base : Nat) (hgd : o.guard = none) (s x : Operand) (ho : o.op = .call { callee := .builtin .append, args := #[s, x], argTypes := #[27, 27] })
    (v : Value) (xs : List S33) (p : S33) (v3 v4 v5 : Value) (ok okp : Nat → Prop) (hs : a.eval s = v) (hx : a.eval x = .slice (some ⟨W.heap.size, 0, none⟩) 1 1)
    (g3 : (Kd.int .u8).R 5 W base okp v3 p.f3) (g4 : Kd.string.R 9 W base okp v4 p.f4) (g5 : k75.R 75 W base okp v5 p.f5) (hokp : ∀ k, okp k → ok k ∧ some k ≠ v.ownBlock) (hfresh : ∀ k, W.heap.size ≤ k → ok k)
    (HO : k33.R 33 W base ok v xs) (hbase : base ≤ W.heap.size) (hl : xs.length ≤ 1000)
    (h : ∀ v1 w1, k33.R 33 w1 base ok v1 (xs ++ [p]) → W.grownBy w1 v.ownBlock → wpList Tryd.prog ops Q rest (a.put o.dst v1) w1) :
    wpList Tryd.prog ops Q (o :: rest) a (W.alloc (.cells #[.int .i64 p.f0, .int .i64 p.f1, .int .i64 p.f2, v3, v4, v5] 33)) := by
  refine Kd.R_append k33 (w0 := W) base hgd s x 27 33 _ 96 ho Tryd.underlying27 info33 rfl (by decide) (by decide) v xs p [.int .i64 p.f0, .int .i64 p.f1, .int .i64 p.f2, v3, v4, v5] ok okp hs hx (k33_mkM W base okp p g3 g4 g5) hokp hfresh HO (Below.refl _ _) hbase (by omega) ?_
  intro v1 w1 h1 _ h2 _
  exact h v1 w1 h1 h2
end
/-- The blocks that no file's step touches. -/
def okk (f d : Nat) (v : Value) (k : Nat) : Prop := k ≠ f ∧ k ≠ d ∧ some k ≠ v.ownBlock
/-- What a script on an open file has done so far. -/
structure Sc (A : Nat → Addr) (base f d : Nat) (w0 : World) (h : Hnd) (n : Nod) (data : List Int) (v out : Value) (xs : List S33) (W : World) : Prop where
  fil : Fil f d h n v data base W
  out : k33.R 33 W base (okk f d v) out xs
  sen : SentB A base W
  bel : Below base w0 W
  hf : base ≤ f
  hd : base ≤ d
/-- A step on an open file does so. -/
def Does (A : Nat → Addr) (h : Hnd) (n : Nod) (data : List Int) (s : S26) (x : S33) (h' : Hnd) (n' : Nod) (data' : List Int) : Prop :=
  ∀ (f d base : Nat) (v : Value) (W : World), Fil f d h n v data base W → SentB A base W → base ≤ f → base ≤ d → ∀ (Ad : Option Addr) (cd : Nat), Kd.C (Kd.int .u8) W Ad s.f6.length s.f6 → s.f6.length ≤ cd →
    Calls Tryd.prog 27 #[.pointer (some ⟨f, 0, none⟩), .agg #[.int .i64 s.f0, .string s.f1, .string s.f2, .int .i64 s.f3, .int .i64 s.f4, .int .i64 s.f5, .slice Ad s.f6.length cd, .int .i64 s.f7, .int .i64 s.f8, .int .i64 s.f9]] W (Stp f d h' n' data' base v x W)
section
variable {A : Nat → Addr} {base f d : Nat} {w0 W w1 : World} {h h' : Hnd} {n n' : Nod} {data data' : List Int} {v out : Value} {xs : List S33}
theorem Sc.size (S : Sc A base f d w0 h n data v out xs W) : base ≤ W.heap.size := Nat.le_trans S.hf (Nat.le_of_lt (blk_lt S.fil.hf))
theorem Sc.below (S : Sc A base f d w0 h n data v out xs W) (hb : Below W.heap.size W w1) : Sc A base f d w0 h n data v out xs w1 :=
  ⟨S.fil.below hb, Kd.R_below S.out hb, S.sen.moves (Moves.of_below hb (fun _ => False)) (fun _ q => q.elim) S.size, below_then S.bel S.size hb, S.hf, S.hd⟩
theorem Sc.step {x : S33} {e : Ending} (S : Sc A base f d w0 h n data v out xs W) (hs : Stp f d h' n' data' base v x W e w1) :
    ∃ v' v3 v4 v5, e = .returned (.agg #[.int .i64 x.f0, .int .i64 x.f1, .int .i64 x.f2, v3, v4, v5]) ∧ Sc A base f d w0 h' n' data' v' out xs w1 ∧ (Kd.int .u8).R 5 w1 base (fun k => okk f d v' k ∧ some k ≠ out.ownBlock) v3 x.f3 ∧ Kd.string.R 9 w1 base (fun k => okk f d v' k ∧ some k ≠ out.ownBlock) v4 x.f4 ∧ k75.R 75 w1 base (fun k => okk f d v' k ∧ some k ≠ out.ownBlock) v5 x.f5 := by
  obtain ⟨v', ⟨v3, v4, v5, rfl, r3, r4, r5⟩, F, M, O⟩ := hs
  have hB := S.size
  have hfl := blk_lt S.fil.hf
  have hdl := blk_lt S.fil.hd
  have hol : ∀ k, out.ownBlock = some k → k < W.heap.size := fun k hk => Kd.R_lt S.out k hk
  have hnew : ∀ k, W.heap.size ≤ k → some k ≠ v'.ownBlock → okk f d v' k ∧ some k ≠ out.ownBlock := fun k hk hv =>
    ⟨⟨by omega, by omega, hv⟩, fun e => by have := hol k e.symm; omega⟩
  have hout : k33.R 33 w1 base (okk f d v') out xs := by
    have h1 := M.row (Kd.R_bound S.out) (fun k hk ht => by
      rcases ht with rfl | rfl | ht
      · exact hk.1.1 rfl
      · exact hk.1.2.1 rfl
      · exact hk.1.2.2 ht)
    refine Kd.R_mono h1 (fun k hk => ⟨hk.1.1, hk.1.2.1, fun e => ?_⟩)
    rcases O with O | ⟨b, O, hb⟩
    · exact hk.1.2.2 (e.trans O)
    · rw [O] at e
      injection e with e
      have := hk.2.2.1
      omega
  refine ⟨v', v3, v4, v5, rfl, ⟨F, hout, S.sen.moves M (S.fil.tch S.hf S.hd) hB, M.toBelow S.bel hB (S.fil.tch S.hf S.hd), S.hf, S.hd⟩, ?_, ?_, ?_⟩
  · exact Kd.R_lower (Kd.R_mono (Kd.R_bound r3) (fun k hk => hnew k hk.2.1 hk.1)) hB
  · exact Kd.R_lower (Kd.R_mono (Kd.R_bound r4) (fun k hk => hnew k hk.2.1 hk.1)) hB
  · exact Kd.R_lower (Kd.R_mono (Kd.R_bound r5) (fun k hk => hnew k hk.2.1 hk.1)) hB
theorem Sc.fresh (S : Sc A base f d w0 h n data v out xs W) : ∀ k, W.heap.size ≤ k → okk f d v k := fun k hk => by
  have hfl := blk_lt S.fil.hf
  have hdl := blk_lt S.fil.hd
  exact ⟨by omega, by omega, fun e => by have := Kd.R_lt S.fil.row k e.symm; omega⟩
theorem Sc.app {out' : Value} {ys : List S33} (S : Sc A base f d w0 h n data v out xs W) (hr : k33.R 33 w1 base (okk f d v) out' ys) (hg : W.grownBy w1 out.ownBlock) : Sc A base f d w0 h n data v out' ys w1 := by
  have hM : Moves (fun k => some k = out.ownBlock) W w1 := (Moves.refl _ W).grown hg (fun k hk => .inl hk.symm)
  have hb : ∀ k, some k = out.ownBlock → base ≤ k := fun k hk => Kd.R_base S.out k hk.symm
  refine ⟨S.fil.grown hg (fun e => (S.out.1 f e.symm).1 rfl) (fun e => (S.out.1 d e.symm).2.1 rfl) (fun i hi e => (S.out.1 i e).2.2 hi.symm), hr, S.sen.moves hM hb S.size, hM.toBelow S.bel S.size hb, S.hf, S.hd⟩
/-- The beginning. -/
theorem Sc.start {nm : ByteArray} {ro : Bool} {w W W1 : World} {A1 : Option Addr} {nl c1 : Nat} (hS : SentB A w.heap.size w) (hb : Below w.heap.size w W) (hr : Kd.R (Kd.int .u8) 5 W w.heap.size (fun _ => True) (.slice A1 nl c1) data)
    (hd : W1.heap[d]? = some (.cells (ncs n (.slice A1 nl c1)) 92 (0, 0))) (hd1 : d = W.heap.size) (hb1 : Below W.heap.size W W1) : Sc A w.heap.size W1.heap.size d w ⟨0, 0, false, ro⟩ n data (.slice A1 nl c1) (.slice none 0 0) [] (W1.alloc (.cells (hcs ⟨0, 0, false, ro⟩ d) 94)) := by
  have hbb := below_alloc hb1 (.cells (hcs ⟨0, 0, false, ro⟩ d) 94)
  have hbw : Below w.heap.size w (W1.alloc (.cells (hcs ⟨0, 0, false, ro⟩ d) 94)) := below_then hb hb.size hbb
  exact ⟨⟨blk_new _ _, blk_alloc hd _, Kd.R_below hr hbb⟩, Kd.R_nil _ _ _ _ _, hS.moves (Moves.of_below hbw (fun _ => False)) (fun _ q => q.elim) (Nat.le_refl _), hbw, Nat.le_trans hb.size hb1.size, by rw [hd1]; exact hb.size⟩
end
set_option maxHeartbeats 2000000 in
set_option maxRecDepth 100000 in
theorem handle13 (w : World) (A : Nat → Addr) (hS : SentB A w.heap.size w) (data : List Int) (Ad : Option Addr) (md cd : Nat) (hD : Kd.C (Kd.int .u8) w Ad md data) (hmd : md ≤ 10000000) (ro : Bool)
    (ss : List S26) (As : Option Addr) (ms cs : Nat) (hSS : k26.C w As ms ss) (hms : ms ≤ 100) (st : Nat → Hnd × Nod × List Int) (ys : Nat → S33)
    (h0 : st 0 = (⟨0, 0, false, ro⟩, ⟨⟨#[47, 102]⟩, .map none, false, 268435456, 0⟩, data)) (hDo : ∀ i : Nat, i < ms → Does A (st i).1 (st i).2.1 (st i).2.2 (rd_T26 ss i) (ys i) (st (i + 1)).1 (st (i + 1)).2.1 (st (i + 1)).2.2) (hL : (st ms).2.2.length ≤ 10000000) :
    Calls Tryd.prog 13 #[.slice Ad md cd, .bool ro, .slice As ms cs] w fun e w' => ∃ A1 c1 A2 c2, e = .returned (.tuple #[.slice A1 ms c1, .slice A2 (st ms).2.2.length c2]) ∧ k33.C w' A1 ms ((List.range ms).map ys) ∧ ms ≤ c1 ∧ (Kd.int .u8).C w' A2 (st ms).2.2.length (st ms).2.2 ∧ (st ms).2.2.length ≤ c2 ∧ Below w.heap.size w w' := by
  have HL := Lib.hid hD.1
  have HD := Lib.hid hD
  have HSS := Lib.hid hSS
  have HDO := Lib.hid hDo
  have HLL := Lib.hid hL
  have HSN := Lib.hid hS
  have HST0 := Lib.hid h0
  have HW := Lib.hid (fun W1 A m c => with24 (W := W1) ⟨#[47, 102]⟩ A m c)
  have H25 := Lib.hid (fun W1 nd => new25 (W := W1) nd)
  have H26 := Lib.hid (fun W1 nd => new26 (W := W1) nd)
  clear hD hSS hDo hL hS h0
  go_enter Tryd.func13, Tryd.ntmps13
  go_upto_if 18 with (first | ((with_reducible refine gate_builtin (b := .append) (xs := #[.const (.slice none 0 0), .tmp 13]) rfl ?_); at_builtin; refine app_bytes w.heap.size rfl _ _ rfl (.slice none 0 0) [] data Ad md cd rfl rfl (Kd.R_nil _ _ _ _ _) HD.out (Nat.le_refl _) (by simp; omega) ?_; intro A1 m' c1 wm hr1 hg1; have R1 := Lib.hid hr1; have G1 := Lib.hid hg1; clear hr1 hg1) | (go_at_call 24; (refine (HW.out _ _ _ _).mono ?_); rintro e w2 ⟨rfl, hn2, hb2⟩; have N2 := Lib.hid hn2; have B2 := Lib.hid hb2; clear hn2 hb2) | (go_at_call 25; (refine (H25.out _ _).mono ?_); rintro e w3 ⟨rfl, _, rfl⟩))
  have BW := Lib.hid (show Below w.heap.size w wm from ⟨G1.out.os, G1.out.tape, G1.out.output, G1.out.size, fun k hk => G1.out.block k hk (by simp [Value.ownBlock])⟩)
  have RW := Lib.hid (show Kd.R (Kd.int .u8) 5 wm w.heap.size (fun _ => True) (.slice A1 m' c1) data by have := R1.out; rwa [List.nil_append] at this)
  clear R1 G1
  go_cut [9] (fun v9 wx => ∃ f, v9 = .pointer (some ⟨f, 0, none⟩) ∧ Hid (Sc A w.heap.size f wm.heap.size w (st 0).1 (st 0).2.1 (st 0).2.2 (.slice A1 m' c1) (.slice none 0 0) [] wx))
  case first =>
    by_cases hro : ro = true
    · subst hro
      go_wp2_with (first | (go_at_call 26; (refine (H26.out _ _).mono ?_); rintro e w3 ⟨rfl, _, rfl⟩))
      go_meet
      exact ⟨_, rfl, Lib.hid (by rw [HST0.out, show w2.heap.size + 1 = (w2.alloc (.cells (hcs ⟨0, 0, false, false⟩ wm.heap.size) 94)).heap.size by simp]; exact Sc.start (nm := ⟨#[]⟩) HSN.out BW.out RW.out (blk_alloc N2.out _) rfl (below_alloc B2.out _))⟩
    · obtain rfl : ro = false := by simpa using hro
      go_wp2_with fail
      go_meet
      exact ⟨_, rfl, Lib.hid (by rw [HST0.out]; exact Sc.start (nm := ⟨#[]⟩) HSN.out BW.out RW.out N2.out rfl B2.out)⟩
  case rest =>
    obtain ⟨f, rfl, SC0⟩ := hcut
    rename World => wx
    have BX := Lib.hid SC0.out.bel
    clear N2 B2 BW RW
    generalize wm.heap.size = d at *
    go_wp2_with fail
    go_loopw [10, 23] (fun v10 v23 wr => ∃ (i : Nat) (v : Value), v23 = .int .i64 i ∧ i ≤ ms ∧ Hid (Sc A w.heap.size f d w (st i).1 (st i).2.1 (st i).2.2 v v10 ((List.range i).map ys) wr)) (fun _ v23 _ => (ms : Int).toNat - (intOf v23).toNat)
    case atStart => exact ⟨0, _, rfl, by omega, SC0⟩
    case round =>
      obtain ⟨i, v, rfl, hi, HSC⟩ := hrel
      by_cases hlt : i < ms
      · obtain ⟨ad, A6, c6, rfl, k0, k1, k2, k3, k4, k5, k6, k7, k8, k9, l6, g6⟩ := at_T26 (Kd.C_below HSS.out HSC.out.bel) (i : Int) (by omega) (by omega)
        have HX := Lib.hid (fun (W1 : World) (hb : Below wr.heap.size wr W1) => (HDO.out i hlt f d w.heap.size v W1 (HSC.out.below hb).fil (HSC.out.below hb).sen HSC.out.hf HSC.out.hd A6 c6 (Kd.C_below g6 hb) l6).mono (fun e w1 q => (HSC.out.below hb).step q))
        clear g6 l6
        simp only [Int.toNat_natCast] at k0 k1 k2 k3 k4 k5 k6 k7 k8 k9
        generalize rd_T26 ss (i : Int) = s at *
        go_wp2_with (first | (go_at_call 27; (refine (HX.out _ ?_).mono ?_); (repeat (first | exact Below.refl _ _ | apply below_alloc | apply below_drew)); rintro e w1 ⟨v', v3, v4, v5, rfl, hsn, hg3, hg4, hg5⟩; have SCN := Lib.hid hsn; have G3 := Lib.hid hg3; have G4 := Lib.hid hg4; have G5 := Lib.hid hg5; clear hsn hg3 hg4 hg5) | ((with_reducible refine gate_builtin (b := .append) (xs := #[.tmp 27, .tmp 31]) rfl ?_); at_builtin; refine app_ans w.heap.size rfl (.tmp 27) (.tmp 31) rfl u10 _ (ys i) v3 v4 v5 (okk f d v') _ rfl rfl G3.out G4.out G5.out (fun _ h => h) SCN.out.fresh SCN.out.out SCN.out.size (by simp; omega) ?_; intro v10 wn hr hg; have SCM := Lib.hid (SCN.out.app hr hg); clear hr hg))
        go_roundw
        case rel => exact ⟨i + 1, v', by push_cast; rfl, hlt, Lib.hid (by rw [List.range_succ, List.map_append, List.map_singleton]; exact SCM.out)⟩
        case measure => simp only [intOf]; omega
      · obtain rfl : i = ms := by omega
        obtain ⟨A2, c2, rfl, hc2, hC2⟩ := Kd.R_reads HSC.out.fil.row
        have HC2 := Lib.hid hC2
        have HL2 := Lib.hid hc2
        have H28 := Lib.hid (bytes28 HSC.out.fil)
        obtain ⟨A3, c3, rfl, hc3, hC3⟩ := Kd.R_reads HSC.out.out
        have HC3 := Lib.hid hC3
        have HL3 := Lib.hid hc3
        clear hC2 hc2 hC3 hc3
        go_wp2_with (first | (go_at_call 28; (refine (H28.out).mono ?_); rintro e w1 ⟨rfl, rfl⟩) | ((with_reducible refine gate_builtin (b := .append) (xs := #[.const (.slice none 0 0), .tmp 36]) rfl ?_); at_builtin; refine app_bytes w.heap.size rfl _ _ rfl (.slice none 0 0) [] (st i).2.2 A2 (st i).2.2.length c2 rfl rfl (Kd.R_nil _ _ _ _ _) HC2.out HSC.out.size (by have := HLL.out; simp; omega) ?_; intro A4 m4 c4 wl hr hg; have R4 := Lib.hid hr; have G4 := Lib.hid hg; clear hr hg))
        have hb : Below w1.heap.size w1 wl := ⟨G4.out.os, G4.out.tape, G4.out.output, G4.out.size, fun k hk => G4.out.block k hk (by simp [Value.ownBlock])⟩
        have r := R4.out
        rw [List.nil_append] at r
        obtain ⟨rfl, hc4, hC4⟩ := Kd.R_reads' r
        have h3 := Kd.C_below HC3.out hb
        have h3c := HL3.out
        have e3 : (List.map ys (List.range i)).length = i := by simp
        rw [e3] at h3 h3c
        have hbw := below_then HSC.out.bel HSC.out.size hb
        go_ret2
        exact ⟨A3, c3, A4, c4, rfl, h3, h3c, hC4, hc4, hbw⟩
end Go.Proofs.YtljcdjggjphedaaDoor.Hd
