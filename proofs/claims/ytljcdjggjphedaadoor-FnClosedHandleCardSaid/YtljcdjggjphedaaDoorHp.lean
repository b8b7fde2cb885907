/- The contracts of reading steps on an open file. -/
import Derived.Test.YtljcdjggjphedaaDoorHo
import Derived.IntWalk
namespace Go.Proofs.YtljcdjggjphedaaDoor.Hd
open Go.RowKit Go.Proofs.YtljcdjggjphedaaDoorW.PrintWords Go.Proofs.YtljcdjggjphedaaDoorW.PrintLast Go.Proofs.YtljcdjggjphedaaDoorW.PrintMore
open Go.Proofs.YtljcdjggjphedaaDoor.PFnHandleScript
set_option linter.unusedVariables false
set_option linter.unusedSimpArgs false
section
variable {ops : Array Oper} {rest : List Oper} {o : Oper} {a : Act} {Q : Exit → Act → World → Prop}
theorem make_bytes {W : World} (hgd : o.guard = none) {N : Tmp} (hd : o.dst = some N) (x y : Operand) (ho : o.op = .makeSlice 22 x y) (n : Nat) (hx : a.eval x = .int .i64 n) (hy : a.eval y = .int .i64 n) (hn : n ≤ 100000000)
    (h : ∀ A1 c1 w1, Kd.R (Kd.int .u8) 5 w1 W.heap.size (fun _ => True) (.slice A1 n c1) (List.replicate n 0) → Below W.heap.size W w1 → wpList Tryd.prog ops Q rest (a.put o.dst (.slice A1 n c1)) w1) :
    wpList Tryd.prog ops Q (o :: rest) a W := by
  refine Kd.R_make (Kd.int .u8) (w0 := W) W.heap.size 5 hgd hd 22 x y ho n hx hy Tryd.underlying22 (.int .u8 0) 1 PFnHandleScript.info5 rfl (by decide) (by decide) 0 (ok := fun _ => True) (okp := fun _ => False) rfl (fun _ hk => hk.elim) trivial (by omega) (by simp; omega) (Below.refl _ _) (Nat.le_refl _) ?_
  intro v1 w1 h1 h2 _ _
  rw [Int.toNat_natCast] at h1
  obtain ⟨A1, c1, e1, _, _⟩ := Kd.R_reads h1
  rw [List.length_replicate] at e1
  subst e1
  exact h _ _ _ h1 h2
end
theorem below_new {WX wm : World} (hb : Below WX.heap.size WX wm) (g : Nat) (hlt : g < WX.heap.size) : (∀ i, wm.cell? ⟨g, i, none⟩ = WX.cell? ⟨g, i, none⟩) ∧ (∀ i, wm.frozen? ⟨g, i, none⟩ = WX.frozen? ⟨g, i, none⟩) :=
  ⟨fun i => World.cell?_of_block (a := ⟨g, i, none⟩) (hb.block g hlt), fun i => World.frozen?_of_block (a := ⟨g, i, none⟩) (hb.block g hlt)⟩
theorem moved_new {S : Nat → Prop} {WX wm : World} (hb : Moves S WX wm) (g : Nat) (hlt : g < WX.heap.size) (hn : ¬ S g) : (∀ i, wm.cell? ⟨g, i, none⟩ = WX.cell? ⟨g, i, none⟩) ∧ (∀ i, wm.frozen? ⟨g, i, none⟩ = WX.frozen? ⟨g, i, none⟩) :=
  ⟨fun i => World.cell?_of_block (a := ⟨g, i, none⟩) (hb.block g hlt hn), fun i => World.frozen?_of_block (a := ⟨g, i, none⟩) (hb.block g hlt hn)⟩
section
variable {f d base : Nat} {h : Hnd} {n : Nod} {v : Value} {data b : List Int} {W : World}
theorem cap_ok {wm : World} {bb m cb k : Nat} {Ab : Option Addr} {xs : List Int} (h : Kd.R (Kd.int .u8) 5 wm bb (fun _ => True) (.slice Ab m cb) xs) (hk : k ≤ m) : (k : Int) ≤ (cb : Int) := by
  have := (Kd.R_reads' h).2.1; omega
theorem wx_lt {WX wm : World} (_ : Below WX.heap.size WX wm) {g : Nat} (h : g < WX.heap.size) : g < WX.heap.size := h
def RdR (W : World) (v : Value) (w1 : World) (vb : Value) (res : List Int) : Prop := Kd.R (Kd.int .u8) 5 w1 W.heap.size (fun i => some i ≠ v.ownBlock ∧ i ≠ W.heap.size + 1 ∧ i ≠ W.heap.size + 1 + 1) vb res
theorem RdR.far1 {w1 : World} {vb : Value} {res : List Int} (h : RdR W v w1 vb res) (j : Nat) (u : Value) : RdR W v (w1.setCell ⟨W.heap.size + 1, j, none⟩ u) vb res := Kd.R_far (p := ⟨W.heap.size + 1, j, none⟩) h (fun i hi => hi.2.1) u
theorem RdR.far2 {w1 : World} {vb : Value} {res : List Int} (h : RdR W v w1 vb res) (j : Nat) (u : Value) : RdR W v (w1.setCell ⟨W.heap.size + 1 + 1, j, none⟩ u) vb res := Kd.R_far (p := ⟨W.heap.size + 1 + 1, j, none⟩) h (fun i hi => hi.2.2) u
theorem RdR.fin {w1 : World} {vb : Value} {res : List Int} (h : RdR W v w1 vb res) : Kd.R (Kd.int .u8) 5 w1 W.heap.size (fun i => some i ≠ v.ownBlock) vb res := Kd.R_mono h (fun i hi => hi.1)
/-- What was read, as the answer holds it. -/
theorem rd_row {w1 : World} {bb m cb k : Nat} {Ab : Option Addr} {res rest : List Int} (F : Fil f d h n v data base W) (hR : Kd.R (Kd.int .u8) 5 w1 bb (fun _ => True) (.slice Ab m cb) (res ++ rest)) (hk : res.length = k) (hbb : W.heap.size + 1 + 1 < bb) :
    RdR W v w1 (.slice Ab k cb) res := by
  have h1 := Kd.R_take (m := k) hR (by rw [List.length_append]; omega)
  rw [List.take_append_of_le_length (by omega), List.take_of_length_le (by omega)] at h1
  refine Kd.R_lower (Kd.R_mono (Kd.R_tight rfl h1) (fun i hi => ?_)) (by omega)
  have hb := Kd.R_base h1 i hi.symm
  refine ⟨fun e => ?_, by omega, by omega⟩
  have := Kd.R_lt F.row i e.symm
  omega
theorem below_sz {WX wm w : World} (hb : Below WX.heap.size WX wm) (h : Below w.heap.size w WX) : Below w.heap.size w wm ∧ w.heap.size ≤ WX.heap.size := ⟨below_then h h.size hb, h.size⟩
theorem new_lt {WX wm : World} (hb : Below WX.heap.size WX wm) {g : Nat} (hg : g < WX.heap.size) : g < wm.heap.size := Nat.lt_of_lt_of_le hg hb.size
theorem not_mine {vb : Value} {bb g : Nat} (F : Fil f d h n v data base W) (hb : ∀ k, vb.ownBlock = some k → bb ≤ k) (hg : W.heap.size ≤ g) (hlt : g < bb) : ¬ (g = f ∨ some g = vb.ownBlock) := by
  rintro (rfl | e)
  · have := blk_lt F.hf; omega
  · have := hb g e.symm; omega
theorem moves_rd {vb : Value} {bb : Nat} {w wm w1 : World} (hM : Moves (fun i => i = f ∨ some i = vb.ownBlock) wm w1) (hb : Below w.heap.size w wm) (ho : ∀ k, vb.ownBlock = some k → bb ≤ k) (hbb : w.heap.size ≤ bb) : Moves (Tch f d v) w w1 :=
  (Moves.of_below hb _).then_ hM (fun i hi => by
    rcases hi with hi | hi
    · exact .inl (.inl hi)
    · exact .inr (Nat.le_trans hbb (ho i hi.symm)))
/-- What a reader of m bytes does, as the step asks it. -/
def RdC (fn : Nat) (more : Array Value) (f d : Nat) (h' : Hnd) (n : Nod) (v : Value) (data : List Int) (base m k : Nat) (res : List Int) (ev : Value) (W : World) : Prop :=
  ∀ (W1 : World) (Ab : Option Addr) (cb bb : Nat), Below W.heap.size W W1 → W.heap.size ≤ bb → bb ≤ W1.heap.size → Kd.R (Kd.int .u8) 5 W1 bb (fun _ => True) (.slice Ab m cb) (List.replicate m 0) →
    Calls Tryd.prog fn (#[.pointer (some ⟨f, 0, none⟩), .slice Ab m cb] ++ more) W1 fun e w1 => e = .returned (.tuple #[.int .i64 k, ev]) ∧ Fil f d h' n v data base w1 ∧ Kd.R (Kd.int .u8) 5 w1 bb (fun _ => True) (.slice Ab m cb) (res ++ List.replicate (m - k) 0) ∧ Moves (fun i => i = f ∨ some i = (Value.slice Ab m cb).ownBlock) W1 w1
set_option maxHeartbeats 2000000 in
set_option maxRecDepth 100000 in
theorem on_read_any (F : Fil f d h n v data base W) (m k : Nat) (res : List Int) (h' : Hnd) (ev : Value) (kd : Int) (hres : res.length = k) (hkm : k ≤ m) (hm : m ≤ 1000000) (off : Int) (hRd : RdC 40 #[] f d h' n v data base m k res ev W)
    (hK : ∀ w2, Moves (Tch f d v) W w2 → Calls Tryd.prog 53 #[ev] w2 fun e w' => e = .returned (.int .i64 kd) ∧ w2 = w') (wh : Int) (nm ot : ByteArray) (fl pe hh : Int) (Ad : Option Addr) (md cd : Nat) :
    Calls Tryd.prog 27 #[.pointer (some ⟨f, 0, none⟩), stepV 12 nm ot fl pe hh (.slice Ad md cd) off wh m] W (Stp f d h' n data base v (ans kd 0 0 res) W) := by
  have HF := Lib.hid F
  have HC := Lib.hid hRd
  have HK := Lib.hid hK
  have HR := Lib.hid hres
  unfold stepV
  clear F hRd hK hres
  have hmx : (if (0 : Int) < (m : Int) then (m : Int) else 0) = (m : Int) := by split <;> omega
  have hmy : (if 0 < m then (m : Int) else 0) = (m : Int) := by split <;> omega
  have hmz : (if m = 0 then (0 : Int) else (m : Int)) = (m : Int) := by split <;> omega
  have hk1 : (k : Int) ≤ (m : Int) := by omega
  have hk2 : (0 : Int) ≤ (k : Int) := by omega
  go_enter Tryd.func27, Tryd.ntmps27
  go_wp2_with (first | ((with_reducible refine gate_dst (N := 23) rfl ?_); refine make_bytes rfl rfl _ _ rfl m rfl rfl (by omega) ?_; intro Ab cb wm hrb hbm; have RB := Lib.hid hrb; have BM := Lib.hid hbm; have mcb := cap_ok hrb hkm; have S3 := Lib.hid (wx_lt hbm (g := W.heap.size + 1 + 1) (by simp)); have SZ := Lib.hid (below_sz hbm (by repeat (first | exact Below.refl _ _ | apply below_alloc | apply below_drew) : Below W.heap.size W _)); obtain ⟨ka0, kb0⟩ := below_new hbm W.heap.size (by simp; omega); obtain ⟨ka1, kb1⟩ := below_new hbm (W.heap.size + 1) (by simp); obtain ⟨ka2, kb2⟩ := below_new hbm (W.heap.size + 1 + 1) (by simp); clear hrb hbm) | (go_at_call 40; (refine (HC.out wm Ab cb _ SZ.out.1 SZ.out.2 BM.out.size RB.out).mono ?_); rintro e w1 ⟨rfl, hX, hR2, hM⟩; have HX := Lib.hid hX; have HR2 := Lib.hid hR2; have HM := Lib.hid hM; have OB := Lib.hid (Kd.R_base RB.out); obtain ⟨kc1, kd1⟩ := moved_new hM (W.heap.size + 1) (new_lt BM.out (by simp)) (not_mine HF.out OB.out (by omega) (by simp)); obtain ⟨kc2, kd2⟩ := moved_new hM (W.heap.size + 1 + 1) (new_lt BM.out (by simp)) (not_mine HF.out OB.out (by omega) (by simp)); clear hX hR2 hM) | (go_at_call 53; have MW := Lib.hid (moves_rd (f := f) (d := d) (v := v) HM.out SZ.out.1 OB.out SZ.out.2); (refine (HK.out _ ?_).mono ?_); (exact (by repeat (first | with_reducible exact MW.out | with_reducible refine Moves.setCell (p := ⟨W.heap.size + 1, _, none⟩) ?_ (.inr (by show W.heap.size ≤ W.heap.size + 1; omega)) _ | with_reducible refine Moves.setCell (p := ⟨W.heap.size + 1 + 1, _, none⟩) ?_ (.inr (by show W.heap.size ≤ W.heap.size + 1 + 1; omega)) _))); rintro e w' ⟨rfl, rfl⟩))
  refine bodyPost_ret (v := .agg #[.int .i64 kd, .int .i64 0, .int .i64 0, .slice Ab k cb, .slice none 0 0, .slice none 0 0]) (by simp [results, Tryd.results27, go_sem, kc1, kc2, ka1, ka2]) rfl ?_
  have RR := Lib.hid (rd_row HF.out HR2.out HR.out S3.out)
  exact ⟨v, ⟨_, _, _, rfl, RdR.fin (res := res) (by repeat (first | with_reducible exact RR.out | with_reducible refine RdR.far1 ?_ _ _ | with_reducible refine RdR.far2 ?_ _ _)), Kd.R_nil _ _ _ _ _, Kd.R_nil _ _ _ _ _⟩, (by repeat (first | with_reducible exact HX.out | with_reducible refine Fil.setFar ?_ (HF.out.nef' (by omega)) (HF.out.ned' (by omega)) (HF.out.nev' (g := W.heap.size + 1) (by omega)) _ _ | with_reducible refine Fil.setFar ?_ (HF.out.nef' (by omega)) (HF.out.ned' (by omega)) (HF.out.nev' (g := W.heap.size + 1 + 1) (by omega)) _ _)), (by repeat (first | with_reducible exact MW.out | with_reducible refine Moves.setCell (p := ⟨W.heap.size + 1, _, none⟩) ?_ (.inr (by show W.heap.size ≤ W.heap.size + 1; omega)) _ | with_reducible refine Moves.setCell (p := ⟨W.heap.size + 1 + 1, _, none⟩) ?_ (.inr (by show W.heap.size ≤ W.heap.size + 1 + 1; omega)) _)), .inl rfl⟩
set_option maxHeartbeats 2000000 in
set_option maxRecDepth 100000 in
theorem on_readat_any (F : Fil f d h n v data base W) (m k : Nat) (res : List Int) (h' : Hnd) (ev : Value) (kd : Int) (hres : res.length = k) (hkm : k ≤ m) (hm : m ≤ 1000000) (off : Int) (hRd : RdC 41 #[.int .i64 off] f d h' n v data base m k res ev W)
    (hK : ∀ w2, Moves (Tch f d v) W w2 → Calls Tryd.prog 53 #[ev] w2 fun e w' => e = .returned (.int .i64 kd) ∧ w2 = w') (wh : Int) (nm ot : ByteArray) (fl pe hh : Int) (Ad : Option Addr) (md cd : Nat) :
    Calls Tryd.prog 27 #[.pointer (some ⟨f, 0, none⟩), stepV 13 nm ot fl pe hh (.slice Ad md cd) off wh m] W (Stp f d h' n data base v (ans kd 0 0 res) W) := by
  have HF := Lib.hid F
  have HC := Lib.hid hRd
  have HK := Lib.hid hK
  have HR := Lib.hid hres
  unfold stepV
  clear F hRd hK hres
  have hmx : (if (0 : Int) < (m : Int) then (m : Int) else 0) = (m : Int) := by split <;> omega
  have hmy : (if 0 < m then (m : Int) else 0) = (m : Int) := by split <;> omega
  have hmz : (if m = 0 then (0 : Int) else (m : Int)) = (m : Int) := by split <;> omega
  have hk1 : (k : Int) ≤ (m : Int) := by omega
  have hk2 : (0 : Int) ≤ (k : Int) := by omega
  go_enter Tryd.func27, Tryd.ntmps27
  go_wp2_with (first | ((with_reducible refine gate_dst (N := 40) rfl ?_); refine make_bytes rfl rfl _ _ rfl m rfl rfl (by omega) ?_; intro Ab cb wm hrb hbm; have RB := Lib.hid hrb; have BM := Lib.hid hbm; have mcb := cap_ok hrb hkm; have S3 := Lib.hid (wx_lt hbm (g := W.heap.size + 1 + 1) (by simp)); have SZ := Lib.hid (below_sz hbm (by repeat (first | exact Below.refl _ _ | apply below_alloc | apply below_drew) : Below W.heap.size W _)); obtain ⟨ka0, kb0⟩ := below_new hbm W.heap.size (by simp; omega); obtain ⟨ka1, kb1⟩ := below_new hbm (W.heap.size + 1) (by simp); obtain ⟨ka2, kb2⟩ := below_new hbm (W.heap.size + 1 + 1) (by simp); clear hrb hbm) | (go_at_call 41; (refine (HC.out wm Ab cb _ SZ.out.1 SZ.out.2 BM.out.size RB.out).mono ?_); rintro e w1 ⟨rfl, hX, hR2, hM⟩; have HX := Lib.hid hX; have HR2 := Lib.hid hR2; have HM := Lib.hid hM; have OB := Lib.hid (Kd.R_base RB.out); obtain ⟨kc1, kd1⟩ := moved_new hM (W.heap.size + 1) (new_lt BM.out (by simp)) (not_mine HF.out OB.out (by omega) (by simp)); obtain ⟨kc2, kd2⟩ := moved_new hM (W.heap.size + 1 + 1) (new_lt BM.out (by simp)) (not_mine HF.out OB.out (by omega) (by simp)); clear hX hR2 hM) | (go_at_call 53; have MW := Lib.hid (moves_rd (f := f) (d := d) (v := v) HM.out SZ.out.1 OB.out SZ.out.2); (refine (HK.out _ ?_).mono ?_); (exact (by repeat (first | with_reducible exact MW.out | with_reducible refine Moves.setCell (p := ⟨W.heap.size + 1, _, none⟩) ?_ (.inr (by show W.heap.size ≤ W.heap.size + 1; omega)) _ | with_reducible refine Moves.setCell (p := ⟨W.heap.size + 1 + 1, _, none⟩) ?_ (.inr (by show W.heap.size ≤ W.heap.size + 1 + 1; omega)) _))); rintro e w' ⟨rfl, rfl⟩))
  refine bodyPost_ret (v := .agg #[.int .i64 kd, .int .i64 0, .int .i64 0, .slice Ab k cb, .slice none 0 0, .slice none 0 0]) (by simp [results, Tryd.results27, go_sem, kc1, kc2, ka1, ka2]) rfl ?_
  have RR := Lib.hid (rd_row HF.out HR2.out HR.out S3.out)
  exact ⟨v, ⟨_, _, _, rfl, RdR.fin (res := res) (by repeat (first | with_reducible exact RR.out | with_reducible refine RdR.far1 ?_ _ _ | with_reducible refine RdR.far2 ?_ _ _)), Kd.R_nil _ _ _ _ _, Kd.R_nil _ _ _ _ _⟩, (by repeat (first | with_reducible exact HX.out | with_reducible refine Fil.setFar ?_ (HF.out.nef' (by omega)) (HF.out.ned' (by omega)) (HF.out.nev' (g := W.heap.size + 1) (by omega)) _ _ | with_reducible refine Fil.setFar ?_ (HF.out.nef' (by omega)) (HF.out.ned' (by omega)) (HF.out.nev' (g := W.heap.size + 1 + 1) (by omega)) _ _)), (by repeat (first | with_reducible exact MW.out | with_reducible refine Moves.setCell (p := ⟨W.heap.size + 1, _, none⟩) ?_ (.inr (by show W.heap.size ≤ W.heap.size + 1; omega)) _ | with_reducible refine Moves.setCell (p := ⟨W.heap.size + 1 + 1, _, none⟩) ?_ (.inr (by show W.heap.size ≤ W.heap.size + 1 + 1; omega)) _)), .inl rfl⟩
set_option maxHeartbeats 4000000 in
set_option maxRecDepth 100000 in
theorem read40y {bb : Nat} {vb : Value} (F : Fil f d h n v data base W) (hb : Kd.R (Kd.int .u8) 5 W bb (fun _ => True) vb []) (hcl : h.cl = false) (p : Nat) (hp : h.pos = p) (hpl : p ≤ data.length) (hdl : data.length ≤ 10000000) :
    Calls Tryd.prog 40 #[.pointer (some ⟨f, 0, none⟩), vb] W fun e w' => e = .returned (.tuple #[.int .i64 0, .nilIface]) ∧ Fil f d h n v data base w' ∧ Moves (fun i => i = f) W w' := by
  obtain ⟨pos, ls, cl, ro⟩ := h
  simp only at hp hcl
  subst hp hcl
  obtain ⟨Ab, cb, hvb, _, _⟩ := Kd.R_reads hb
  simp only [List.length_nil] at hvb
  have c0 := F.c0
  have c2 := F.c2
  have c4 := F.c4
  have n1 := F.n1
  have z0 := blk_frozen F.hf 0
  have HF := Lib.hid F
  have HB := Lib.hid hb
  have HVB := Lib.hid hvb
  have NE1 := Lib.hid (Kd.R_ne hb F.hf (by decide))
  have NE2 := Lib.hid (Kd.R_ne hb F.hd (by decide))
  simp only at c0 c2
  rw [hvb]
  obtain ⟨len, hlen⟩ : ∃ len, len = data.length := ⟨_, rfl⟩
  rw [← hlen] at hpl hdl
  have w1 : (p : Int) ≤ (len : Int) := by omega
  have b0 : (0 : Int) ≤ (p : Int) := by omega
  have w0 : (0 : Int) ≤ (len : Int) - (p : Int) := by omega
  have w3 : IntKind.i64.wrap ((len : Int) - (p : Int)) = (len : Int) - (p : Int) := IntWalk.i64_in _ (by omega)
  have hcp : ∀ (A : Option Addr) (c1 : Nat) (W1 : World), (Builtin.copy_ #[22, 22] 3 #[.slice Ab 0 cb, .slice A 0 c1]).run Tryd.prog W1 = .ok (goInt 0) W1 := fun A c1 W1 => run_copy_none W1 22 22 3 5 Ab A 0 cb 0 c1 Tryd.underlying22 info5s rfl
  rcases row_cases F.row with ⟨hv, hd0⟩ | ⟨g, c, hv, hc⟩
  · rw [hd0] at hlen
    have HV := Lib.hid hv
    rw [hv] at n1
    obtain rfl : p = 0 := by simp at hlen; omega
    obtain rfl : len = 0 := by simpa using hlen
    clear F hb hvb hlen hv
    go_enter Tryd.func40, Tryd.ntmps40
    go_wp2_with fail
    go_quiet (fail)
    go_wp2
    go_quiet (fail)
    go_wp2
    go_quiet (fail)
    go_wp2
    go_quiet (fail)
    go_wp2
    all_goals go_ret2
    all_goals exact ⟨rfl, by first | exact (HF.out.drewN _).setPos _ | exact ((HF.out.drewN _).drewN _).setPos _ | exact (((HF.out.drewN _).drewN _).drewN _).setPos _ | exact ((((HF.out.drewN _).drewN _).drewN _).drewN _).setPos _, by first | exact ((Moves.refl (fun i => i = f) _).drewN _).setCell (p := ⟨f, 0, none⟩) (.inl rfl) _ | exact (((Moves.refl (fun i => i = f) _).drewN _).drewN _).setCell (p := ⟨f, 0, none⟩) (.inl rfl) _ | exact ((((Moves.refl (fun i => i = f) _).drewN _).drewN _).drewN _).setCell (p := ⟨f, 0, none⟩) (.inl rfl) _ | exact (((((Moves.refl (fun i => i = f) _).drewN _).drewN _).drewN _).drewN _).setCell (p := ⟨f, 0, none⟩) (.inl rfl) _⟩
  · have HV := Lib.hid (show v = .slice (some ⟨g, 0, none⟩) len c by rw [hlen]; exact hv)
    rw [hv, ← hlen] at n1
    rw [← hlen] at hc
    have w2 : IntKind.i64.wrap ((p : Int) + 0) = (p : Int) := by rw [IntWalk.i64_in _ (by omega)]; omega
    have b2 : (p : Int) ≤ (c : Int) := by omega
    clear F hb hvb hlen hv
    go_enter Tryd.func40, Tryd.ntmps40
    go_wp2_with fail
    go_quiet (fail)
    go_wp2
    go_quiet (fail)
    go_wp2
    go_quiet (fail)
    go_wp2
    go_quiet (fail)
    go_wp2
    all_goals go_ret2
    all_goals exact ⟨rfl, by first | exact (HF.out.drewN _).setPos _ | exact ((HF.out.drewN _).drewN _).setPos _ | exact (((HF.out.drewN _).drewN _).drewN _).setPos _ | exact ((((HF.out.drewN _).drewN _).drewN _).drewN _).setPos _, by first | exact ((Moves.refl (fun i => i = f) _).drewN _).setCell (p := ⟨f, 0, none⟩) (.inl rfl) _ | exact (((Moves.refl (fun i => i = f) _).drewN _).drewN _).setCell (p := ⟨f, 0, none⟩) (.inl rfl) _ | exact ((((Moves.refl (fun i => i = f) _).drewN _).drewN _).drewN _).setCell (p := ⟨f, 0, none⟩) (.inl rfl) _ | exact (((((Moves.refl (fun i => i = f) _).drewN _).drewN _).drewN _).drewN _).setCell (p := ⟨f, 0, none⟩) (.inl rfl) _⟩
/-- What reading tells, and gives. -/
def rdE (cl : Bool) (len : Nat) (p : Int) (m : Nat) : Int := if cl then 3 else if 0 < m ∧ p = len then 4 else if (len : Int) < p then 5 else 0
def rdD (cl : Bool) (data : List Int) (p : Int) (m : Nat) : List Int := if rdE cl data.length p m = 0 then (data.drop p.toNat).take m else []
theorem rdD_len (cl : Bool) (data : List Int) (p : Int) (m : Nat) : (rdD cl data p m).length ≤ m := by
  unfold rdD; split
  · rw [List.length_take]; omega
  · simp
def rdV (A : Nat → Addr) (e : Int) : Value := if e = 3 then .iface 149 (.pointer (some (A 0))) else if e = 4 then .iface 149 (.pointer (some (A 1))) else if e = 5 then .iface 149 (.pointer (some (A 2))) else .nilIface
theorem kind_rd (A : Nat → Addr) (cl : Bool) (len : Nat) (p : Int) (m : Nat) (w : World) (h : Sent A w) : Calls Tryd.prog 53 #[rdV A (rdE cl len p m)] w fun e w' => e = .returned (.int .i64 (rdE cl len p m)) ∧ w = w' := by
  unfold rdE
  split
  · exact kind_s0 A w h
  · split
    · exact kind_s1 A w h
    · split
      · exact kind_s2 A w h
      · exact kind_nil w
/-- Reading, whatever it comes to. -/
theorem read_here (A : Nat → Addr) {W1 : World} {Ab : Option Addr} {cb bb : Nat} (F1 : Fil f d h n v data base W1) (S1 : Sent A W1) (hbs : bb ≤ W1.heap.size) (m : Nat) (hm : m ≤ 1000000) (hdl : data.length ≤ 1000000) (hp : h.cl = false → 0 ≤ h.pos) (hbv : ∀ i, v.ownBlock = some i → (Value.slice Ab m cb).ownBlock ≠ some i) (hR : Kd.R (Kd.int .u8) 5 W1 bb (fun _ => True) (.slice Ab m cb) (List.replicate m 0)) :
    Calls Tryd.prog 40 (#[.pointer (some ⟨f, 0, none⟩), .slice Ab m cb] ++ #[]) W1 fun e w1 => e = .returned (.tuple #[.int .i64 (rdD h.cl data h.pos m).length, rdV A (rdE h.cl data.length h.pos m)]) ∧ Fil f d { h with pos := h.pos + (rdD h.cl data h.pos m).length } n v data base w1 ∧ Kd.R (Kd.int .u8) 5 w1 bb (fun _ => True) (.slice Ab m cb) (rdD h.cl data h.pos m ++ List.replicate (m - (rdD h.cl data h.pos m).length) 0) ∧ Moves (fun i => i = f ∨ some i = (Value.slice Ab m cb).ownBlock) W1 w1 := by
  obtain ⟨pos, ls, cl, ro⟩ := h
  simp only at hp ⊢
  have fail : ∀ (kd : Int) (ev : Value), rdE cl data.length pos m = kd → kd ≠ 0 → rdV A kd = ev → Calls Tryd.prog 40 #[.pointer (some ⟨f, 0, none⟩), .slice Ab m cb] W1 (fun e w' => e = .returned (.tuple #[.int .i64 0, ev]) ∧ Below W1.heap.size W1 w') →
      Calls Tryd.prog 40 (#[.pointer (some ⟨f, 0, none⟩), .slice Ab m cb] ++ #[]) W1 fun e w1 => e = .returned (.tuple #[.int .i64 (rdD cl data pos m).length, rdV A (rdE cl data.length pos m)]) ∧ Fil f d { pos := pos + (rdD cl data pos m).length, ls := ls, cl := cl, ro := ro } n v data base w1 ∧ Kd.R (Kd.int .u8) 5 w1 bb (fun _ => True) (.slice Ab m cb) (rdD cl data pos m ++ List.replicate (m - (rdD cl data pos m).length) 0) ∧ Moves (fun i => i = f ∨ some i = (Value.slice Ab m cb).ownBlock) W1 w1 := by
    intro kd ev he h0 hv hC
    have hD : rdD cl data pos m = [] := by unfold rdD; rw [he, if_neg h0]
    rw [hD, he, hv]
    refine hC.mono ?_
    rintro e w1 ⟨rfl, hbw⟩
    refine ⟨rfl, ?_, ?_, Moves.of_below hbw _⟩
    · have := F1.below hbw
      simpa using this
    · have := Kd.R_below hR hbw
      simpa using this
  cases cl with
  | true =>
    exact fail 3 _ rfl (by decide) rfl (read40c F1 A S1 _ rfl)
  | false =>
    have hcl : ({ pos := pos, ls := ls, cl := false, ro := ro } : Hnd).cl = false := rfl
    by_cases h4 : 0 < m ∧ pos = data.length
    · exact fail 4 _ (by simp [rdE, h4]) (by decide) rfl (read40e F1 A S1 Ab m cb hcl h4.1 h4.2)
    · by_cases h5 : (data.length : Int) < pos
      · exact fail 5 _ (by simp only [rdE]; rw [if_neg (by simp), if_neg h4, if_pos h5]) (by decide) rfl (read40u F1 A S1 Ab m cb hcl h5)
      · have he : rdE false data.length pos m = 0 := by simp only [rdE]; rw [if_neg (by simp), if_neg h4, if_neg h5]
        have hD : rdD false data pos m = (data.drop pos.toNat).take m := by unfold rdD; rw [he, if_pos rfl]
        have hpp := hp rfl
        clear fail
        obtain ⟨p, rfl⟩ : ∃ p : Nat, pos = p := ⟨pos.toNat, by omega⟩
        rw [hD, he]
        have hlen : ((data.drop (p : Int).toNat).take m).length = min m (data.length - p) := by rw [List.length_take, List.length_drop, Int.toNat_natCast]
        rw [hlen]
        rcases Nat.eq_zero_or_pos m with hm0 | hm0
        · subst hm0
          have h0 : min 0 (data.length - p) = 0 := by omega
          rw [h0, List.take_zero]
          refine (read40y F1 (by simpa using hR) hcl p rfl (by omega) (by omega)).mono ?_
          rintro e w1 ⟨rfl, h1, h2⟩
          refine ⟨rfl, by simpa using h1, ?_, h2.mono (fun i hi => .inl hi)⟩
          have hne := Kd.R_ne hR F1.hf (by decide)
          exact Kd.R_mono (h2.row (Kd.R_tight rfl (by simpa using hR)) (fun i hi e => hne (by rw [← hi, e]))) (fun _ _ => trivial)
        · refine (read40 F1 hcl hR hbs hbv p m rfl (by simp) (by omega) hm0 (by omega) (by omega)).mono ?_
          rintro e w1 ⟨rfl, h1, h2, h3⟩
          refine ⟨rfl, h1, ?_, h3⟩
          rw [List.drop_replicate] at h2
          rw [show (data.drop (p : Int).toNat).take m = (data.drop (p : Int).toNat).take (min m (data.length - p)) by rw [List.take_eq_take_iff]; simp]
          exact h2
/-- Reading at the place, and at another place. -/
theorem read_spec (A : Nat → Addr) (F : Fil f d h n v data base W) (hS : Sent A W) (m : Nat) (hm : m ≤ 1000000) (hdl : data.length ≤ 1000000) (hp : h.cl = false → 0 ≤ h.pos) :
    RdC 40 #[] f d { h with pos := h.pos + (rdD h.cl data h.pos m).length } n v data base m (rdD h.cl data h.pos m).length (rdD h.cl data h.pos m) (rdV A (rdE h.cl data.length h.pos m)) W := by
  intro W1 Ab cb bb hb hbb hbs hR
  exact read_here A (F.below hb) (hS.later hb) hbs m hm hdl hp (fun i hi e => by
    have h1 := Kd.R_lt F.row i hi
    have h2 := Kd.R_base hR i e
    omega) hR
theorem readat_spec (A : Nat → Addr) (F : Fil f d h n v data base W) (hS : SentB A base W) (hf : base ≤ f) (hd : base ≤ d) (m : Nat) (hm : m ≤ 1000000) (hdl : data.length ≤ 1000000) (off : Int) (hp : h.cl = false → 0 ≤ off) :
    RdC 41 #[.int .i64 off] f d h n v data base m (rdD h.cl data off m).length (rdD h.cl data off m) (rdV A (rdE h.cl data.length off m)) W := by
  intro W1 Ab cb bb hb hbb hbs hR
  have F1 := F.below hb
  have F2 := F1.setPos off
  have hbv : ∀ i, v.ownBlock = some i → (Value.slice Ab m cb).ownBlock ≠ some i := fun i hi e => by
    have h1 := Kd.R_lt F.row i hi
    have h2 := Kd.R_base hR i e
    omega
  have hB : base ≤ W.heap.size := Nat.le_trans hf (Nat.le_of_lt (blk_lt F.hf))
  have hM : Moves (fun i => i = f) W1 (W1.setCell ⟨f, 0, none⟩ (.int .i64 off)) := (Moves.refl (fun i => i = f) W1).setCell (p := ⟨f, 0, none⟩) (.inl rfl) _
  have S2 := ((hS.moves (Moves.of_below hb (fun _ => False)) (fun _ q => q.elim) hB).moves hM (fun k hk => by subst hk; exact hf) (Nat.le_trans hB hb.size)).sent
  have R2 := Kd.R_set hR F1.hf (Fil.types 94 (.inl rfl)) 0 (.int .i64 off)
  have hC := read_here A F2 S2 (Nat.le_trans hbs hM.size) m hm hdl hp hbv R2
  refine (readat41 F1 (.slice Ab m cb) off (rdD h.cl data off m).length (off + (rdD h.cl data off m).length) (rdV A (rdE h.cl data.length off m)) (fun w1 => Kd.R (Kd.int .u8) 5 w1 bb (fun _ => True) (.slice Ab m cb) (rdD h.cl data off m ++ List.replicate (m - (rdD h.cl data off m).length) 0) ∧ Moves (fun i => i = f ∨ some i = (Value.slice Ab m cb).ownBlock) W1 w1) (hC.mono (fun e w' q => ⟨q.1, q.2.1, q.2.2.1, (hM.mono (fun i hi => .inl hi)).then_ q.2.2.2 (fun i hi => .inl hi)⟩))).mono ?_
  rintro e w' ⟨rfl, w1, ⟨hR1, hM1⟩, hF1, rfl⟩
  refine ⟨rfl, ?_, Kd.R_set hR1 hF1.hf (Fil.types 94 (.inl rfl)) 0 _, hM1.setCell (p := ⟨f, 0, none⟩) (.inl (.inl rfl)) _⟩
  have := hF1.setPos h.pos
  exact this
end
end Go.Proofs.YtljcdjggjphedaaDoor.Hd
