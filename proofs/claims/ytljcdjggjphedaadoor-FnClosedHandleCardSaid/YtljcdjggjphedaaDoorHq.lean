/- The contracts of writing steps on an open file. -/
import Derived.Test.YtljcdjggjphedaaDoorHo
import Derived.IntWalk
namespace Go.Proofs.YtljcdjggjphedaaDoor.Hd
open Go.RowKit Go.Proofs.YtljcdjggjphedaaDoorW.PrintWords Go.Proofs.YtljcdjggjphedaaDoorW.PrintLast Go.Proofs.YtljcdjggjphedaaDoorW.PrintMore
open Go.Proofs.YtljcdjggjphedaaDoor.PFnHandleScript
set_option linter.unusedVariables false
set_option linter.unusedSimpArgs false
section
variable {ops : Array Oper} {rest : List Oper} {o : Oper} {a : Act} {Q : Exit → Act → World → Prop}
theorem app_bytes {W : World} (base : Nat) (hgd : o.guard = none) (s x : Operand) (ho : o.op = .call { callee := .builtin .append, args := #[s, x], argTypes := #[22, 22] })
    (v : Value) (xs ys : List Int) (A : Option Addr) (m c : Nat) (hs : a.eval s = v) (hx : a.eval x = .slice A m c) (HO : Kd.R (Kd.int .u8) 5 W base (fun _ => True) v xs) (HR : Kd.C (Kd.int .u8) W A m ys) (hbase : base ≤ W.heap.size) (hl : xs.length + m ≤ 140737488355328)
    (h : ∀ A1 nl c1 w1, Kd.R (Kd.int .u8) 5 w1 base (fun _ => True) (.slice A1 nl c1) (xs ++ ys) → W.grownBy w1 v.ownBlock → wpList Tryd.prog ops Q rest (a.put o.dst (.slice A1 nl c1)) w1) :
    wpList Tryd.prog ops Q (o :: rest) a W := by
  refine Kd.R_append_rows (Kd.int .u8) (w0 := W) base hgd s x 22 5 (.int .u8 0) 1 ho Tryd.underlying22 PFnHandleScript.info5 rfl (by decide) (by decide) v xs ys A m c (fun _ => True) (fun _ => False) hs hx HO HR (fun x cs hc => hc) (fun _ hk => hk.elim) (fun _ _ => trivial) (Below.refl _ _) hbase (by omega) ?_
  intro v1 w1 h1 _ h2 h3
  obtain ⟨A1, c1, e1, _, _⟩ := Kd.R_reads h1
  subst e1
  exact h _ _ _ _ h1 h2
end
section
variable {f d base : Nat} {h : Hnd} {n : Nod} {v : Value} {data b : List Int} {W : World}
/-- What a writer does, as the step asks it; its error's kind can be told, whatever becomes of the step's own three blocks. -/
def WrC (fn : Nat) (more : Array Value) (f d : Nat) (h' : Hnd) (n' : Nod) (v : Value) (data' : List Int) (base m : Nat) (b : List Int) (kn kd : Int) (W : World) : Prop :=
  ∀ (W1 : World) (Ab : Option Addr) (cb : Nat), Below W.heap.size W W1 → W.heap.size + 2 < W1.heap.size → Kd.C (Kd.int .u8) W1 Ab m b → m ≤ cb →
    Calls Tryd.prog fn (#[.pointer (some ⟨f, 0, none⟩), .slice Ab m cb] ++ more) W1 fun e w1 => ∃ ev, e = .returned (.tuple #[.int .i64 kn, ev]) ∧ Acts f d h' n' data' base v W1 w1 ∧ ∀ w2, Moves (fun i => W.heap.size ≤ i ∧ i < W.heap.size + 3) w1 w2 → Calls Tryd.prog 53 #[ev] w2 fun e w' => e = .returned (.int .i64 kd) ∧ w2 = w'
theorem nil_app {WX wm : World} {A1 : Option Addr} {nl c1 : Nat} {b : List Int} (hr : Kd.R (Kd.int .u8) 5 wm WX.heap.size (fun _ => True) (.slice A1 nl c1) ([] ++ b)) (hg : WX.grownBy wm (Value.slice none 0 0).ownBlock) (m : Nat) (hb : b.length = m) :
    nl = m ∧ Hid (m ≤ c1) ∧ Hid (Kd.C (Kd.int .u8) wm A1 m b) ∧ Hid (Below WX.heap.size WX wm) := by
  rw [List.nil_append] at hr
  obtain ⟨e, hc, hC⟩ := Kd.R_reads' hr
  rw [hb] at hC e
  subst e
  exact ⟨rfl, Lib.hid hc, Lib.hid hC, Lib.hid ⟨hg.os, hg.tape, hg.output, hg.size, fun k hk => hg.block k hk (by simp [Value.ownBlock])⟩⟩
theorem below_sz2 {WX wm w : World} (hb : Below WX.heap.size WX wm) (h : Below w.heap.size w WX) (h3 : w.heap.size + 2 < WX.heap.size) : Below w.heap.size w wm ∧ w.heap.size + 2 < wm.heap.size := ⟨below_then h h.size hb, Nat.lt_of_lt_of_le h3 hb.size⟩
theorem below_new {WX wm : World} (hb : Below WX.heap.size WX wm) (g : Nat) (hlt : g < WX.heap.size) : (∀ i, wm.cell? ⟨g, i, none⟩ = WX.cell? ⟨g, i, none⟩) ∧ (∀ i, wm.frozen? ⟨g, i, none⟩ = WX.frozen? ⟨g, i, none⟩) :=
  ⟨fun i => World.cell?_of_block (a := ⟨g, i, none⟩) (hb.block g hlt), fun i => World.frozen?_of_block (a := ⟨g, i, none⟩) (hb.block g hlt)⟩
theorem new_blk {WX w1 : World} (F : Fil f d h n v data base W) (hA : Moves (Tch f d v) WX w1) {g : Nat} {o : Obj} (hb : WX.heap[g]? = some o) (hg : W.heap.size ≤ g) : w1.heap[g]? = some o := (hA.block g (blk_lt hb) (fun ht => by have := F.lt g ht; omega)).trans hb
theorem row_ne {WX wm w1 : World} {h' : Hnd} {n' : Nod} {v1 : Value} {data' : List Int} (F : Fil f d h n v data base W) (hbm : Below WX.heap.size WX wm) (hX : Fil f d h' n' v1 data' base w1) (hA : Moves (Tch f d v) wm w1) (g : Nat) (hg : W.heap.size ≤ g) {cs : Array Value} {t : TypeId} (hb : WX.heap[g]? = some (.cells cs t (0, 0))) (ht : 5 ≠ t) :
    v1.ownBlock ≠ some g := moves_ne F hX hA g hg (blk_below hb hbm) ht
set_option maxHeartbeats 2000000 in
set_option maxRecDepth 100000 in
theorem on_write_any (F : Fil f d h n v data base W) (h' : Hnd) (n' : Nod) (data' : List Int) (kn kd : Int) (off : Int) (Ad : Option Addr) (md cd : Nat) (hD : Kd.C (Kd.int .u8) W Ad md b) (hm : md ≤ 10000000) (hWr : WrC 42 #[] f d h' n' v data' base md b kn kd W)
    (wh N : Int) (nm ot : ByteArray) (fl pe hh : Int) :
    Calls Tryd.prog 27 #[.pointer (some ⟨f, 0, none⟩), stepV 14 nm ot fl pe hh (.slice Ad md cd) off wh N] W (Stp f d h' n' data' base v (ans kd kn 0 []) W) := by
  have HF := Lib.hid F
  have HC := Lib.hid hWr
  have HL := Lib.hid hD.1
  have HD := Lib.hid hD
  unfold stepV
  clear F hWr hD
  go_enter Tryd.func27, Tryd.ntmps27
  go_wp2_with (first | ((with_reducible refine gate_builtin (b := .append) (xs := #[.const (.slice none 0 0), .tmp 58]) rfl ?_); at_builtin; refine app_bytes _ rfl _ _ rfl (.slice none 0 0) [] b Ad md cd rfl rfl (Kd.R_nil _ _ _ _ _) (Kd.C_below HD.out (by repeat (first | exact Below.refl _ _ | apply below_alloc | apply below_drew) : Below W.heap.size W _)) (Nat.le_refl _) (by simp; omega) ?_; intro A1 m' c1 wm hr1 hg1; obtain ⟨rfl, MC, CC, BM⟩ := nil_app hr1 hg1 md HL.out; have SZ := Lib.hid (below_sz2 BM.out (by repeat (first | exact Below.refl _ _ | apply below_alloc | apply below_drew) : Below W.heap.size W _) (by simp)); obtain ⟨ka0, kb0⟩ := below_new BM.out W.heap.size (by simp; omega); obtain ⟨ka1, kb1⟩ := below_new BM.out (W.heap.size + 1) (by simp); obtain ⟨ka2, kb2⟩ := below_new BM.out (W.heap.size + 1 + 1) (by simp); clear hr1 hg1) | (go_at_call 42; (refine (HC.out wm A1 c1 SZ.out.1 SZ.out.2 CC.out MC.out).mono ?_); rintro e w1 ⟨ev, rfl, ⟨v1, hX, hM, hO⟩, hK⟩; have HX := Lib.hid hX; have HM := Lib.hid hM; have HK := Lib.hid hK; have HO := Lib.hid (own_up hO SZ.out.1); have NE5 := Lib.hid (row_ne HF.out BM.out hX hM (W.heap.size + 1 + 1) (by omega) (t := 33) (blk_at_ (by simp)) (by decide)); have NE4 := Lib.hid (row_ne HF.out BM.out hX hM (W.heap.size + 1) (by omega) (t := 33) (blk_alloc (blk_at_ (by simp)) _) (by decide)); have MW := Lib.hid (moves_from hM SZ.out.1); obtain ⟨kc5, kz5⟩ := moves_new HF.out hM (W.heap.size + 1 + 1) (by omega) (by have := SZ.out.2; omega); obtain ⟨kc4, kz4⟩ := moves_new HF.out hM (W.heap.size + 1) (by omega) (by have := SZ.out.2; omega); clear hX hM hO hK) | (go_at_call 53; (refine (HK.out _ ?_).mono ?_); (exact (by repeat (first | exact Moves.refl _ _ | with_reducible refine Moves.setCell (p := ⟨W.heap.size + 1 + 1, _, none⟩) ?_ (.inl ⟨by show W.heap.size ≤ W.heap.size + 1 + 1; omega, by show W.heap.size + 1 + 1 < W.heap.size + 3; omega⟩) _))); rintro e w' ⟨rfl, rfl⟩))
  refine bodyPost_ret (v := .agg #[.int .i64 kd, .int .i64 kn, .int .i64 0, .slice none 0 0, .slice none 0 0, .slice none 0 0]) (by simp [results, Tryd.results27, go_sem, kc4, kc5, ka1, ka2]) rfl ?_
  exact ⟨v1, ⟨_, _, _, rfl, Kd.R_nil _ _ _ _ _, Kd.R_nil _ _ _ _ _, Kd.R_nil _ _ _ _ _⟩, (by repeat (first | with_reducible exact HX.out | with_reducible refine Fil.setFar ?_ (HF.out.nef' (by omega)) (HF.out.ned' (by omega)) NE4.out _ _ | with_reducible refine Fil.setFar ?_ (HF.out.nef' (by omega)) (HF.out.ned' (by omega)) NE5.out _ _)), (by repeat (first | with_reducible exact MW.out | with_reducible refine Moves.setCell (p := ⟨W.heap.size + 1, _, none⟩) ?_ (.inr (by show W.heap.size ≤ W.heap.size + 1; omega)) _ | with_reducible refine Moves.setCell (p := ⟨W.heap.size + 1 + 1, _, none⟩) ?_ (.inr (by show W.heap.size ≤ W.heap.size + 1 + 1; omega)) _)), HO.out⟩
set_option maxHeartbeats 2000000 in
set_option maxRecDepth 100000 in
theorem on_writeat_any (F : Fil f d h n v data base W) (h' : Hnd) (n' : Nod) (data' : List Int) (kn kd : Int) (off : Int) (Ad : Option Addr) (md cd : Nat) (hD : Kd.C (Kd.int .u8) W Ad md b) (hm : md ≤ 10000000) (hWr : WrC 43 #[.int .i64 off] f d h' n' v data' base md b kn kd W)
    (wh N : Int) (nm ot : ByteArray) (fl pe hh : Int) :
    Calls Tryd.prog 27 #[.pointer (some ⟨f, 0, none⟩), stepV 15 nm ot fl pe hh (.slice Ad md cd) off wh N] W (Stp f d h' n' data' base v (ans kd kn 0 []) W) := by
  have HF := Lib.hid F
  have HC := Lib.hid hWr
  have HL := Lib.hid hD.1
  have HD := Lib.hid hD
  have HMD := Lib.hid (show ([] : List Int).length + md ≤ 140737488355328 by simp; omega)
  unfold stepV
  clear F hWr hD
  go_enter Tryd.func27, Tryd.ntmps27
  go_wp2_with fail
  have HBW := Lib.hid (show Below W.heap.size W (((W.alloc (.cells #[.int .i64 15, .string nm, .string ot, .int .i64 fl, .int .i64 pe, .int .i64 hh, .slice Ad md cd, .int .i64 off, .int .i64 wh, .int .i64 N] 26)).alloc (.cells #[.int .i64 0, .int .i64 0, .int .i64 0, .slice none 0 0, .slice none 0 0, .slice none 0 0] 33)).alloc (.cells #[.int .i64 0, .int .i64 0, .int .i64 0, .slice none 0 0, .slice none 0 0, .slice none 0 0] 33)).drew from below_drew (below_alloc (below_alloc (below_alloc (Below.refl _ _) _) _) _))
  have H3 := Lib.hid (show W.heap.size + 2 < (((W.alloc (.cells #[.int .i64 15, .string nm, .string ot, .int .i64 fl, .int .i64 pe, .int .i64 hh, .slice Ad md cd, .int .i64 off, .int .i64 wh, .int .i64 N] 26)).alloc (.cells #[.int .i64 0, .int .i64 0, .int .i64 0, .slice none 0 0, .slice none 0 0, .slice none 0 0] 33)).alloc (.cells #[.int .i64 0, .int .i64 0, .int .i64 0, .slice none 0 0, .slice none 0 0, .slice none 0 0] 33)).drew.heap.size by simp)
  have q5 : (((W.alloc (.cells #[.int .i64 15, .string nm, .string ot, .int .i64 fl, .int .i64 pe, .int .i64 hh, .slice Ad md cd, .int .i64 off, .int .i64 wh, .int .i64 N] 26)).alloc (.cells #[.int .i64 0, .int .i64 0, .int .i64 0, .slice none 0 0, .slice none 0 0, .slice none 0 0] 33)).alloc (.cells #[.int .i64 0, .int .i64 0, .int .i64 0, .slice none 0 0, .slice none 0 0, .slice none 0 0] 33)).drew.heap[W.heap.size + 1 + 1]? = some (.cells #[.int .i64 0, .int .i64 0, .int .i64 0, .slice none 0 0, .slice none 0 0, .slice none 0 0] 33 (0, 0)) := blk_at_ (by simp)
  have q4 : (((W.alloc (.cells #[.int .i64 15, .string nm, .string ot, .int .i64 fl, .int .i64 pe, .int .i64 hh, .slice Ad md cd, .int .i64 off, .int .i64 wh, .int .i64 N] 26)).alloc (.cells #[.int .i64 0, .int .i64 0, .int .i64 0, .slice none 0 0, .slice none 0 0, .slice none 0 0] 33)).alloc (.cells #[.int .i64 0, .int .i64 0, .int .i64 0, .slice none 0 0, .slice none 0 0, .slice none 0 0] 33)).drew.heap[W.heap.size + 1]? = some (.cells #[.int .i64 0, .int .i64 0, .int .i64 0, .slice none 0 0, .slice none 0 0, .slice none 0 0] 33 (0, 0)) := blk_alloc (blk_at_ (by simp)) _
  have q3 : (((W.alloc (.cells #[.int .i64 15, .string nm, .string ot, .int .i64 fl, .int .i64 pe, .int .i64 hh, .slice Ad md cd, .int .i64 off, .int .i64 wh, .int .i64 N] 26)).alloc (.cells #[.int .i64 0, .int .i64 0, .int .i64 0, .slice none 0 0, .slice none 0 0, .slice none 0 0] 33)).alloc (.cells #[.int .i64 0, .int .i64 0, .int .i64 0, .slice none 0 0, .slice none 0 0, .slice none 0 0] 33)).drew.heap[W.heap.size]? = some (.cells #[.int .i64 15, .string nm, .string ot, .int .i64 fl, .int .i64 pe, .int .i64 hh, .slice Ad md cd, .int .i64 off, .int .i64 wh, .int .i64 N] 26 (0, 0)) := blk_alloc (blk_alloc (blk_at_ rfl) _) _
  have s6 : (((W.alloc (.cells #[.int .i64 15, .string nm, .string ot, .int .i64 fl, .int .i64 pe, .int .i64 hh, .slice Ad md cd, .int .i64 off, .int .i64 wh, .int .i64 N] 26)).alloc (.cells #[.int .i64 0, .int .i64 0, .int .i64 0, .slice none 0 0, .slice none 0 0, .slice none 0 0] 33)).alloc (.cells #[.int .i64 0, .int .i64 0, .int .i64 0, .slice none 0 0, .slice none 0 0, .slice none 0 0] 33)).cell? ⟨W.heap.size, 6, none⟩ = some (.slice Ad md cd) := blk_cell q3 6
  have s7 : (((W.alloc (.cells #[.int .i64 15, .string nm, .string ot, .int .i64 fl, .int .i64 pe, .int .i64 hh, .slice Ad md cd, .int .i64 off, .int .i64 wh, .int .i64 N] 26)).alloc (.cells #[.int .i64 0, .int .i64 0, .int .i64 0, .slice none 0 0, .slice none 0 0, .slice none 0 0] 33)).alloc (.cells #[.int .i64 0, .int .i64 0, .int .i64 0, .slice none 0 0, .slice none 0 0, .slice none 0 0] 33)).cell? ⟨W.heap.size, 7, none⟩ = some (.int .i64 off) := blk_cell q3 7
  have Q3 := Lib.hid q3
  have Q4 := Lib.hid q4
  have Q5 := Lib.hid q5
  clear q3 q4 q5
  generalize (((W.alloc (.cells #[.int .i64 15, .string nm, .string ot, .int .i64 fl, .int .i64 pe, .int .i64 hh, .slice Ad md cd, .int .i64 off, .int .i64 wh, .int .i64 N] 26)).alloc (.cells #[.int .i64 0, .int .i64 0, .int .i64 0, .slice none 0 0, .slice none 0 0, .slice none 0 0] 33)).alloc (.cells #[.int .i64 0, .int .i64 0, .int .i64 0, .slice none 0 0, .slice none 0 0, .slice none 0 0] 33)) = W0 at *
  go_region_held3 (fun w' => w'.cell? ⟨W.heap.size, 6, none⟩ = some (.slice Ad md cd) ∧ w'.cell? ⟨W.heap.size, 7, none⟩ = some (.int .i64 off))
    (first | exact ⟨blk_cell P3.out 6, blk_cell P3.out 7⟩ | exact ⟨blk_cell R3.out 6, blk_cell R3.out 7⟩ | exact ⟨blk_cell (blk_far R3.out (by omega) _) 6, blk_cell (blk_far R3.out (by omega) _) 7⟩ | exact ⟨blk_cell (blk_far R3.out (by show W.heap.size ≠ W.heap.size + 1 + 1; omega) _) 6, blk_cell (blk_far R3.out (by show W.heap.size ≠ W.heap.size + 1 + 1; omega) _) 7⟩ | go_keep)
    (first | (go_at_call 43; (refine (HC.out wm A1 c1 SZ.out.1 SZ.out.2 CC.out MC.out).mono ?_); rintro e w1 ⟨ev, rfl, ⟨v1, hX, hM, hO⟩, hK⟩; have HX := Lib.hid hX; have HM := Lib.hid hM; have HK := Lib.hid hK; have HO := Lib.hid (own_up hO SZ.out.1); have NE5 := Lib.hid (row_ne HF.out BM.out hX hM (W.heap.size + 1 + 1) (by omega) (t := 33) Q5.out (by decide)); have NE4 := Lib.hid (row_ne HF.out BM.out hX hM (W.heap.size + 1) (by omega) (t := 33) Q4.out (by decide)); have MW := Lib.hid (moves_from hM SZ.out.1); have R3 := Lib.hid (new_blk HF.out hM P3.out (by omega)); have R4 := Lib.hid (new_blk HF.out hM P4.out (by omega)); have R5 := Lib.hid (new_blk HF.out hM P5.out (by omega)); have c51 := blk_cell R5.out 1; have z51 := blk_frozen R5.out 1; clear hX hM hO hK) | (refine app_bytes_step _ (by rfl) _ _ (by rfl) (.slice none 0 0) [] b Ad md cd (by rfl) (by rfl) (Kd.R_nil _ _ _ _ _) (Kd.C_below HD.out HBW.out) (Nat.le_refl _) HMD.out ?_; intro A1 m' c1 wm hr1 hg1 ho1; obtain ⟨rfl, MC, CC, BM⟩ := nil_app hr1 hg1 md HL.out; have SZ := Lib.hid (below_sz2 BM.out HBW.out H3.out); have P3 := Lib.hid (blk_below Q3.out BM.out); have P4 := Lib.hid (blk_below Q4.out BM.out); have P5 := Lib.hid (blk_below Q5.out BM.out); clear hr1 hg1 ho1))
  have c50 := blk_cell R5.out 0
  have c52 := blk_cell R5.out 2
  have c53 := blk_cell R5.out 3
  have c54 := blk_cell R5.out 4
  have c55 := blk_cell R5.out 5
  have c40 := blk_cell R4.out 0
  have c41 := blk_cell R4.out 1
  have c42 := blk_cell R4.out 2
  have c43 := blk_cell R4.out 3
  have c44 := blk_cell R4.out 4
  have c45 := blk_cell R4.out 5
  have z50 := blk_frozen R5.out 0
  have kz4 := fun i => blk_frozen R4.out i
  go_wp2_with (first | (go_at_call 53; (refine (HK.out _ ?_).mono ?_); (exact (by repeat (first | exact Moves.refl _ _ | with_reducible refine Moves.setCell (p := ⟨W.heap.size + 1 + 1, _, none⟩) ?_ (.inl ⟨by show W.heap.size ≤ W.heap.size + 1 + 1; omega, by show W.heap.size + 1 + 1 < W.heap.size + 3; omega⟩) _))); rintro e w' ⟨rfl, rfl⟩))
  refine bodyPost_ret (v := .agg #[.int .i64 kd, .int .i64 kn, .int .i64 0, .slice none 0 0, .slice none 0 0, .slice none 0 0]) (by simp [results, Tryd.results27, go_sem, c40, c41, c42, c43, c44, c45, c50, c51, c52, c53, c54, c55]) rfl ?_
  exact ⟨v1, ⟨_, _, _, rfl, Kd.R_nil _ _ _ _ _, Kd.R_nil _ _ _ _ _, Kd.R_nil _ _ _ _ _⟩, (by repeat (first | with_reducible exact HX.out | with_reducible refine Fil.setFar ?_ (HF.out.nef' (by omega)) (HF.out.ned' (by omega)) NE4.out _ _ | with_reducible refine Fil.setFar ?_ (HF.out.nef' (by omega)) (HF.out.ned' (by omega)) NE5.out _ _)), (by repeat (first | with_reducible exact MW.out | with_reducible refine Moves.setCell (p := ⟨W.heap.size + 1, _, none⟩) ?_ (.inr (by show W.heap.size ≤ W.heap.size + 1; omega)) _ | with_reducible refine Moves.setCell (p := ⟨W.heap.size + 1 + 1, _, none⟩) ?_ (.inr (by show W.heap.size ≤ W.heap.size + 1 + 1; omega)) _)), HO.out⟩
/-- The refusal of a write, its blocks new. -/
def RefW (w : World) (e : Ending) (w' : World) : Prop :=
  ∃ (p b : Nat), e = .returned (.tuple #[.int .i64 0, .iface 130 (.pointer (some ⟨p, 0, none⟩))]) ∧ Below w.heap.size w w' ∧ w.heap.size ≤ p ∧ w.heap.size ≤ b ∧ w'.cell? ⟨p, 0, none⟩ = some (.string { data := #[119, 114, 105, 116, 101] }) ∧ w'.cell? ⟨p, 2, none⟩ = some (.iface 149 (.pointer (some ⟨b, 0, none⟩))) ∧ p < w'.heap.size ∧ b < w'.heap.size ∧ ∃ c t, w'.heap[b]? = some (.cells c t (0, 0))
theorem refW_mk (op nm s : ByteArray) (W : World) (ho : op = { data := #[119, 114, 105, 116, 101] }) : RefW W (.returned (.tuple #[.int .i64 0, .iface 130 (.pointer (some ⟨W.heap.size + 1, 0, none⟩))])) (((W.alloc (.cells #[.string s] 151)).alloc (.cells #[.string op, .string nm, .iface 149 (.pointer (some ⟨W.heap.size, 0, none⟩))] 133)).drew) := by
  subst ho
  have hb := blk_alloc (blk_new W (.cells #[.string s] 151)) (.cells #[.string { data := #[119, 114, 105, 116, 101] }, .string nm, .iface 149 (.pointer (some ⟨W.heap.size, 0, none⟩))] 133)
  have hn := blk_new (W.alloc (.cells #[.string s] 151)) (.cells #[.string { data := #[119, 114, 105, 116, 101] }, .string nm, .iface 149 (.pointer (some ⟨W.heap.size, 0, none⟩))] 133)
  have hs : (W.alloc (.cells #[.string s] 151)).heap.size = W.heap.size + 1 := by simp
  rw [hs] at hn
  exact ⟨W.heap.size + 1, W.heap.size, rfl, below_drew (below_alloc (below_alloc (Below.refl _ _) _) _), by omega, by omega, blk_cell hn 0, blk_cell hn 2, blk_lt hn, blk_lt hb, _, _, hb⟩
set_option maxHeartbeats 1000000 in
set_option maxRecDepth 100000 in
theorem write42s (F : Fil f d h n v data base W) (vb : Value) (hcl : h.cl = false) (hro : h.ro = true) :
    Calls Tryd.prog 42 #[.pointer (some ⟨f, 0, none⟩), vb] W (RefW W) := by
  have c2 := F.c2
  have c3 := F.c3
  have c4 := F.c4
  have n0 := F.n0
  rw [hcl] at c2
  rw [hro] at c3
  obtain ⟨nm, vm, dir, md, tm⟩ := n
  simp only at n0
  have y4 := World.new_ne W _ c4
  have y0 := World.new_ne W _ n0
  have HE := Lib.hid (fun s W => err83 (W := W) s)
  clear F hcl hro
  go_enter Tryd.func42, Tryd.ntmps42
  go_wp2_with fail
  go_region_held3 (fun w' => w'.cell? ⟨f, 4, none⟩ = some (.pointer (some ⟨d, 0, none⟩)) ∧ w'.cell? ⟨d, 0, none⟩ = some (.string nm))
    (go_keep)
    ((go_at_call 83; (with_reducible refine (HE.out _ _).mono ?_); rintro e w1 ⟨rfl, rfl⟩))
  go_wp2
  go_ret2
  exact refW_mk _ _ _ _ rfl
/-- Bytes laid over others, with zeros in a gap. -/
def overB (data : List Int) (p : Nat) (b : List Int) : List Int := data.take p ++ (List.replicate (p - data.length) 0 ++ b) ++ data.drop (p + b.length)
theorem sent_after {A : Nat → Addr} {W1 w1 w2 : World} (F : Fil f d h n v data base W) (hS : SentB A base W) (hf : base ≤ f) (hd : base ≤ d) (hb : Below W.heap.size W W1) (hM : Moves (Tch f d v) W1 w1) (h2 : Moves (fun i => W.heap.size ≤ i ∧ i < W.heap.size + 3) w1 w2) : Sent A w2 := by
  have hB : base ≤ W.heap.size := Nat.le_trans hf (Nat.le_of_lt (blk_lt F.hf))
  have s1 := hS.moves (Moves.of_below hb (fun _ => False)) (fun _ q => q.elim) hB
  have s2 := s1.moves hM (F.tch hf hd) (Nat.le_trans hB hb.size)
  exact (s2.moves h2 (fun k hk => Nat.le_trans hB hk.1) (Nat.le_trans (Nat.le_trans hB hb.size) hM.size)).sent
theorem write_c {A : Nat → Addr} (F : Fil f d h n v data base W) (hS : SentB A base W) (hf : base ≤ f) (hd : base ≤ d) (m : Nat) (hcl : h.cl = true) : WrC 42 #[] f d h n v data base m b 0 3 W := by
  intro W1 Ab cb hb h3 hC hm
  refine (write42c (F.below hb) A (hS.sent.later hb) (.slice Ab m cb) hcl).mono ?_
  rintro e w1 ⟨rfl, hbw⟩
  exact ⟨_, rfl, Acts.below (F.below hb) hbw, fun w2 h2 => kind_s0 A w2 (sent_after F hS hf hd hb (Moves.of_below hbw _) h2)⟩
theorem write_r {A : Nat → Addr} (F : Fil f d h n v data base W) (hS : SentB A base W) (hf : base ≤ f) (hd : base ≤ d) (m : Nat) (hcl : h.cl = false) (hro : h.ro = true) : WrC 42 #[] f d h n v data base m b 0 6 W := by
  intro W1 Ab cb hb h3 hC hm
  refine (write42s (F.below hb) (.slice Ab m cb) hcl hro).mono ?_
  rintro e w1 ⟨p, bb, rfl, hbw, hp, hbb, k0, k2, hpl, hbl, ct, tt, kb⟩
  have hB : base ≤ W.heap.size := Nat.le_trans hf (Nat.le_of_lt (blk_lt F.hf))
  refine ⟨_, rfl, Acts.below (F.below hb) hbw, fun w2 h2 => kind_write A w2 (sent_after F hS hf hd hb (Moves.of_below hbw _) h2) p (.string ⟨#[]⟩) ⟨bb, 0, none⟩ ?_ ?_ ?_ ?_⟩
  · exact (World.cell?_of_block (a := ⟨p, 0, none⟩) (h2.block p hpl (fun q => by omega))).trans k0
  · exact (World.cell?_of_block (a := ⟨p, 2, none⟩) (h2.block p hpl (fun q => by omega))).trans k2
  · exact ⟨ct, tt, (h2.block bb hbl (fun q => by omega)).trans kb⟩
  · intro k hk e
    have := hS.lt k hk
    rw [← e] at this
    simp only at this
    have := hb.size
    omega
theorem write_o (F : Fil f d h n v data base W) (hf : base ≤ f) (m p : Nat) (hcl : h.cl = false) (hro : h.ro = false) (hp : h.pos = p) (hpm : p ≤ 10000000) (hm : m ≤ 10000000) (hdl : data.length ≤ 10000000) :
    WrC 42 #[] f d { h with pos := (p : Int) + m } { n with tm := 0 } v (overB data p b) base m b m 0 W := by
  intro W1 Ab cb hb h3 hC hmc
  have hB : base ≤ W1.heap.size := Nat.le_trans (Nat.le_trans hf (Nat.le_of_lt (blk_lt F.hf))) hb.size
  have hbl : b.length = m := hC.1
  have F1 := F.below hb
  have key : Calls Tryd.prog 42 #[.pointer (some ⟨f, 0, none⟩), .slice Ab m cb] W1 fun e w' => e = .returned (.tuple #[.int .i64 m, .nilIface]) ∧ Acts f d { h with pos := p + m } { n with tm := 0 } (overB data p b) base v W1 w' := by
    unfold overB
    rw [hbl]
    by_cases h1 : data.length < p
    · rw [List.take_of_length_le (by omega), List.drop_eq_nil_of_le (by omega), List.append_nil]
      exact write42g F1 Ab m cb p hC hcl hro hp h1 hpm hm (by omega) hB
    · rw [show p - data.length = 0 by omega, List.replicate_zero, List.nil_append]
      by_cases h2 : data.length ≤ m + p
      · rw [List.drop_eq_nil_of_le (by omega), List.append_nil]
        exact write42e F1 Ab m cb p hC hcl hro hp (by omega) h2 hm (by omega) hB
      · exact write42m F1 Ab m cb p hC hcl hro hp (by omega) (by omega) hB
  refine key.mono ?_
  rintro e w1 ⟨rfl, hA⟩
  exact ⟨_, rfl, hA, fun w2 _ => kind_nil w2⟩
set_option maxHeartbeats 1000000 in
theorem writeat43 (F : Fil f d h n v data base W) (vb : Value) (off : Int) (R : Ending → World → Prop)
    (hC : Calls Tryd.prog 42 #[.pointer (some ⟨f, 0, none⟩), vb] (W.setCell ⟨f, 0, none⟩ (.int .i64 off)) fun e w' => ∃ k ev, e = .returned (.tuple #[.int .i64 k, ev]) ∧ R e w') :
    Calls Tryd.prog 43 #[.pointer (some ⟨f, 0, none⟩), vb, .int .i64 off] W R := by
  have c0 := F.c0
  have z0 := blk_frozen F.hf 0
  have HC := Lib.hid hC
  clear F hC
  go_enter Tryd.func43, Tryd.ntmps43
  go_wp2_with (first | (go_at_call 42; (with_reducible refine (HC.out).mono ?_); rintro e w1 ⟨k, ev, rfl, hR⟩; have HR := Lib.hid hR; clear hR))
  exact HR.out
/-- Writing at a place: from what writing does with the place put there. -/
theorem writeat_of {h' : Hnd} {n' : Nod} {data' : List Int} {m : Nat} {kn kd : Int} (F : Fil f d h n v data base W) (hf : base ≤ f) (off : Int)
    (hW : ∀ (W0 : World), Fil f d { h with pos := off } n v data base W0 → Moves (fun i => i = f) W W0 → W0.heap.size = W.heap.size → WrC 42 #[] f d h' n' v data' base m b kn kd W0) : WrC 43 #[.int .i64 off] f d h' n' v data' base m b kn kd W := by
  intro W1 Ab cb hb h3 hC hm
  have F1 := F.below hb
  have hB : base ≤ W.heap.size := Nat.le_trans hf (Nat.le_of_lt (blk_lt F.hf))
  have hsz : (W.setCell ⟨f, 0, none⟩ (.int .i64 off)).heap.size = W.heap.size := by simp [World.setCell]
  have hM0 : Moves (fun i => i = f) W (W.setCell ⟨f, 0, none⟩ (.int .i64 off)) := (Moves.refl (fun i => i = f) W).setCell (p := ⟨f, 0, none⟩) (.inl rfl) _
  have hM1 : Moves (fun i => i = f) W1 (W1.setCell ⟨f, 0, none⟩ (.int .i64 off)) := (Moves.refl (fun i => i = f) W1).setCell (p := ⟨f, 0, none⟩) (.inl rfl) _
  have hbl : Below (W.setCell ⟨f, 0, none⟩ (.int .i64 off)).heap.size (W.setCell ⟨f, 0, none⟩ (.int .i64 off)) (W1.setCell ⟨f, 0, none⟩ (.int .i64 off)) := by
    rw [hsz]
    refine ⟨hb.os, hb.tape, hb.output, by simpa [World.setCell] using hb.size, fun k hk => ?_⟩
    by_cases hkf : k = f
    · subst hkf
      exact (F1.setPos off).hf.trans (F.setPos off).hf.symm
    · rw [Below.heap_setCell _ _ _ k hkf, Below.heap_setCell _ _ _ k hkf]
      exact hb.block k hk
  have hC2 : Kd.C (Kd.int .u8) (W1.setCell ⟨f, 0, none⟩ (.int .i64 off)) Ab m b := by
    refine ⟨hC.1, hC.2.1, fun h0 => ?_⟩
    obtain ⟨ad, e, hc⟩ := hC.2.2 h0
    refine ⟨ad, e, fun j x hj => ?_⟩
    obtain ⟨c, hc1, hc2, hc3⟩ := hc j x hj
    refine ⟨c, hc1, hc2, fun i u hi => ?_⟩
    have hcell := hc3 i u hi
    have hu : ∃ z, u = .int .u8 z := by
      have hcc : c = [.int .u8 x] := hc2
      subst hcc
      match i, hi with
      | 0, hi => simp at hi; exact ⟨x, hi.symm⟩
    obtain ⟨z, rfl⟩ := hu
    have hne : (⟨f, 0, none⟩ : Addr) ≠ ad.add (j * (Kd.int IntKind.u8).sz + i) := by
      intro e
      rw [← e, F1.c0] at hcell
      cases hcell
    rw [World.cell?_setCell_other _ _ _ _ hne]
    exact hcell
  refine writeat43 F1 (.slice Ab m cb) off _ ((hW _ (F.setPos off) hM0 hsz (W1.setCell ⟨f, 0, none⟩ (.int .i64 off)) Ab cb hbl (by simpa [World.setCell] using h3) hC2 hm).mono ?_)
  rintro e w1 ⟨ev, rfl, ⟨v1, hX, hM, hO⟩, hK⟩
  refine ⟨_, _, rfl, ev, rfl, ⟨v1, hX, (hM1.mono (fun i hi => .inl hi)).then_ hM (fun i hi => .inl hi), ?_⟩, fun w2 h2 => hK w2 (by rw [hsz]; exact h2)⟩
  have := own_then (w := W1) hM1.size (.inl rfl) hO
  exact this
end
end Go.Proofs.YtljcdjggjphedaaDoor.Hd
