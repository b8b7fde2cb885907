/- The contracts of steps on an open file: seeking, cutting, closing. -/
import Derived.Test.YtljcdjggjphedaaDoorHy
import Derived.Lib.OthersKept
import Derived.IntWalk
namespace Go.Proofs.YtljcdjggjphedaaDoor.Hd
open Go.RowKit Go.Proofs.YtljcdjggjphedaaDoorW.PrintWords Go.Proofs.YtljcdjggjphedaaDoorW.PrintLast Go.Proofs.YtljcdjggjphedaaDoorW.PrintMore
open Go.Proofs.YtljcdjggjphedaaDoor.PFnHandleScript
set_option linter.unusedVariables false
set_option linter.unusedSimpArgs false
/-- An answer, its parts in blocks from base on that are ok. -/
def Ans (base : Nat) (ok : Nat → Prop) (x : S33) (e : Ending) (w' : World) : Prop :=
  ∃ v3 v4 v5, e = .returned (.agg #[.int .i64 x.f0, .int .i64 x.f1, .int .i64 x.f2, v3, v4, v5]) ∧ (Kd.int .u8).R 5 w' base ok v3 x.f3 ∧ Kd.string.R 9 w' base ok v4 x.f4 ∧ k75.R 75 w' base ok v5 x.f5
/-- What a step on an open file answers and leaves. -/
def Stp (f d : Nat) (h : Hnd) (n : Nod) (data : List Int) (base : Nat) (v : Value) (x : S33) (w : World) (e : Ending) (w' : World) : Prop :=
  ∃ v', Ans w.heap.size (fun k => some k ≠ v'.ownBlock) x e w' ∧ Fil f d h n v' data base w' ∧ Moves (Tch f d v) w w' ∧ (v'.ownBlock = v.ownBlock ∨ ∃ b, v'.ownBlock = some b ∧ w.heap.size ≤ b)
def ans (e n off : Int) (data : List Int) : S33 := ⟨e, n, off, data, [], []⟩
/-- A step's fields. -/
def stepV (op : Int) (nm ot : ByteArray) (fl pe hh : Int) (dv : Value) (off wh n : Int) : Value := .agg #[.int .i64 op, .string nm, .string ot, .int .i64 fl, .int .i64 pe, .int .i64 hh, dv, .int .i64 off, .int .i64 wh, .int .i64 n]
theorem blk_at_ {w : World} {o : Obj} {g : Nat} (h : w.heap.size = g) : (w.alloc o).heap[g]? = some o := h ▸ blk_new w o
section
variable {f d base : Nat} {h : Hnd} {n : Nod} {v : Value} {data b : List Int} {W : World}
theorem Fil.lt (F : Fil f d h n v data base W) : ∀ k, Tch f d v k → k < W.heap.size := by
  intro k hk
  rcases hk with rfl | rfl | hk
  · exact blk_lt F.hf
  · exact blk_lt F.hd
  · exact Kd.R_lt F.row k hk.symm
theorem moves_new {WX w1 : World} (F : Fil f d h n v data base W) (hA : Moves (Tch f d v) WX w1) (g : Nat) (hg : W.heap.size ≤ g) (hlt : g < WX.heap.size) :
    (∀ i, w1.cell? ⟨g, i, none⟩ = WX.cell? ⟨g, i, none⟩) ∧ (∀ i, w1.frozen? ⟨g, i, none⟩ = WX.frozen? ⟨g, i, none⟩) := by
  have := hA.block g hlt (fun ht => by have := F.lt g ht; omega)
  exact ⟨fun i => World.cell?_of_block (a := ⟨g, i, none⟩) this, fun i => World.frozen?_of_block (a := ⟨g, i, none⟩) this⟩
theorem moves_ne {WX w1 : World} {h' : Hnd} {n' : Nod} {v1 : Value} {data' : List Int} (F : Fil f d h n v data base W) (hX : Fil f d h' n' v1 data' base w1) (hA : Moves (Tch f d v) WX w1) (g : Nat) (hg : W.heap.size ≤ g) {cs : Array Value} {t : TypeId} (hb : WX.heap[g]? = some (.cells cs t (0, 0))) (ht : 5 ≠ t) :
    v1.ownBlock ≠ some g := by
  have hb1 : w1.heap[g]? = some (.cells cs t (0, 0)) := (hA.block g (blk_lt hb) (fun ht => by have := F.lt g ht; omega)).trans hb
  exact fun e => Kd.R_ne hX.row hb1 ht e.symm
theorem own_up {v1 v : Value} {w WX : World} (h : v1.ownBlock = v.ownBlock ∨ ∃ b, v1.ownBlock = some b ∧ WX.heap.size ≤ b) (hb : Below w.heap.size w WX) : v1.ownBlock = v.ownBlock ∨ ∃ b, v1.ownBlock = some b ∧ w.heap.size ≤ b := by
  rcases h with h | ⟨b, e, hl⟩
  · exact .inl h
  · exact .inr ⟨b, e, Nat.le_trans hb.size hl⟩
theorem moves_from {w WX w1 : World} (hA : Moves (Tch f d v) WX w1) (hb : Below w.heap.size w WX) : Moves (Tch f d v) w w1 := (Moves.of_below hb _).then_ hA (fun i hi => .inl hi)
theorem Fil.setFar (F : Fil f d h n v data base W) {g : Nat} (hf : f ≠ g) (hd : d ≠ g) (ho : v.ownBlock ≠ some g) (j : Nat) (u : Value) : Fil f d h n v data base (W.setCell ⟨g, j, none⟩ u) :=
  ⟨blk_far F.hf hf _, blk_far F.hd hd _, Kd.R_mono (Kd.R_far (Kd.R_tight rfl F.row) (fun k hk e => ho (by rw [← hk, e])) u) (fun _ _ => trivial)⟩
theorem Fil.nef' (F : Fil f d h n v data base W) {g : Nat} (hg : W.heap.size ≤ g) : f ≠ g := by have := blk_lt F.hf; omega
theorem Fil.ned' (F : Fil f d h n v data base W) {g : Nat} (hg : W.heap.size ≤ g) : d ≠ g := by have := blk_lt F.hd; omega
theorem Fil.nev' (F : Fil f d h n v data base W) {g : Nat} (hg : W.heap.size ≤ g) : v.ownBlock ≠ some g := fun e => by have := Kd.R_lt F.row g e; omega
/-- The errors that have a name lie below base; the file's blocks do not. -/
structure SentB (A : Nat → Addr) (B : Nat) (W : World) : Prop where
  sent : Sent A W
  le : 11 ≤ B
  lt : ∀ k, k < 11 → (A k).block < B
theorem SentB.moves {A : Nat → Addr} {S : Nat → Prop} {w w1 : World} (h : SentB A base w) (hM : Moves S w w1) (hs : ∀ k, S k → base ≤ k) (hb : base ≤ w.heap.size) : SentB A base w1 :=
  ⟨⟨fun k hk => (World.cell?_of_block (a := ⟨k, 0, none⟩) (hM.block k (by have := h.le; omega) (fun hS => by have := hs k hS; have := h.le; omega))).trans (h.sent.var k hk), fun k hk => by
    obtain ⟨c, t, e⟩ := h.sent.blk k hk
    exact ⟨c, t, (hM.block _ (blk_lt e) (fun hS => by have := hs _ hS; have := h.lt k hk; omega)).trans e⟩, h.sent.inj⟩, h.le, h.lt⟩
theorem Fil.tch (F : Fil f d h n v data base W) (hf : base ≤ f) (hd : base ≤ d) : ∀ k, Tch f d v k → base ≤ k := by
  rintro k (rfl | rfl | hk)
  · exact hf
  · exact hd
  · exact Kd.R_base F.row k hk.symm
theorem Acts.below {w' : World} (F : Fil f d h n v data base W) (hb : Below W.heap.size W w') : Acts f d h n data base v W w' := ⟨v, F.below hb, Moves.of_below hb _, .inl rfl⟩
set_option maxHeartbeats 1000000 in
set_option maxRecDepth 100000 in
theorem on_seek (F : Fil f d h n v data base W) (off wh N : Int) (nm ot : ByteArray) (fl pe hh : Int) (Ad : Option Addr) (md cd : Nat) (hcl : h.cl = false) (hp1 : -4611686018427387904 ≤ h.pos) (hp2 : h.pos ≤ 4611686018427387904) (ho1 : -4611686018427387904 ≤ off) (ho2 : off ≤ 4611686018427387903) (hl : data.length ≤ 4611686018427387904) :
    Calls Tryd.prog 27 #[.pointer (some ⟨f, 0, none⟩), stepV 16 nm ot fl pe hh (.slice Ad md cd) off wh N] W (Stp f d { h with pos := seekTo h.pos data.length off wh } n data base v (ans 0 0 (seekTo h.pos data.length off wh) []) W) := by
  have HF := Lib.hid F
  have HC := Lib.hid (fun W1 (hb : Below W.heap.size W W1) => seek44 (F.below hb) off wh hcl hp1 hp2 ho1 ho2 hl)
  have HK := Lib.hid (fun W1 => kind_nil W1)
  unfold stepV
  clear F
  generalize seekTo h.pos data.length off wh = sk at *
  go_enter Tryd.func27, Tryd.ntmps27
  go_wp2_with (first | (go_at_call 44; (refine (HC.out _ ?_).mono ?_); (repeat (first | exact Below.refl _ _ | apply below_alloc | apply below_drew)); rintro e w1 ⟨rfl, v1, hX, hM, hO⟩; have HX := Lib.hid hX; have HM := Lib.hid hM; have HO := Lib.hid (own_up hO (w := W) (by repeat (first | exact Below.refl _ _ | apply below_alloc | apply below_drew))); have NE5 := Lib.hid (moves_ne HF.out hX hM (W.heap.size + 1 + 1) (by omega) (t := 33) (blk_at_ (by simp)) (by decide)); have NE4 := Lib.hid (moves_ne HF.out hX hM (W.heap.size + 1) (by omega) (t := 33) (blk_alloc (blk_at_ (by simp)) _) (by decide)); have MW := Lib.hid (moves_from hM (w := W) (by repeat (first | exact Below.refl _ _ | apply below_alloc | apply below_drew))); obtain ⟨kc5, kz5⟩ := moves_new HF.out hM (W.heap.size + 1 + 1) (by omega) (by simp); obtain ⟨kc4, kz4⟩ := moves_new HF.out hM (W.heap.size + 1) (by omega) (by simp); clear hX hM hO) | (go_at_call 53; (with_reducible refine (HK.out _).mono ?_); rintro e w' ⟨rfl, rfl⟩))
  refine bodyPost_ret (v := .agg #[.int .i64 0, .int .i64 0, .int .i64 sk, .slice none 0 0, .slice none 0 0, .slice none 0 0]) (by simp [results, Tryd.results27, go_sem, kc4, kc5]) rfl ?_
  exact ⟨v1, ⟨_, _, _, rfl, Kd.R_nil _ _ _ _ _, Kd.R_nil _ _ _ _ _, Kd.R_nil _ _ _ _ _⟩, (by repeat (first | with_reducible exact HX.out | with_reducible refine Fil.setFar ?_ (HF.out.nef' (by omega)) (HF.out.ned' (by omega)) NE4.out _ _ | with_reducible refine Fil.setFar ?_ (HF.out.nef' (by omega)) (HF.out.ned' (by omega)) NE5.out _ _)), (by repeat (first | with_reducible exact MW.out | with_reducible refine Moves.setCell (p := ⟨W.heap.size + 1, _, none⟩) ?_ (.inr (by show W.heap.size ≤ W.heap.size + 1; omega)) _ | with_reducible refine Moves.setCell (p := ⟨W.heap.size + 1 + 1, _, none⟩) ?_ (.inr (by show W.heap.size ≤ W.heap.size + 1 + 1; omega)) _)), HO.out⟩
set_option maxHeartbeats 1000000 in
set_option maxRecDepth 100000 in
theorem on_seekc (F : Fil f d h n v data base W) (off wh N : Int) (nm ot : ByteArray) (fl pe hh : Int) (Ad : Option Addr) (md cd : Nat) (A : Nat → Addr) (hS : SentB A base W) (hf : base ≤ f) (hd : base ≤ d) (hcl : h.cl = true) :
    Calls Tryd.prog 27 #[.pointer (some ⟨f, 0, none⟩), stepV 16 nm ot fl pe hh (.slice Ad md cd) off wh N] W (Stp f d h n data base v (ans 3 0 0 []) W) := by
  have HF := Lib.hid F
  have HSM := Lib.hid (fun w1 (hM : Moves (Tch f d v) W w1) => (hS.moves hM (F.tch hf hd) (Nat.le_trans hf (Nat.le_of_lt (blk_lt F.hf)))).sent)
  have HC := Lib.hid (fun W1 (hb : Below W.heap.size W W1) => (seek44c (F.below hb) A (hS.sent.later hb) off wh hcl).mono (fun e w' q => (⟨q.1, Acts.below (F.below hb) q.2⟩ : e = .returned (.tuple #[.int .i64 0, .iface 149 (.pointer (some (A 0)))]) ∧ Acts f d h n data base v W1 w')))
  unfold stepV
  clear F hS
  go_enter Tryd.func27, Tryd.ntmps27
  go_wp2_with (first | (go_at_call 44; (refine (HC.out _ ?_).mono ?_); (repeat (first | exact Below.refl _ _ | apply below_alloc | apply below_drew)); rintro e w1 ⟨rfl, v1, hX, hM, hO⟩; have HX := Lib.hid hX; have HM := Lib.hid hM; have HO := Lib.hid (own_up hO (w := W) (by repeat (first | exact Below.refl _ _ | apply below_alloc | apply below_drew))); have NE5 := Lib.hid (moves_ne HF.out hX hM (W.heap.size + 1 + 1) (by omega) (t := 33) (blk_at_ (by simp)) (by decide)); have NE4 := Lib.hid (moves_ne HF.out hX hM (W.heap.size + 1) (by omega) (t := 33) (blk_alloc (blk_at_ (by simp)) _) (by decide)); have MW := Lib.hid (moves_from hM (w := W) (by repeat (first | exact Below.refl _ _ | apply below_alloc | apply below_drew))); obtain ⟨kc5, kz5⟩ := moves_new HF.out hM (W.heap.size + 1 + 1) (by omega) (by simp); obtain ⟨kc4, kz4⟩ := moves_new HF.out hM (W.heap.size + 1) (by omega) (by simp); clear hX hM hO) | (go_at_call 53; (refine (kind_s0 A _ (HSM.out _ ?_)).mono ?_); (exact (by repeat (first | with_reducible exact MW.out | with_reducible refine Moves.setCell (p := ⟨W.heap.size + 1, _, none⟩) ?_ (.inr (by show W.heap.size ≤ W.heap.size + 1; omega)) _ | with_reducible refine Moves.setCell (p := ⟨W.heap.size + 1 + 1, _, none⟩) ?_ (.inr (by show W.heap.size ≤ W.heap.size + 1 + 1; omega)) _))); rintro e w' ⟨rfl, rfl⟩))
  refine bodyPost_ret (v := .agg #[.int .i64 3, .int .i64 0, .int .i64 0, .slice none 0 0, .slice none 0 0, .slice none 0 0]) (by simp [results, Tryd.results27, go_sem, kc4, kc5]) rfl ?_
  exact ⟨v1, ⟨_, _, _, rfl, Kd.R_nil _ _ _ _ _, Kd.R_nil _ _ _ _ _, Kd.R_nil _ _ _ _ _⟩, (by repeat (first | with_reducible exact HX.out | with_reducible refine Fil.setFar ?_ (HF.out.nef' (by omega)) (HF.out.ned' (by omega)) NE4.out _ _ | with_reducible refine Fil.setFar ?_ (HF.out.nef' (by omega)) (HF.out.ned' (by omega)) NE5.out _ _)), (by repeat (first | with_reducible exact MW.out | with_reducible refine Moves.setCell (p := ⟨W.heap.size + 1, _, none⟩) ?_ (.inr (by show W.heap.size ≤ W.heap.size + 1; omega)) _ | with_reducible refine Moves.setCell (p := ⟨W.heap.size + 1 + 1, _, none⟩) ?_ (.inr (by show W.heap.size ≤ W.heap.size + 1 + 1; omega)) _)), HO.out⟩
set_option maxHeartbeats 1000000 in
set_option maxRecDepth 100000 in
theorem on_truncc (F : Fil f d h n v data base W) (off wh N : Int) (nm ot : ByteArray) (fl pe hh : Int) (Ad : Option Addr) (md cd : Nat) (A : Nat → Addr) (hS : SentB A base W) (hf : base ≤ f) (hd : base ≤ d) (hcl : h.cl = true) :
    Calls Tryd.prog 27 #[.pointer (some ⟨f, 0, none⟩), stepV 17 nm ot fl pe hh (.slice Ad md cd) off wh N] W (Stp f d h n data base v (ans 3 0 0 []) W) := by
  have HF := Lib.hid F
  have HSM := Lib.hid (fun w1 (hM : Moves (Tch f d v) W w1) => (hS.moves hM (F.tch hf hd) (Nat.le_trans hf (Nat.le_of_lt (blk_lt F.hf)))).sent)
  have HC := Lib.hid (fun W1 (hb : Below W.heap.size W W1) => (trunc45c (F.below hb) A (hS.sent.later hb) off hcl).mono (fun e w' q => (⟨q.1, Acts.below (F.below hb) q.2⟩ : e = .returned (.iface 149 (.pointer (some (A 0)))) ∧ Acts f d h n data base v W1 w')))
  unfold stepV
  clear F hS
  go_enter Tryd.func27, Tryd.ntmps27
  go_wp2_with (first | (go_at_call 45; (refine (HC.out _ ?_).mono ?_); (repeat (first | exact Below.refl _ _ | apply below_alloc | apply below_drew)); rintro e w1 ⟨rfl, v1, hX, hM, hO⟩; have HX := Lib.hid hX; have HM := Lib.hid hM; have HO := Lib.hid (own_up hO (w := W) (by repeat (first | exact Below.refl _ _ | apply below_alloc | apply below_drew))); have NE5 := Lib.hid (moves_ne HF.out hX hM (W.heap.size + 1 + 1) (by omega) (t := 33) (blk_at_ (by simp)) (by decide)); have NE4 := Lib.hid (moves_ne HF.out hX hM (W.heap.size + 1) (by omega) (t := 33) (blk_alloc (blk_at_ (by simp)) _) (by decide)); have MW := Lib.hid (moves_from hM (w := W) (by repeat (first | exact Below.refl _ _ | apply below_alloc | apply below_drew))); obtain ⟨kc5, kz5⟩ := moves_new HF.out hM (W.heap.size + 1 + 1) (by omega) (by simp); obtain ⟨kc4, kz4⟩ := moves_new HF.out hM (W.heap.size + 1) (by omega) (by simp); clear hX hM hO) | (go_at_call 53; (refine (kind_s0 A _ (HSM.out _ ?_)).mono ?_); (exact (by repeat (first | with_reducible exact MW.out | with_reducible refine Moves.setCell (p := ⟨W.heap.size + 1, _, none⟩) ?_ (.inr (by show W.heap.size ≤ W.heap.size + 1; omega)) _ | with_reducible refine Moves.setCell (p := ⟨W.heap.size + 1 + 1, _, none⟩) ?_ (.inr (by show W.heap.size ≤ W.heap.size + 1 + 1; omega)) _))); rintro e w' ⟨rfl, rfl⟩))
  refine bodyPost_ret (v := .agg #[.int .i64 3, .int .i64 0, .int .i64 0, .slice none 0 0, .slice none 0 0, .slice none 0 0]) (by simp [results, Tryd.results27, go_sem, kc4, kc5]) rfl ?_
  exact ⟨v1, ⟨_, _, _, rfl, Kd.R_nil _ _ _ _ _, Kd.R_nil _ _ _ _ _, Kd.R_nil _ _ _ _ _⟩, (by repeat (first | with_reducible exact HX.out | with_reducible refine Fil.setFar ?_ (HF.out.nef' (by omega)) (HF.out.ned' (by omega)) NE4.out _ _ | with_reducible refine Fil.setFar ?_ (HF.out.nef' (by omega)) (HF.out.ned' (by omega)) NE5.out _ _)), (by repeat (first | with_reducible exact MW.out | with_reducible refine Moves.setCell (p := ⟨W.heap.size + 1, _, none⟩) ?_ (.inr (by show W.heap.size ≤ W.heap.size + 1; omega)) _ | with_reducible refine Moves.setCell (p := ⟨W.heap.size + 1 + 1, _, none⟩) ?_ (.inr (by show W.heap.size ≤ W.heap.size + 1 + 1; omega)) _)), HO.out⟩
set_option maxHeartbeats 1000000 in
set_option maxRecDepth 100000 in
theorem on_truncn (F : Fil f d h n v data base W) (off wh N : Int) (nm ot : ByteArray) (fl pe hh : Int) (Ad : Option Addr) (md cd : Nat) (A : Nat → Addr) (hS : SentB A base W) (hf : base ≤ f) (hd : base ≤ d) (hcl : h.cl = false) (hro : h.ro = false) (ho : off < 0) :
    Calls Tryd.prog 27 #[.pointer (some ⟨f, 0, none⟩), stepV 17 nm ot fl pe hh (.slice Ad md cd) off wh N] W (Stp f d h n data base v (ans 7 0 0 []) W) := by
  have HF := Lib.hid F
  have HSM := Lib.hid (fun w1 (hM : Moves (Tch f d v) W w1) => (hS.moves hM (F.tch hf hd) (Nat.le_trans hf (Nat.le_of_lt (blk_lt F.hf)))).sent)
  have HC := Lib.hid (fun W1 (hb : Below W.heap.size W W1) => (trunc45n (F.below hb) A (hS.sent.later hb) off hcl hro ho).mono (fun e w' q => (⟨q.1, Acts.below (F.below hb) q.2⟩ : e = .returned (.iface 149 (.pointer (some (A 3)))) ∧ Acts f d h n data base v W1 w')))
  unfold stepV
  clear F hS
  go_enter Tryd.func27, Tryd.ntmps27
  go_wp2_with (first | (go_at_call 45; (refine (HC.out _ ?_).mono ?_); (repeat (first | exact Below.refl _ _ | apply below_alloc | apply below_drew)); rintro e w1 ⟨rfl, v1, hX, hM, hO⟩; have HX := Lib.hid hX; have HM := Lib.hid hM; have HO := Lib.hid (own_up hO (w := W) (by repeat (first | exact Below.refl _ _ | apply below_alloc | apply below_drew))); have NE5 := Lib.hid (moves_ne HF.out hX hM (W.heap.size + 1 + 1) (by omega) (t := 33) (blk_at_ (by simp)) (by decide)); have NE4 := Lib.hid (moves_ne HF.out hX hM (W.heap.size + 1) (by omega) (t := 33) (blk_alloc (blk_at_ (by simp)) _) (by decide)); have MW := Lib.hid (moves_from hM (w := W) (by repeat (first | exact Below.refl _ _ | apply below_alloc | apply below_drew))); obtain ⟨kc5, kz5⟩ := moves_new HF.out hM (W.heap.size + 1 + 1) (by omega) (by simp); obtain ⟨kc4, kz4⟩ := moves_new HF.out hM (W.heap.size + 1) (by omega) (by simp); clear hX hM hO) | (go_at_call 53; (refine (kind_s3 A _ (HSM.out _ ?_)).mono ?_); (exact (by repeat (first | with_reducible exact MW.out | with_reducible refine Moves.setCell (p := ⟨W.heap.size + 1, _, none⟩) ?_ (.inr (by show W.heap.size ≤ W.heap.size + 1; omega)) _ | with_reducible refine Moves.setCell (p := ⟨W.heap.size + 1 + 1, _, none⟩) ?_ (.inr (by show W.heap.size ≤ W.heap.size + 1 + 1; omega)) _))); rintro e w' ⟨rfl, rfl⟩))
  refine bodyPost_ret (v := .agg #[.int .i64 7, .int .i64 0, .int .i64 0, .slice none 0 0, .slice none 0 0, .slice none 0 0]) (by simp [results, Tryd.results27, go_sem, kc4, kc5]) rfl ?_
  exact ⟨v1, ⟨_, _, _, rfl, Kd.R_nil _ _ _ _ _, Kd.R_nil _ _ _ _ _, Kd.R_nil _ _ _ _ _⟩, (by repeat (first | with_reducible exact HX.out | with_reducible refine Fil.setFar ?_ (HF.out.nef' (by omega)) (HF.out.ned' (by omega)) NE4.out _ _ | with_reducible refine Fil.setFar ?_ (HF.out.nef' (by omega)) (HF.out.ned' (by omega)) NE5.out _ _)), (by repeat (first | with_reducible exact MW.out | with_reducible refine Moves.setCell (p := ⟨W.heap.size + 1, _, none⟩) ?_ (.inr (by show W.heap.size ≤ W.heap.size + 1; omega)) _ | with_reducible refine Moves.setCell (p := ⟨W.heap.size + 1 + 1, _, none⟩) ?_ (.inr (by show W.heap.size ≤ W.heap.size + 1 + 1; omega)) _)), HO.out⟩
set_option maxHeartbeats 1000000 in
set_option maxRecDepth 100000 in
theorem on_close (F : Fil f d h n v data base W) (off wh N : Int) (nm ot : ByteArray) (fl pe hh : Int) (Ad : Option Addr) (md cd : Nat) (A : Nat → Addr) (hS : SentB A base W) (hf : base ≤ f) (hd : base ≤ d) :
    Calls Tryd.prog 27 #[.pointer (some ⟨f, 0, none⟩), stepV 18 nm ot fl pe hh (.slice Ad md cd) off wh N] W (Stp f d { h with cl := true } { n with tm := if h.ro then n.tm else 0 } data base v (ans 0 0 0 []) W) := by
  have HF := Lib.hid F
  have HSM := Lib.hid (fun w1 (hM : Moves (Tch f d v) W w1) => (hS.moves hM (F.tch hf hd) (Nat.le_trans hf (Nat.le_of_lt (blk_lt F.hf)))).sent)
  have HC := Lib.hid (fun W1 (hb : Below W.heap.size W W1) => close46 (F.below hb))
  have HK := Lib.hid (fun W1 => kind_nil W1)
  unfold stepV
  clear F hS
  generalize ({ n with tm := if h.ro then n.tm else 0 } : Nod) = n2 at *
  generalize ({ h with cl := true } : Hnd) = h2 at *
  go_enter Tryd.func27, Tryd.ntmps27
  go_wp2_with (first | (go_at_call 46; (refine (HC.out _ ?_).mono ?_); (repeat (first | exact Below.refl _ _ | apply below_alloc | apply below_drew)); rintro e w1 ⟨rfl, v1, hX, hM, hO⟩; have HX := Lib.hid hX; have HM := Lib.hid hM; have HO := Lib.hid (own_up hO (w := W) (by repeat (first | exact Below.refl _ _ | apply below_alloc | apply below_drew))); have NE5 := Lib.hid (moves_ne HF.out hX hM (W.heap.size + 1 + 1) (by omega) (t := 33) (blk_at_ (by simp)) (by decide)); have NE4 := Lib.hid (moves_ne HF.out hX hM (W.heap.size + 1) (by omega) (t := 33) (blk_alloc (blk_at_ (by simp)) _) (by decide)); have MW := Lib.hid (moves_from hM (w := W) (by repeat (first | exact Below.refl _ _ | apply below_alloc | apply below_drew))); obtain ⟨kc5, kz5⟩ := moves_new HF.out hM (W.heap.size + 1 + 1) (by omega) (by simp); obtain ⟨kc4, kz4⟩ := moves_new HF.out hM (W.heap.size + 1) (by omega) (by simp); clear hX hM hO) | (go_at_call 53; (with_reducible refine (HK.out _).mono ?_); rintro e w' ⟨rfl, rfl⟩))
  refine bodyPost_ret (v := .agg #[.int .i64 0, .int .i64 0, .int .i64 0, .slice none 0 0, .slice none 0 0, .slice none 0 0]) (by simp [results, Tryd.results27, go_sem, kc4, kc5]) rfl ?_
  exact ⟨v1, ⟨_, _, _, rfl, Kd.R_nil _ _ _ _ _, Kd.R_nil _ _ _ _ _, Kd.R_nil _ _ _ _ _⟩, (by repeat (first | with_reducible exact HX.out | with_reducible refine Fil.setFar ?_ (HF.out.nef' (by omega)) (HF.out.ned' (by omega)) NE4.out _ _ | with_reducible refine Fil.setFar ?_ (HF.out.nef' (by omega)) (HF.out.ned' (by omega)) NE5.out _ _)), (by repeat (first | with_reducible exact MW.out | with_reducible refine Moves.setCell (p := ⟨W.heap.size + 1, _, none⟩) ?_ (.inr (by show W.heap.size ≤ W.heap.size + 1; omega)) _ | with_reducible refine Moves.setCell (p := ⟨W.heap.size + 1 + 1, _, none⟩) ?_ (.inr (by show W.heap.size ≤ W.heap.size + 1 + 1; omega)) _)), HO.out⟩
theorem trunc45 (F : Fil f d h n v data base W) (s : Nat) (hcl : h.cl = false) (hro : h.ro = false) (hs : s ≤ 10000000) (hl : data.length ≤ 10000000) (hb : base ≤ W.heap.size) :
    Calls Tryd.prog 45 #[.pointer (some ⟨f, 0, none⟩), .int .i64 s] W fun e w' => e = .returned .nilIface ∧ Acts f d h { n with tm := 0 } (cutTo data s) base v W w' := by
  unfold cutTo
  by_cases hc : s ≤ data.length
  · rw [show s - data.length = 0 by omega, List.replicate_zero, List.append_nil]
    exact trunc45d F s hcl hro hc hl
  · rw [List.take_of_length_le (by omega)]
    exact trunc45g F s hcl hro (by omega) hs hb
/-- The refusal, as a step leaves it. -/
def RefA (A : Nat → Addr) (op : ByteArray) (f d : Nat) (h : Hnd) (n : Nod) (data : List Int) (base : Nat) (v : Value) (w : World) (x : Value) (w' : World) : Prop :=
  ∃ (p bb : Nat), x = .iface 130 (.pointer (some ⟨p, 0, none⟩)) ∧ Acts f d h n data base v w w' ∧ w'.cell? ⟨p, 0, none⟩ = some (.string op) ∧ w'.cell? ⟨p, 2, none⟩ = some (.iface 149 (.pointer (some ⟨bb, 0, none⟩))) ∧ (∀ k, k < 11 → (⟨bb, 0, none⟩ : Addr) ≠ A k) ∧ ∃ c t, w'.heap[bb]? = some (.cells c t (0, 0))
theorem refA_of {A : Nat → Addr} {op : ByteArray} {w' : World} {x : Value} (F : Fil f d h n v data base W) (hS : SentB A base W) (hb : base ≤ W.heap.size) (q : Refused op W (.returned x) w') : RefA A op f d h n data base v W x w' := by
  obtain ⟨p, bb, path, e, hbw, h0, h2, hle, hk⟩ := q
  injection e with e
  refine ⟨p, bb, e, Acts.below F hbw, h0, h2, fun k hk e => ?_, hk⟩
  have := hS.lt k hk
  rw [← e] at this
  simp only at this
  omega
theorem trunc45R {A : Nat → Addr} (F : Fil f d h n v data base W) (hS : SentB A base W) (hb : base ≤ W.heap.size) (s : Int) (hcl : h.cl = false) (hro : h.ro = true) :
    Calls Tryd.prog 45 #[.pointer (some ⟨f, 0, none⟩), .int .i64 s] W fun e w' => ∃ x, e = .returned x ∧ RefA A { data := #[116, 114, 117, 110, 99, 97, 116, 101] } f d h n data base v W x w' :=
  (trunc45r F s hcl hro).mono (fun e w' q => by
    obtain ⟨p, bb, path, rfl, q2⟩ := q
    exact ⟨_, rfl, refA_of F hS hb ⟨p, bb, path, rfl, q2⟩⟩)
theorem write42R {A : Nat → Addr} (F : Fil f d h n v data base W) (hS : SentB A base W) (hb : base ≤ W.heap.size) (vb : Value) (hcl : h.cl = false) (hro : h.ro = true) :
    Calls Tryd.prog 42 #[.pointer (some ⟨f, 0, none⟩), vb] W fun e w' => ∃ x, e = .returned (.tuple #[.int .i64 0, x]) ∧ RefA A { data := #[119, 114, 105, 116, 101] } f d h n data base v W x w' :=
  (write42r F vb hcl hro).mono (fun e w' ⟨x, he, q⟩ => ⟨x, he, refA_of F hS hb q⟩)
set_option maxHeartbeats 1000000 in
set_option maxRecDepth 100000 in
theorem on_trunc (F : Fil f d h n v data base W) (off wh N : Int) (nm ot : ByteArray) (fl pe hh : Int) (Ad : Option Addr) (md cd : Nat) (A : Nat → Addr) (hS : SentB A base W) (hf : base ≤ f) (hd : base ≤ d) (s : Nat) (hcl : h.cl = false) (hro : h.ro = false) (hs : s ≤ 10000000) (hl : data.length ≤ 10000000) (ho : off = s) :
    Calls Tryd.prog 27 #[.pointer (some ⟨f, 0, none⟩), stepV 17 nm ot fl pe hh (.slice Ad md cd) off wh N] W (Stp f d h { n with tm := 0 } (cutTo data s) base v (ans 0 0 0 []) W) := by
  have HF := Lib.hid F
  have HSM := Lib.hid (fun w1 (hM : Moves (Tch f d v) W w1) => (hS.moves hM (F.tch hf hd) (Nat.le_trans hf (Nat.le_of_lt (blk_lt F.hf)))).sent)
  subst ho
  have HC := Lib.hid (fun W1 (hb : Below W.heap.size W W1) => trunc45 (F.below hb) s hcl hro hs hl (Nat.le_trans (Nat.le_trans hf (Nat.le_of_lt (blk_lt F.hf))) hb.size))
  have HK := Lib.hid (fun W1 => kind_nil W1)
  unfold stepV
  clear F hS
  go_enter Tryd.func27, Tryd.ntmps27
  go_wp2_with (first | (go_at_call 45; (refine (HC.out _ ?_).mono ?_); (repeat (first | exact Below.refl _ _ | apply below_alloc | apply below_drew)); rintro e w1 ⟨rfl, v1, hX, hM, hO⟩; have HX := Lib.hid hX; have HM := Lib.hid hM; have HO := Lib.hid (own_up hO (w := W) (by repeat (first | exact Below.refl _ _ | apply below_alloc | apply below_drew))); have NE5 := Lib.hid (moves_ne HF.out hX hM (W.heap.size + 1 + 1) (by omega) (t := 33) (blk_at_ (by simp)) (by decide)); have NE4 := Lib.hid (moves_ne HF.out hX hM (W.heap.size + 1) (by omega) (t := 33) (blk_alloc (blk_at_ (by simp)) _) (by decide)); have MW := Lib.hid (moves_from hM (w := W) (by repeat (first | exact Below.refl _ _ | apply below_alloc | apply below_drew))); obtain ⟨kc5, kz5⟩ := moves_new HF.out hM (W.heap.size + 1 + 1) (by omega) (by simp); obtain ⟨kc4, kz4⟩ := moves_new HF.out hM (W.heap.size + 1) (by omega) (by simp); clear hX hM hO) | (go_at_call 53; (with_reducible refine (HK.out _).mono ?_); rintro e w' ⟨rfl, rfl⟩))
  refine bodyPost_ret (v := .agg #[.int .i64 0, .int .i64 0, .int .i64 0, .slice none 0 0, .slice none 0 0, .slice none 0 0]) (by simp [results, Tryd.results27, go_sem, kc4, kc5]) rfl ?_
  exact ⟨v1, ⟨_, _, _, rfl, Kd.R_nil _ _ _ _ _, Kd.R_nil _ _ _ _ _, Kd.R_nil _ _ _ _ _⟩, (by repeat (first | with_reducible exact HX.out | with_reducible refine Fil.setFar ?_ (HF.out.nef' (by omega)) (HF.out.ned' (by omega)) NE4.out _ _ | with_reducible refine Fil.setFar ?_ (HF.out.nef' (by omega)) (HF.out.ned' (by omega)) NE5.out _ _)), (by repeat (first | with_reducible exact MW.out | with_reducible refine Moves.setCell (p := ⟨W.heap.size + 1, _, none⟩) ?_ (.inr (by show W.heap.size ≤ W.heap.size + 1; omega)) _ | with_reducible refine Moves.setCell (p := ⟨W.heap.size + 1 + 1, _, none⟩) ?_ (.inr (by show W.heap.size ≤ W.heap.size + 1 + 1; omega)) _)), HO.out⟩
set_option maxHeartbeats 1000000 in
set_option maxRecDepth 100000 in
theorem on_truncr (F : Fil f d h n v data base W) (off wh N : Int) (nm ot : ByteArray) (fl pe hh : Int) (Ad : Option Addr) (md cd : Nat) (A : Nat → Addr) (hS : SentB A base W) (hf : base ≤ f) (hd : base ≤ d) (hcl : h.cl = false) (hro : h.ro = true) :
    Calls Tryd.prog 27 #[.pointer (some ⟨f, 0, none⟩), stepV 17 nm ot fl pe hh (.slice Ad md cd) off wh N] W (Stp f d h n data base v (ans 6 0 0 []) W) := by
  have HF := Lib.hid F
  have HSM := Lib.hid (fun w1 (hM : Moves (Tch f d v) W w1) => (hS.moves hM (F.tch hf hd) (Nat.le_trans hf (Nat.le_of_lt (blk_lt F.hf)))).sent)
  have HC := Lib.hid (fun W1 (hb : Below W.heap.size W W1) => trunc45R (F.below hb) (hS.moves (Moves.of_below hb (fun _ => False)) (fun _ q => q.elim) (Nat.le_trans hf (Nat.le_of_lt (blk_lt F.hf)))) (Nat.le_trans (Nat.le_trans hf (Nat.le_of_lt (blk_lt F.hf))) hb.size) off hcl hro)
  unfold stepV
  clear F hS
  go_enter Tryd.func27, Tryd.ntmps27
  go_wp2_with (first | (go_at_call 45; (refine (HC.out _ ?_).mono ?_); (repeat (first | exact Below.refl _ _ | apply below_alloc | apply below_drew)); rintro e w1 ⟨_, rfl, p, bb, rfl, ⟨v1, hX, hM, hO⟩, hp0, hp2, hbb, hblk⟩; have P0 := Lib.hid hp0; have P2 := Lib.hid hp2; have PB := Lib.hid hbb; have PK := Lib.hid hblk; clear hp0 hp2 hbb hblk; have HX := Lib.hid hX; have HM := Lib.hid hM; have HO := Lib.hid (own_up hO (w := W) (by repeat (first | exact Below.refl _ _ | apply below_alloc | apply below_drew))); have NE5 := Lib.hid (moves_ne HF.out hX hM (W.heap.size + 1 + 1) (by omega) (t := 33) (blk_at_ (by simp)) (by decide)); have NE4 := Lib.hid (moves_ne HF.out hX hM (W.heap.size + 1) (by omega) (t := 33) (blk_alloc (blk_at_ (by simp)) _) (by decide)); have MW := Lib.hid (moves_from hM (w := W) (by repeat (first | exact Below.refl _ _ | apply below_alloc | apply below_drew))); obtain ⟨kc5, kz5⟩ := moves_new HF.out hM (W.heap.size + 1 + 1) (by omega) (by simp); obtain ⟨kc4, kz4⟩ := moves_new HF.out hM (W.heap.size + 1) (by omega) (by simp); clear hX hM hO) | (go_at_call 53; (refine (kind_truncate A _ (HSM.out _ ?_) p (.string ⟨#[]⟩) ⟨bb, 0, none⟩ P0.out P2.out PK.out PB.out).mono ?_); (exact (by repeat (first | with_reducible exact MW.out | with_reducible refine Moves.setCell (p := ⟨W.heap.size + 1, _, none⟩) ?_ (.inr (by show W.heap.size ≤ W.heap.size + 1; omega)) _ | with_reducible refine Moves.setCell (p := ⟨W.heap.size + 1 + 1, _, none⟩) ?_ (.inr (by show W.heap.size ≤ W.heap.size + 1 + 1; omega)) _))); rintro e w' ⟨rfl, rfl⟩))
  refine bodyPost_ret (v := .agg #[.int .i64 6, .int .i64 0, .int .i64 0, .slice none 0 0, .slice none 0 0, .slice none 0 0]) (by simp [results, Tryd.results27, go_sem, kc4, kc5]) rfl ?_
  exact ⟨v1, ⟨_, _, _, rfl, Kd.R_nil _ _ _ _ _, Kd.R_nil _ _ _ _ _, Kd.R_nil _ _ _ _ _⟩, (by repeat (first | with_reducible exact HX.out | with_reducible refine Fil.setFar ?_ (HF.out.nef' (by omega)) (HF.out.ned' (by omega)) NE4.out _ _ | with_reducible refine Fil.setFar ?_ (HF.out.nef' (by omega)) (HF.out.ned' (by omega)) NE5.out _ _)), (by repeat (first | with_reducible exact MW.out | with_reducible refine Moves.setCell (p := ⟨W.heap.size + 1, _, none⟩) ?_ (.inr (by show W.heap.size ≤ W.heap.size + 1; omega)) _ | with_reducible refine Moves.setCell (p := ⟨W.heap.size + 1 + 1, _, none⟩) ?_ (.inr (by show W.heap.size ≤ W.heap.size + 1 + 1; omega)) _)), HO.out⟩
end
end Go.Proofs.YtljcdjggjphedaaDoor.Hd
