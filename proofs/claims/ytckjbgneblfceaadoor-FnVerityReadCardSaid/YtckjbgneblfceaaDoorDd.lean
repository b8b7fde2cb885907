/- The superblock: cells of a block, and how reading lays them. -/
import Derived.Test.YtckjbgneblfceaaDoorDc
import Derived.Test.YtckjbgneblfceaaDoorDr
namespace Go.Proofs.YtckjbgneblfceaaDoor.Da
open Go.RowKit Go.Maps Go.Proofs.YtckjbgneblfceaaDoorW.PrintWords Go.Proofs.YtckjbgneblfceaaDoorW.PrintLast Go.Proofs.YtckjbgneblfceaaDoorW.PrintMore
open Go.Proofs.YtckjbgneblfceaaDoor.PFnVerityRead Go.Proofs.YtckjbgneblfceaaDoor.Fa Go.Proofs.YtckjbgneblfceaaDoor.Fm
set_option linter.unusedVariables false
set_option linter.unusedSimpArgs false
def Sb (g : Nat) (f : Nat → Value) (W : World) : Prop := ∀ j, j < 318 → W.cell? ⟨g, j, none⟩ = some (f j) ∧ W.frozen? ⟨g, j, none⟩ = false
/-- Cells laid over. -/
def lay (o n : Nat) (e : Nat → Value) (f : Nat → Value) : Nat → Value := fun j => if o ≤ j ∧ j < o + n then e (j - o) else f j
structure Pst (g gs : Nat) (b : List Int) (w0 : World) (f : Nat → Value) (W : World) : Prop where
  sb : Sb g f W
  src : Lies gs 0 b W
  mv : Moves (fun k => k = g) w0 W
  ne : gs ≠ g
section
variable {g gs : Nat} {b : List Int} {w0 W V : World} {f : Nat → Value}
theorem Pst.lt (h : Pst g gs b w0 f W) : g < W.heap.size := World.block_lt_of_cell? _ _ (h.sb 0 (by omega)).1
theorem Pst.below (h : Pst g gs b w0 f W) (hb : Below W.heap.size W V) : Pst g gs b w0 f V :=
  ⟨fun j hj => ⟨cell_later hb (h.sb j hj).1, (hb.frozen (p := ⟨g, j, none⟩) h.lt).trans (h.sb j hj).2⟩, h.src.later hb, h.mv.below hb, h.ne⟩
theorem Pst.drew (h : Pst g gs b w0 f W) : Pst g gs b w0 f W.drew := h.below (below_drew (Below.refl _ _))
theorem Pst.drewN (h : Pst g gs b w0 f W) (n : Nat) : Pst g gs b w0 f (W.drewN n) := h.below (pw_below_drewN (Below.refl _ _) n)
theorem Pst.set (h : Pst g gs b w0 f W) (i : Nat) (hi : i < 318) (v : Value) : Pst g gs b w0 (lay i 1 (fun _ => v) f) (W.setCell ⟨g, i, none⟩ v) := by
  refine ⟨fun j hj => ⟨?_, by simpa using (h.sb j hj).2⟩, fun k x hk => ?_, h.mv.setCell (.inl rfl) v, h.ne⟩
  · unfold lay
    by_cases he : j = i
    · subst he
      rw [if_pos (by omega)]
      exact World.cell?_setCell_same (w := W) (a := _) (v := _) (h.sb j hj).1
    · rw [if_neg (by omega), World.cell?_setCell_other (w := W) (a := ⟨g, i, none⟩) (b := ⟨g, j, none⟩) (v := _) (by intro e; simp at e <;> omega)]
      exact (h.sb j hj).1
  · rw [World.cell?_setCell_other (w := W) (a := ⟨g, i, none⟩) (b := ⟨gs, 0 + k, none⟩) (v := _) (by intro e; simp at e; exact h.ne e.1.symm)]
    exact h.src k x hk
theorem Moves.setCells {S : Nat → Prop} {w W : World} (h : Moves S w W) {g : Nat} (hp : S g) (o : Nat) (vs : List Value) : Moves S w (W.setCells g o vs) := by
  obtain ⟨s1, s2, s3, s4⟩ := setCells_same g vs o W
  exact ⟨s1.trans h.os, s2.trans h.tape, s3.trans h.output, by rw [s4]; exact h.size, fun k hk hn => (setCells_far vs o k (fun e => hn (e ▸ hp))).trans (h.block k hk hn)⟩
theorem Pst.laid (h : Pst g gs b w0 f W) (o : Nat) (ys : List Int) (ho : o + ys.length ≤ 318) : Pst g gs b w0 (lay o ys.length (fun k => .int .u8 (ys.getD k 0)) f) (W.setCells g o (encs (Value.int .u8) ys)) := by
  refine ⟨fun j hj => ⟨?_, by rw [World.frozen?_setCells]; exact (h.sb j hj).2⟩, fun k x hk => ?_, Moves.setCells h.mv rfl o _, h.ne⟩
  · unfold lay
    by_cases hin : o ≤ j ∧ j < o + ys.length
    · rw [if_pos hin]
      obtain ⟨i, rfl⟩ : ∃ i, j = o + i := ⟨j - o, by omega⟩
      have hil : i < (encs (Value.int .u8) ys).length := by rw [encs_length]; omega
      rw [World.cell?_setCells_in g _ o W (fun q hq => by rw [encs_length] at hq; rw [(h.sb (o + q) (by omega)).1]; rfl) i hil, Nat.add_sub_cancel_left]
      congr 1
      have := encs_get (enc := Value.int .u8) (d := (0 : Int)) ys i (by omega)
      rw [List.getElem?_eq_getElem hil] at this
      exact Option.some.inj this
    · rw [if_neg hin, World.cell?_setCells_out g _ o W _ (fun _ _ => by rw [encs_length]; show j < o ∨ o + ys.length ≤ j; omega)]
      exact (h.sb j hj).1
  · rw [World.cell?_setCells_out g _ o W _ (fun e _ => absurd e h.ne)]
    exact h.src k x hk
variable {ops : Array Oper} {rest : List Oper} {o : Oper} {a : Act} {Q : Exit → Act → World → Prop} {Kc : Act → World → Prop}
/-- copy of the bytes from a place on into the block. -/
theorem Pst.copy_run (h : Pst g gs b w0 f W) (t : TypeId) (p l cc i m c : Nat) (hm : b.length = i + m) (hl : l ≤ m) (ho : p + l ≤ 318) :
    (Builtin.copy_ #[33, 33] t #[.slice (some ⟨g, p, none⟩) l cc, .slice (some ⟨gs, i, none⟩) m c]).run Tryd.prog W = .ok (.int .i64 (l : Nat)) (W.setCells g p (encs (Value.int .u8) ((b.drop i).take l))) := by
  have hlen : ((b.drop i).take l).length = l := by rw [List.length_take, List.length_drop]; omega
  have hr := run_copy_cells (P := Tryd.prog) W 33 33 t 5 g p l cc ⟨gs, i, none⟩ m c (encs (Value.int .u8) ((b.drop i).take l)) Tryd.underlying33 (by kernel_rfl) (by rw [encs_length, hlen]; exact (Nat.min_eq_right hl).symm)
    (fun j v hj => by
      have hjl : j < l := by have := (List.getElem?_eq_some_iff.1 hj).1; rw [encs_length, hlen] at this; exact this
      rw [encs_get (d := (0 : Int)) _ j (by omega)] at hj
      obtain rfl := Option.some.inj hj
      have := lies_at h.src i l (by omega) j hjl
      rw [Nat.zero_add] at this
      have e : (⟨gs, i, none⟩ : Addr).add j = ⟨gs, i + j, none⟩ := by simp [Addr.add]
      rw [e]; exact this)
    (fun j hj => by rw [encs_length, hlen] at hj; rw [(h.sb (p + j) (by omega)).1]; rfl) (fun j hj => by rw [encs_length, hlen] at hj; exact (h.sb (p + j) (by omega)).2) (by intro u hu; simp only [encs, List.mem_map] at hu; obtain ⟨q, _, rfl⟩ := hu; rfl)
  rw [hr, encs_length, hlen]; rfl
theorem copy_pst (hw : Region.wanted o (yielded ops a.tmps) = true) (s x : Operand) (ho : o.op = .call { callee := .builtin .copy, args := #[s, x], argTypes := #[33, 33] })
    (p l cc i m c : Nat) (hs : a.eval s = .slice (some ⟨g, p, none⟩) l cc) (hx : a.eval x = .slice (some ⟨gs, i, none⟩) m c) (h : Pst g gs b w0 f W) (hm : b.length = i + m) (hl : l ≤ m) (hp : p + l ≤ 318)
    (hk : ∀ w1, Pst g gs b w0 (lay p l (fun k => .int .u8 (((b.drop i).take l).getD k 0)) f) w1 → Kc (a.put o.dst (.int .i64 (l : Nat))) w1) :
    if Region.wanted o (yielded ops a.tmps) = true then Oper.wp Tryd.prog o a W Kc Q else Kc (a.put o.dst undef) W := by
  have hlen : ((b.drop i).take l).length = l := by rw [List.length_take, List.length_drop]; omega
  have h2 := h.laid p ((b.drop i).take l) (by omega)
  rw [hlen] at h2
  refine event_step hw ?_ (hk _ h2)
  have hr := h.copy_run o.type p l cc i m c hm hl hp
  unfold execOp
  simp only [ho, resolve, invoke, builtin, Sem.run_bind, Sem.run_pure, Result.andThen_ok, List.map_toArray, List.map_cons, List.map_nil, hs, hx, hr]
end
theorem leF_drop (b : List Int) (i : Nat) : ∀ n o, leF (b.drop i) o n = leF b (i + o) n
  | 0, _ => rfl
  | n + 1, o => by
    rw [leF, leF, leF_drop b i n (o + 1), List.getD_eq_getElem?_getD, List.getD_eq_getElem?_getD, List.getElem?_drop]; rfl
theorem get32_p {g gs : Nat} {b : List Int} {w0 W : World} {f : Nat → Value} (h : Pst g gs b w0 f W) (hb : b.length = 4096) (hi : InBytes b) {c : Nat} (hc : 4096 ≤ c) (i m k : Nat) (hm : m = 4096 - i) (hk : k = c - i) (h4 : i + 4 ≤ 4096) :
    Calls Tryd.prog 67 #[.slice (some ⟨gs, i, none⟩) m k] W fun e w' => e = .returned (.int .u32 (leF b i 4)) ∧ Pst g gs b w0 f w' := by
  have hl := h.src.tail i
  rw [Nat.zero_add] at hl
  refine (get32_at gs i m k (b.drop i) W (by rw [List.length_drop]; omega) (by omega) (by omega) (by omega) (hi.drop i) hl).mono ?_
  rintro e w' ⟨rfl, hd⟩
  exact ⟨by rw [leF_drop]; rfl, h.below (drawn_below hd)⟩
theorem or_halves (b : List Int) (h : InBytes b) : bits BinOp.or IntKind.u64 (IntKind.u64.wrap (leF b 72 4)) (IntKind.u64.wrap (IntKind.u64.wrap (leF b 76 4) * 4294967296)) = leF b 72 8 := by
  have h1 := leF_range h 4 72
  have h2 := leF_range h 4 76
  rw [w64 _ (by omega) (by omega), w64 (leF b 76 4) (by omega) (by omega), w64 _ (by omega) (by omega), bor_comm, bits_join .u64 64 (by decide) w64 32 _ _ (by omega) (by omega) (by omega) (by omega) (by omega) (by omega)]
  simp only [leF, Nat.reduceAdd]
  omega
theorem or_16 (b : List Int) (h : InBytes b) : bits BinOp.or IntKind.u16 (IntKind.u16.wrap (b.getD 80 0)) (IntKind.u16.wrap (IntKind.u16.wrap (b.getD 81 0) * 256)) = leF b 80 2 := by
  have h1 := h.at 80
  have h2 := h.at 81
  rw [w16 (b.getD 80 0) (by omega) (by omega), w16 (b.getD 81 0) (by omega) (by omega), w16 _ (by omega) (by omega), bor_comm, bits_join .u16 16 (by decide) w16 8 _ _ (by omega) (by omega) (by omega) (by omega) (by omega) (by omega)]
  simp only [leF, Nat.reduceAdd]
  omega
theorem get_part (b : List Int) (i l k : Nat) (hk : k < l) : ((b.drop i).take l).getD k 0 = b.getD (i + k) 0 := by
  rw [List.getD_eq_getElem?_getD, List.getD_eq_getElem?_getD, List.getElem?_take_of_lt hk, List.getElem?_drop]
theorem byte_p {g gs : Nat} {b : List Int} {w0 W : World} {f : Nat → Value} (h : Pst g gs b w0 f W) (hb : b.length = 4096) (i : Nat) (hi : i < 4096) : W.cell? ⟨gs, i, none⟩ = some (.int .u8 (b.getD i 0)) := by
  have := h.src i (b.getD i 0) (by rw [List.getD_eq_getElem?_getD, List.getElem?_eq_getElem (by omega)]; rfl)
  rwa [Nat.zero_add] at this
/-- What the superblock tells of the bytes. -/
structure Told (b : List Int) (f : Nat → Value) : Prop where
  sig : ∀ k, k < 8 → f (0 + k) = .int .u8 (b.getD (0 + k) 0)
  ver : f 8 = .int .u32 (leF b 8 4)
  alg : ∀ k, k < 32 → f (26 + k) = .int .u8 (b.getD (32 + k) 0)
  dbs : f 58 = .int .u32 (leF b 64 4)
  blk : f 60 = .int .u64 (leF b 72 8)
  siz : f 61 = .int .u16 (leF b 80 2)
  slt : ∀ k, k < 256 → f (62 + k) = .int .u8 (b.getD (88 + k) 0)
set_option maxHeartbeats 4000000 in
set_option maxRecDepth 100000 in
theorem parse52 (g gs c : Nat) (b : List Int) (w : World) (f : Nat → Value) (hb : b.length = 4096) (hc : 4096 ≤ c) (hib : InBytes b) (hp : Pst g gs b w f w) :
    Calls Tryd.prog 52 #[.pointer (some ⟨g, 0, none⟩), .slice (some ⟨gs, 0, none⟩) 4096 c] w fun e w' => e = .returned (.tuple #[]) ∧ ∃ f', Pst g gs b w f' w' ∧ Told b f' := by
  have HB := Lib.hid hb
  have HI := Lib.hid hib
  have P0 := Lib.hid hp
  have n8 : (c = 8) = False := eq_false (by omega)
  have n12 : (c = 12) = False := eq_false (by omega)
  have n16 : (c = 16) = False := eq_false (by omega)
  have n32 : (c = 32) = False := eq_false (by omega)
  have n64 : (c = 64) = False := eq_false (by omega)
  have n68 : (c = 68) = False := eq_false (by omega)
  have n72 : (c = 72) = False := eq_false (by omega)
  have n76 : (c = 76) = False := eq_false (by omega)
  have n88 : (c = 88) = False := eq_false (by omega)
  clear hb hib hp
  obtain ⟨w1, hw1⟩ : ∃ w1, w.setCells g 0 (encs (Value.int .u8) ((b.drop 0).take 8)) = w1 := ⟨_, rfl⟩
  have hcp := P0.out.copy_run 3 0 8 8 0 4096 c HB.out (by omega) (by omega)
  have P1 := P0.out.laid 0 ((b.drop 0).take 8) (by rw [List.length_take, List.length_drop, HB.out]; omega)
  rw [hw1] at hcp P1
  replace P1 := Lib.hid P1
  go_enter Tryd.func52, Tryd.ntmps52
  go_wp2
  clear hcp hw1
  go_region_held3 (fun _ => True) (trivial)
    (first | (go_at_call 67; first
      | ((with_reducible refine (get32_p P1.out.drew HB.out HI.out hc 8 _ _ rfl rfl (by decide)).mono ?_); rintro e w2 ⟨rfl, hp⟩; have P2 := Lib.hid hp;  clear hp)
      | ((with_reducible refine (get32_p P2.out HB.out HI.out hc 12 _ _ rfl rfl (by decide)).mono ?_); rintro e w3 ⟨rfl, hp⟩; have P3 := Lib.hid hp; obtain ⟨qa0, qb0⟩ := hp.sb 8 (by decide); obtain ⟨qa1, qb1⟩ := hp.sb 9 (by decide); clear hp)))
  go_wp2
  have P4 := Lib.hid ((P3.out.set 8 (by decide) (.int .u32 (leF b 8 4))).set 9 (by decide) (.int .u32 (leF b 12 4)))
  clear qa0 qb0 qa1 qb1
  generalize (w3.setCell _ _).setCell _ _ = w4 at P4 ⊢
  go_region_held3 (fun _ => True) (trivial)
    ((refine copy_pst (g := g) (gs := gs) (b := b) (w0 := w) (by rfl) _ _ (by rfl) 10 16 16 16 4080 (c - 16) (by rfl) (by rfl) P4.out.drew HB.out (by decide) (by decide) ?_; intro w5 hr; have P5 := Lib.hid hr; clear hr))
  go_wp2
  go_region_held3 (fun _ => True) (trivial)
    ((refine copy_pst (g := g) (gs := gs) (b := b) (w0 := w) (by rfl) _ _ (by rfl) 26 32 32 32 4064 (c - 32) (by rfl) (by rfl) P5.out.drew HB.out (by decide) (by decide) ?_; intro w6 hr; have P6 := Lib.hid hr; clear hr))
  go_wp2
  go_region_held3 (fun _ => True) (trivial)
    (first | (go_at_call 67; first
      | ((with_reducible refine (get32_p P6.out.drew HB.out HI.out hc 64 _ _ rfl rfl (by decide)).mono ?_); rintro e w7 ⟨rfl, hp⟩; have P7 := Lib.hid hp;  clear hp)
      | ((with_reducible refine (get32_p P7.out HB.out HI.out hc 68 _ _ rfl rfl (by decide)).mono ?_); rintro e w8 ⟨rfl, hp⟩; have P8 := Lib.hid hp; obtain ⟨qa0, qb0⟩ := hp.sb 58 (by decide); obtain ⟨qa1, qb1⟩ := hp.sb 59 (by decide); clear hp)))
  go_wp2
  have P9 := Lib.hid ((P8.out.set 58 (by decide) (.int .u32 (leF b 64 4))).set 59 (by decide) (.int .u32 (leF b 68 4)))
  clear qa0 qb0 qa1 qb1
  generalize (w8.setCell _ _).setCell _ _ = w9 at P9 ⊢
  go_region_held3 (fun _ => True) (trivial)
    (first | (go_at_call 67; first
      | ((with_reducible refine (get32_p P9.out.drew HB.out HI.out hc 72 _ _ rfl rfl (by decide)).mono ?_); rintro e w10 ⟨rfl, hp⟩; have P10 := Lib.hid hp;  clear hp)
      | ((with_reducible refine (get32_p P10.out HB.out HI.out hc 76 _ _ rfl rfl (by decide)).mono ?_); rintro e w11 ⟨rfl, hp⟩; have P11 := Lib.hid hp; obtain ⟨qa0, qb0⟩ := hp.sb 60 (by decide); clear hp)))
  go_wp2
  have hor := or_halves b HI.out
  rw [hor]
  have P12 := Lib.hid (P11.out.set 60 (by decide) (.int .u64 (leF b 72 8)))
  clear qa0 qb0 hor
  generalize w11.setCell _ _ = w12 at P12 ⊢
  obtain ⟨qc0, qd0⟩ := P12.out.sb 61 (by decide)
  have qe0 := byte_p P12.out HB.out 80 (by decide)
  have qf0 := byte_p P12.out HB.out 81 (by decide)
  obtain ⟨x80, h80⟩ : ∃ x, x = b.getD 80 0 := ⟨_, rfl⟩
  obtain ⟨x81, h81⟩ : ∃ x, x = b.getD 81 0 := ⟨_, rfl⟩
  rw [← h80] at qe0
  rw [← h81] at qf0
  have hr0 := HI.out.at 80
  have hr1 := HI.out.at 81
  rw [← h80] at hr0
  rw [← h81] at hr1
  obtain ⟨hr00, hr01⟩ := hr0
  obtain ⟨hr10, hr11⟩ := hr1
  have H80 := Lib.hid h80
  have H81 := Lib.hid h81
  clear h80 h81
  have hne : ¬ gs = g := P12.out.ne
  have hne2 : ¬ g = gs := fun e => hne e.symm
  have hbd1 : (80 : Int) < 4096 := by decide
  have hbd2 : (81 : Int) < 4096 := by decide
  go_region_held3 (fun w' => w'.cell? ⟨gs, 80, none⟩ = some (.int .u8 x80) ∧ w'.cell? ⟨gs, 81, none⟩ = some (.int .u8 x81)) (go_keep) (fail)
  go_wp2
  have hor := or_16 b HI.out
  rw [← H80.out, ← H81.out] at hor
  rw [hor]
  have P13 := Lib.hid (P12.out.set 61 (by decide) (.int .u16 (leF b 80 2))).drew
  clear qc0 qd0 qe0 qf0 hor H80 H81
  generalize (w12.setCell _ _).drew = w13 at P13 ⊢
  go_region_held3 (fun _ => True) (trivial)
    ((refine copy_pst (g := g) (gs := gs) (b := b) (w0 := w) (by rfl) _ _ (by rfl) 62 256 256 88 4008 (c - 88) (by rfl) (by rfl) P13.out.drew HB.out (by decide) (by decide) ?_; intro w14 hr; have P14 := Lib.hid hr; clear hr))
  go_wp2
  have hl8 : ((b.drop 0).take 8).length = 8 := by rw [List.length_take, List.length_drop, HB.out]; decide
  go_end0
  refine ⟨rfl, _, P14.out, ⟨fun k hk => ?_, ?_, fun k hk => ?_, ?_, ?_, ?_, fun k hk => ?_⟩⟩
  · unfold lay
    rw [hl8, if_neg (by omega), if_neg (by omega), if_neg (by omega), if_neg (by omega), if_neg (by omega), if_neg (by omega), if_neg (by omega), if_neg (by omega), if_neg (by omega), if_pos (by omega)]
    show Value.int IntKind.u8 (((b.drop 0).take 8).getD (0 + k - 0) 0) = _
    rw [Nat.add_sub_cancel_left, get_part b 0 8 _ hk]
  · rfl
  · unfold lay
    rw [if_neg (by omega), if_neg (by omega), if_neg (by omega), if_neg (by omega), if_neg (by omega), if_pos (by omega)]
    show Value.int IntKind.u8 (((b.drop 32).take 32).getD (26 + k - 26) 0) = _
    rw [Nat.add_sub_cancel_left, get_part b 32 32 _ hk]
  · rfl
  · rfl
  · rfl
  · unfold lay
    rw [if_pos (by omega)]
    show Value.int IntKind.u8 (((b.drop 88).take 256).getD (62 + k - 62) 0) = _
    rw [Nat.add_sub_cancel_left, get_part b 88 256 _ hk]
end Go.Proofs.YtckjbgneblfceaaDoor.Da
