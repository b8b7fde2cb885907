-- PRINTED BY print.sh 35421559b90ae4d0a3588c463048766b98c2df88dd9212a6774a882060cdf62d: not written by this session
import Derived.Test.YtckjbgneblfceaaPFnMergeDirsx0
import Derived.Test.YtckjbgneblfceaaMx6
import Derived.Deep.RegionHeld3
import Derived.Lib.Hide
import Derived.Handy
namespace Go.Proofs.Ytckjbgneblfceaa.PFnMergeDirs
open Go.RowKit Go.Proofs.YtckjbgneblfceaaW.PrintWords Go.Proofs.YtckjbgneblfceaaW.PrintLast Go.Proofs.YtckjbgneblfceaaW.PrintMore
attribute [local go_sem] max2_int min2_int max_two min_two max_three min_three max_four min_four   -- for this text's walks alone
set_option linter.unusedVariables false
set_option linter.unusedSimpArgs false

/-! ### spec_entryInfo: function 16 -/
def spec_entryInfo.f (k : Nat) (a0_0 : ByteArray) (a0_1 : Int) (a0_2 : Bool) (l0_3 : List Int) (a0_4 : Int) : Option (ByteArray × Int × Int × Bool × Int) := (spec_MemBase.f k a0_0).bind fun t152 => (if a0_2 = true then (some (t152, 42, a0_1, a0_2, a0_4)) else (some (t152, (l0_3.length : Int), a0_1, a0_2, a0_4)))
theorem spec_entryInfo.mono : ∀ a0 a1 a2 a3 a4 k, LeO (spec_entryInfo.f k a0 a1 a2 a3 a4) (spec_entryInfo.f (k + 1) a0 a1 a2 a3 a4) := by
  intro a0 a1 a2 a3 a4 k
  unfold spec_entryInfo.f
  repeat' first
      | (with_reducible exact spec_MemBase.mono _ _)
      | (with_reducible exact LeO.refl _)
      | (with_reducible exact LeO.none _)
      | (with_reducible refine LeO.ite ?_ ?_)
      | (with_reducible refine LeO.bind ?_ (fun _ => ?_))
      | exact spec_MemBase.mono _ _
      | exact LeO.none _
      | refine LeO.ite ?_ ?_
      | refine LeO.bind ?_ (fun _ => ?_)
def spec_entryInfo.T1 : Bool × List (List Nat × List Nat) := (true, [([], []), ([0], [0]), ([1], [1]), ([], []), ([3], [3]), ([], []), ([5], [5]), ([], []), ([7], [7]), ([8], [8]), ([], []), ([10], [10]), ([2, 4, 6, 9, 11], [2, 4, 6, 9, 11]), ([], []), ([13, 12, 2, 0, 1, 2, 3, 4, 5, 6, 7, 8, 9, 10, 11, 12, 13], [12, 13])])
def spec_entryInfo.B1 : List Nat := [0, 1, 3, 0, 8, 0, 32, 0, 128, 384, 0, 1024, 4095, 0, 16383]
theorem spec_entryInfo.tab1 : rtab .any (opsOf Try.f16 1) = spec_entryInfo.T1 := by kernel_rfl
theorem spec_entryInfo.bits1 : waitsOk spec_entryInfo.T1.2 spec_entryInfo.B1 = true := by kernel_rfl
def entC (a : ByteArray) (m : Int) (d : Bool) (A : Option Addr) (n c : Nat) (t : Int) : Array Value := #[.string a, .int .i64 m, .bool d, .slice A n c, .int .i64 t]
def infC (a : ByteArray) (s m : Int) (d : Bool) (t : Int) : Array Value := #[.string a, .int .i64 s, .int .i64 m, .bool d, .int .i64 t]
theorem blk_ltM {W : World} {g : Nat} {x : Obj} (h : W.heap[g]? = some x) : g < W.heap.size := by
  rcases Nat.lt_or_ge g W.heap.size with h1 | h1
  · exact h1
  · rw [Array.getElem?_eq_none h1] at h; cases h
theorem cell_blkM {W : World} {g : Nat} {cs : Array Value} {t : TypeId} (h : W.heap[g]? = some (.cells cs t (0, 0))) (i : Nat) (v : Value) (hv : cs[i]? = some v) : W.cell? ⟨g, i, none⟩ = some v ∧ W.frozen? ⟨g, i, none⟩ = false := by
  refine ⟨?_, by simp [World.frozen?, h]⟩
  unfold World.cell?
  simp only [h]
  rw [hv]; rfl
structure Own16 (E : Array Value) (w W : World) : Prop where
  en : W.heap[w.heap.size]? = some (.cells E 30 (0, 0))
  vr : W.heap[w.heap.size + 1]? = some (.cells (infC ⟨#[]⟩ 0 0 false 0) 35 (0, 0))
  bel : Below w.heap.size w W
theorem below_thenM {B : Nat} {a b c : World} (h : Below B a b) (hB : B ≤ b.heap.size) (k : Below b.heap.size b c) : Below B a c := h.trans (k.mono hB)
theorem Own16.later {E : Array Value} {w W V : World} (h : Own16 E w W) (hb : Below W.heap.size W V) : Own16 E w V :=
  ⟨by rw [hb.block _ (blk_ltM h.en)]; exact h.en, by rw [hb.block _ (blk_ltM h.vr)]; exact h.vr, below_thenM h.bel h.bel.size hb⟩
theorem blk_newM (W : World) (cs : Array Value) (t : TypeId) : (W.alloc (.cells cs t)).heap[W.heap.size]? = some (.cells cs t (0, 0)) := by unfold World.alloc; exact Array.getElem?_push_size
theorem own16_start (E : Array Value) (w : World) : Own16 E w ((w.alloc (.cells E 30)).alloc (.cells (infC ⟨#[]⟩ 0 0 false 0) 35)) := by
  refine ⟨?_, ?_, ?_⟩
  · rw [Below.heap_alloc _ _ _ (by simp)]
    exact blk_newM _ _ _
  · have : w.heap.size + 1 = (w.alloc (.cells E 30)).heap.size := by simp
    rw [this]
    exact blk_newM _ _ _
  · exact ((Below.refl w.heap.size w).alloc (Nat.le_refl _) _).alloc (by simp) _
theorem made35 (W V : World) (hb : Below (W.alloc (.cells (infC ⟨#[]⟩ 0 0 false 0) 35)).heap.size (W.alloc (.cells (infC ⟨#[]⟩ 0 0 false 0) 35)) V) : V.heap[W.heap.size]? = some (.cells (infC ⟨#[]⟩ 0 0 false 0) 35 (0, 0)) := by
  rw [hb.block _ (by simp)]
  exact blk_newM _ _ _
theorem Own16.five {a : ByteArray} {m : Int} {d : Bool} {A : Option Addr} {n c : Nat} {t : Int} {w W : World} (h : Own16 (entC a m d A n c t) w W) :
    W.cell? ⟨w.heap.size, 0, none⟩ = some (.string a) ∧ W.cell? ⟨w.heap.size, 1, none⟩ = some (.int .i64 m) ∧ W.cell? ⟨w.heap.size, 2, none⟩ = some (.bool d) ∧ W.cell? ⟨w.heap.size, 3, none⟩ = some (.slice A n c) ∧ W.cell? ⟨w.heap.size, 4, none⟩ = some (.int .i64 t) :=
  ⟨(cell_blkM h.en 0 _ rfl).1, (cell_blkM h.en 1 _ rfl).1, (cell_blkM h.en 2 _ rfl).1, (cell_blkM h.en 3 _ rfl).1, (cell_blkM h.en 4 _ rfl).1⟩
theorem fiveM {W : World} {g : Nat} {v0 v1 v2 v3 v4 : Value} (h : W.heap[g]? = some (.cells #[v0, v1, v2, v3, v4] 35 (0, 0))) :
    (W.cell? ⟨g, 0, none⟩ = some v0 ∧ W.cell? ⟨g, 1, none⟩ = some v1 ∧ W.cell? ⟨g, 2, none⟩ = some v2 ∧ W.cell? ⟨g, 3, none⟩ = some v3 ∧ W.cell? ⟨g, 4, none⟩ = some v4) ∧
    (W.frozen? ⟨g, 0, none⟩ = false ∧ W.frozen? ⟨g, 1, none⟩ = false ∧ W.frozen? ⟨g, 2, none⟩ = false ∧ W.frozen? ⟨g, 3, none⟩ = false ∧ W.frozen? ⟨g, 4, none⟩ = false) :=
  ⟨⟨(cell_blkM h 0 _ rfl).1, (cell_blkM h 1 _ rfl).1, (cell_blkM h 2 _ rfl).1, (cell_blkM h 3 _ rfl).1, (cell_blkM h 4 _ rfl).1⟩,
   ⟨(cell_blkM h 0 _ rfl).2, (cell_blkM h 1 _ rfl).2, (cell_blkM h 2 _ rfl).2, (cell_blkM h 3 _ rfl).2, (cell_blkM h 4 _ rfl).2⟩⟩
theorem store5 {W : World} {g : Nat} {u0 u1 u2 u3 u4 : Value} (h : W.heap[g]? = some (.cells #[u0, u1, u2, u3, u4] 35 (0, 0))) (v0 v1 v2 v3 v4 : Value) :
    (((((W.setCell ⟨g, 0, none⟩ v0).setCell ⟨g, 1, none⟩ v1).setCell ⟨g, 2, none⟩ v2).setCell ⟨g, 3, none⟩ v3).setCell ⟨g, 4, none⟩ v4).heap[g]? = some (.cells #[v0, v1, v2, v3, v4] 35 (0, 0)) := by
  have h0 := blk_set h 0 v0
  have h1 := blk_set h0 1 v1
  have h2 := blk_set h1 2 v2
  have h3 := blk_set h2 3 v3
  have h4 := blk_set h3 4 v4
  simpa using h4
theorem set5_other {W : World} {g g' : Nat} (hne : g' ≠ g) (v0 v1 v2 v3 v4 : Value) :
    (((((W.setCell ⟨g, 0, none⟩ v0).setCell ⟨g, 1, none⟩ v1).setCell ⟨g, 2, none⟩ v2).setCell ⟨g, 3, none⟩ v3).setCell ⟨g, 4, none⟩ v4).heap[g']? = W.heap[g']? := by
  rw [Below.heap_setCell _ _ _ _ hne, Below.heap_setCell _ _ _ _ hne, Below.heap_setCell _ _ _ _ hne, Below.heap_setCell _ _ _ _ hne, Below.heap_setCell _ _ _ _ hne]
theorem below5 {B : Nat} {w W : World} (h : Below B w W) {g : Nat} (hg : B ≤ g) (v0 v1 v2 v3 v4 : Value) :
    Below B w (((((W.setCell ⟨g, 0, none⟩ v0).setCell ⟨g, 1, none⟩ v1).setCell ⟨g, 2, none⟩ v2).setCell ⟨g, 3, none⟩ v3).setCell ⟨g, 4, none⟩ v4) :=
  ((((h.setCell (by exact hg) v0).setCell (by exact hg) v1).setCell (by exact hg) v2).setCell (by exact hg) v3).setCell (by exact hg) v4
/-- What holds behind the drawn region: the entry, the result's cells, the new struct. -/
structure Mid16 (E F : Array Value) (g : Nat) (w W : World) : Prop where
  o : Own16 E w W
  b : W.heap[g]? = some (.cells F 35 (0, 0))
  n0 : g ≠ w.heap.size
  n1 : g ≠ w.heap.size + 1
  lo : w.heap.size ≤ g
theorem mid_new {E F : Array Value} {w W : World} (h : Own16 E w W) : Mid16 E F W.heap.size w (W.alloc (.cells F 35)) :=
  ⟨h.later ((Below.refl _ _).alloc (Nat.le_refl _) _), blk_newM _ _ _, by have := blk_ltM h.en; omega, by have := blk_ltM h.vr; omega, h.bel.size⟩
theorem mid_set {E : Array Value} {w W : World} {g : Nat} {u0 u1 u2 u3 u4 : Value} (h : Own16 E w W) (hb : W.heap[g]? = some (.cells #[u0, u1, u2, u3, u4] 35 (0, 0))) (n0 : g ≠ w.heap.size) (n1 : g ≠ w.heap.size + 1) (lo : w.heap.size ≤ g) (v0 v1 v2 v3 v4 : Value) :
    Mid16 E #[v0, v1, v2, v3, v4] g w (((((W.setCell ⟨g, 0, none⟩ v0).setCell ⟨g, 1, none⟩ v1).setCell ⟨g, 2, none⟩ v2).setCell ⟨g, 3, none⟩ v3).setCell ⟨g, 4, none⟩ v4) :=
  ⟨⟨by rw [set5_other (Ne.symm n0)]; exact h.en, by rw [set5_other (Ne.symm n1)]; exact h.vr, below5 h.bel lo _ _ _ _ _⟩, store5 hb _ _ _ _ _, n0, n1, lo⟩
set_option maxHeartbeats 8000000 in
set_option maxRecDepth 100000 in
theorem spec_entryInfo.calls (k : Nat) (a0_0 : ByteArray) (a0_1 : Int) (a0_2 : Bool) (A0_3 : Option Addr) (c0_3 : Nat) (l0_3 : List Int) (a0_4 : Int) (r1 : ByteArray) (r2 : Int) (r3 : Int) (r4 : Bool) (r5 : Int) (w : World) (hr0_3 : Kd.C (Kd.int .u8) w A0_3 l0_3.length l0_3) (hc0_3 : l0_3.length ≤ c0_3) (h : spec_entryInfo.f k a0_0 a0_1 a0_2 l0_3 a0_4 = some (r1, r2, r3, r4, r5)) :
    Calls Try.prog 16 #[.agg #[.string a0_0, .int .i64 a0_1, .bool a0_2, .slice A0_3 l0_3.length c0_3, .int .i64 a0_4]] w fun e w' => e = .returned (.agg #[.string r1, .int .i64 r2, .int .i64 r3, .bool r4, .int .i64 r5]) ∧ Below w.heap.size w w' := by
  have hu30 := Try.underlying30
  have hu35 := Try.underlying35
  have HR0_3 := Aside0.mk hr0_3
  have HC0_3 := Aside0.mk hc0_3
  clear hr0_3 hc0_3
  have HB := Aside0.mk (Below.refl w.heap.size w)
  have H : ((spec_MemBase.f k a0_0).bind fun t152 => (if a0_2 = true then (some (t152, 42, a0_1, a0_2, a0_4)) else (some (t152, (l0_3.length : Int), a0_1, a0_2, a0_4)))) = some (r1, r2, r3, r4, r5) := h
  clear h
  replace H := Option.bind_eq_some_iff.mp H
  obtain ⟨t152, A20, H⟩ := H
  replace H : (if a0_2 = true then (some (t152, 42, a0_1, a0_2, a0_4)) else (some (t152, (l0_3.length : Int), a0_1, a0_2, a0_4))) = some (r1, r2, r3, r4, r5) := H
  have A2 := Aside0.mk A20
  clear A20
  by_cases c3 : a0_2 = true
  · subst c3
    have H1 : (some (t152, 42, a0_1, true, a0_4)) = some (r1, r2, r3, r4, r5) := by rw [if_pos rfl] at H; exact H
    clear H
    simp only [Option.some.injEq, Prod.mk.injEq] at H1
    obtain ⟨rfl, rfl, rfl, rfl, rfl⟩ := H1
    go_enter Try.func16, Try.ntmps16
    go_wp2
    obtain ⟨W1, hW1⟩ : ∃ W1, W1 = ((w.alloc (.cells #[.string a0_0, .int .i64 a0_1, .bool true, .slice A0_3 l0_3.length c0_3, .int .i64 a0_4] 30)).alloc (.cells #[.string ⟨#[]⟩, .int .i64 0, .int .i64 0, .bool false, .int .i64 0] 35)) := ⟨_, rfl⟩
    have O1 := Lib.hid (show Own16 (entC a0_0 a0_1 true A0_3 l0_3.length c0_3 a0_4) w W1 from by rw [hW1]; exact own16_start _ w)
    rw [← hW1]
    have o1 : (W1.heap.size = w.heap.size) = False := eq_false (by have := blk_ltM O1.out.en; omega)
    have o2 : (w.heap.size = W1.heap.size) = False := eq_false (by have := blk_ltM O1.out.en; omega)
    have o3 : (W1.heap.size = w.heap.size + 1) = False := eq_false (by have := blk_ltM O1.out.vr; omega)
    have o4 : w.heap.size ≤ W1.heap.size := O1.out.bel.size
    clear hW1
    obtain ⟨b0, b1, b2, b3, b4⟩ := O1.out.five
    go_region_held3 (fun w' => w'.cell? ⟨w.heap.size, 0, none⟩ = some (.string a0_0) ∧ w'.cell? ⟨w.heap.size, 1, none⟩ = some (.int .i64 a0_1) ∧ w'.cell? ⟨w.heap.size, 2, none⟩ = some (.bool true) ∧ w'.cell? ⟨w.heap.size, 3, none⟩ = some (.slice A0_3 l0_3.length c0_3) ∧ w'.cell? ⟨w.heap.size, 4, none⟩ = some (.int .i64 a0_4)) (go_keep) (first | (go_at_call 20; (with_reducible refine (spec_MemBase.calls (w := W1.drew) k a0_0 _ A2.out).mono ?_); rintro e w3 ⟨rfl, hd⟩; have O3 := Lib.hid ((O1.out.later (below_drew (Below.refl _ _))).later hd.below); clear hd; obtain ⟨p0, p1, p2, p3, p4⟩ := O3.out.five; have m0 : (w3.heap.size = w.heap.size) = False := eq_false (by have := blk_ltM O3.out.en; omega); have m1 : (w.heap.size = w3.heap.size) = False := eq_false (by have := blk_ltM O3.out.en; omega)) | (go_at_call 20; refine (spec_MemBase.calls (w := W1.drew.alloc (.cells #[.string ⟨#[]⟩, .int .i64 0, .int .i64 0, .bool false, .int .i64 0] 35)) k a0_0 _ A2.out).mono ?_; rintro e w3 ⟨rfl, hd⟩; have O3 := Lib.hid ((O1.out.later (below_alloc (below_drew (Below.refl _ _)) (.cells #[.string ⟨#[]⟩, .int .i64 0, .int .i64 0, .bool false, .int .i64 0] 35))).later hd.below); have G3 := Lib.hid (show w3.heap[W1.heap.size]? = some (.cells #[.string ⟨#[]⟩, .int .i64 0, .int .i64 0, .bool false, .int .i64 0] 35 (0, 0)) from made35 W1.drew w3 hd.below); clear hd; obtain ⟨⟨e0, e1, e2, e3, e4⟩, ⟨f0, f1, f2, f3, f4⟩⟩ := fiveM G3.out; obtain ⟨p0, p1, p2, p3, p4⟩ := O3.out.five; have m0 : (w3.heap.size = w.heap.size) = False := eq_false (by have := blk_ltM O3.out.en; omega); have m1 : (w.heap.size = w3.heap.size) = False := eq_false (by have := blk_ltM O3.out.en; omega)))
    all_goals (first | (obtain ⟨W4, g4, hW4, hg4⟩ : ∃ W4 g4, W4 = w3.alloc (.cells #[.string t152, .int .i64 (l0_3.length : Int), .int .i64 a0_1, .bool true, .int .i64 a0_4] 35) ∧ g4 = w3.heap.size := ⟨_, _, rfl, rfl⟩; rw [← hW4, ← hg4]; have M := Lib.hid (show Mid16 (entC a0_0 a0_1 true A0_3 l0_3.length c0_3 a0_4) #[.string t152, .int .i64 (l0_3.length : Int), .int .i64 a0_1, .bool true, .int .i64 a0_4] g4 w W4 from by rw [hW4, hg4]; exact mid_new O3.out); clear hW4 hg4) | (obtain ⟨W4, g4, hW4, hg4⟩ : ∃ W4 g4, W4 = (((((w3.setCell ⟨W1.heap.size, 0, none⟩ (.string t152)).setCell ⟨W1.heap.size, 1, none⟩ (.int .i64 (l0_3.length : Int))).setCell ⟨W1.heap.size, 2, none⟩ (.int .i64 a0_1)).setCell ⟨W1.heap.size, 3, none⟩ (.bool true)).setCell ⟨W1.heap.size, 4, none⟩ (.int .i64 a0_4)) ∧ g4 = W1.heap.size := ⟨_, _, rfl, rfl⟩; rw [← hW4, ← hg4]; have M := Lib.hid (show Mid16 (entC a0_0 a0_1 true A0_3 l0_3.length c0_3 a0_4) #[.string t152, .int .i64 (l0_3.length : Int), .int .i64 a0_1, .bool true, .int .i64 a0_4] g4 w W4 from by rw [hW4, hg4]; exact mid_set O3.out G3.out (fun e => o1.mp e) (fun e => o3.mp e) o4 _ _ _ _ _); clear hW4 hg4))
    all_goals (obtain ⟨⟨x0, x1, x2, x3, x4⟩, ⟨y0, y1, y2, y3, y4⟩⟩ := fiveM M.out.b)
    all_goals (obtain ⟨⟨u0, u1, u2, u3, u4⟩, ⟨z0, z1, z2, z3, z4⟩⟩ := fiveM M.out.o.vr)
    all_goals (obtain ⟨t0, t1, t2, t3, t4⟩ := M.out.o.five)
    all_goals (have k0 := eq_false M.out.n0; have k1 := eq_false (Ne.symm M.out.n0); have k2 := eq_false M.out.n1; have k3 := eq_false (Ne.symm M.out.n1))
    all_goals go_wp2
    all_goals (obtain ⟨V, hV⟩ : ∃ V, V = ((((((W4.setCell ⟨g4, 1, none⟩ (.int .i64 42)).setCell ⟨w.heap.size + 1, 0, none⟩ (.string t152)).setCell ⟨w.heap.size + 1, 1, none⟩ (.int .i64 42)).setCell ⟨w.heap.size + 1, 2, none⟩ (.int .i64 a0_1)).setCell ⟨w.heap.size + 1, 3, none⟩ (.bool true)).setCell ⟨w.heap.size + 1, 4, none⟩ (.int .i64 a0_4)) := ⟨_, rfl⟩)
    all_goals (obtain ⟨⟨r0, r1, r2, r3, r4⟩, _⟩ := fiveM (store5 (show (W4.setCell ⟨g4, 1, none⟩ (.int .i64 42)).heap[w.heap.size + 1]? = some (.cells (infC ⟨#[]⟩ 0 0 false 0) 35 (0, 0)) from by rw [Below.heap_setCell _ _ _ _ (Ne.symm M.out.n1)]; exact M.out.o.vr) (.string t152) (.int .i64 42) (.int .i64 a0_1) (.bool true) (.int .i64 a0_4)))
    all_goals (have hbl := below5 (M.out.o.bel.setCell (p := ⟨g4, 1, none⟩) M.out.lo (.int .i64 42)) (Nat.le_succ w.heap.size) (.string t152) (.int .i64 42) (.int .i64 a0_1) (.bool true) (.int .i64 a0_4))
    all_goals (rw [← hV] at r0 r1 r2 r3 r4 hbl ⊢)
    all_goals (refine bodyPost_ret (by simp [results, Try.results16, go_sem, r0, r1, r2, r3, r4]; try rfl) rfl ?_)
    all_goals exact ⟨rfl, hbl⟩
  · replace c3 := Bool.eq_false_iff.mpr c3; subst c3
    have H1 : (some (t152, (l0_3.length : Int), a0_1, false, a0_4)) = some (r1, r2, r3, r4, r5) := by rw [if_neg (by simp)] at H; exact H
    clear H
    simp only [Option.some.injEq, Prod.mk.injEq] at H1
    obtain ⟨rfl, rfl, rfl, rfl, rfl⟩ := H1
    go_enter Try.func16, Try.ntmps16
    go_wp2
    obtain ⟨W1, hW1⟩ : ∃ W1, W1 = ((w.alloc (.cells #[.string a0_0, .int .i64 a0_1, .bool false, .slice A0_3 l0_3.length c0_3, .int .i64 a0_4] 30)).alloc (.cells #[.string ⟨#[]⟩, .int .i64 0, .int .i64 0, .bool false, .int .i64 0] 35)) := ⟨_, rfl⟩
    have O1 := Lib.hid (show Own16 (entC a0_0 a0_1 false A0_3 l0_3.length c0_3 a0_4) w W1 from by rw [hW1]; exact own16_start _ w)
    rw [← hW1]
    have o1 : (W1.heap.size = w.heap.size) = False := eq_false (by have := blk_ltM O1.out.en; omega)
    have o2 : (w.heap.size = W1.heap.size) = False := eq_false (by have := blk_ltM O1.out.en; omega)
    have o3 : (W1.heap.size = w.heap.size + 1) = False := eq_false (by have := blk_ltM O1.out.vr; omega)
    have o4 : w.heap.size ≤ W1.heap.size := O1.out.bel.size
    clear hW1
    obtain ⟨b0, b1, b2, b3, b4⟩ := O1.out.five
    go_region_held3 (fun w' => w'.cell? ⟨w.heap.size, 0, none⟩ = some (.string a0_0) ∧ w'.cell? ⟨w.heap.size, 1, none⟩ = some (.int .i64 a0_1) ∧ w'.cell? ⟨w.heap.size, 2, none⟩ = some (.bool false) ∧ w'.cell? ⟨w.heap.size, 3, none⟩ = some (.slice A0_3 l0_3.length c0_3) ∧ w'.cell? ⟨w.heap.size, 4, none⟩ = some (.int .i64 a0_4)) (go_keep) (first | (go_at_call 20; (with_reducible refine (spec_MemBase.calls (w := W1.drew) k a0_0 _ A2.out).mono ?_); rintro e w3 ⟨rfl, hd⟩; have O3 := Lib.hid ((O1.out.later (below_drew (Below.refl _ _))).later hd.below); clear hd; obtain ⟨p0, p1, p2, p3, p4⟩ := O3.out.five; have m0 : (w3.heap.size = w.heap.size) = False := eq_false (by have := blk_ltM O3.out.en; omega); have m1 : (w.heap.size = w3.heap.size) = False := eq_false (by have := blk_ltM O3.out.en; omega)) | (go_at_call 20; refine (spec_MemBase.calls (w := W1.drew.alloc (.cells #[.string ⟨#[]⟩, .int .i64 0, .int .i64 0, .bool false, .int .i64 0] 35)) k a0_0 _ A2.out).mono ?_; rintro e w3 ⟨rfl, hd⟩; have O3 := Lib.hid ((O1.out.later (below_alloc (below_drew (Below.refl _ _)) (.cells #[.string ⟨#[]⟩, .int .i64 0, .int .i64 0, .bool false, .int .i64 0] 35))).later hd.below); have G3 := Lib.hid (show w3.heap[W1.heap.size]? = some (.cells #[.string ⟨#[]⟩, .int .i64 0, .int .i64 0, .bool false, .int .i64 0] 35 (0, 0)) from made35 W1.drew w3 hd.below); clear hd; obtain ⟨⟨e0, e1, e2, e3, e4⟩, ⟨f0, f1, f2, f3, f4⟩⟩ := fiveM G3.out; obtain ⟨p0, p1, p2, p3, p4⟩ := O3.out.five; have m0 : (w3.heap.size = w.heap.size) = False := eq_false (by have := blk_ltM O3.out.en; omega); have m1 : (w.heap.size = w3.heap.size) = False := eq_false (by have := blk_ltM O3.out.en; omega)))
    all_goals (first | (obtain ⟨W4, g4, hW4, hg4⟩ : ∃ W4 g4, W4 = w3.alloc (.cells #[.string t152, .int .i64 (l0_3.length : Int), .int .i64 a0_1, .bool false, .int .i64 a0_4] 35) ∧ g4 = w3.heap.size := ⟨_, _, rfl, rfl⟩; rw [← hW4, ← hg4]; have M := Lib.hid (show Mid16 (entC a0_0 a0_1 false A0_3 l0_3.length c0_3 a0_4) #[.string t152, .int .i64 (l0_3.length : Int), .int .i64 a0_1, .bool false, .int .i64 a0_4] g4 w W4 from by rw [hW4, hg4]; exact mid_new O3.out); clear hW4 hg4) | (obtain ⟨W4, g4, hW4, hg4⟩ : ∃ W4 g4, W4 = (((((w3.setCell ⟨W1.heap.size, 0, none⟩ (.string t152)).setCell ⟨W1.heap.size, 1, none⟩ (.int .i64 (l0_3.length : Int))).setCell ⟨W1.heap.size, 2, none⟩ (.int .i64 a0_1)).setCell ⟨W1.heap.size, 3, none⟩ (.bool false)).setCell ⟨W1.heap.size, 4, none⟩ (.int .i64 a0_4)) ∧ g4 = W1.heap.size := ⟨_, _, rfl, rfl⟩; rw [← hW4, ← hg4]; have M := Lib.hid (show Mid16 (entC a0_0 a0_1 false A0_3 l0_3.length c0_3 a0_4) #[.string t152, .int .i64 (l0_3.length : Int), .int .i64 a0_1, .bool false, .int .i64 a0_4] g4 w W4 from by rw [hW4, hg4]; exact mid_set O3.out G3.out (fun e => o1.mp e) (fun e => o3.mp e) o4 _ _ _ _ _); clear hW4 hg4))
    all_goals (obtain ⟨⟨x0, x1, x2, x3, x4⟩, ⟨y0, y1, y2, y3, y4⟩⟩ := fiveM M.out.b)
    all_goals (obtain ⟨⟨u0, u1, u2, u3, u4⟩, ⟨z0, z1, z2, z3, z4⟩⟩ := fiveM M.out.o.vr)
    all_goals (obtain ⟨t0, t1, t2, t3, t4⟩ := M.out.o.five)
    all_goals (have k0 := eq_false M.out.n0; have k1 := eq_false (Ne.symm M.out.n0); have k2 := eq_false M.out.n1; have k3 := eq_false (Ne.symm M.out.n1))
    all_goals go_wp2
    all_goals (obtain ⟨V, hV⟩ : ∃ V, V = (((((W4.setCell ⟨w.heap.size + 1, 0, none⟩ (.string t152)).setCell ⟨w.heap.size + 1, 1, none⟩ (.int .i64 (l0_3.length : Int))).setCell ⟨w.heap.size + 1, 2, none⟩ (.int .i64 a0_1)).setCell ⟨w.heap.size + 1, 3, none⟩ (.bool false)).setCell ⟨w.heap.size + 1, 4, none⟩ (.int .i64 a0_4)) := ⟨_, rfl⟩)
    all_goals (obtain ⟨⟨r0, r1, r2, r3, r4⟩, _⟩ := fiveM (store5 M.out.o.vr (.string t152) (.int .i64 (l0_3.length : Int)) (.int .i64 a0_1) (.bool false) (.int .i64 a0_4)))
    all_goals (have hbl := below5 M.out.o.bel (Nat.le_succ w.heap.size) (.string t152) (.int .i64 (l0_3.length : Int)) (.int .i64 a0_1) (.bool false) (.int .i64 a0_4))
    all_goals (rw [← hV] at r0 r1 r2 r3 r4 hbl ⊢)
    all_goals (refine bodyPost_ret (by simp [results, Try.results16, go_sem, r0, r1, r2, r3, r4]; try rfl) rfl ?_)
    all_goals exact ⟨rfl, hbl⟩
end Go.Proofs.Ytckjbgneblfceaa.PFnMergeDirs
