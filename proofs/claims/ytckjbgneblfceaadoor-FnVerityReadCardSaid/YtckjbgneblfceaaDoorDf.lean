/- The reference of a device of hashes. -/
import Derived.Test.YtckjbgneblfceaaDoorDe
namespace Go.Proofs.YtckjbgneblfceaaDoor.Da
open Go.RowKit Go.Maps Go.Proofs.YtckjbgneblfceaaDoorW.PrintWords Go.Proofs.YtckjbgneblfceaaDoorW.PrintLast Go.Proofs.YtckjbgneblfceaaDoorW.PrintMore
open Go.Proofs.YtckjbgneblfceaaDoor.PFnVerityRead Go.Proofs.YtckjbgneblfceaaDoor.Fa Go.Proofs.YtckjbgneblfceaaDoor.Fm
set_option linter.unusedVariables false
set_option linter.unusedSimpArgs false
def zeroC : Array Value := #[.string ⟨#[]⟩, .string ⟨#[]⟩, .string ⟨#[]⟩, .int .u32 0, .int .u32 0, .int .u64 0, .int .u32 0, .int .i64 0]
def digC (A B C D : Int) : Array Value := #[.int .u64 A, .int .u64 B, .int .u64 C, .int .u64 D]
def zeroV : Value := .agg zeroC
/-- What is told of a device, as a struct. -/
def veri (A B C D : Int) (b : List Int) : Value := .agg #[.string (hexS (rootOf A B C D b)), .string (hexS (saltOf b)), .string (algOf b), .int .u32 (leF b 64 4), .int .u32 4096, .int .u64 (leF b 72 8), .int .u32 (leF b 8 4), .int .i64 (IntKind.i64.wrap (leF b 72 8))]
def toldV (A B C D : Int) (b : List Int) : Value := match errOf b with | none => veri A B C D b | some _ => zeroV
def codeOf : Option Nat → Int
  | none => 0
  | some 0 => 5
  | some 1 => 5
  | some 2 => 10
  | some _ => 13
def Rv (A B C D : Int) (b : List Int) (w : World) (e : Ending) (w' : World) : Prop :=
  e = .returned (.tuple #[toldV A B C D b, .int .i64 (codeOf (errOf b))]) ∧ Below w.heap.size w w'
theorem le_lit (g o n c : Nat) (b : List Int) (w : World) (P M : Int) (p m : Nat) (hP : P = p) (hM : M = m) (hb : b.length = n) (hn : n ≤ 10000000) (hnc : n ≤ c) (hm : m ≤ 8) (hp : p + m ≤ n) (hi : InBytes b) (hl : Lies g o b w) :
    Calls Tryd.prog 33 #[.slice (some ⟨g, o, none⟩) n c, .int .u64 P, .int .u64 M] w fun e w' => e = .returned (.int .u64 (leF b p m)) ∧ Drawn0 w w' := by
  subst hP
  subst hM
  exact le_at g o n c b w p m hb hn hnc hm hp hi hl
/-- The two blocks of the body: the words of the hash, and the result. -/
structure Own2 (A B C D : Int) (w W : World) : Prop where
  dg : W.heap[w.heap.size]? = some (.cells (digC A B C D) 32 (0, 0))
  vr : W.heap[w.heap.size + 1]? = some (.cells zeroC 37 (0, 0))
  bel : Below w.heap.size w W
theorem blk_lt {W : World} {g : Nat} {x : Obj} (h : W.heap[g]? = some x) : g < W.heap.size := by
  rcases Nat.lt_or_ge g W.heap.size with h1 | h1
  · exact h1
  · rw [Array.getElem?_eq_none h1] at h; cases h
theorem Own2.later {A B C D : Int} {w W V : World} (h : Own2 A B C D w W) (hb : Below W.heap.size W V) : Own2 A B C D w V :=
  ⟨by rw [hb.block _ (blk_lt h.dg)]; exact h.dg, by rw [hb.block _ (blk_lt h.vr)]; exact h.vr, below_then h.bel h.bel.size hb⟩
theorem own2_start (A B C D : Int) (w : World) : Own2 A B C D w ((w.alloc (.cells (digC A B C D) 32)).alloc (.cells zeroC 37)) := by
  refine ⟨?_, ?_, below_alloc (below_alloc (Below.refl _ _) _) _⟩
  · rw [Below.heap_alloc _ _ _ (by simp)]
    exact blk_new _ _
  · have : w.heap.size + 1 = (w.alloc (.cells (digC A B C D) 32)).heap.size := by simp
    rw [this]
    exact blk_new _ _
theorem cell_blk {W : World} {g : Nat} {cs : Array Value} {t : TypeId} (h : W.heap[g]? = some (.cells cs t (0, 0))) (i : Nat) (v : Value) (hv : cs[i]? = some v) : W.cell? ⟨g, i, none⟩ = some v ∧ W.frozen? ⟨g, i, none⟩ = false := by
  refine ⟨?_, by simp [World.frozen?, h]⟩
  unfold World.cell?
  simp only [h]
  rw [hv]; rfl
theorem Own2.four {A B C D : Int} {w W : World} (h : Own2 A B C D w W) : W.cell? ⟨w.heap.size, 0, none⟩ = some (.int .u64 A) ∧ W.cell? ⟨w.heap.size, 1, none⟩ = some (.int .u64 B) ∧ W.cell? ⟨w.heap.size, 2, none⟩ = some (.int .u64 C) ∧ W.cell? ⟨w.heap.size, 3, none⟩ = some (.int .u64 D) :=
  ⟨(cell_blk h.dg 0 _ rfl).1, (cell_blk h.dg 1 _ rfl).1, (cell_blk h.dg 2 _ rfl).1, (cell_blk h.dg 3 _ rfl).1⟩
theorem eight {g : Nat} {W : World} (h : W.heap[g]? = some (.cells zeroC 37 (0, 0))) :
    (W.cell? ⟨g, 0, none⟩ = some (.string ⟨#[]⟩) ∧ W.cell? ⟨g, 1, none⟩ = some (.string ⟨#[]⟩) ∧ W.cell? ⟨g, 2, none⟩ = some (.string ⟨#[]⟩) ∧ W.cell? ⟨g, 3, none⟩ = some (.int .u32 0) ∧ W.cell? ⟨g, 4, none⟩ = some (.int .u32 0) ∧ W.cell? ⟨g, 5, none⟩ = some (.int .u64 0) ∧ W.cell? ⟨g, 6, none⟩ = some (.int .u32 0) ∧ W.cell? ⟨g, 7, none⟩ = some (.int .i64 0)) ∧
    (W.frozen? ⟨g, 0, none⟩ = false ∧ W.frozen? ⟨g, 1, none⟩ = false ∧ W.frozen? ⟨g, 2, none⟩ = false ∧ W.frozen? ⟨g, 3, none⟩ = false ∧ W.frozen? ⟨g, 4, none⟩ = false ∧ W.frozen? ⟨g, 5, none⟩ = false ∧ W.frozen? ⟨g, 6, none⟩ = false ∧ W.frozen? ⟨g, 7, none⟩ = false) :=
  ⟨⟨(cell_blk h 0 _ rfl).1, (cell_blk h 1 _ rfl).1, (cell_blk h 2 _ rfl).1, (cell_blk h 3 _ rfl).1, (cell_blk h 4 _ rfl).1, (cell_blk h 5 _ rfl).1, (cell_blk h 6 _ rfl).1, (cell_blk h 7 _ rfl).1⟩,
   ⟨(cell_blk h 0 _ rfl).2, (cell_blk h 1 _ rfl).2, (cell_blk h 2 _ rfl).2, (cell_blk h 3 _ rfl).2, (cell_blk h 4 _ rfl).2, (cell_blk h 5 _ rfl).2, (cell_blk h 6 _ rfl).2, (cell_blk h 7 _ rfl).2⟩⟩
theorem short15 (Z : Option Addr) (n c : Nat) (A B C D : Int) (w : World) (b : List Int) (hb : b.length = n) (hn : n < 4096) :
    Calls Tryd.prog 15 #[.agg (digC A B C D), .slice Z n c] w (Rv A B C D b w) := by
  have h1 : decide ((n : Int) < 4096) = true := decide_eq_true (by omega)
  have he : errOf b = some 0 := by
    unfold errOf
    rw [if_pos (by omega)]
  unfold Rv toldV
  rw [he]
  unfold digC zeroV zeroC
  go_enter Tryd.func15, Tryd.ntmps15
  go_wp2
  first
  | (go_returns; exact ⟨rfl, below_alloc (below_alloc (Below.refl _ _) _) _⟩)
  | (go_ret2; exact ⟨rfl, below_alloc (below_alloc (Below.refl _ _) _) _⟩)
  | (refine bodyPost_ret (by simp [results, Tryd.results15, go_sem]; try rfl) rfl ?_; trace_state; exact ⟨rfl, below_alloc (below_alloc (Below.refl _ _) _) _⟩)
/-- The store of a struct of eight cells. -/
theorem store8 {W : World} {g : Nat} (h : W.heap[g]? = some (.cells zeroC 37 (0, 0))) (v0 v1 v2 v3 v4 v5 v6 v7 : Value) :
    ((((((((W.setCell ⟨g, 0, none⟩ v0).setCell ⟨g, 1, none⟩ v1).setCell ⟨g, 2, none⟩ v2).setCell ⟨g, 3, none⟩ v3).setCell ⟨g, 4, none⟩ v4).setCell ⟨g, 5, none⟩ v5).setCell ⟨g, 6, none⟩ v6).setCell ⟨g, 7, none⟩ v7).heap[g]? = some (.cells #[v0, v1, v2, v3, v4, v5, v6, v7] 37 (0, 0)) := by
  have h0 := blk_set h 0 v0
  have h1 := blk_set h0 1 v1
  have h2 := blk_set h1 2 v2
  have h3 := blk_set h2 3 v3
  have h4 := blk_set h3 4 v4
  have h5 := blk_set h4 5 v5
  have h6 := blk_set h5 6 v6
  have h7 := blk_set h6 7 v7
  simpa [zeroC] using h7
theorem eightV {V : World} {g : Nat} {v0 v1 v2 v3 v4 v5 v6 v7 : Value} (h : V.heap[g]? = some (.cells #[v0, v1, v2, v3, v4, v5, v6, v7] 37 (0, 0))) :
    V.cell? ⟨g, 0, none⟩ = some v0 ∧ V.cell? ⟨g, 1, none⟩ = some v1 ∧ V.cell? ⟨g, 2, none⟩ = some v2 ∧ V.cell? ⟨g, 3, none⟩ = some v3 ∧ V.cell? ⟨g, 4, none⟩ = some v4 ∧ V.cell? ⟨g, 5, none⟩ = some v5 ∧ V.cell? ⟨g, 6, none⟩ = some v6 ∧ V.cell? ⟨g, 7, none⟩ = some v7 :=
  ⟨(cell_blk h 0 _ rfl).1, (cell_blk h 1 _ rfl).1, (cell_blk h 2 _ rfl).1, (cell_blk h 3 _ rfl).1, (cell_blk h 4 _ rfl).1, (cell_blk h 5 _ rfl).1, (cell_blk h 6 _ rfl).1, (cell_blk h 7 _ rfl).1⟩
theorem below8 {B : Nat} {w W : World} (h : Below B w W) {g : Nat} (hg : B ≤ g) (v0 v1 v2 v3 v4 v5 v6 v7 : Value) :
    Below B w ((((((((W.setCell ⟨g, 0, none⟩ v0).setCell ⟨g, 1, none⟩ v1).setCell ⟨g, 2, none⟩ v2).setCell ⟨g, 3, none⟩ v3).setCell ⟨g, 4, none⟩ v4).setCell ⟨g, 5, none⟩ v5).setCell ⟨g, 6, none⟩ v6).setCell ⟨g, 7, none⟩ v7) :=
  (((((((h.setCell (by exact hg) v0).setCell (by exact hg) v1).setCell (by exact hg) v2).setCell (by exact hg) v3).setCell (by exact hg) v4).setCell (by exact hg) v5).setCell (by exact hg) v6).setCell (by exact hg) v7
theorem parts_two (g1 o1 n1 c1 g2 o2 n2 c2 : Nat) (s b2 : List Int) (W : World) (hs : s.length = n1) (hb : b2.length = n2) (h1 : n1 ≤ 100000) (h2 : n2 ≤ 100000) (i1 : InBytes s) (i2 : InBytes b2) (l1 : Lies g1 o1 s W) (l2 : Lies g2 o2 b2 W) :
    Parts W.heap.size [s, b2] (fun k => if k = 0 then (g1, o1, c1) else (g2, o2, c2)) ((W.alloc (.cells #[.slice (some ⟨g1, o1, none⟩) n1 c1, .slice (some ⟨g2, o2, none⟩) n2 c2] 33)).drew) := by
  have hB : Below W.heap.size W ((W.alloc (.cells #[.slice (some ⟨g1, o1, none⟩) n1 c1, .slice (some ⟨g2, o2, none⟩) n2 c2] 33)).drew) := below_drew (below_alloc (Below.refl _ _) _)
  have hh : ((W.alloc (.cells #[.slice (some ⟨g1, o1, none⟩) n1 c1, .slice (some ⟨g2, o2, none⟩) n2 c2] 33)).drew).heap[W.heap.size]? = some (.cells #[.slice (some ⟨g1, o1, none⟩) n1 c1, .slice (some ⟨g2, o2, none⟩) n2 c2] 33 (0, 0)) := blk_new _ _
  intro k b hk
  match k, hk with
  | 0, hk =>
    obtain rfl := Option.some.inj hk
    refine ⟨?_, ?_, i1, by omega⟩
    · rw [(cell_blk hh 0 _ rfl).1, hs]; rfl
    · exact l1.later hB
  | 1, hk =>
    obtain rfl := Option.some.inj hk
    refine ⟨?_, ?_, i2, by omega⟩
    · rw [(cell_blk hh 1 _ rfl).1, hb]; rfl
    · exact l2.later hB
  | k + 2, hk => simp at hk
set_option maxHeartbeats 8000000 in
set_option maxRecDepth 100000 in
theorem told15 (gs o n c : Nat) (b : List Int) (A B C D : Int) (w : World)
    (hb : b.length = n) (hn : 4096 ≤ n) (hn2 : n ≤ 1228800) (hnc : n ≤ c) (hib : InBytes b) (hl : Lies gs o b w) :
    Calls Tryd.prog 15 #[.agg (digC A B C D), .slice (some ⟨gs, o, none⟩) n c] w (Rv A B C D b w) := by
  have HB := Lib.hid hb
  have HI := Lib.hid hib
  have HL := Lib.hid hl
  have h1 : decide ((n : Int) < 4096) = false := decide_eq_false (by omega)
  have h3 : (8 ≤ (c : Int)) = True := eq_true (by omega)
  have SB := Lib.hid (below_alloc (below_alloc (Below.refl w.heap.size w) (.cells (digC A B C D) 32)) (.cells zeroC 37))
  have L8 := Lib.hid (show Lies gs o (b.take 8) ((w.alloc (.cells (digC A B C D) 32)).alloc (.cells zeroC 37)) from by
    have := (HL.out.later SB.out).part 0 8
    rw [List.drop_zero] at this
    exact this)
  clear hb hib hl
  unfold digC zeroC at L8
  unfold digC
  go_enter Tryd.func15, Tryd.ntmps15
  cases hver : isVer b with
  | false =>
    unfold isVer at hver
    have HSG := Lib.hid (show isVer b = false from hver)
    go_wp2_with (first | (go_at_call 32; (with_reducible refine (trim32 gs o 8 c (b.take 8) _ (by rw [List.length_take, HB.out]; omega) (by decide) (by omega) L8.out).mono ?_); rintro e w3 ⟨rfl, hb3⟩; have O3 := Lib.hid ((own2_start A B C D w).later hb3); obtain ⟨⟨e0, e1, e2, e3, e4, e5, e6, e7⟩, ⟨f0, f1, f2, f3, f4, f5, f6, f7⟩⟩ := eight O3.out.vr; clear hb3))
    obtain ⟨V, hV⟩ : ∃ V, V = ((((((((w3.setCell ⟨w.heap.size + 1, 0, none⟩ (.string ⟨#[]⟩)).setCell ⟨w.heap.size + 1, 1, none⟩ (.string ⟨#[]⟩)).setCell ⟨w.heap.size + 1, 2, none⟩ (.string ⟨#[]⟩)).setCell ⟨w.heap.size + 1, 3, none⟩ (.int .u32 0)).setCell ⟨w.heap.size + 1, 4, none⟩ (.int .u32 0)).setCell ⟨w.heap.size + 1, 5, none⟩ (.int .u64 0)).setCell ⟨w.heap.size + 1, 6, none⟩ (.int .u32 0)).setCell ⟨w.heap.size + 1, 7, none⟩ (.int .i64 0)) := ⟨_, rfl⟩
    obtain ⟨r0, r1, r2, r3, r4, r5, r6, r7⟩ := eightV (store8 O3.out.vr (.string ⟨#[]⟩) (.string ⟨#[]⟩) (.string ⟨#[]⟩) (.int .u32 0) (.int .u32 0) (.int .u64 0) (.int .u32 0) (.int .i64 0))
    have hbl := below8 O3.out.bel (Nat.le_succ _) (.string ⟨#[]⟩) (.string ⟨#[]⟩) (.string ⟨#[]⟩) (.int .u32 0) (.int .u32 0) (.int .u64 0) (.int .u32 0) (.int .i64 0)
    rw [← hV] at r0 r1 r2 r3 r4 r5 r6 r7 hbl ⊢
    refine bodyPost_ret (by simp [results, Tryd.results15, go_sem, r0, r1, r2, r3, r4, r5, r6, r7]; try rfl) rfl ?_
    have he : errOf b = some 2 := by
      unfold errOf
      rw [if_neg (by rw [HB.out]; omega), if_pos HSG.out]
    unfold Rv toldV
    rw [he]
    exact ⟨rfl, hbl⟩
  | true =>
    have HSG := Lib.hid hver
    unfold isVer at hver
    obtain ⟨m, hm⟩ : ∃ m : Nat, leF b 80 2 = m := ⟨(leF b 80 2).toNat, by have := (leF_range HI.out 2 80).1; omega⟩
    have hm2 : m < 65536 := by have := (leF_range HI.out 2 80).2; rw [hm] at this; have : (m : Int) < 65536 := this; omega
    have HM := Lib.hid hm
    clear hm
    by_cases hm3 : 256 < m
    · have j1 : decide ((256 : Int) < (m : Int)) = true := decide_eq_true (by omega)
      go_wp2_with (first | (go_at_call 32; (with_reducible refine (trim32 gs o 8 c (b.take 8) _ (by rw [List.length_take, HB.out]; omega) (by decide) (by omega) L8.out).mono ?_); rintro e w3 ⟨rfl, hb3⟩; have O3 := Lib.hid ((own2_start A B C D w).later hb3); clear hb3) | (go_at_call 33; (with_reducible refine (le_lit gs o n c b _ 80 2 80 2 rfl rfl HB.out (by omega) hnc (by decide) (by omega) HI.out (HL.out.later O3.out.bel)).mono ?_); rw [HM.out]; rintro e w4 ⟨rfl, hd4⟩; have O4 := Lib.hid (O3.out.later (drawn_below hd4)); obtain ⟨⟨e0, e1, e2, e3, e4, e5, e6, e7⟩, ⟨f0, f1, f2, f3, f4, f5, f6, f7⟩⟩ := eight O4.out.vr; obtain ⟨d0, d1, d2, d3⟩ := O4.out.four; clear hd4))
      obtain ⟨V, hV⟩ : ∃ V, V = ((((((((w4.setCell ⟨w.heap.size + 1, 0, none⟩ (.string ⟨#[]⟩)).setCell ⟨w.heap.size + 1, 1, none⟩ (.string ⟨#[]⟩)).setCell ⟨w.heap.size + 1, 2, none⟩ (.string ⟨#[]⟩)).setCell ⟨w.heap.size + 1, 3, none⟩ (.int .u32 0)).setCell ⟨w.heap.size + 1, 4, none⟩ (.int .u32 0)).setCell ⟨w.heap.size + 1, 5, none⟩ (.int .u64 0)).setCell ⟨w.heap.size + 1, 6, none⟩ (.int .u32 0)).setCell ⟨w.heap.size + 1, 7, none⟩ (.int .i64 0)) := ⟨_, rfl⟩
      obtain ⟨r0, r1, r2, r3, r4, r5, r6, r7⟩ := eightV (store8 O4.out.vr (.string ⟨#[]⟩) (.string ⟨#[]⟩) (.string ⟨#[]⟩) (.int .u32 0) (.int .u32 0) (.int .u64 0) (.int .u32 0) (.int .i64 0))
      have hbl := below8 O4.out.bel (Nat.le_succ _) (.string ⟨#[]⟩) (.string ⟨#[]⟩) (.string ⟨#[]⟩) (.int .u32 0) (.int .u32 0) (.int .u64 0) (.int .u32 0) (.int .i64 0)
      rw [← hV] at r0 r1 r2 r3 r4 r5 r6 r7 hbl ⊢
      refine bodyPost_ret (by simp [results, Tryd.results15, go_sem, r0, r1, r2, r3, r4, r5, r6, r7]; try rfl) rfl ?_
      have he : errOf b = some 3 := by
        unfold errOf
        rw [if_neg (by rw [HB.out]; omega), if_neg (by rw [HSG.out]; decide), if_pos (by rw [HM.out]; omega)]
      unfold Rv toldV
      rw [he]
      exact ⟨rfl, hbl⟩
    · have j1 : decide ((256 : Int) < (m : Int)) = false := decide_eq_false (by omega)
      by_cases hn8 : n < 8192
      · have j2 : decide ((n : Int) < 8192) = true := decide_eq_true (by omega)
        go_wp2_with (first | (go_at_call 32; (with_reducible refine (trim32 gs o 8 c (b.take 8) _ (by rw [List.length_take, HB.out]; omega) (by decide) (by omega) L8.out).mono ?_); rintro e w3 ⟨rfl, hb3⟩; have O3 := Lib.hid ((own2_start A B C D w).later hb3); clear hb3) | (go_at_call 33; (with_reducible refine (le_lit gs o n c b _ 80 2 80 2 rfl rfl HB.out (by omega) hnc (by decide) (by omega) HI.out (HL.out.later O3.out.bel)).mono ?_); rw [HM.out]; rintro e w4 ⟨rfl, hd4⟩; have O4 := Lib.hid (O3.out.later (drawn_below hd4)); obtain ⟨⟨e0, e1, e2, e3, e4, e5, e6, e7⟩, ⟨f0, f1, f2, f3, f4, f5, f6, f7⟩⟩ := eight O4.out.vr; obtain ⟨d0, d1, d2, d3⟩ := O4.out.four; clear hd4))
        obtain ⟨V, hV⟩ : ∃ V, V = ((((((((w4.setCell ⟨w.heap.size + 1, 0, none⟩ (.string ⟨#[]⟩)).setCell ⟨w.heap.size + 1, 1, none⟩ (.string ⟨#[]⟩)).setCell ⟨w.heap.size + 1, 2, none⟩ (.string ⟨#[]⟩)).setCell ⟨w.heap.size + 1, 3, none⟩ (.int .u32 0)).setCell ⟨w.heap.size + 1, 4, none⟩ (.int .u32 0)).setCell ⟨w.heap.size + 1, 5, none⟩ (.int .u64 0)).setCell ⟨w.heap.size + 1, 6, none⟩ (.int .u32 0)).setCell ⟨w.heap.size + 1, 7, none⟩ (.int .i64 0)) := ⟨_, rfl⟩
        obtain ⟨r0, r1, r2, r3, r4, r5, r6, r7⟩ := eightV (store8 O4.out.vr (.string ⟨#[]⟩) (.string ⟨#[]⟩) (.string ⟨#[]⟩) (.int .u32 0) (.int .u32 0) (.int .u64 0) (.int .u32 0) (.int .i64 0))
        have hbl := below8 O4.out.bel (Nat.le_succ _) (.string ⟨#[]⟩) (.string ⟨#[]⟩) (.string ⟨#[]⟩) (.int .u32 0) (.int .u32 0) (.int .u64 0) (.int .u32 0) (.int .i64 0)
        rw [← hV] at r0 r1 r2 r3 r4 r5 r6 r7 hbl ⊢
        refine bodyPost_ret (by simp [results, Tryd.results15, go_sem, r0, r1, r2, r3, r4, r5, r6, r7]; try rfl) rfl ?_
        have he : errOf b = some 1 := by
          unfold errOf
          rw [if_neg (by rw [HB.out]; omega), if_neg (by rw [HSG.out]; decide), if_neg (by rw [HM.out]; omega), if_pos (by rw [HB.out]; omega)]
        unfold Rv toldV
        rw [he]
        exact ⟨rfl, hbl⟩
      · have j2 : decide ((n : Int) < 8192) = false := decide_eq_false (by omega)
        have k1 : IntKind.u64.wrap (88 + (m : Int)) = 88 + m := w64 _ (by omega) (by omega)
        have k2 : (88 ≤ 88 + (m : Int)) = True := eq_true (by omega)
        have k3 : (88 + (m : Int) ≤ (c : Int)) = True := eq_true (by omega)
        have k4 : (8192 ≤ (c : Int)) = True := eq_true (by omega)
        have k5 : (64 ≤ (c : Int)) = True := eq_true (by omega)
        have k6 : (c = 88) = False := eq_false (by omega)
        have k7 : (c = 4096) = False := eq_false (by omega)
        have k8 : (c = 32) = False := eq_false (by omega)
        have k9 : (0 ≤ (m : Int)) = True := eq_true (by omega)
        have k10 : 88 + m - 88 = m := by omega
        go_wp2_with (first | (go_at_call 32; (with_reducible refine (trim32 gs o 8 c (b.take 8) _ (by rw [List.length_take, HB.out]; omega) (by decide) (by omega) L8.out).mono ?_); rintro e w3 ⟨rfl, hb3⟩; have O3 := Lib.hid ((own2_start A B C D w).later hb3); clear hb3) | (go_at_call 33; (with_reducible refine (le_lit gs o n c b _ 80 2 80 2 rfl rfl HB.out (by omega) hnc (by decide) (by omega) HI.out (HL.out.later O3.out.bel)).mono ?_); rw [HM.out]; rintro e w4 ⟨rfl, hd4⟩; have O4 := Lib.hid (O3.out.later (drawn_below hd4)); obtain ⟨⟨e0, e1, e2, e3, e4, e5, e6, e7⟩, ⟨f0, f1, f2, f3, f4, f5, f6, f7⟩⟩ := eight O4.out.vr; obtain ⟨d0, d1, d2, d3⟩ := O4.out.four; clear hd4))
        rw [k10]
        obtain ⟨s, hs⟩ : ∃ s, s = saltOf b := ⟨_, rfl⟩
        obtain ⟨b2, hb2⟩ : ∃ b2, b2 = (b.drop 4096).take 4096 := ⟨_, rfl⟩
        have hsl : s.length = m := by rw [hs]; unfold saltOf; rw [List.length_take, List.length_drop, HB.out, HM.out]; omega
        have hbl2 : b2.length = 4096 := by rw [hb2, List.length_take, List.length_drop, HB.out]; omega
        have LD := Lib.hid (HL.out.later O4.out.bel)
        have hLs : Lies gs (o + 88) s w4 := by
          have := LD.out.part 88 m
          rw [hs]; unfold saltOf; rw [HM.out]; exact this
        have hLb : Lies gs (o + 4096) b2 w4 := by
          have := LD.out.part 4096 4096
          rw [hb2]; exact this
        have LA := Lib.hid (show Lies gs (o + 32) ((b.drop 32).take 32) w4 from by
          have := LD.out.part 32 32
          exact this)
        have SL := Lib.hid hsl
        have BL := Lib.hid hbl2
        have IS := Lib.hid (show InBytes s from by rw [hs]; exact (HI.out.drop 88).take _)
        have IB := Lib.hid (show InBytes b2 from by rw [hb2]; exact (HI.out.drop 4096).take _)
        have LS := Lib.hid hLs
        have LB := Lib.hid hLb
        have SE := Lib.hid hs
        have BE := Lib.hid hb2
        clear hsl hbl2 hLs hLb hs hb2
        obtain ⟨root, hroot⟩ : ∃ r, r = digTo [A, B, C, D] (s ++ b2) 4 := ⟨_, rfl⟩
        have RO := Lib.hid hroot
        have RL := Lib.hid (show root.length = 32 from by rw [hroot]; exact digTo_len _ _ _ (by simp))
        have RI := Lib.hid (show InBytes root from by rw [hroot]; exact digTo_in _ _ _)
        have FL := Lib.hid (show [s, b2].flatten = s ++ b2 from by simp)
        clear hroot
        have w1 : IntKind.u32.wrap (leF b 64 4) = leF b 64 4 := w32 _ (leF_range HI.out 4 64).1 (by have := (leF_range HI.out 4 64).2; omega)
        have w2 : IntKind.u32.wrap (leF b 8 4) = leF b 8 4 := w32 _ (leF_range HI.out 4 8).1 (by have := (leF_range HI.out 4 8).2; omega)
        go_region_held3 (fun w' => w'.cell? ⟨w.heap.size, 0, none⟩ = some (.int .u64 A) ∧ w'.cell? ⟨w.heap.size, 1, none⟩ = some (.int .u64 B) ∧ w'.cell? ⟨w.heap.size, 2, none⟩ = some (.int .u64 C) ∧ w'.cell? ⟨w.heap.size, 3, none⟩ = some (.int .u64 D)) (go_keep)
          (first | (go_at_call 35; (with_reducible refine (dig35 w4.heap.size 2 2 [s, b2] (fun k => if k = 0 then (gs, o + 88, c - 88) else (gs, o + 4096, c - 4096)) A B C D _ rfl (by decide) (parts_two gs (o + 88) m (c - 88) gs (o + 4096) 4096 (c - 4096) s b2 w4 SL.out BL.out (by omega) (by decide) IS.out IB.out LS.out LB.out)).mono ?_); rintro e w5 ⟨v5, rfl, hr⟩; rw [FL.out, ← RO.out] at hr; obtain ⟨g5, c5, e5, hc5, hcell5⟩ := row_at hr (by rw [RL.out]; decide); rw [RL.out] at e5 hc5; subst e5; have B5 := Lib.hid (below_then (below_drew (below_alloc (Below.refl w4.heap.size w4) _)) (by simp) hr.2); have O5 := Lib.hid (O4.out.later B5.out); have LR := Lib.hid (show Lies g5 0 root w5 from fun k x hk => by rw [Nat.zero_add]; exact hcell5 k x hk); clear hr hcell5; obtain ⟨p50, p51, p52, p53⟩ := O5.out.four) | (go_at_call 34; (with_reducible refine (hexS_at g5 0 32 c5 root _ RL.out (by decide) hc5 RI.out LR.out).mono ?_); rintro e w6 ⟨rfl, hd6⟩; have B6 := Lib.hid (below_then B5.out B5.out.size hd6); have O6 := Lib.hid (O4.out.later B6.out); clear hd6; obtain ⟨p60, p61, p62, p63⟩ := O6.out.four) | (go_at_call 34; (with_reducible refine (hexS_at gs (o + 88) m (c - 88) s _ SL.out (by omega) (by omega) IS.out (LS.out.later B6.out)).mono ?_); rintro e w7 ⟨rfl, hd7⟩; have B7 := Lib.hid (below_then B6.out B6.out.size hd7); have O7 := Lib.hid (O4.out.later B7.out); clear hd7; obtain ⟨p70, p71, p72, p73⟩ := O7.out.four) | (go_at_call 32; (with_reducible refine (trim32 gs (o + 32) 32 (c - 32) ((b.drop 32).take 32) _ (by rw [List.length_take, List.length_drop, HB.out]; omega) (by decide) (by omega) (LA.out.later B7.out)).mono ?_); rintro e w8 ⟨rfl, hd8⟩; have B8 := Lib.hid (below_then B7.out B7.out.size hd8); have O8 := Lib.hid (O4.out.later B8.out); clear hd8; obtain ⟨p80, p81, p82, p83⟩ := O8.out.four) | (go_at_call 33; (with_reducible refine (le_lit gs o n c b _ 64 4 64 4 rfl rfl HB.out (by omega) hnc (by decide) (by omega) HI.out (LD.out.later B8.out)).mono ?_); rintro e w9 ⟨rfl, hd9⟩; have B9 := Lib.hid (below_then B8.out B8.out.size (drawn_below hd9)); have O9 := Lib.hid (O4.out.later B9.out); clear hd9; obtain ⟨p90, p91, p92, p93⟩ := O9.out.four) | (go_at_call 33; (with_reducible refine (le_lit gs o n c b _ 72 8 72 8 rfl rfl HB.out (by omega) hnc (by decide) (by omega) HI.out (LD.out.later B9.out)).mono ?_); rintro e w10 ⟨rfl, hd10⟩; have B10 := Lib.hid (below_then B9.out B9.out.size (drawn_below hd10)); have O10 := Lib.hid (O4.out.later B10.out); clear hd10; obtain ⟨p100, p101, p102, p103⟩ := O10.out.four) | (go_at_call 33; (with_reducible refine (le_lit gs o n c b _ 8 4 8 4 rfl rfl HB.out (by omega) hnc (by decide) (by omega) HI.out (LD.out.later B10.out)).mono ?_); rintro e w11 ⟨rfl, hd11⟩; have B11 := Lib.hid (below_then B10.out B10.out.size (drawn_below hd11)); have O11 := Lib.hid (O4.out.later B11.out); clear hd11; obtain ⟨p110, p111, p112, p113⟩ := O11.out.four) | (go_at_call 33; (with_reducible refine (le_lit gs o n c b _ 72 8 72 8 rfl rfl HB.out (by omega) hnc (by decide) (by omega) HI.out (LD.out.later B11.out)).mono ?_); rintro e w12 ⟨rfl, hd12⟩; have B12 := Lib.hid (below_then B11.out B11.out.size (drawn_below hd12)); have O12 := Lib.hid (O4.out.later B12.out); clear hd12; obtain ⟨p120, p121, p122, p123⟩ := O12.out.four; obtain ⟨⟨e0, e1, e2, e3, e4, e5, e6, e7⟩, ⟨f0, f1, f2, f3, f4, f5, f6, f7⟩⟩ := eight O12.out.vr))
        go_wp2
        obtain ⟨V, hV⟩ : ∃ V, V = ((((((((w12.setCell ⟨w.heap.size + 1, 0, none⟩ (.string (strOfNums (hexL root)))).setCell ⟨w.heap.size + 1, 1, none⟩ (.string (strOfNums (hexL s)))).setCell ⟨w.heap.size + 1, 2, none⟩ (.string (strOfNums (trimF ((b.drop 32).take 32))))).setCell ⟨w.heap.size + 1, 3, none⟩ (.int .u32 (leF b 64 4))).setCell ⟨w.heap.size + 1, 4, none⟩ (.int .u32 4096)).setCell ⟨w.heap.size + 1, 5, none⟩ (.int .u64 (leF b 72 8))).setCell ⟨w.heap.size + 1, 6, none⟩ (.int .u32 (leF b 8 4))).setCell ⟨w.heap.size + 1, 7, none⟩ (.int .i64 (IntKind.i64.wrap (leF b 72 8)))) := ⟨_, rfl⟩
        obtain ⟨r0, r1, r2, r3, r4, r5, r6, r7⟩ := eightV (store8 O12.out.vr (.string (strOfNums (hexL root))) (.string (strOfNums (hexL s))) (.string (strOfNums (trimF ((b.drop 32).take 32)))) (.int .u32 (leF b 64 4)) (.int .u32 4096) (.int .u64 (leF b 72 8)) (.int .u32 (leF b 8 4)) (.int .i64 (IntKind.i64.wrap (leF b 72 8))))
        have hbl := below8 O12.out.bel (Nat.le_succ _) (.string (strOfNums (hexL root))) (.string (strOfNums (hexL s))) (.string (strOfNums (trimF ((b.drop 32).take 32)))) (.int .u32 (leF b 64 4)) (.int .u32 4096) (.int .u64 (leF b 72 8)) (.int .u32 (leF b 8 4)) (.int .i64 (IntKind.i64.wrap (leF b 72 8)))
        rw [← hV] at r0 r1 r2 r3 r4 r5 r6 r7 hbl ⊢
        refine bodyPost_ret (by simp [results, Tryd.results15, go_sem, r0, r1, r2, r3, r4, r5, r6, r7]; try rfl) rfl ?_
        have he : errOf b = none := by
          unfold errOf
          rw [if_neg (by rw [HB.out]; omega), if_neg (by rw [HSG.out]; decide), if_neg (by rw [HM.out]; omega), if_neg (by rw [HB.out]; omega)]
        unfold Rv toldV
        rw [he]
        unfold veri hexS rootOf algOf
        rw [← SE.out, ← BE.out, ← RO.out]
        exact ⟨rfl, hbl⟩
end Go.Proofs.YtckjbgneblfceaaDoor.Da
