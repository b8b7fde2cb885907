/- The law of reading a device of hashes: the walk. -/
import Derived.Test.YtckjbgneblfceaaDoorDg
namespace Go.Proofs.YtckjbgneblfceaaDoor.Da
open Go.RowKit Go.Maps Go.Proofs.YtckjbgneblfceaaDoorW.PrintWords Go.Proofs.YtckjbgneblfceaaDoorW.PrintLast Go.Proofs.YtckjbgneblfceaaDoorW.PrintMore
open Go.Proofs.YtckjbgneblfceaaDoor.PFnVerityRead Go.Proofs.YtckjbgneblfceaaDoor.Fa Go.Proofs.YtckjbgneblfceaaDoor.Fm
set_option linter.unusedVariables false
set_option linter.unusedSimpArgs false
structure Own1 (A B C D : Int) (w W : World) : Prop where
  dg : W.heap[w.heap.size]? = some (.cells (digC A B C D) 32 (0, 0))
  bel : Below w.heap.size w W
theorem Own1.later {A B C D : Int} {w W V : World} (h : Own1 A B C D w W) (hb : Below W.heap.size W V) : Own1 A B C D w V :=
  ⟨by rw [hb.block _ (blk_lt h.dg)]; exact h.dg, below_then h.bel h.bel.size hb⟩
theorem own1_start (A B C D : Int) (w : World) : Own1 A B C D w (w.alloc (.cells (digC A B C D) 32)) :=
  ⟨blk_new _ _, below_alloc (Below.refl _ _) _⟩
theorem Own1.four {A B C D : Int} {w W : World} (h : Own1 A B C D w W) : W.cell? ⟨w.heap.size, 0, none⟩ = some (.int .u64 A) ∧ W.cell? ⟨w.heap.size, 1, none⟩ = some (.int .u64 B) ∧ W.cell? ⟨w.heap.size, 2, none⟩ = some (.int .u64 C) ∧ W.cell? ⟨w.heap.size, 3, none⟩ = some (.int .u64 D) :=
  ⟨(cell_blk h.dg 0 _ rfl).1, (cell_blk h.dg 1 _ rfl).1, (cell_blk h.dg 2 _ rfl).1, (cell_blk h.dg 3 _ rfl).1⟩
theorem dup_law (b : List Int) (h : b.length ≤ 1228800) : laws_dup.f b = some b := by
  unfold laws_dup.f
  simp
  omega
theorem told_none {A B C D : Int} {b : List Int} (h : errOf b = none) : toldV A B C D b = veri A B C D b := by unfold toldV; rw [h]
theorem told_some {A B C D : Int} {b : List Int} {k : Nat} (h : errOf b = some k) : toldV A B C D b = zeroV := by unfold toldV; rw [h]
theorem code_some (k : Nat) : codeOf (some k) ≠ 0 := by
  match k with
  | 0 => decide
  | 1 => decide
  | 2 => decide
  | k + 3 => intro e; cases e
theorem lies_of_C {A : Option Addr} {n : Nat} {b : List Int} {w : World} (hC : (Kd.int .u8).C w A n b) (hn : 0 < n) : ∃ g o, A = some ⟨g, o, none⟩ ∧ Lies g o b w := by
  have hl : b.length = n := Kd.C_len hC
  have hrd := Kd.reads_of_C (d := (0 : Int)) hC
  obtain ⟨ad, hA, hcell⟩ := hrd.2.2 hn
  subst hA
  obtain ⟨g, o, sp⟩ := ad
  have h0 := hcell 0 (by omega)
  rw [show (⟨g, o, sp⟩ : Addr).add 0 = ⟨g, o, sp⟩ from rfl] at h0
  have hsp : sp = none := by
    cases sp with
    | none => rfl
    | some q =>
      exfalso
      unfold World.cell? at h0
      revert h0
      split <;> simp
  subst hsp
  refine ⟨g, o, rfl, fun k x hk => ?_⟩
  have hlt := (List.getElem?_eq_some_iff.1 hk).1
  have h1 := hcell k (by omega)
  rw [List.getD_eq_getElem?_getD, hk] at h1
  have h2 : (⟨g, o, none⟩ : Addr).add k = ⟨g, o + k, none⟩ := by
    unfold Addr.add
    by_cases hk0 : k = 0
    · subst hk0; rfl
    · rw [if_neg hk0]
  rw [h2] at h1; exact h1
theorem any15 {A0 : Option Addr} {n c : Nat} {b : List Int} {A B C D : Int} {w : World} (hl : b.length = n) (hb : n ≤ 1228800) (hc : n ≤ c) (hi : InBytes b) (hC : (Kd.int .u8).C w A0 n b) :
    Calls Tryd.prog 15 #[.agg #[.int .u64 A, .int .u64 B, .int .u64 C, .int .u64 D], .slice A0 n c] w (Rv A B C D b w) := by
  by_cases h : n < 4096
  · exact short15 A0 n c A B C D w b hl h
  · obtain ⟨g, o, rfl, hL⟩ := lies_of_C hC (by omega)
    exact told15 g o n c b A B C D w hl (by omega) hb hc hi hL
theorem fair12 {A0 : Option Addr} {n c : Nat} {b : List Int} {w : World} (hl : b.length = n) (hc : n ≤ c) (hC : (Kd.int .u8).C w A0 n b) :
    Calls Tryd.prog 12 #[.slice A0 n c] w fun e w' => e = .returned (.bool (decide (n ≤ 1228800))) ∧ Drawn0 w w' := by
  subst hl
  refine laws_deviceFair.calls A0 c b _ w hC hc ?_
  unfold laws_deviceFair.f
  congr 1
  rw [decide_eq_decide]
  omega
theorem dup14 {A0 : Option Addr} {n c : Nat} {b : List Int} {w : World} (hl : b.length = n) (hb : n ≤ 1228800) (hc : n ≤ c) (hC : (Kd.int .u8).C w A0 n b) :
    Calls Tryd.prog 14 #[.slice A0 n c] w fun e w' => ∃ A1 c1, e = .returned (.slice A1 n c1) ∧ n ≤ c1 ∧ (Kd.int .u8).C w' A1 n b ∧ Below w.heap.size w w' := by
  subst hl
  refine (laws_dup.calls A0 c b b w hC hc (dup_law b hb)).mono ?_
  rintro e w' ⟨v, rfl, hR, hB⟩
  obtain ⟨A1, c1, rfl, h1, h2⟩ := Kd.R_reads hR
  exact ⟨A1, c1, rfl, h1, h2, hB⟩
theorem any13 {A0 : Option Addr} {n c : Nat} {b : List Int} {A B C D : Int} {w : World} {a : Nat → Addr} (hE : Errs a w) (hl : b.length = n) (hb : n ≤ 1228800) (hc : n ≤ c) (hi : InBytes b) (hC : (Kd.int .u8).C w A0 n b) :
    Calls Tryd.prog 13 #[.agg #[.int .u64 A, .int .u64 B, .int .u64 C, .int .u64 D], .slice A0 n c] w (Rv A B C D b w) := read13 A0 n c b A B C D w a hE hl hb hc hi hC
def zobj : Obj := .cells zeroC 37
theorem made37 (W V : World) (hb : Below (W.heap.size + 1) (W.alloc zobj) V) : V.heap[W.heap.size]? = some (.cells zeroC 37 (0, 0)) := by
  rw [hb.block _ (by omega)]
  exact blk_new _ _
theorem sizeA (W : World) : (W.alloc zobj).heap.size = W.heap.size + 1 := by simp
theorem still37 {W V : World} {g : Nat} (h : W.heap[g]? = some (.cells zeroC 37 (0, 0))) (hb : Below W.heap.size W V) : V.heap[g]? = some (.cells zeroC 37 (0, 0)) := by
  rw [hb.block _ (blk_lt h)]
  exact h
theorem Own1.later2 {A B C D : Int} {w w2 W5 w6 : World} (h : Own1 A B C D w w2) (h5 : Below w2.heap.size w2 W5) (h6 : Below W5.heap.size W5 w6) : Own1 A B C D w w6 := h.later (below_then h5 h5.size h6)
theorem kept37 {W V : World} {g : Nat} {cs : Array Value} (h : W.heap[g]? = some (.cells cs 37 (0, 0))) (hb : Below W.heap.size W V) : V.heap[g]? = some (.cells cs 37 (0, 0)) := by
  rw [hb.block _ (blk_lt h)]
  exact h
set_option maxHeartbeats 8000000 in
set_option maxRecDepth 100000 in
theorem law4 (A0 : Option Addr) (n c : Nat) (b : List Int) (A B C D : Int) (w : World) (a : Nat → Addr) (hE : Errs a w) (hl : b.length = n) (hc : n ≤ c) (hib : InBytes b) (hC : (Kd.int .u8).C w A0 n b) :
    Calls Tryd.prog 4 #[.agg #[.int .u64 A, .int .u64 B, .int .u64 C, .int .u64 D], .slice A0 n c] w fun e w' => e = .returned (.bool true) ∧ Below w.heap.size w w' := by
  have HI := Lib.hid hib
  have HE := Lib.hid hE
  have CC := Lib.hid (Kd.C_below hC (own1_start A B C D w).bel)
  have O1 := Lib.hid (own1_start A B C D w)
  unfold digC at CC O1
  have HB := Lib.hid hl
  clear hib hE hC hl
  go_enter Tryd.func4, Tryd.ntmps4
  by_cases h1 : n ≤ 2147483647
  · have j1 : decide ((2147483647 : Int) < (n : Int)) = false := decide_eq_false (by omega)
    by_cases h2 : n ≤ 1228800
    · have j2 : decide (n ≤ 1228800) = true := decide_eq_true h2
      rcases hv : errOf b with _ | k
      · have HV := Lib.hid hv
        obtain ⟨s1, e1⟩ : ∃ s, s = hexS (rootOf A B C D b) := ⟨_, rfl⟩
        obtain ⟨s2, e2⟩ : ∃ s, s = hexS (saltOf b) := ⟨_, rfl⟩
        obtain ⟨s3, e3⟩ : ∃ s, s = algOf b := ⟨_, rfl⟩
        obtain ⟨d1, e4⟩ : ∃ s, s = leF b 64 4 := ⟨_, rfl⟩
        obtain ⟨d2, e5⟩ : ∃ s, s = leF b 72 8 := ⟨_, rfl⟩
        obtain ⟨d3, e6⟩ : ∃ s, s = leF b 8 4 := ⟨_, rfl⟩
        obtain ⟨d4, e7⟩ : ∃ s, s = IntKind.i64.wrap d2 := ⟨_, rfl⟩
        have TV := Lib.hid (show toldV A B C D b = .agg #[.string s1, .string s2, .string s3, .int .u32 d1, .int .u32 4096, .int .u64 d2, .int .u32 d3, .int .i64 d4] from by rw [told_none HV.out, e7, e1, e2, e3, e4, e5, e6]; rfl)
        have HX := Lib.hid (show codeOf none = 0 from rfl)
        clear hv e1 e2 e3 e4 e5 e6 e7
        go_wp2_with (first | (go_at_call 12; (with_reducible refine (fair12 HB.out hc CC.out).mono ?_); rw [j2]; rintro e w2 ⟨rfl, hd⟩; have O2 := Lib.hid (O1.out.later (drawn_below hd)); have C2 := Lib.hid (Kd.C_below CC.out (drawn_below hd)); clear hd; have n2 : (w2.heap.size = w.heap.size) = False := eq_false (by have := blk_lt O2.out.dg; omega); have n2' : (w.heap.size = w2.heap.size) = False := eq_false (by have := blk_lt O2.out.dg; omega); obtain ⟨p20, p21, p22, p23⟩ := O2.out.four))
        go_region_held3 (fun w' => w'.cell? ⟨w.heap.size, 0, none⟩ = some (.int .u64 A) ∧ w'.cell? ⟨w.heap.size, 1, none⟩ = some (.int .u64 B) ∧ w'.cell? ⟨w.heap.size, 2, none⟩ = some (.int .u64 C) ∧ w'.cell? ⟨w.heap.size, 3, none⟩ = some (.int .u64 D)) (go_keep)
          (first | (go_at_call 14; (with_reducible refine (dup14 (w := w2.drew) HB.out h2 hc (Kd.C_drew C2.out)).mono ?_); rintro e w3 ⟨A1, c1, rfl, hc1, hC3, hb3⟩; have C3 := Lib.hid hC3; have B3 := Lib.hid (below_then (below_drew (Below.refl w2.heap.size w2)) (by simp) hb3); have O3 := Lib.hid (O2.out.later B3.out); clear hC3 hb3; have n3 : (w3.heap.size = w.heap.size) = False := eq_false (by have := blk_lt O3.out.dg; omega); have n3' : (w.heap.size = w3.heap.size) = False := eq_false (by have := blk_lt O3.out.dg; omega); obtain ⟨p30, p31, p32, p33⟩ := O3.out.four) | (go_at_call 14; have hca := Kd.C_alloc (Kd.C_drew C2.out) (.cells #[.string ⟨#[]⟩, .string ⟨#[]⟩, .string ⟨#[]⟩, .int .u32 0, .int .u32 0, .int .u64 0, .int .u32 0, .int .i64 0] 37); refine (dup14 (w := w2.drew.alloc (.cells #[.string ⟨#[]⟩, .string ⟨#[]⟩, .string ⟨#[]⟩, .int .u32 0, .int .u32 0, .int .u64 0, .int .u32 0, .int .i64 0] 37)) HB.out h2 hc hca).mono ?_; clear hca; rintro e w3 ⟨A1, c1, rfl, hc1, hC3, hb3⟩; have C3 := Lib.hid hC3; have G3 := Lib.hid (show w3.heap[w2.heap.size]? = some (.cells zeroC 37 (0, 0)) from made37 w2.drew w3 (by rw [← sizeA]; exact hb3)); have B3 := Lib.hid (below_then (below_alloc (below_drew (Below.refl w2.heap.size w2)) (.cells #[.string ⟨#[]⟩, .string ⟨#[]⟩, .string ⟨#[]⟩, .int .u32 0, .int .u32 0, .int .u64 0, .int .u32 0, .int .i64 0] 37)) (by simp) hb3); have O3 := Lib.hid (O2.out.later B3.out); clear hC3 hb3; have n3 : (w3.heap.size = w.heap.size) = False := eq_false (by have := blk_lt O3.out.dg; omega); have n3' : (w.heap.size = w3.heap.size) = False := eq_false (by have := blk_lt O3.out.dg; omega); obtain ⟨p30, p31, p32, p33⟩ := O3.out.four) | (go_at_call 13; (with_reducible refine (any13 (w := w3) (HE.out.later (O3.out.later (Below.refl _ _)).bel) HB.out h2 hc1 HI.out (C3.out)).mono ?_); unfold Rv; rw [HV.out, TV.out, HX.out]; rintro e w4 ⟨rfl, hb4⟩; have G4 := Lib.hid (still37 G3.out hb4); obtain ⟨⟨e0, e1, e2, e3, e4, e5, e6, e7⟩, ⟨f0, f1, f2, f3, f4, f5, f6, f7⟩⟩ := eight G4.out; have B4 := Lib.hid (below_then B3.out B3.out.size (hb4)); have O4 := Lib.hid (O2.out.later B4.out); clear hb4; obtain ⟨p40, p41, p42, p43⟩ := O4.out.four) | (go_at_call 13; have hca := Kd.C_alloc C3.out (.cells #[.string ⟨#[]⟩, .string ⟨#[]⟩, .string ⟨#[]⟩, .int .u32 0, .int .u32 0, .int .u64 0, .int .u32 0, .int .i64 0] 37); refine (any13 (w := w3.alloc (.cells #[.string ⟨#[]⟩, .string ⟨#[]⟩, .string ⟨#[]⟩, .int .u32 0, .int .u32 0, .int .u64 0, .int .u32 0, .int .i64 0] 37)) (HE.out.later (O3.out.later (below_alloc (Below.refl _ _) (.cells #[.string ⟨#[]⟩, .string ⟨#[]⟩, .string ⟨#[]⟩, .int .u32 0, .int .u32 0, .int .u64 0, .int .u32 0, .int .i64 0] 37))).bel) HB.out h2 hc1 HI.out hca).mono ?_; clear hca; unfold Rv; rw [HV.out, TV.out, HX.out]; rintro e w4 ⟨rfl, hb4⟩; have G4 := Lib.hid (made37 w3 w4 (by rw [← sizeA]; exact hb4)); obtain ⟨⟨e0, e1, e2, e3, e4, e5, e6, e7⟩, ⟨f0, f1, f2, f3, f4, f5, f6, f7⟩⟩ := eight G4.out; have B4 := Lib.hid (below_then B3.out B3.out.size (below_then (below_alloc (Below.refl w3.heap.size w3) (.cells #[.string ⟨#[]⟩, .string ⟨#[]⟩, .string ⟨#[]⟩, .int .u32 0, .int .u32 0, .int .u64 0, .int .u32 0, .int .i64 0] 37)) (by simp) hb4)); have O4 := Lib.hid (O2.out.later B4.out); clear hb4; obtain ⟨p40, p41, p42, p43⟩ := O4.out.four) | (go_at_call 13; (with_reducible refine (any13 (w := w3) (HE.out.later (O3.out.later (Below.refl _ _)).bel) HB.out h2 hc1 HI.out (C3.out)).mono ?_); unfold Rv; rw [HV.out, TV.out, HX.out]; rintro e w4 ⟨rfl, hb4⟩; have B4 := Lib.hid (below_then B3.out B3.out.size (hb4)); have O4 := Lib.hid (O2.out.later B4.out); clear hb4; obtain ⟨p40, p41, p42, p43⟩ := O4.out.four))
        all_goals (go_wp2_with (first | (go_at_call 15; refine (any15 HB.out h2 hc HI.out (by first | with_reducible exact Kd.C_below C2.out (below_alloc B4.out _) | with_reducible exact Kd.C_below C2.out (below8 B4.out B3.out.size _ _ _ _ _ _ _ _) | with_reducible exact Kd.C_below C2.out (below8 B4.out (Nat.le_refl _) _ _ _ _ _ _ _ _))).mono ?_; unfold Rv; rw [HV.out, TV.out, HX.out]; rintro e w6 ⟨rfl, hb6⟩; (first | (have hx : Below (w4.alloc (.cells #[.string s1, .string s2, .string s3, .int .u32 d1, .int .u32 4096, .int .u64 d2, .int .u32 d3, .int .i64 d4] 37)).heap.size (w4.alloc (.cells #[.string s1, .string s2, .string s3, .int .u32 d1, .int .u32 4096, .int .u64 d2, .int .u32 d3, .int .i64 d4] 37)) w6 := (by with_reducible exact hb6); have G6 := kept37 (g := w4.heap.size) (cs := #[.string s1, .string s2, .string s3, .int .u32 d1, .int .u32 4096, .int .u64 d2, .int .u32 d3, .int .i64 d4]) (blk_new w4 (.cells #[.string s1, .string s2, .string s3, .int .u32 d1, .int .u32 4096, .int .u64 d2, .int .u32 d3, .int .i64 d4] 37)) hx; clear hx; have hlt := blk_lt G6; have n6 := eq_false (Nat.ne_of_lt hlt); have n6' := eq_false (Nat.ne_of_gt hlt); obtain ⟨q0, q1, q2, q3, q4, q5, q6, q7⟩ := eightV G6) | (have G6 := kept37 (store8 G4.out (.string s1) (.string s2) (.string s3) (.int .u32 d1) (.int .u32 4096) (.int .u64 d2) (.int .u32 d3) (.int .i64 d4)) hb6; have hlt := blk_lt G6; have n6 := eq_false (Nat.ne_of_lt hlt); have n6' := eq_false (Nat.ne_of_gt hlt); obtain ⟨q0, q1, q2, q3, q4, q5, q6, q7⟩ := eightV G6)); have O6 := Lib.hid (O2.out.later2 (by first | with_reducible exact below_alloc B4.out _ | with_reducible exact below8 B4.out B3.out.size _ _ _ _ _ _ _ _ | with_reducible exact below8 B4.out (Nat.le_refl _) _ _ _ _ _ _ _ _) hb6); clear hb6)))
        all_goals go_ret
        all_goals exact ⟨rfl, below_alloc O6.out.bel _⟩
      · have HV := Lib.hid hv
        obtain ⟨x, hx⟩ : ∃ x, x = codeOf (some k) := ⟨_, rfl⟩
        have HX := Lib.hid hx
        have j3 : (x = 0) = False := eq_false (by rw [hx]; exact code_some k)
        clear hv hx
        go_wp2_with (first | (go_at_call 12; (with_reducible refine (fair12 HB.out hc CC.out).mono ?_); rw [j2]; rintro e w2 ⟨rfl, hd⟩; have O2 := Lib.hid (O1.out.later (drawn_below hd)); have C2 := Lib.hid (Kd.C_below CC.out (drawn_below hd)); clear hd; have n2 : (w2.heap.size = w.heap.size) = False := eq_false (by have := blk_lt O2.out.dg; omega); have n2' : (w.heap.size = w2.heap.size) = False := eq_false (by have := blk_lt O2.out.dg; omega); obtain ⟨p20, p21, p22, p23⟩ := O2.out.four))
        go_region_held3 (fun w' => w'.cell? ⟨w.heap.size, 0, none⟩ = some (.int .u64 A) ∧ w'.cell? ⟨w.heap.size, 1, none⟩ = some (.int .u64 B) ∧ w'.cell? ⟨w.heap.size, 2, none⟩ = some (.int .u64 C) ∧ w'.cell? ⟨w.heap.size, 3, none⟩ = some (.int .u64 D)) (go_keep)
          (first | (go_at_call 14; (with_reducible refine (dup14 (w := w2.drew) HB.out h2 hc (Kd.C_drew C2.out)).mono ?_); rintro e w3 ⟨A1, c1, rfl, hc1, hC3, hb3⟩; have C3 := Lib.hid hC3; have B3 := Lib.hid (below_then (below_drew (Below.refl w2.heap.size w2)) (by simp) hb3); have O3 := Lib.hid (O2.out.later B3.out); clear hC3 hb3; have n3 : (w3.heap.size = w.heap.size) = False := eq_false (by have := blk_lt O3.out.dg; omega); have n3' : (w.heap.size = w3.heap.size) = False := eq_false (by have := blk_lt O3.out.dg; omega); obtain ⟨p30, p31, p32, p33⟩ := O3.out.four) | (go_at_call 14; have hca := Kd.C_alloc (Kd.C_drew C2.out) (.cells #[.string ⟨#[]⟩, .string ⟨#[]⟩, .string ⟨#[]⟩, .int .u32 0, .int .u32 0, .int .u64 0, .int .u32 0, .int .i64 0] 37); refine (dup14 (w := w2.drew.alloc (.cells #[.string ⟨#[]⟩, .string ⟨#[]⟩, .string ⟨#[]⟩, .int .u32 0, .int .u32 0, .int .u64 0, .int .u32 0, .int .i64 0] 37)) HB.out h2 hc hca).mono ?_; clear hca; rintro e w3 ⟨A1, c1, rfl, hc1, hC3, hb3⟩; have C3 := Lib.hid hC3; have G3 := Lib.hid (show w3.heap[w2.heap.size]? = some (.cells zeroC 37 (0, 0)) from made37 w2.drew w3 (by rw [← sizeA]; exact hb3)); have B3 := Lib.hid (below_then (below_alloc (below_drew (Below.refl w2.heap.size w2)) (.cells #[.string ⟨#[]⟩, .string ⟨#[]⟩, .string ⟨#[]⟩, .int .u32 0, .int .u32 0, .int .u64 0, .int .u32 0, .int .i64 0] 37)) (by simp) hb3); have O3 := Lib.hid (O2.out.later B3.out); clear hC3 hb3; have n3 : (w3.heap.size = w.heap.size) = False := eq_false (by have := blk_lt O3.out.dg; omega); have n3' : (w.heap.size = w3.heap.size) = False := eq_false (by have := blk_lt O3.out.dg; omega); obtain ⟨p30, p31, p32, p33⟩ := O3.out.four) | (go_at_call 13; (with_reducible refine (any13 (w := w3) (HE.out.later (O3.out.later (Below.refl _ _)).bel) HB.out h2 hc1 HI.out (C3.out)).mono ?_); unfold Rv; rw [HV.out, told_some HV.out, ← HX.out]; unfold zeroV zeroC; rintro e w4 ⟨rfl, hb4⟩; have G4 := Lib.hid (still37 G3.out hb4); obtain ⟨⟨e0, e1, e2, e3, e4, e5, e6, e7⟩, ⟨f0, f1, f2, f3, f4, f5, f6, f7⟩⟩ := eight G4.out; have B4 := Lib.hid (below_then B3.out B3.out.size (hb4)); have O4 := Lib.hid (O2.out.later B4.out); clear hb4; obtain ⟨p40, p41, p42, p43⟩ := O4.out.four) | (go_at_call 13; have hca := Kd.C_alloc C3.out (.cells #[.string ⟨#[]⟩, .string ⟨#[]⟩, .string ⟨#[]⟩, .int .u32 0, .int .u32 0, .int .u64 0, .int .u32 0, .int .i64 0] 37); refine (any13 (w := w3.alloc (.cells #[.string ⟨#[]⟩, .string ⟨#[]⟩, .string ⟨#[]⟩, .int .u32 0, .int .u32 0, .int .u64 0, .int .u32 0, .int .i64 0] 37)) (HE.out.later (O3.out.later (below_alloc (Below.refl _ _) (.cells #[.string ⟨#[]⟩, .string ⟨#[]⟩, .string ⟨#[]⟩, .int .u32 0, .int .u32 0, .int .u64 0, .int .u32 0, .int .i64 0] 37))).bel) HB.out h2 hc1 HI.out hca).mono ?_; clear hca; unfold Rv; rw [HV.out, told_some HV.out, ← HX.out]; unfold zeroV zeroC; rintro e w4 ⟨rfl, hb4⟩; have G4 := Lib.hid (made37 w3 w4 (by rw [← sizeA]; exact hb4)); obtain ⟨⟨e0, e1, e2, e3, e4, e5, e6, e7⟩, ⟨f0, f1, f2, f3, f4, f5, f6, f7⟩⟩ := eight G4.out; have B4 := Lib.hid (below_then B3.out B3.out.size (below_then (below_alloc (Below.refl w3.heap.size w3) (.cells #[.string ⟨#[]⟩, .string ⟨#[]⟩, .string ⟨#[]⟩, .int .u32 0, .int .u32 0, .int .u64 0, .int .u32 0, .int .i64 0] 37)) (by simp) hb4)); have O4 := Lib.hid (O2.out.later B4.out); clear hb4; obtain ⟨p40, p41, p42, p43⟩ := O4.out.four) | (go_at_call 13; (with_reducible refine (any13 (w := w3) (HE.out.later (O3.out.later (Below.refl _ _)).bel) HB.out h2 hc1 HI.out (C3.out)).mono ?_); unfold Rv; rw [HV.out, told_some HV.out, ← HX.out]; unfold zeroV zeroC; rintro e w4 ⟨rfl, hb4⟩; have B4 := Lib.hid (below_then B3.out B3.out.size (hb4)); have O4 := Lib.hid (O2.out.later B4.out); clear hb4; obtain ⟨p40, p41, p42, p43⟩ := O4.out.four))
        all_goals (go_wp2_with (first | (go_at_call 15; refine (any15 HB.out h2 hc HI.out (by first | with_reducible exact Kd.C_below C2.out (below_alloc B4.out _) | with_reducible exact Kd.C_below C2.out (below8 B4.out B3.out.size _ _ _ _ _ _ _ _) | with_reducible exact Kd.C_below C2.out (below8 B4.out (Nat.le_refl _) _ _ _ _ _ _ _ _))).mono ?_; unfold Rv; rw [HV.out, told_some HV.out, ← HX.out]; unfold zeroV zeroC; rintro e w6 ⟨rfl, hb6⟩; have O6 := Lib.hid (O2.out.later2 (by first | with_reducible exact below_alloc B4.out _ | with_reducible exact below8 B4.out B3.out.size _ _ _ _ _ _ _ _ | with_reducible exact below8 B4.out (Nat.le_refl _) _ _ _ _ _ _ _ _) hb6); clear hb6)))
        all_goals go_ret
        all_goals exact ⟨rfl, below_alloc O6.out.bel _⟩
    · have j2 : decide (n ≤ 1228800) = false := decide_eq_false h2
      go_wp2_with (first | (go_at_call 12; (with_reducible refine (fair12 HB.out hc CC.out).mono ?_); rw [j2]; rintro e w2 ⟨rfl, hd⟩; have O2 := Lib.hid (O1.out.later (drawn_below hd)); clear hd))
      go_ret
      exact ⟨rfl, O2.out.bel⟩
  · have j1 : decide ((2147483647 : Int) < (n : Int)) = true := decide_eq_true (by omega)
    go_wp2
    go_ret
    exact ⟨rfl, O1.out.bel⟩
end Go.Proofs.YtckjbgneblfceaaDoor.Da
