/- The contract of the hash tree. -/
import Derived.Test.YtbakmlhjfjjfoaaVgh
import Derived.Deep.DeepCutAuto
namespace Go.Proofs.Ytbakmlhjfjjfoaa.Vg
open Go.RowKit Go.Proofs.YtbakmlhjfjjfoaaW.PrintWords Go.Proofs.YtbakmlhjfjjfoaaW.PrintLast Go.Proofs.YtbakmlhjfjjfoaaW.PrintMore
open Go.Proofs.Ytbakmlhjfjjfoaa.PFnVerityGrows Go.Proofs.Ytbakmlhjfjjfoaa.Vh
set_option linter.unusedVariables false
set_option linter.unusedSimpArgs false
/-- A slice value that is a whole row of a block, or nil. -/
def encT : Option (Nat × Nat × Nat) → Value
  | none => .slice none 0 0
  | some t => .slice (some ⟨t.1, 0, none⟩) t.2.1 t.2.2
theorem encT_one (x : Option (Nat × Nat × Nat)) : (encT x).oneCell' = true := by cases x <;> rfl
def KT : Kd (Option (Nat × Nat × Nat)) := Kd.scalar encT encT_one
theorem info27 : (Try.prog.info? 27).map (fun i => (i.zero, i.size, i.bytes)) = some (some (.slice none 0 0), 1, 24) := by kernel_rfl
def Layers (w : World) (v : Value) (ls : List (Option (Nat × Nat × Nat))) (W : World) : Prop := Kd.R KT 27 W w.heap.size (fun _ => True) v ls ∧ Below w.heap.size w W
section
variable {ops : Array Oper} {rest : List Oper} {o : Oper} {a : Act} {Q : Exit → Act → World → Prop}
theorem make_row {w W : World} (hgd : o.guard = none) {N : Tmp} (hd : o.dst = some N) (x y : Operand) (ho : o.op = .makeSlice 27 x y) (n : Nat) (hx : a.eval x = .int .i64 n) (hy : a.eval y = .int .i64 n) (hn : n ≤ 10000000) (HB : Below w.heap.size w W)
    (h : ∀ v1 w1, Row w v1 (List.replicate n 0) w1 → Row W v1 (List.replicate n 0) w1 → wpList Try.prog ops Q rest (a.put o.dst v1) w1) : wpList Try.prog ops Q (o :: rest) a W := by
  refine Kd.R_make (Kd.int .u8) (w0 := W) W.heap.size 5 hgd hd 27 x y ho n hx hy Try.underlying27 (.int .u8 0) 1 Go.Proofs.Ytbakmlhjfjjfoaa.PFnVhdSum.info5 rfl (by decide) (by decide) 0 (ok := fun _ => True) (okp := fun _ => False) rfl (fun _ hk => hk.elim) trivial (by omega) (by simp; omega) (Below.refl _ _) (Nat.le_refl _) ?_
  intro v1 w1 h1 h2 _ _
  rw [Int.toNat_natCast] at h1
  exact h v1 w1 ⟨Kd.R_lower h1 HB.size, below_then HB HB.size h2⟩ ⟨h1, h2⟩
theorem make_layers {w W : World} (hgd : o.guard = none) {N : Tmp} (hd : o.dst = some N) (x y : Operand) (ho : o.op = .makeSlice 51 x y) (hx : a.eval x = .int .i64 0) (hy : a.eval y = .int .i64 0) (HB : Below w.heap.size w W)
    (h : ∀ v1 w1, Layers w v1 [] w1 → Below W.heap.size W w1 → wpList Try.prog ops Q rest (a.put o.dst v1) w1) : wpList Try.prog ops Q (o :: rest) a W := by
  refine Kd.R_make KT (w0 := W) W.heap.size 27 hgd hd 51 x y ho 0 hx hy Try.underlying51 (.slice none 0 0) 24 info27 rfl (by decide) (by decide) none (ok := fun _ => True) (okp := fun _ => False) rfl (fun _ hk => hk.elim) trivial (by omega) (by simp) (Below.refl _ _) (Nat.le_refl _) ?_
  intro v1 w1 h1 h2 _ _
  exact h v1 w1 ⟨Kd.R_lower h1 HB.size, below_then HB HB.size h2⟩ h2
/-- append of one level to the levels. -/
theorem app_layers {w W : World} (hgd : o.guard = none) (s x : Operand)
    (ho : o.op = .call { callee := .builtin .append, args := #[s, x], argTypes := #[51, 51] })
    (v : Value) (ls : List (Option (Nat × Nat × Nat))) (g n c : Nat) (hs : a.eval s = v) (hx : a.eval x = .slice (some ⟨W.heap.size, 0, none⟩) 1 1)
    (HO : Layers w v ls W) (hl : ls.length ≤ 1000)
    (h : ∀ v1 w1, Layers w v1 (ls ++ [some (g, n, c)]) w1 → W.grownBy w1 v.ownBlock → wpList Try.prog ops Q rest (a.put o.dst v1) w1) :
    wpList Try.prog ops Q (o :: rest) a (W.alloc (.cells #[.slice (some ⟨g, 0, none⟩) n c] 27)) := by
  refine Kd.R_append KT (w0 := w) w.heap.size hgd s x 51 27 (.slice none 0 0) 24 ho Try.underlying51 info27 rfl (by decide) (by decide) v ls (some (g, n, c)) [.slice (some ⟨g, 0, none⟩) n c] (fun _ => True) (fun _ => False) hs hx rfl (fun _ hk => hk.elim) (fun _ _ => trivial) HO.1 HO.2 HO.2.size (by omega) ?_
  intro v1 w1 h1 h2 hg _
  exact h v1 w1 ⟨h1, h2⟩ hg
end
def block (lv : List Int) (i : Nat) : List Int := (lv.drop (4096 * i)).take 4096
def hashes (A B C D : Int) (lv : List Int) (k : Nat) : List Int := (List.range k).flatMap fun i => hashOf A B C D (block lv i)
theorem hashes_succ (A B C D : Int) (lv : List Int) (k : Nat) : hashes A B C D lv (k + 1) = hashes A B C D lv k ++ hashOf A B C D (block lv k) := by simp [hashes, List.range_succ]
theorem hashes_len (A B C D : Int) (lv : List Int) (k : Nat) : (hashes A B C D lv k).length = 32 * k := by
  induction k with
  | zero => rfl
  | succ k ih => rw [hashes_succ, List.length_append, ih, hashOf_len]; omega
theorem hashes_in (A B C D : Int) (lv : List Int) (k : Nat) : InBytes (hashes A B C D lv k) := by
  induction k with
  | zero => intro x hx; cases hx
  | succ k ih => rw [hashes_succ]; exact inb_app ih (hashOf_in _ _ _ _ _)
theorem block_len (lv : List Int) (m i : Nat) (h : lv.length = 4096 * m) (hi : i < m) : (block lv i).length = 4096 := by
  unfold block; rw [List.length_take, List.length_drop, h]; omega
theorem block_in (lv : List Int) (i : Nat) (h : InBytes lv) : InBytes (block lv i) := fun x hx => h x (List.mem_of_mem_drop (List.mem_of_mem_take hx))
theorem block_lies {g o : Nat} {lv : List Int} {W : World} (h : Lies g o lv W) (i : Nat) : Lies g (o + 4096 * i) (block lv i) W := by
  intro k x hk
  unfold block at hk
  rw [List.getElem?_take] at hk
  split at hk
  · rw [List.getElem?_drop] at hk
    have := h _ _ hk
    rwa [← Nat.add_assoc] at this
  · cases hk
def padB (l : List Int) : List Int := l ++ List.replicate ((4096 - l.length % 4096) % 4096) 0
def level (A B C D : Int) (lv : List Int) (m : Nat) : List Int := padB (hashes A B C D lv m)
def lenOfV : Value → Nat
  | .slice _ n _ => n
  | _ => 0
/-- Where the loop over the levels stands. -/
def Stage (A B C D : Int) (dv : List Int) (n : Nat) (ls : List (Option (Nat × Nat × Nat))) (lv : List Int) (m : Nat) (W : World) : Prop :=
  (ls = [] ∧ lv = dv ∧ m = n) ∨ (∃ g8 c8, ls = [some (g8, 4096 * m, c8)] ∧ lv = level A B C D dv n ∧ Lies g8 0 lv W ∧ (∃ cells, W.heap[g8]? = some (.cells cells 5 (0, 0))) ∧ lv.length = 4096 * m ∧ 128 < n ∧ 1 < m ∧ m ≤ 3)
/-- The tree's end is the level of the device's blocks. -/
def TreeOf (A B C D : Int) (dv : List Int) (n : Nat) (w : World) (e : Ending) (w' : World) : Prop := ∃ v P, e = .returned (.tuple #[v, .nilIface]) ∧ Row w v (P ++ level A B C D dv n) w'
theorem level_len (A B C D : Int) (lv : List Int) (m : Nat) : (level A B C D lv m).length = 4096 * ((m + 127) / 128) := by
  unfold level padB
  rw [List.length_append, List.length_replicate, hashes_len]
  omega
theorem level_in (A B C D : Int) (lv : List Int) (m : Nat) : InBytes (level A B C D lv m) := inb_app (hashes_in _ _ _ _ _ _) (rep_in _)
theorem level_nopad (A B C D : Int) (lv : List Int) (m : Nat) (h : 32 * m % 4096 = 0) : level A B C D lv m = hashes A B C D lv m := by
  unfold level padB
  rw [hashes_len, h]
  simp
theorem level_pad (A B C D : Int) (lv : List Int) (m : Nat) (h : 32 * m % 4096 ≠ 0) : level A B C D lv m = hashes A B C D lv m ++ List.replicate (4096 - 32 * m % 4096) 0 := by
  unfold level padB
  rw [hashes_len, show (4096 - 32 * m % 4096) % 4096 = 4096 - 32 * m % 4096 by omega]
/-- The levels as they lie. -/
def Done (A B C D : Int) (dv : List Int) (n : Nat) (ls : List (Option (Nat × Nat × Nat))) (W : World) : Prop :=
  ∃ Ls : List (List Int), Ls.length = ls.length ∧ Ls.length ≤ 2 ∧ (∃ r, Ls = level A B C D dv n :: r) ∧ ∀ (k : Nat) (L : List Int), Ls[k]? = some L → 0 < L.length ∧ L.length ≤ 20000 ∧ ∃ g c, ls[k]? = some (some (g, L.length, c)) ∧ Lies g 0 L W
theorem cat_step (Ls : List (List Int)) (k : Nat) (L : List Int) (h : Ls[k]? = some L) : (Ls.drop k).reverse.flatten = (Ls.drop (k + 1)).reverse.flatten ++ L := by
  obtain ⟨hk, rfl⟩ := List.getElem?_eq_some_iff.1 h
  rw [List.drop_eq_getElem_cons hk, List.reverse_cons, List.flatten_append]
  simp
theorem cat_len (Ls : List (List Int)) (k : Nat) (h2 : Ls.length ≤ 2) (h : ∀ (k : Nat) (L : List Int), Ls[k]? = some L → L.length ≤ 20000) : (Ls.drop k).reverse.flatten.length ≤ 40000 := by
  match Ls, h2 with
  | [], _ => simp
  | [a], _ =>
    have := h 0 a rfl
    match k with
    | 0 => simp; omega
    | k + 1 => simp
  | [a, b], _ =>
    have := h 0 a rfl
    have := h 1 b rfl
    match k with
    | 0 => simp; omega
    | 1 => simp; omega
    | k + 2 => simp
theorem lies_row {w W : World} {g n c : Nat} {l : List Int} (h : Row w (.slice (some ⟨g, 0, none⟩) n c) l W) (hl : 0 < l.length) : Lies g 0 l W := by
  obtain ⟨g', c', e, _, hc⟩ := row_at h hl
  simp only [Value.slice.injEq, Option.some.injEq, Addr.mk.injEq] at e
  obtain ⟨⟨rfl, _⟩, _⟩ := e
  intro k x hk
  rw [Nat.zero_add]; exact hc k x hk
theorem row_typed {w W : World} {g n c : Nat} {l : List Int} (h : Row w (.slice (some ⟨g, 0, none⟩) n c) l W) : ∃ cells, W.heap[g]? = some (.cells cells 5 (0, 0)) := Kd.R_typed h.1 g rfl
theorem layers_ne {w W : World} {v : Value} {ls : List (Option (Nat × Nat × Nat))} (h : Layers w v ls W) {g : Nat} {cells : Array Value} (hb : W.heap[g]? = some (.cells cells 5 (0, 0))) : v.ownBlock ≠ some g := fun e => Kd.R_ne h.1 hb (by decide) e.symm
theorem lies_far {w W w1 : World} {u : Value} {ls : List (Option (Nat × Nat × Nat))} {g : Nat} {l : List Int} (hL : Layers w u ls W) (hg : W.grownBy w1 u.ownBlock) (h : Lies g 0 l W) (ht : ∃ cells, W.heap[g]? = some (.cells cells 5 (0, 0))) :
    Lies g 0 l w1 ∧ (∃ cells, w1.heap[g]? = some (.cells cells 5 (0, 0))) := by
  obtain ⟨cells, hc⟩ := ht
  have hne := layers_ne hL hc
  refine ⟨fun k x hk => ?_, cells, ?_⟩
  · have hx := h k x hk
    exact (hg.cell_far ⟨g, 0 + k, none⟩ (World.block_lt_of_cell? _ _ hx) (fun e => hne e.symm)).trans hx
  · rw [hg.block g (blk_lt hc) (fun e => hne e.symm)]; exact hc
theorem done_step {A B C D : Int} {dv lv : List Int} {n i q g9 c9 : Nat} {w W0 W9 w7 : World} {u6 : Value} {ls : List (Option (Nat × Nat × Nat))}
    (hS : Stage A B C D dv n ls lv i W0) (hL : Layers w u6 ls W9) (hg : W9.grownBy w7 u6.ownBlock) (hR : Row W0 (.slice (some ⟨g9, 0, none⟩) (4096 * q) c9) (level A B C D lv i) W9)
    (hlen : (level A B C D lv i).length = 4096 * q) (h1 : 1 ≤ q) (h3 : q ≤ 3) : Done A B C D dv n (ls ++ [some (g9, 4096 * q, c9)]) w7 := by
  obtain ⟨hl9, _⟩ := lies_far hL hg (lies_row hR (by omega)) (row_typed hR)
  rcases hS with ⟨rfl, rfl, rfl⟩ | ⟨g8, c8, rfl, rfl, hl, ht, hlen8, hn, hm1, hm3⟩
  · refine ⟨[level A B C D lv i], rfl, by simp, ⟨[], rfl⟩, fun k L hk => ?_⟩
    match k, hk with
    | 0, hk =>
      simp at hk
      subst hk
      exact ⟨by omega, by omega, g9, c9, by rw [hlen]; rfl, hl9⟩
  · obtain ⟨hl8, _⟩ := lies_far hL hg (hl.later hR.2) (by
      obtain ⟨cells, hc⟩ := ht
      exact ⟨cells, by rw [hR.2.block g8 (blk_lt hc)]; exact hc⟩)
    refine ⟨[level A B C D dv n, level A B C D (level A B C D dv n) i], rfl, by simp, ⟨_, rfl⟩, fun k L hk => ?_⟩
    match k, hk with
    | 0, hk =>
      simp at hk
      subst hk
      exact ⟨by omega, by omega, g8, c8, by rw [hlen8]; rfl, hl8⟩
    | 1, hk =>
      simp at hk
      subst hk
      exact ⟨by omega, by omega, g9, c9, by rw [hlen]; rfl, hl9⟩
theorem stage_step {A B C D : Int} {dv lv : List Int} {n i q g9 c9 : Nat} {w W0 W9 w7 : World} {u6 : Value} {ls : List (Option (Nat × Nat × Nat))}
    (hS : Stage A B C D dv n ls lv i W0) (hL : Layers w u6 ls W9) (hg : W9.grownBy w7 u6.ownBlock) (hR : Row W0 (.slice (some ⟨g9, 0, none⟩) (4096 * q) c9) (level A B C D lv i) W9)
    (hlen : (level A B C D lv i).length = 4096 * q) (h1 : 1 < q) (h3 : q ≤ 3) (hq : q = (i + 127) / 128) : Stage A B C D dv n (ls ++ [some (g9, 4096 * q, c9)]) (level A B C D lv i) q w7 ∧ Lies g9 0 (level A B C D lv i) w7 := by
  obtain ⟨hl9, ht9⟩ := lies_far hL hg (lies_row hR (by omega)) (row_typed hR)
  rcases hS with ⟨rfl, rfl, rfl⟩ | ⟨g8, c8, rfl, rfl, hl, ht, hlen8, hn, hm1, hm3⟩
  · exact ⟨.inr ⟨g9, c9, rfl, rfl, hl9, ht9, hlen, by omega, h1, h3⟩, hl9⟩
  · omega
theorem layers_form {A B C D : Int} {dv : List Int} {n : Nat} {w w7 : World} {v7 : Value} {ls : List (Option (Nat × Nat × Nat))} {t : Option (Nat × Nat × Nat)} (h : Layers w v7 (ls ++ [t]) w7) (hd : Done A B C D dv n (ls ++ [t]) w7) :
    ∃ LL gL cL, v7 = .slice (some ⟨gL, 0, none⟩) (List.length LL) cL ∧ Hid (Layers w (.slice (some ⟨gL, 0, none⟩) LL.length cL) LL w7) ∧ Hid (Done A B C D dv n LL w7) ∧ 0 < LL.length ∧ LL.length ≤ 2 := by
  obtain ⟨gL, cL, eL, _, _, _⟩ := Kd.R_form h.1 (by simp)
  subst eL
  refine ⟨_, gL, cL, rfl, Lib.hid h, Lib.hid hd, by simp, ?_⟩
  obtain ⟨Ls, e, h2, _⟩ := hd
  rw [← e]; exact h2
theorem layer_cell {w W : World} {gL cL : Nat} {LL : List (Option (Nat × Nat × Nat))} (h : Layers w (.slice (some ⟨gL, 0, none⟩) LL.length cL) LL W) (k g n c : Nat) (hk : LL[k]? = some (some (g, n, c))) : W.cell? ⟨gL, k, none⟩ = some (.slice (some ⟨g, 0, none⟩) n c) := by
  have hlt := (List.getElem?_eq_some_iff.1 hk).1
  have h1 := (Kd.R_cell (h1 := encT_one) none h.1 (k : Int) (by omega) (by omega)).1
  rw [Int.toNat_natCast, rdOf, Int.toNat_natCast, List.getD_eq_getElem?_getD, hk] at h1
  exact h1
/-- A row of the call's own is as it was behind what makes memory alone. -/
theorem Row.onward {w W W2 : World} {v : Value} {l : List Int} (h : Row w v l W) (hb : Below W.heap.size W W2) : Row w v l W2 := by
  exact ⟨Kd.R_below h.1 hb, below_then h.2 h.2.size hb⟩
set_option maxHeartbeats 4000000 in
set_option maxRecDepth 100000 in
theorem tree16 (A B C D : Int) (dv : List Int) (n g cc gd : Nat) (w : World) (hn1 : 1 ≤ n) (hn2 : n ≤ 300) (hdl : dv.length = 4096 * n) (hdi : InBytes dv) (hlies : Lies g 0 dv w) (hcc : 4096 * n ≤ cc) (hdig : Dig gd A B C D w) :
    Calls Try.prog 16 #[.slice (some ⟨g, 0, none⟩) (4096 * n : Nat) cc, .func (.func 23) #[] #[.pointer (some ⟨gd, 0, none⟩)]] w (TreeOf A B C D dv n w) := by
  have HDL := Lib.hid hdl
  have HDI := Lib.hid hdi
  have HLI := Lib.hid hlies
  have HDG := Lib.hid hdig
  clear hdl hdi hlies hdig
  generalize h4 : 4096 * n = n4
  go_enter Try.func16, Try.ntmps16
  go_wp2_with (first | ((with_reducible refine gate_dst (N := 14) rfl ?_); refine make_layers (w := w) rfl rfl _ _ rfl rfl rfl (Below.refl _ _) ?_; intro v1 w1 hly hbl; have HLY := Lib.hid hly; have HBL := Lib.hid hbl; clear hly hbl))
  go_loopw [6, 7] (fun v6 v7 wr => ∃ (ls : List (Option (Nat × Nat × Nat))) (gc oc m c : Nat) (lv : List Int), v7 = .slice (some ⟨gc, oc, none⟩) (4096 * m) c ∧ Hid (Layers w v6 ls wr) ∧ Hid (Lies gc oc lv wr) ∧ Hid (lv.length = 4096 * m) ∧ Hid (InBytes lv) ∧ 4096 * m ≤ c ∧ 1 ≤ m ∧ m ≤ 300 ∧ Hid (Stage A B C D dv n ls lv m wr)) (fun _ v7 _ => lenOfV v7)
  case atStart => exact ⟨[], g, 0, n, cc, dv, by rw [h4], HLY, Lib.hid (HLI.out.later HBL.out), HDL, HDI, by omega, hn1, hn2, Lib.hid (.inl ⟨rfl, rfl, rfl⟩)⟩
  case round =>
    obtain ⟨ls, gc, oc, m, c, lv, rfl, HLYR, HLV, HLL, HLI2, hmc, hm1, hm2, HST⟩ := hrel
    rename World => W0
    go_wp2_with (first | ((with_reducible refine gate_dst (N := 16) rfl ?_); refine make_row (w := w) rfl rfl _ _ rfl 0 rfl rfl (by omega) HLYR.out.2 ?_; intro v2 w2 hr1 hr2; have R1 := Lib.hid hr1; have R2 := Lib.hid hr2; clear hr1 hr2))
    go_loopw [7, 8] (fun v7 v8 w3 => ∃ (i : Nat) (a : Addr) (c' : Nat), v7 = .slice (some a) (4096 * (m - i)) c' ∧ i ≤ m ∧ Hid (i < m → a = ⟨gc, oc + 4096 * i, none⟩ ∧ c' = c - 4096 * i) ∧ Hid (Row W0 v8 (hashes A B C D lv i) w3)) (fun v7 _ _ => lenOfV v7)
    case atStart => exact ⟨0, ⟨gc, oc, none⟩, c, rfl, by omega, Lib.hid (fun _ => ⟨rfl, by omega⟩), R2⟩
    case round =>
      obtain ⟨i, a, c', rfl, hi, HAC, HR⟩ := hrel
      by_cases hlt : i < m
      · obtain ⟨rfl, rfl⟩ := HAC.out hlt
        have HBL2 := Lib.hid (block_len lv m i HLL.out hlt)
        have HBI := Lib.hid (block_in lv i HLI2.out)
        have HBLI := Lib.hid (block_lies (HLV.out.later HR.out.2) i)
        have HDGW := Lib.hid ((HDG.out.later HLYR.out.2).later HR.out.2)
        have HHL := Lib.hid (hashes_len A B C D lv i)
        have HHS := Lib.hid (hashes_succ A B C D lv i)
        have hp1 : ((4096 * (m - i) : Nat) : Int) ≠ 0 := by omega
        have hp2 : ¬ (((4096 * (m - i) : Nat) : Int) < 4096) := by omega
        go_wp2_with (first | ((with_reducible refine gate_dst (N := 28) rfl ?_); refine make_row (w := W0) rfl rfl _ _ rfl 32 rfl rfl (by omega) HR.out.2 ?_; intro v4 w4 hr1 hr2; have Z1 := Lib.hid hr1; have Z2 := Lib.hid hr2; clear hr1 hr2; obtain ⟨gz, cz, ez, _, hcz⟩ := row_at Z2.out (by rw [List.length_replicate]; decide); rw [List.length_replicate] at ez; subst ez; have HCZ := Lib.hid (fun k x hk => (by rw [Nat.zero_add]; exact hcz k x hk) : Lies gz 0 (List.replicate 32 0) w4); clear hcz) | (go_at_call 22; refine (hash22 A B C D _ gz cz gc (oc + 4096 * i) _ gd _ HCZ.out HBL2.out HBI.out (HBLI.out.later Z2.out.2) (HDGW.out.later Z2.out.2)).mono ?_; rintro e w5 ⟨v5, rfl, hr⟩; have R5 := Lib.hid hr; clear hr; obtain ⟨g5, c5, e5, _, hc5⟩ := row_at R5.out (by rw [hashOf_len]; decide); rw [hashOf_len] at e5; subst e5; have HC5 := Lib.hid (fun k x hk => (by rw [Nat.zero_add]; exact hc5 k x hk) : Lies g5 0 (hashOf A B C D (block lv i)) w5); clear hc5) | ((with_reducible refine gate_builtin (b := .append) (xs := #[.tmp 32, .tmp 33]) rfl ?_); at_builtin; refine app_rowL (w := W0) rfl _ _ rfl _ (hashes A B C D lv i) (hashOf A B C D (block lv i)) g5 0 32 c5 rfl rfl (hashOf_len _ _ _ _ _) (Row.onward HR.out (below_then Z2.out.2 Z2.out.2.size R5.out.2)) HC5.out (by rw [HHL.out]; omega) (by rw [hashOf_len]; decide) ?_; intro v6 w6 hr; have R6 := Lib.hid hr; clear hr))
        go_roundw
        case rel =>
          rw [show 4096 * (m - i) - 4096 = 4096 * (m - (i + 1)) by omega]
          by_cases hq : c - 4096 * i = 4096
          · rw [if_pos hq]
            exact ⟨i + 1, _, _, rfl, by omega, Lib.hid (fun h => absurd h (by omega)), Lib.hid (by rw [HHS.out]; exact R6.out)⟩
          · rw [if_neg hq]
            exact ⟨i + 1, _, _, rfl, by omega, Lib.hid (fun h => ⟨by rw [show oc + 4096 * i + 4096 = oc + 4096 * (i + 1) by omega], by omega⟩), Lib.hid (by rw [HHS.out]; exact R6.out)⟩
        case measure => simp only [lenOfV]; omega
      · obtain rfl : i = m := by omega
        have HHL := Lib.hid (hashes_len A B C D lv i)
        clear HAC
        obtain ⟨g8, c8, e8, hc8, _⟩ := row_at HR.out (by rw [HHL.out]; omega)
        rw [HHL.out] at e8
        subst e8
        rw [HHL.out] at hc8
        rw [show 4096 * (i - i) = 0 by simp]
        go_upto_if 38 with fail
        go_cut [8, 11] (fun v8 v11 wx => Hid (Row W0 v8 (level A B C D lv i) wx))
        case first =>
          by_cases hp : (32 * i) % 4096 = 0
          · have hz1 : ((32 * i : Nat) : Int) % 4096 = 0 := by omega
            go_wp2_with fail
            go_meet
            exact Lib.hid (by rw [level_nopad _ _ _ _ _ _ hp]; exact HR.out)
          · have hz1 : ((32 * i : Nat) : Int) % 4096 ≠ 0 := by omega
            obtain ⟨r, hr0⟩ : ∃ r : Nat, r = 4096 - 32 * i % 4096 := ⟨_, rfl⟩
            have hr1 : (4096 : Int) - 32 * (i : Int) % 4096 = (r : Int) := by omega
            have HP2 := Lib.hid (level_pad A B C D lv i hp)
            rw [← hr0] at HP2
            have hr2 : r ≤ 4096 := by omega
            have hr3 : 0 < r := by omega
            have hz2 : ((32 * (i : Int) % 4096) != 0) = true := by simp; omega
            clear hr0 hz1
            go_wp2_with (first | ((with_reducible refine gate_dst (N := 43) rfl ?_); refine make_row (w := W0) rfl rfl _ _ rfl r rfl rfl (by omega) HR.out.2 ?_; intro v4 w4 hr1 hr2; have Z1 := Lib.hid hr1; have Z2 := Lib.hid hr2; clear hr1 hr2; obtain ⟨gz, cz, ez, _, hcz⟩ := row_at Z2.out (by rw [List.length_replicate]; exact hr3); rw [List.length_replicate] at ez; subst ez; have HCZ := Lib.hid (fun k x hk => (by rw [Nat.zero_add]; exact hcz k x hk) : Lies gz 0 (List.replicate r 0) w4); clear hcz) | ((with_reducible refine gate_builtin (b := .append) (xs := #[.tmp 44, .tmp 45]) rfl ?_); at_builtin; refine app_rowL (w := W0) rfl _ _ rfl _ (hashes A B C D lv i) (List.replicate r 0) gz 0 r cz rfl rfl List.length_replicate (Row.onward HR.out Z2.out.2) HCZ.out (by rw [HHL.out]; omega) (by rw [List.length_replicate]; omega) ?_; intro v6 w6 hr; have R6 := Lib.hid hr; clear hr))
            go_meet
            exact Lib.hid (by rw [HP2.out]; exact R6.out)
        case rest =>
          clear HHL
          obtain ⟨q, hq⟩ : ∃ q : Nat, q = (i + 127) / 128 := ⟨_, rfl⟩
          have hq1 : 1 ≤ q := by omega
          have hq3 : q ≤ 3 := by omega
          have HLL8 := Lib.hid (show (level A B C D lv i).length = 4096 * q by rw [level_len, hq])
          have HQ := Lib.hid hq
          clear hq
          obtain ⟨g9, c9, e9, hc9, _⟩ := row_at hcut.out (by rw [HLL8.out]; omega)
          rw [HLL8.out] at e9 hc9
          subst e9
          have R9 := hcut
          clear hcut hc8
          have L9 := Lib.hid (lies_row R9.out (by rw [HLL8.out]; omega))
          have T9 := Lib.hid (row_typed R9.out)
          rename World => W9
          have HRL := Lib.hid (show Layers w _ ls W9 from ⟨Kd.R_below HLYR.out.1 R9.out.2, below_then HLYR.out.2 HLYR.out.2.size R9.out.2⟩)
          have LSL := Lib.hid (show ls.length ≤ 1000 by
            rcases HST.out with ⟨rfl, _⟩ | ⟨_, _, rfl, _⟩ <;> simp)
          have HIN9 := Lib.hid (level_in A B C D lv i)
          by_cases hq4 : q = 1
          · have HDN := Lib.hid (fun w7 (hg : W9.grownBy w7 u6.ownBlock) => done_step HST.out HRL.out hg R9.out HLL8.out hq1 hq3)
            subst hq4
            clear HST R9 L9 T9 HR
            go_wp2_with (first | ((with_reducible refine gate_builtin (b := .append) (xs := #[.tmp 47, .tmp 49]) rfl ?_); at_builtin; refine app_layers (w := w) rfl (.tmp 47) (.tmp 49) rfl u6 ls g9 _ c9 rfl rfl HRL.out LSL.out ?_; intro v7 w7 hr hk; obtain ⟨LL, gL, cL, rfl, R7, D7, LP7, LS7⟩ := layers_form hr (HDN.out _ hk); clear hr hk HDN) | ((with_reducible refine gate_dst (N := 55) rfl ?_); refine make_row (w := w7) rfl rfl _ _ rfl 0 rfl rfl (by omega) (Below.refl _ _) ?_; intro v8 w8 hr1 hr2; have R8 := Lib.hid hr1; clear hr1 hr2))
            obtain ⟨Ls, eLs, hLs2, ⟨rr, hrr⟩, hLs⟩ := D7.out
            have ELS := Lib.hid eLs
            have HLS := Lib.hid hLs
            have HRR := Lib.hid hrr
            clear eLs hLs hrr
            go_loopw [12, 13] (fun v12 v13 wr => ∃ k : Nat, v13 = .int .i64 ((k : Int) - 1) ∧ k ≤ LL.length ∧ Hid (Row w7 v12 ((Ls.drop k).reverse.flatten) wr)) (fun _ v13 _ => (intOf v13 + 1).toNat)
            case atStart => exact ⟨LL.length, rfl, Nat.le_refl _, Lib.hid (by rw [List.drop_eq_nil_of_le (by rw [ELS.out]; exact Nat.le_refl _)]; exact R8.out)⟩
            case round =>
              obtain ⟨k, hk0, hk, HRT⟩ := hrel
              by_cases hk1 : k = 0
              · subst hk1
                obtain rfl := hk0
                go_wp2_with fail
                go_ret2
                refine ⟨_, rr.reverse.flatten, rfl, Kd.R_lower HRT.out.1 R7.out.2.size |> fun h => ?_, below_then R7.out.2 R7.out.2.size HRT.out.2⟩
                have e := HRR.out
                have h2 := h
                rw [e, List.drop_zero, List.reverse_cons, List.flatten_append] at h2
                simpa using h2
              · obtain ⟨k', rfl⟩ : ∃ m, k = m + 1 := ⟨k - 1, by omega⟩
                obtain rfl := hk0.trans (congrArg (Value.int .i64) (show ((k' + 1 : Nat) : Int) - 1 = (k' : Int) by omega))
                obtain ⟨L, hL⟩ : ∃ L, Ls[k']? = some L := ⟨_, List.getElem?_eq_getElem (by rw [ELS.out]; omega)⟩
                obtain ⟨hLp, hLl, g3, c3, hLL, hLie⟩ := HLS.out k' L hL
                have hcl := cell_later HRT.out.2 (layer_cell R7.out k' g3 L.length c3 hLL)
                have HLIE := Lib.hid (hLie.later HRT.out.2)
                have HCAT := Lib.hid (cat_step Ls k' L hL)
                have HCL := Lib.hid (cat_len Ls (k' + 1) hLs2 (fun k L h => (HLS.out k L h).2.1))
                clear hLie hLL hL hk1 hk0
                go_wp2_with (first | ((with_reducible refine gate_builtin (b := .append) (xs := #[.tmp 63, .tmp 67]) rfl ?_); at_builtin; refine app_rowL (w := w7) rfl _ _ rfl _ ((Ls.drop (k' + 1)).reverse.flatten) L g3 0 L.length c3 rfl rfl rfl HRT.out HLIE.out (by have := HCL.out; omega) (by omega) ?_; intro v6 w6 hr; have R6 := Lib.hid hr; clear hr))
                go_roundw
                case rel => exact ⟨k', by first | rfl | go_num, by omega, Lib.hid (by rw [HCAT.out]; exact R6.out)⟩
                case measure => simp [intOf] <;> omega
          · have hq5 : ((4096 * (q : Int)) == 4096) = false := by simp; omega
            have HSS := Lib.hid (fun w7 (hg : W9.grownBy w7 u6.ownBlock) => stage_step HST.out HRL.out hg R9.out HLL8.out (by omega) hq3 HQ.out)
            have hqi : q < i := by have := HQ.out; omega
            go_wp2_with (first | ((with_reducible refine gate_builtin (b := .append) (xs := #[.tmp 47, .tmp 49]) rfl ?_); at_builtin; refine app_layers (w := w) rfl (.tmp 47) (.tmp 49) rfl u6 ls g9 (4096 * q) c9 rfl rfl HRL.out LSL.out ?_; intro v7 w7 hr hk; have R7 := Lib.hid hr; have K7 := Lib.hid (HSS.out _ hk); clear hr hk))
            go_roundw
            case rel => exact ⟨_, g9, 0, q, c9, _, rfl, R7, Lib.hid K7.out.2, HLL8, HIN9, hc9, hq1, by omega, Lib.hid K7.out.1⟩
            case measure => simp only [lenOfV]; omega
end Go.Proofs.Ytbakmlhjfjjfoaa.Vg
