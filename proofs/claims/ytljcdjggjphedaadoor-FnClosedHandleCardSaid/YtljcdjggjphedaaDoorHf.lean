/- Open files in memory: what a handle and its node are; closing and seeking. -/
import Derived.Test.YtljcdjggjphedaaDoorHk
import Derived.Test.YtljcdjggjphedaaDoorWMore
import Derived.Test.YtljcdjggjphedaaDoorWKept
import Derived.BigQuiet
import Derived.Deep.QuietTactic
import Derived.Deep.RegionHeld3
import Derived.IntWalk
namespace Go.Proofs.YtljcdjggjphedaaDoor.Hd
open Go.RowKit Go.Proofs.YtljcdjggjphedaaDoorW.PrintWords Go.Proofs.YtljcdjggjphedaaDoorW.PrintLast Go.Proofs.YtljcdjggjphedaaDoorW.PrintMore
set_option linter.unusedVariables false
set_option linter.unusedSimpArgs false
/-- From w to W nothing has turned but the blocks of S, and new ones. -/
structure Moves (S : Nat → Prop) (w W : World) : Prop where
  os : W.os = w.os
  tape : W.tape = w.tape
  output : W.output = w.output
  size : w.heap.size ≤ W.heap.size
  block : ∀ k, k < w.heap.size → ¬ S k → W.heap[k]? = w.heap[k]?
section
variable {S T : Nat → Prop} {w W V : World}
theorem Moves.refl (S : Nat → Prop) (w : World) : Moves S w w := ⟨rfl, rfl, rfl, Nat.le_refl _, fun _ _ _ => rfl⟩
theorem Moves.of_below (h : Below w.heap.size w W) (S : Nat → Prop) : Moves S w W := ⟨h.os, h.tape, h.output, h.size, fun k hk _ => h.block k hk⟩
theorem Moves.then_ (h : Moves S w W) (k : Moves T W V) (ht : ∀ i, T i → S i ∨ w.heap.size ≤ i) : Moves S w V :=
  ⟨k.os.trans h.os, k.tape.trans h.tape, k.output.trans h.output, Nat.le_trans h.size k.size, fun i hi hn => (k.block i (Nat.lt_of_lt_of_le hi h.size) (fun hT => (ht i hT).elim hn (fun hle => absurd hi (by omega)))).trans (h.block i hi hn)⟩
theorem Moves.grown {row : Option Nat} (h : Moves S w W) (hg : W.grownBy V row) (hr : ∀ k, row = some k → S k ∨ w.heap.size ≤ k) : Moves S w V :=
  ⟨hg.os.trans h.os, hg.tape.trans h.tape, hg.output.trans h.output, Nat.le_trans h.size hg.size, fun i hi hn => (hg.block i (Nat.lt_of_lt_of_le hi h.size) (fun he => by
    rcases hr i he.symm with hs | hs
    · exact hn hs
    · omega)).trans (h.block i hi hn)⟩
theorem Moves.below (h : Moves S w W) (hb : Below W.heap.size W V) : Moves S w V := h.then_ (Moves.of_below hb (fun _ => False)) (fun _ h => h.elim)
theorem Moves.alloc (h : Moves S w W) (o : Obj) : Moves S w (W.alloc o) := h.below (below_alloc (Below.refl _ _) o)
theorem Moves.drew (h : Moves S w W) : Moves S w W.drew := ⟨h.os, h.tape, h.output, h.size, h.block⟩
theorem Moves.drewN (h : Moves S w W) (n : Nat) : Moves S w (W.drewN n) := ⟨h.os, h.tape, h.output, h.size, h.block⟩
theorem Moves.setCell (h : Moves S w W) {p : Addr} (hp : S p.block ∨ w.heap.size ≤ p.block) (u : Value) : Moves S w (W.setCell p u) :=
  ⟨h.os, h.tape, h.output, by simpa [World.setCell] using h.size, fun i hi hn => (Below.heap_setCell W p u i (by
    rintro rfl
    rcases hp with hp | hp
    · exact hn hp
    · omega)).trans (h.block i hi hn)⟩
theorem Moves.mono (h : Moves S w W) (hs : ∀ k, S k → T k) : Moves T w W := ⟨h.os, h.tape, h.output, h.size, fun k hk hn => h.block k hk (fun hS => hn (hs k hS))⟩
theorem Moves.toBelow {B : Nat} {w0 : World} (h : Moves S w W) (hb : Below B w0 w) (hB : B ≤ w.heap.size) (hs : ∀ k, S k → B ≤ k) : Below B w0 W :=
  ⟨h.os.trans hb.os, h.tape.trans hb.tape, h.output.trans hb.output, Nat.le_trans hb.size h.size, fun k hk => (h.block k (by omega) (fun hS => by have := hs k hS; omega)).trans (hb.block k hk)⟩
theorem Moves.blk (h : Moves S w W) {g : Nat} {o : Obj} (hg : w.heap[g]? = some o) (hn : ¬ S g) : W.heap[g]? = some o := (h.block g (blk_lt hg) hn).trans hg
theorem Moves.row {α : Type} {d : Kd α} {e base : Nat} {ok : Nat → Prop} {v : Value} {xs : List α} (h : Moves S w W) (hr : d.R e w base ok v xs) (hn : ∀ k, ok k → ¬ S k) : d.R e W base ok v xs := Kd.R_step hr (fun k ho hk => h.block k hk (hn k ho))
end
/-- A handle's and a node's own cells. -/
structure Hnd where
  pos : Int
  ls : Int
  cl : Bool
  ro : Bool
structure Nod where
  nm : ByteArray
  vm : Value
  dir : Bool
  md : Int
  tm : Int
def hcs (h : Hnd) (d : Nat) : Array Value := #[.int .i64 h.pos, .int .i64 h.ls, .bool h.cl, .bool h.ro, .pointer (some ⟨d, 0, none⟩)]
def ncs (n : Nod) (v : Value) : Array Value := #[.string n.nm, v, n.vm, .bool n.dir, .int .u32 n.md, .int .i64 n.tm, .int .i64 0, .int .i64 0]
/-- An open file: its handle, its node and its bytes. -/
structure Fil (f d : Nat) (h : Hnd) (n : Nod) (v : Value) (data : List Int) (base : Nat) (W : World) : Prop where
  hf : W.heap[f]? = some (.cells (hcs h d) 94 (0, 0))
  hd : W.heap[d]? = some (.cells (ncs n v) 92 (0, 0))
  row : Kd.R (Kd.int .u8) 5 W base (fun _ => True) v data
def Tch (f d : Nat) (v : Value) (k : Nat) : Prop := k = f ∨ k = d ∨ some k = v.ownBlock
/-- What a step on an open file leaves. -/
def Acts (f d : Nat) (h : Hnd) (n : Nod) (data : List Int) (base : Nat) (v : Value) (w w' : World) : Prop :=
  ∃ v', Fil f d h n v' data base w' ∧ Moves (Tch f d v) w w' ∧ (v'.ownBlock = v.ownBlock ∨ ∃ b, v'.ownBlock = some b ∧ w.heap.size ≤ b)
section
variable {f d base : Nat} {h : Hnd} {n : Nod} {v : Value} {data : List Int} {W V : World}
theorem Fil.ne (F : Fil f d h n v data base W) : f ≠ d := blk_ne F.hf F.hd (by decide)
theorem Fil.c0 (F : Fil f d h n v data base W) : W.cell? ⟨f, 0, none⟩ = some (.int .i64 h.pos) := blk_cell F.hf 0
theorem Fil.c1 (F : Fil f d h n v data base W) : W.cell? ⟨f, 1, none⟩ = some (.int .i64 h.ls) := blk_cell F.hf 1
theorem Fil.c2 (F : Fil f d h n v data base W) : W.cell? ⟨f, 2, none⟩ = some (.bool h.cl) := blk_cell F.hf 2
theorem Fil.c3 (F : Fil f d h n v data base W) : W.cell? ⟨f, 3, none⟩ = some (.bool h.ro) := blk_cell F.hf 3
theorem Fil.c4 (F : Fil f d h n v data base W) : W.cell? ⟨f, 4, none⟩ = some (.pointer (some ⟨d, 0, none⟩)) := blk_cell F.hf 4
theorem Fil.n0 (F : Fil f d h n v data base W) : W.cell? ⟨d, 0, none⟩ = some (.string n.nm) := blk_cell F.hd 0
theorem Fil.n1 (F : Fil f d h n v data base W) : W.cell? ⟨d, 1, none⟩ = some v := blk_cell F.hd 1
theorem Fil.n3 (F : Fil f d h n v data base W) : W.cell? ⟨d, 3, none⟩ = some (.bool n.dir) := blk_cell F.hd 3
theorem Fil.n5 (F : Fil f d h n v data base W) : W.cell? ⟨d, 5, none⟩ = some (.int .i64 n.tm) := blk_cell F.hd 5
theorem Fil.below (F : Fil f d h n v data base W) (hb : Below W.heap.size W V) : Fil f d h n v data base V := ⟨blk_below F.hf hb, blk_below F.hd hb, Kd.R_below F.row hb⟩
theorem Fil.drewN (F : Fil f d h n v data base W) (m : Nat) : Fil f d h n v data base (W.drewN m) := F.below (pw_below_drewN (Below.refl _ _) m)
theorem Fil.drew (F : Fil f d h n v data base W) : Fil f d h n v data base W.drew := F.below (below_drew (Below.refl _ _))
theorem Fil.nef (F : Fil f d h n v data base W) : some f ≠ v.ownBlock := Kd.R_ne F.row F.hf (by decide)
theorem Fil.ned (F : Fil f d h n v data base W) : some d ≠ v.ownBlock := Kd.R_ne F.row F.hd (by decide)
theorem Fil.types (x : Nat) (hx : x = 94 ∨ x = 92) : ∀ q, q ∈ 5 :: (Kd.int IntKind.u8).E → q ≠ x := by
  intro q hq
  have : q = 5 := by simpa [Kd.int, Kd.scalar] using hq
  rcases hx with rfl | rfl <;> omega
/-- The place is put elsewhere; the handle is closed; the listing goes on. -/
theorem Fil.setPos (F : Fil f d h n v data base W) (x : Int) : Fil f d { h with pos := x } n v data base (W.setCell ⟨f, 0, none⟩ (.int .i64 x)) :=
  ⟨blk_put F.hf 0 _ rfl, blk_far F.hd F.ne.symm _, Kd.R_set F.row F.hf (Fil.types 94 (.inl rfl)) 0 _⟩
theorem Fil.setLs (F : Fil f d h n v data base W) (x : Int) : Fil f d { h with ls := x } n v data base (W.setCell ⟨f, 1, none⟩ (.int .i64 x)) :=
  ⟨blk_put F.hf 1 _ rfl, blk_far F.hd F.ne.symm _, Kd.R_set F.row F.hf (Fil.types 94 (.inl rfl)) 1 _⟩
theorem Fil.setCl (F : Fil f d h n v data base W) (x : Bool) : Fil f d { h with cl := x } n v data base (W.setCell ⟨f, 2, none⟩ (.bool x)) :=
  ⟨blk_put F.hf 2 _ rfl, blk_far F.hd F.ne.symm _, Kd.R_set F.row F.hf (Fil.types 94 (.inl rfl)) 2 _⟩
theorem Fil.setTm (F : Fil f d h n v data base W) (x : Int) : Fil f d h { n with tm := x } v data base (W.setCell ⟨d, 5, none⟩ (.int .i64 x)) :=
  ⟨blk_far F.hf F.ne _, blk_put F.hd 5 _ rfl, Kd.R_set F.row F.hd (Fil.types 92 (.inr rfl)) 5 _⟩
theorem Acts.of (F : Fil f d h n v data base V) (M : Moves (Tch f d v) W V) : Acts f d h n data base v W V := ⟨v, F, M, .inl rfl⟩
end
set_option maxHeartbeats 1000000 in
theorem mod84 (d : Nat) (t u : Int) (W : World) (hc : W.cell? ⟨d, 5, none⟩ = some (.int .i64 u)) (hz : W.frozen? ⟨d, 5, none⟩ = false) :
    Calls Tryd.prog 84 #[.pointer (some ⟨d, 0, none⟩), .int .i64 t] W fun e w' => e = .returned (.tuple #[]) ∧ w' = W.setCell ⟨d, 5, none⟩ (.int .i64 t) := by
  go_enter Tryd.func84, Tryd.ntmps84
  go_wp2_with fail
  go_end0
  exact ⟨rfl, rfl⟩
set_option maxHeartbeats 1000000 in
theorem close46 {f d base : Nat} {h : Hnd} {n : Nod} {v : Value} {data : List Int} {W : World} (F : Fil f d h n v data base W) :
    Calls Tryd.prog 46 #[.pointer (some ⟨f, 0, none⟩)] W fun e w' => e = .returned .nilIface ∧ Acts f d { h with cl := true } { n with tm := if h.ro then n.tm else 0 } data base v W w' := by
  obtain ⟨pos, ls, cl, ro⟩ := h
  obtain ⟨nm, vm, dir, md, tm⟩ := n
  have hne := F.ne
  have c2 := F.c2
  have c3 := F.c3
  have c4 := F.c4
  have z2 := blk_frozen F.hf 2
  have n5 := F.n5
  have zd := blk_frozen F.hd 5
  have HF := Lib.hid F
  clear F
  cases ro with
  | true =>
    go_enter Tryd.func46, Tryd.ntmps46
    go_wp2_with fail
    go_ret
    exact ⟨rfl, Acts.of (HF.out.setCl true) ((Moves.refl _ _).setCell (.inl (.inl rfl)) _)⟩
  | false =>
    go_enter Tryd.func46, Tryd.ntmps46
    go_wp2_with (first | (go_at_call 84; (with_reducible refine (mod84 d 0 tm (W.setCell ⟨f, 2, none⟩ (.bool true)) (HF.out.setCl true).n5 (blk_frozen (HF.out.setCl true).hd 5)).mono ?_); rintro e w' ⟨rfl, rfl⟩))
    go_ret
    exact ⟨rfl, Acts.of ((HF.out.setCl true).setTm 0) (((Moves.refl _ _).setCell (.inl (.inl rfl)) _).setCell (.inl (.inr (.inl rfl))) _)⟩
/-- Where a seek goes. -/
def seekTo (pos len off wh : Int) : Int := if wh = 0 then off else if wh = 1 then pos + off else if wh = 2 then len + off else pos
set_option maxHeartbeats 1000000 in
theorem seek44 {f d base : Nat} {h : Hnd} {n : Nod} {v : Value} {data : List Int} {W : World} (F : Fil f d h n v data base W) (off wh : Int) (hcl : h.cl = false)
    (hp1 : -4611686018427387904 ≤ h.pos) (hp2 : h.pos ≤ 4611686018427387904) (ho1 : -4611686018427387904 ≤ off) (ho2 : off ≤ 4611686018427387903) (hl : data.length ≤ 4611686018427387904) :
    Calls Tryd.prog 44 #[.pointer (some ⟨f, 0, none⟩), .int .i64 off, .int .i64 wh] W fun e w' => e = .returned (.tuple #[.int .i64 (seekTo h.pos data.length off wh), .nilIface]) ∧ Acts f d { h with pos := seekTo h.pos data.length off wh } n data base v W w' := by
  obtain ⟨pos, ls, cl, ro⟩ := h
  obtain ⟨A, c, hv, _, _⟩ := Kd.R_reads F.row
  have hne := F.ne
  have c0 := F.c0
  have c2 := F.c2
  have c4 := F.c4
  have n1 := F.n1
  have z0 := blk_frozen F.hf 0
  have HF := Lib.hid F
  have HV := Lib.hid hv
  rw [hv] at n1
  simp only at c0 c2 hp1 hp2 hcl
  rw [hcl] at c2
  clear F hv hcl
  generalize data.length = len at n1 hl ⊢
  by_cases h0 : wh = 0
  · subst h0
    go_enter Tryd.func44, Tryd.ntmps44
    go_wp2_with fail
    go_ret2
    exact ⟨rfl, Acts.of (HF.out.setPos _) ((Moves.refl _ _).setCell (.inl (.inl rfl)) _)⟩
  · by_cases h1 : wh = 1
    · subst h1
      go_enter Tryd.func44, Tryd.ntmps44
      go_wp2_with fail
      go_ret2
      exact ⟨rfl, Acts.of (HF.out.setPos _) ((Moves.refl _ _).setCell (.inl (.inl rfl)) _)⟩
    · by_cases h2 : wh = 2
      · subst h2
        go_enter Tryd.func44, Tryd.ntmps44
        go_wp2_with fail
        go_ret2
        exact ⟨rfl, Acts.of (HF.out.setPos _) ((Moves.refl _ _).setCell (.inl (.inl rfl)) _)⟩
      · have e0 : (wh == 0) = false := by simpa using h0
        have e1 : (wh == 1) = false := by simpa using h1
        have e2 : (wh == 2) = false := by simpa using h2
        have HS := Lib.hid (show seekTo pos len off wh = pos by simp [seekTo, h0, h1, h2])
        clear h0 h1 h2
        go_enter Tryd.func44, Tryd.ntmps44
        go_wp2_with fail
        go_ret2
        rw [HS.out]
        exact ⟨rfl, Acts.of HF.out (Moves.refl _ _)⟩
set_option maxHeartbeats 1000000 in
theorem seek44c {f d base : Nat} {h : Hnd} {n : Nod} {v : Value} {data : List Int} {W : World} (F : Fil f d h n v data base W) (A : Nat → Addr) (hS : Sent A W) (off wh : Int) (hcl : h.cl = true) :
    Calls Tryd.prog 44 #[.pointer (some ⟨f, 0, none⟩), .int .i64 off, .int .i64 wh] W fun e w' => e = .returned (.tuple #[.int .i64 0, .iface 149 (.pointer (some (A 0)))]) ∧ Below W.heap.size W w' := by
  have c2 := F.c2
  rw [hcl] at c2
  have g0 := hS.var 0 (by decide)
  clear F hS hcl
  generalize A 0 = a0 at *
  go_enter Tryd.func44, Tryd.ntmps44
  go_wp2_with fail
  go_quiet (fail)
  go_wp2
  go_ret2
  exact ⟨rfl, pw_below_drewN (Below.refl _ _) _⟩
end Go.Proofs.YtljcdjggjphedaaDoor.Hd
