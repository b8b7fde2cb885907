/- What a call moves; rows of two types lie apart; the lengths of an attribute. -/
import Derived.Test.YtckjbgneblfceaaDoorFa
namespace Go.Proofs.YtckjbgneblfceaaDoor.Fm
open Go.RowKit Go.Maps Go.Proofs.YtckjbgneblfceaaDoorW.PrintWords Go.Proofs.YtckjbgneblfceaaDoorW.PrintLast Go.Proofs.YtckjbgneblfceaaDoorW.PrintMore Go.Proofs.YtckjbgneblfceaaDoor.PFnFitFirst Go.Proofs.YtckjbgneblfceaaDoor.Fa
set_option linter.unusedVariables false
set_option linter.unusedSimpArgs false
structure Moves (S : Nat → Prop) (w W : World) : Prop where
  os : W.os = w.os
  tape : W.tape = w.tape
  output : W.output = w.output
  size : w.heap.size ≤ W.heap.size
  block : ∀ k, k < w.heap.size → ¬ S k → W.heap[k]? = w.heap[k]?
section
variable {S T : Nat → Prop} {w W V : World}
theorem Moves.refl (S : Nat → Prop) (w : World) : Moves S w w := ⟨rfl, rfl, rfl, Nat.le_refl _, fun _ _ _ => rfl⟩
theorem Moves.of_below (h : Below w.heap.size w W) (S : Nat → Prop) : Moves S w W := ⟨h.os, h.tape, h.output, h.size, fun k hk _ => h.block k hk⟩
theorem Moves.then_ (h : Moves S w W) (k : Moves T W V) (ht : ∀ i, T i → S i ∨ w.heap.size ≤ i) : Moves S w V :=
  ⟨k.os.trans h.os, k.tape.trans h.tape, k.output.trans h.output, Nat.le_trans h.size k.size, fun i hi hn => (k.block i (Nat.lt_of_lt_of_le hi h.size) (fun hT => (ht i hT).elim hn (fun hle => absurd hi (by omega)))).trans (h.block i hi hn)⟩
theorem Moves.grown {row : Option Nat} (h : Moves S w W) (hg : W.grownBy V row) (hr : ∀ k, row = some k → S k ∨ w.heap.size ≤ k) : Moves S w V :=
  ⟨hg.os.trans h.os, hg.tape.trans h.tape, hg.output.trans h.output, Nat.le_trans h.size hg.size, fun i hi hn => (hg.block i (Nat.lt_of_lt_of_le hi h.size) (fun he => by
    rcases hr i he.symm with hs | hs
    · exact hn hs
    · omega)).trans (h.block i hi hn)⟩
theorem Moves.below (h : Moves S w W) (hb : Below W.heap.size W V) : Moves S w V := h.then_ (Moves.of_below hb (fun _ => False)) (fun _ h => h.elim)
theorem Moves.alloc (h : Moves S w W) (o : Obj) : Moves S w (W.alloc o) := h.below (below_alloc (Below.refl _ _) o)
theorem Moves.drew (h : Moves S w W) : Moves S w W.drew := ⟨h.os, h.tape, h.output, h.size, h.block⟩
theorem Moves.drewN (h : Moves S w W) (n : Nat) : Moves S w (W.drewN n) := ⟨h.os, h.tape, h.output, h.size, h.block⟩
theorem Moves.setCell (h : Moves S w W) {p : Addr} (hp : S p.block ∨ w.heap.size ≤ p.block) (u : Value) : Moves S w (W.setCell p u) :=
  ⟨h.os, h.tape, h.output, by simpa [World.setCell] using h.size, fun i hi hn => (Below.heap_setCell W p u i (by
    rintro rfl
    rcases hp with hp | hp
    · exact hn hp
    · omega)).trans (h.block i hi hn)⟩
theorem Moves.mono (h : Moves S w W) (hs : ∀ k, S k → T k) : Moves T w W := ⟨h.os, h.tape, h.output, h.size, fun k hk hn => h.block k hk (fun hS => hn (hs k hS))⟩
theorem Moves.toBelow {B : Nat} {w0 : World} (h : Moves S w W) (hb : Below B w0 w) (hB : B ≤ w.heap.size) (hs : ∀ k, S k → B ≤ k) : Below B w0 W :=
  ⟨h.os.trans hb.os, h.tape.trans hb.tape, h.output.trans hb.output, Nat.le_trans hb.size h.size, fun k hk => (h.block k (by omega) (fun hS => by have := hs k hS; omega)).trans (hb.block k hk)⟩
theorem Moves.blk (h : Moves S w W) {g : Nat} {o : Obj} (hg : w.heap[g]? = some o) (hn : ¬ S g) : W.heap[g]? = some o := (h.block g (blk_lt hg) hn).trans hg
theorem Moves.row {α : Type} {d : Kd α} {e base : Nat} {ok : Nat → Prop} {v : Value} {xs : List α} (h : Moves S w W) (hr : d.R e w base ok v xs) (hn : ∀ k, ok k → ¬ S k) : d.R e W base ok v xs := Kd.R_step hr (fun k ho hk => h.block k hk (hn k ho))
end
theorem own_ne {α β : Type} {d : Kd α} {d' : Kd β} {e e' b b' : Nat} {ok ok' : Nat → Prop} {W : World} {v v' : Value} {xs : List α} {ys : List β} (h : d.R e W b ok v xs) (h' : d'.R e' W b' ok' v' ys) (hne : e ≠ e') : ∀ k, v.ownBlock = some k → v'.ownBlock ≠ some k := by
  intro k hk hk'
  obtain ⟨_, i1, o1, _⟩ := h
  obtain ⟨_, i2, o2, _⟩ := h'
  obtain ⟨c1, h1⟩ := own_typed o1 k hk
  obtain ⟨c2, h2⟩ := own_typed o2 k hk'
  rw [h1] at h2
  injection h2 with h2
  injection h2 with _ h2
  exact hne h2
def eLen (n : Nat) : Int := wrap64 (Go.bits .andNot .i64 ((n : Int) + 3) 3 + 16)
def vLen (m : Nat) : Int := Go.bits .andNot .i64 ((m : Int) + 3) 3
/-- What an attribute wants. -/
def need (s : ByteArray) (m : Nat) : Int := wrap64 (eLen (comp s).2.size + vLen m)
theorem entry_len (W : World) (g : Nat) (nm : ByteArray) (i : Int) (v : Value) (hb : W.heap[g]? = some (.cells #[.string nm, .int .u8 i, v] 133 (0, 0))) (hs : nm.size ≤ 2147483647) :
    Calls Tryd.prog 65 #[.pointer (some ⟨g, 0, none⟩)] W fun e w' => e = .returned (.int .i64 (eLen nm.size)) ∧ w' = W := by
  have h0 := blk_cell hb 0
  simp at h0
  go_enter Tryd.func65, Tryd.ntmps65
  go_wp2
  go_ret
  exact ⟨by unfold eLen; rfl, rfl⟩
theorem value_len (W : World) (g : Nat) (nm : ByteArray) (i : Int) (A : Option Addr) (m c : Nat) (hb : W.heap[g]? = some (.cells #[.string nm, .int .u8 i, .slice A m c] 133 (0, 0))) (hs : m ≤ 2147483647) :
    Calls Tryd.prog 66 #[.pointer (some ⟨g, 0, none⟩)] W fun e w' => e = .returned (.int .i64 (vLen m)) ∧ w' = W := by
  have h0 := blk_cell hb 2
  simp at h0
  go_enter Tryd.func66, Tryd.ntmps66
  go_wp2
  go_ret
  exact ⟨by unfold vLen; rfl, rfl⟩
end Go.Proofs.YtckjbgneblfceaaDoor.Fm
