/- Open files in memory: reading at the end, beyond it, nothing, and behind closing. -/
import Derived.Test.YtljcdjggjphedaaDoorHr
import Derived.IntWalk
namespace Go.Proofs.YtljcdjggjphedaaDoor.Hd
open Go.RowKit Go.Proofs.YtljcdjggjphedaaDoorW.PrintWords Go.Proofs.YtljcdjggjphedaaDoorW.PrintLast Go.Proofs.YtljcdjggjphedaaDoorW.PrintMore
set_option linter.unusedVariables false
set_option linter.unusedSimpArgs false
/-- A row is nil, or the head of a block. -/
theorem row_cases {W : World} {base : Nat} {ok : Nat → Prop} {v : Value} {xs : List Int} (h : Kd.R (Kd.int .u8) 5 W base ok v xs) :
    (v = .slice none 0 0 ∧ xs = []) ∨ ∃ g c, v = .slice (some ⟨g, 0, none⟩) xs.length c ∧ xs.length ≤ c := by
  obtain ⟨inner, ho⟩ := Kd.R_own h
  rcases ho.2 with ⟨hv, hn⟩ | ⟨g, cap, cur, hv, _, _, hnc, _⟩
  · exact .inl ⟨hv, List.eq_nil_of_length_eq_zero hn⟩
  · exact .inr ⟨g, cap, hv, hnc⟩
section
variable {f d base : Nat} {h : Hnd} {n : Nod} {v : Value} {data : List Int} {W : World}
set_option maxHeartbeats 1000000 in
theorem read40c (F : Fil f d h n v data base W) (A : Nat → Addr) (hS : Sent A W) (vb : Value) (hcl : h.cl = true) :
    Calls Tryd.prog 40 #[.pointer (some ⟨f, 0, none⟩), vb] W fun e w' => e = .returned (.tuple #[.int .i64 0, .iface 149 (.pointer (some (A 0)))]) ∧ Below W.heap.size W w' := by
  have c2 := F.c2
  rw [hcl] at c2
  have g0 := hS.var 0 (by decide)
  clear F hS hcl
  generalize A 0 = a0 at *
  go_enter Tryd.func40, Tryd.ntmps40
  go_wp2_with fail
  go_quiet (fail)
  go_wp2
  go_ret2
  exact ⟨rfl, by repeat (first | exact Below.refl _ _ | apply pw_below_drewN)⟩
set_option maxHeartbeats 1000000 in
theorem read40e (F : Fil f d h n v data base W) (A : Nat → Addr) (hS : Sent A W) (Ab : Option Addr) (m cb : Nat) (hcl : h.cl = false) (hm : 0 < m) (hp : h.pos = data.length) :
    Calls Tryd.prog 40 #[.pointer (some ⟨f, 0, none⟩), .slice Ab m cb] W fun e w' => e = .returned (.tuple #[.int .i64 0, .iface 149 (.pointer (some (A 1)))]) ∧ Below W.heap.size W w' := by
  obtain ⟨A', c, hv, _, _⟩ := Kd.R_reads F.row
  have c0 := F.c0
  have c2 := F.c2
  have c4 := F.c4
  have n1 := F.n1
  rw [hcl] at c2
  rw [hp] at c0
  rw [hv] at n1
  have g1 := hS.var 1 (by decide)
  clear F hS hcl hv hp
  generalize data.length = len at *
  generalize A 1 = a1 at *
  go_enter Tryd.func40, Tryd.ntmps40
  go_wp2_with fail
  go_quiet (fail)
  go_wp2
  go_quiet (fail)
  go_wp2
  go_ret2
  exact ⟨rfl, by repeat (first | exact Below.refl _ _ | apply pw_below_drewN)⟩
set_option maxHeartbeats 2000000 in
theorem read40u (F : Fil f d h n v data base W) (A : Nat → Addr) (hS : Sent A W) (Ab : Option Addr) (m cb : Nat) (hcl : h.cl = false) (hp : (data.length : Int) < h.pos) :
    Calls Tryd.prog 40 #[.pointer (some ⟨f, 0, none⟩), .slice Ab m cb] W fun e w' => e = .returned (.tuple #[.int .i64 0, .iface 149 (.pointer (some (A 2)))]) ∧ Below W.heap.size W w' := by
  obtain ⟨A', c, hv, _, _⟩ := Kd.R_reads F.row
  have c0 := F.c0
  have c2 := F.c2
  have c4 := F.c4
  have n1 := F.n1
  rw [hcl] at c2
  rw [hv] at n1
  have g1 := hS.var 2 (by decide)
  obtain ⟨pos, ls, cl, ro⟩ := h
  simp only at c0 hp
  clear F hS hcl hv
  generalize data.length = len at *
  generalize A 2 = a1 at *
  have q1 : (pos == (len : Int)) = false := by simp; omega
  by_cases hm : 0 < m
  all_goals
    go_enter Tryd.func40, Tryd.ntmps40
    go_wp2_with fail
    go_quiet (fail)
    go_wp2
    go_quiet (fail)
    go_wp2
    go_quiet (fail)
    go_wp2
    go_ret2
    exact ⟨rfl, by repeat (first | exact Below.refl _ _ | apply pw_below_drewN)⟩
set_option maxHeartbeats 4000000 in
set_option maxRecDepth 100000 in
theorem read40z {bb : Nat} {vb : Value} (F : Fil f d h n v data base W) (hb : Kd.R (Kd.int .u8) 5 W bb (fun _ => True) vb []) (hcl : h.cl = false) (p : Nat) (hp : h.pos = p) (hpl : p ≤ data.length) (hdl : data.length ≤ 10000000) :
    Calls Tryd.prog 40 #[.pointer (some ⟨f, 0, none⟩), vb] W fun e w' => e = .returned (.tuple #[.int .i64 0, .nilIface]) ∧ Fil f d h n v data base w' ∧ Moves (fun i => i = f ∨ some i = vb.ownBlock) W w' := by
  obtain ⟨pos, ls, cl, ro⟩ := h
  simp only at hp hcl
  subst hp hcl
  obtain ⟨Ab, cb, hvb, _, _⟩ := Kd.R_reads hb
  simp only [List.length_nil] at hvb
  have c0 := F.c0
  have c2 := F.c2
  have c4 := F.c4
  have n1 := F.n1
  have z0 := blk_frozen F.hf 0
  have HF := Lib.hid F
  have HB := Lib.hid hb
  have HVB := Lib.hid hvb
  have NE1 := Lib.hid (Kd.R_ne hb F.hf (by decide))
  have NE2 := Lib.hid (Kd.R_ne hb F.hd (by decide))
  simp only at c0 c2
  rw [hvb]
  obtain ⟨len, hlen⟩ : ∃ len, len = data.length := ⟨_, rfl⟩
  rw [← hlen] at hpl hdl
  have w1 : (p : Int) ≤ (len : Int) := by omega
  have b0 : (0 : Int) ≤ (p : Int) := by omega
  have w0 : (0 : Int) ≤ (len : Int) - (p : Int) := by omega
  have w3 : IntKind.i64.wrap ((len : Int) - (p : Int)) = (len : Int) - (p : Int) := IntWalk.i64_in _ (by omega)
  have hcp : ∀ (A : Option Addr) (c1 : Nat) (W1 : World), (Builtin.copy_ #[22, 22] 3 #[.slice Ab 0 cb, .slice A 0 c1]).run Tryd.prog W1 = .ok (goInt 0) W1 := fun A c1 W1 => run_copy_none W1 22 22 3 5 Ab A 0 cb 0 c1 Tryd.underlying22 info5s rfl
  rcases row_cases F.row with ⟨hv, hd0⟩ | ⟨g, c, hv, hc⟩
  · rw [hd0] at hlen
    have HV := Lib.hid hv
    rw [hv] at n1
    obtain rfl : p = 0 := by simp at hlen; omega
    obtain rfl : len = 0 := by simpa using hlen
    clear F hb hvb hlen hv
    go_enter Tryd.func40, Tryd.ntmps40
    go_wp2_with fail
    go_quiet (fail)
    go_wp2
    go_quiet (fail)
    go_wp2
    go_quiet (fail)
    go_wp2
    go_quiet (fail)
    go_wp2
    all_goals go_ret2
    all_goals exact ⟨rfl, by first | exact (HF.out.drewN _).setPos _ | exact ((HF.out.drewN _).drewN _).setPos _ | exact (((HF.out.drewN _).drewN _).drewN _).setPos _ | exact ((((HF.out.drewN _).drewN _).drewN _).drewN _).setPos _, by repeat (first | exact Moves.refl _ _ | (with_reducible refine Moves.setCell (p := ⟨f, 0, none⟩) ?_ (.inl (.inl rfl)) _) | with_reducible apply Moves.drewN)⟩
  · have HV := Lib.hid (show v = .slice (some ⟨g, 0, none⟩) len c by rw [hlen]; exact hv)
    rw [hv, ← hlen] at n1
    rw [← hlen] at hc
    have w2 : IntKind.i64.wrap ((p : Int) + 0) = (p : Int) := by rw [IntWalk.i64_in _ (by omega)]; omega
    have b2 : (p : Int) ≤ (c : Int) := by omega
    clear F hb hvb hlen hv
    go_enter Tryd.func40, Tryd.ntmps40
    go_wp2_with fail
    go_quiet (fail)
    go_wp2
    go_quiet (fail)
    go_wp2
    go_quiet (fail)
    go_wp2
    go_quiet (fail)
    go_wp2
    all_goals go_ret2
    all_goals exact ⟨rfl, by first | exact (HF.out.drewN _).setPos _ | exact ((HF.out.drewN _).drewN _).setPos _ | exact (((HF.out.drewN _).drewN _).drewN _).setPos _ | exact ((((HF.out.drewN _).drewN _).drewN _).drewN _).setPos _, by repeat (first | exact Moves.refl _ _ | (with_reducible refine Moves.setCell (p := ⟨f, 0, none⟩) ?_ (.inl (.inl rfl)) _) | with_reducible apply Moves.drewN)⟩
end
end Go.Proofs.YtljcdjggjphedaaDoor.Hd
