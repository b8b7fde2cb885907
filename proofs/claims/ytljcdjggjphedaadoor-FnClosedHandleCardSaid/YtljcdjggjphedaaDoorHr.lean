/- Open files in memory: reading. -/
import Derived.Test.YtljcdjggjphedaaDoorHc
import Derived.IntWalk
namespace Go.Proofs.YtljcdjggjphedaaDoor.Hd
open Go.RowKit Go.Proofs.YtljcdjggjphedaaDoorW.PrintWords Go.Proofs.YtljcdjggjphedaaDoorW.PrintLast Go.Proofs.YtljcdjggjphedaaDoorW.PrintMore
set_option linter.unusedVariables false
set_option linter.unusedSimpArgs false
theorem at_drewN {P : Program} {c : Code} {Q : Exit → Act → World → Prop} {a : Act} {W : World} {N : Nat} (h : ∀ W1, (∃ n, W1 = W.drewN n) → Code.wp P c Q a W1) : Code.wp P c Q a (W.drewN N) := h _ ⟨N, rfl⟩
theorem info5s : (Tryd.prog.info? 5).map (·.size) = some 1 := by kernel_rfl
theorem Fil.grown {f d base : Nat} {h : Hnd} {n : Nod} {v : Value} {data : List Int} {W V : World} {row : Option Nat} (F : Fil f d h n v data base W) (hg : W.grownBy V row) (h1 : some f ≠ row) (h2 : some d ≠ row) (h3 : ∀ i, v.ownBlock = some i → row ≠ some i) : Fil f d h n v data base V :=
  ⟨blk_grown F.hf hg h1, blk_grown F.hd hg h2, Kd.R_mono (Kd.R_grown (Kd.R_tight rfl F.row) hg (fun k hk => fun e => h3 k hk.symm e.symm)) (fun _ _ => trivial)⟩
theorem quad {f d base p len c g : Nat} {ls : Int} {ro : Bool} {n : Nod} {v : Value} {data : List Int} {W : World} (F : Fil f d { pos := p, ls := ls, cl := false, ro := ro } n v data base W) (hv : v = .slice (some ⟨g, 0, none⟩) len c) :
    W.cell? ⟨f, 0, none⟩ = some (.int .i64 p) ∧ W.cell? ⟨f, 4, none⟩ = some (.pointer (some ⟨d, 0, none⟩)) ∧ W.cell? ⟨d, 1, none⟩ = some (.slice (some ⟨g, 0, none⟩) len c) := ⟨F.c0, F.c4, hv ▸ F.n1⟩
/-- A part of a row can be read. -/
theorem C_part {W : World} {base g n c : Nat} {ok : Nat → Prop} {xs : List Int} (h : Kd.R (Kd.int .u8) 5 W base ok (.slice (some ⟨g, 0, none⟩) n c) xs) (p k : Nat) (hp : p + k ≤ xs.length) :
    Kd.C (Kd.int .u8) W (some ⟨g, p, none⟩) k ((xs.drop p).take k) := by
  have hl := (Kd.R_reads' h)
  have hmax := Kd.C_max hl.2.2
  have hlen : ((xs.drop p).take k).length = k := by rw [List.length_take, List.length_drop]; omega
  refine ⟨hlen, by omega, fun _ => ⟨⟨g, p, none⟩, rfl, fun j x hj => ⟨[.int .u8 x], rfl, rfl, fun i u hi => ?_⟩⟩⟩
  match i, hi with
  | 0, hi =>
    simp at hi
    subst hi
    have hjl := (List.getElem?_eq_some_iff.1 hj).1
    rw [hlen] at hjl
    rw [List.getElem?_take, if_pos (by omega), List.getElem?_drop] at hj
    have hc := (Kd.R_celln (h1 := enc1 .u8) (0 : Int) h ((p + j : Nat) : Int) (by omega) (by omega)).1
    rw [Int.toNat_natCast, rdOf, Int.toNat_natCast, List.getD_eq_getElem?_getD, hj] at hc
    rw [show (⟨g, p, none⟩ : Addr).add (j * (Kd.int IntKind.u8).sz + 0) = ⟨g, p + j, none⟩ by simp [Addr.add, Kd.int, Kd.scalar]]
    exact hc
/-- Bytes of the file are read into a row. -/
def ReadsK (f d : Nat) (h : Hnd) (n : Nod) (v : Value) (data : List Int) (base bb : Nat) (vb : Value) (xs : List Int) (k : Nat) (w w' : World) : Prop :=
  Fil f d { h with pos := h.pos + k } n v data base w' ∧ Kd.R (Kd.int .u8) 5 w' bb (fun _ => True) vb ((data.drop h.pos.toNat).take k ++ xs.drop k) ∧ Moves (fun i => i = f ∨ some i = vb.ownBlock) w w'
set_option maxHeartbeats 4000000 in
set_option maxRecDepth 100000 in
theorem read40 {f d base bb : Nat} {h : Hnd} {n : Nod} {v vb : Value} {data xs : List Int} {W : World} (F : Fil f d h n v data base W) (hcl : h.cl = false)
    (hb : Kd.R (Kd.int .u8) 5 W bb (fun _ => True) vb xs) (hbb : bb ≤ W.heap.size) (hne : ∀ i, v.ownBlock = some i → vb.ownBlock ≠ some i) (p m : Nat) (hp : h.pos = p) (hm : xs.length = m) (hpl : p < data.length) (hm0 : 0 < m) (hml : m ≤ 10000000) (hdl : data.length ≤ 10000000) :
    Calls Tryd.prog 40 #[.pointer (some ⟨f, 0, none⟩), vb] W fun e w' => e = .returned (.tuple #[.int .i64 (min m (data.length - p) : Nat), .nilIface]) ∧ ReadsK f d h n v data base bb vb xs (min m (data.length - p)) W w' := by
  obtain ⟨pos, ls, cl, ro⟩ := h
  simp only at hp hcl
  subst hp hcl
  obtain ⟨g, c, hv, _, _, _⟩ := Kd.R_form F.row (by omega)
  have hcl2 : data.length ≤ c := (Kd.R_reads' (hv ▸ F.row)).2.1
  obtain ⟨gb, cb, hvb, _, _, _⟩ := Kd.R_form hb (by omega)
  rw [hm] at hvb
  have c0 := F.c0
  have c2 := F.c2
  have c4 := F.c4
  have n1 := F.n1
  have z0 := blk_frozen F.hf 0
  have HF := Lib.hid F
  have HB := Lib.hid hb
  have HV := Lib.hid hv
  have HVB := Lib.hid hvb
  have HM := Lib.hid hm
  have HNE := Lib.hid (fun i (hi : v.ownBlock = some i) => hne i hi)
  have NE1 := Lib.hid (Kd.R_ne hb F.hf (by decide))
  have NE2 := Lib.hid (Kd.R_ne hb F.hd (by decide))
  rw [hv] at n1
  rw [hvb]
  simp only at c0 c2
  obtain ⟨len, hlen⟩ : ∃ len, len = data.length := ⟨_, rfl⟩
  rw [← hlen] at n1 hpl hdl hcl2
  rw [← hlen]
  have HLEN := Lib.hid hlen
  have HVL := Lib.hid (show v = .slice (some ⟨g, 0, none⟩) len c by rw [hlen]; exact hv)
  have q1 : ((p : Int) == (len : Int)) = false := by simp; omega
  obtain ⟨r, hr⟩ : ∃ r, r = len - p := ⟨_, rfl⟩
  have w1 : IntKind.i64.wrap ((len : Int) - (p : Int)) = (r : Int) := by rw [IntWalk.i64_in _ (by omega)]; omega
  have hr0 : 0 < r := by omega
  have hr1 : p + r = len := by omega
  rw [← hr]
  clear F hb hv hvb hm hne hlen hr
  obtain ⟨k, hk⟩ : ∃ k, k = min m r := ⟨_, rfl⟩
  have hkm : k ≤ m := by omega
  have hkr : k ≤ r := by omega
  rw [← hk]
  obtain ⟨pe, hpe⟩ : ∃ pe, pe = p + k := ⟨_, rfl⟩
  have w2 : IntKind.i64.wrap ((p : Int) + (k : Int)) = (pe : Int) := by rw [IntWalk.i64_in _ (by omega)]; omega
  have b1 : (p : Int) ≤ (pe : Int) := by omega
  have b2 : (pe : Int) ≤ (c : Int) := by omega
  have b3 : (0 : Int) ≤ (p : Int) := by omega
  have b4 : ¬ (c = p) := by omega
  have b5 : pe - p = k := by omega
  have HKP := Lib.hid (show p + k ≤ data.length by rw [← HLEN.out]; omega)
  have HPE := Lib.hid hpe
  have hcase : (m ≤ r ∧ k = m) ∨ (¬ m ≤ r ∧ k = r) := by omega
  clear hpe hk
  rcases hcase with ⟨hmr, hk⟩ | ⟨hmr, hk⟩
  all_goals obtain rfl := hk
  all_goals
    go_enter Tryd.func40, Tryd.ntmps40
    go_wp2_with fail
    go_quiet (fail)
    go_wp2
    go_quiet (fail)
    go_wp2
    go_quiet (fail)
    go_wp2
  rotate_left
  all_goals try (go_quiet (fail); go_wp2)
  rotate_left
  all_goals
    refine at_drewN ?_
    rintro W1 ⟨N1, hW1⟩
    have HDR : Drawn0 W W1 := by rw [hW1]; repeat (first | exact Drawn0.refl _ | apply Drawn0.step)
    obtain ⟨N2, hN2⟩ := HDR.out
    have F1 := Lib.hid (show Fil f d { pos := p, ls := ls, cl := false, ro := ro } n v data base W1.drew by rw [hN2]; exact (HF.out.drewN N2).drew)
    have B1 := Lib.hid (show Kd.R (Kd.int .u8) 5 W1.drew bb (fun _ => True) vb xs by rw [hN2]; exact Kd.R_drew (Kd.R_drewN HB.out N2))
    have M1 := Lib.hid (show Moves (fun i => i = f ∨ some i = vb.ownBlock) W W1.drew by rw [hN2]; exact ((Moves.refl _ _).drewN N2).drew)
    have c0 : W1.cell? ⟨f, 0, none⟩ = some (.int .i64 p) := F1.out.c0
    have c4 : W1.cell? ⟨f, 4, none⟩ = some (.pointer (some ⟨d, 0, none⟩)) := F1.out.c4
    have n1 : W1.cell? ⟨d, 1, none⟩ = some (.slice (some ⟨g, 0, none⟩) len c) := by have := F1.out.n1; rw [HV.out, ← HLEN.out] at this; exact this
    have CP := Lib.hid (C_part (n := len) (c := c) (g := g) (by have := F1.out.row; rw [HV.out, ← HLEN.out] at this; exact this) p k HKP.out)
    have HMK := Lib.hid (show k ≤ xs.length by rw [HM.out]; exact hkm)
    clear hW1 hN2 HDR
    go_region_held3 (fun w' => w'.cell? ⟨f, 0, none⟩ = some (.int .i64 p) ∧ w'.cell? ⟨f, 4, none⟩ = some (.pointer (some ⟨d, 0, none⟩)) ∧ w'.cell? ⟨d, 1, none⟩ = some (.slice (some ⟨g, 0, none⟩) len c))
      (first | exact Q2.out | go_keep)
      ((refine copy_step (by rfl) _ _ 22 22 5 (by rfl) Tryd.underlying22 info5s vb xs ((data.drop p).take k) (some ⟨g, p, none⟩) k (c - p) (fun _ => True) (by exact HVB.out.symm) (by rfl) B1.out CP.out HMK.out ?_; intro w1 hr1 hg1; have R2 := Lib.hid hr1; have G2 := Lib.hid hg1; have F2 := Lib.hid (F1.out.grown hg1 NE1.out NE2.out HNE.out); have Q2 := Lib.hid (quad F2.out HVL.out); clear hr1 hg1))
    have c0 := F2.out.c0
    have z0 := blk_frozen F2.out.hf 0
    go_wp2
    go_ret2
    refine ⟨rfl, ?_, ?_, ?_⟩
    · have := F2.out.setPos pe
      rw [show ((p : Int) + (k : Int)) = (pe : Int) by rw [HPE.out]; omega]
      exact this
    · rw [← HVB.out]
      exact Kd.R_set R2.out F2.out.hf (Fil.types 94 (.inl rfl)) 0 _
    · rw [← HVB.out]
      exact (M1.out.grown G2.out (fun i hi => .inl (.inr hi.symm))).setCell (p := ⟨f, 0, none⟩) (.inl (.inl rfl)) _
end Go.Proofs.YtljcdjggjphedaaDoor.Hd
