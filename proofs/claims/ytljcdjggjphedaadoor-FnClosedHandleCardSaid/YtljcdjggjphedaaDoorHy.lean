/- Open files in memory: writing. -/
import Derived.Test.YtljcdjggjphedaaDoorHx
import Derived.IntWalk
namespace Go.Proofs.YtljcdjggjphedaaDoor.Hd
open Go.RowKit Go.Proofs.YtljcdjggjphedaaDoorW.PrintWords Go.Proofs.YtljcdjggjphedaaDoorW.PrintLast Go.Proofs.YtljcdjggjphedaaDoorW.PrintMore
set_option linter.unusedVariables false
set_option linter.unusedSimpArgs false
theorem mid_take {W : World} {base g len c p m pe : Nat} {data b : List Int} (h : Kd.R (Kd.int .u8) 5 W base (fun _ => True) (.slice (some ⟨g, 0, none⟩) len c) (data.take p ++ b ++ data.drop pe)) (hb : b.length = m) (hp : p + m ≤ data.length) (he : pe = p + m) :
    Kd.R (Kd.int .u8) 5 W base (fun _ => True) (.slice (some ⟨g, 0, none⟩) pe c) (data.take p ++ b) := by
  have hl : (data.take p ++ b).length = pe := by rw [List.length_append, List.length_take]; omega
  have := Kd.R_take (m := pe) h (by rw [List.length_append, hl]; omega)
  rw [List.take_append_of_le_length (by omega), List.take_of_length_le (by omega)] at this
  exact this
theorem mid_tail {W : World} {base g len c p m pe : Nat} {data b : List Int} (h : Kd.R (Kd.int .u8) 5 W base (fun _ => True) (.slice (some ⟨g, 0, none⟩) len c) (data.take p ++ b ++ data.drop pe)) (hb : b.length = m) (hp : p + m ≤ data.length) (he : pe = p + m) (hn : len = data.length) :
    Kd.C (Kd.int .u8) W.drew (some ⟨g, pe, none⟩) (len - pe) (data.drop (p + m)) := by
  have hl : (data.take p ++ b).length = pe := by rw [List.length_append, List.length_take]; omega
  have hd : (data.drop (p + m)).length = len - pe := by rw [List.length_drop]; omega
  have := C_part (Kd.R_drew h) pe (len - pe) (by rw [List.length_append, hl, he, hd]; omega)
  rw [List.drop_append_of_le_length (by omega), List.drop_eq_nil_of_le (by omega), List.nil_append, he, List.take_of_length_le (by omega), ← he] at this
  rw [show data.drop (p + m) = data.drop pe by rw [he]]
  exact this
section
variable {f d base : Nat} {h : Hnd} {n : Nod} {v : Value} {data b : List Int} {W : World}
set_option maxHeartbeats 1000000 in
theorem write42c (F : Fil f d h n v data base W) (A : Nat → Addr) (hS : Sent A W) (vb : Value) (hcl : h.cl = true) :
    Calls Tryd.prog 42 #[.pointer (some ⟨f, 0, none⟩), vb] W fun e w' => e = .returned (.tuple #[.int .i64 0, .iface 149 (.pointer (some (A 0)))]) ∧ Below W.heap.size W w' := by
  have c2 := F.c2
  rw [hcl] at c2
  have g0 := hS.var 0 (by decide)
  clear F hS hcl
  generalize A 0 = a0 at *
  go_enter Tryd.func42, Tryd.ntmps42
  go_wp2_with fail
  go_quiet (fail)
  go_wp2
  go_ret2
  exact ⟨rfl, by repeat (first | exact Below.refl _ _ | apply pw_below_drewN)⟩
/-- The refusal beside a number. -/
def Refused2 (op : ByteArray) (w : World) (e : Ending) (w' : World) : Prop := ∃ x, e = .returned (.tuple #[.int .i64 0, x]) ∧ Refused op w (.returned x) w'
set_option maxHeartbeats 1000000 in
set_option maxRecDepth 100000 in
theorem write42r (F : Fil f d h n v data base W) (vb : Value) (hcl : h.cl = false) (hro : h.ro = true) :
    Calls Tryd.prog 42 #[.pointer (some ⟨f, 0, none⟩), vb] W (Refused2 { data := #[119, 114, 105, 116, 101] } W) := by
  have c2 := F.c2
  have c3 := F.c3
  have c4 := F.c4
  have n0 := F.n0
  rw [hcl] at c2
  rw [hro] at c3
  obtain ⟨nm, vm, dir, md, tm⟩ := n
  simp only at n0
  have y4 := World.new_ne W _ c4
  have y0 := World.new_ne W _ n0
  have HE := Lib.hid (fun s W => err83 (W := W) s)
  clear F hcl hro
  go_enter Tryd.func42, Tryd.ntmps42
  go_wp2_with fail
  go_region_held3 (fun w' => w'.cell? ⟨f, 4, none⟩ = some (.pointer (some ⟨d, 0, none⟩)) ∧ w'.cell? ⟨d, 0, none⟩ = some (.string nm))
    (go_keep)
    ((go_at_call 83; (with_reducible refine (HE.out _ _).mono ?_); rintro e w1 ⟨rfl, rfl⟩))
  go_wp2
  go_ret2
  exact ⟨_, rfl, refused_mk _ _ _ _⟩
set_option maxHeartbeats 2000000 in
set_option maxRecDepth 100000 in
/-- Writing beyond the end. -/
theorem write42g (F : Fil f d h n v data base W) (Ab : Option Addr) (m cb p : Nat) (hC : Kd.C (Kd.int .u8) W Ab m b) (hcl : h.cl = false) (hro : h.ro = false) (hp : h.pos = p) (hpl : data.length < p) (hpm : p ≤ 10000000) (hm : m ≤ 10000000) (hdl : data.length ≤ 100000000) (hbs : base ≤ W.heap.size) :
    Calls Tryd.prog 42 #[.pointer (some ⟨f, 0, none⟩), .slice Ab m cb] W fun e w' => e = .returned (.tuple #[.int .i64 m, .nilIface]) ∧ Acts f d { h with pos := p + m } { n with tm := 0 } (data ++ (List.replicate (p - data.length) 0 ++ b)) base v W w' := by
  obtain ⟨pos, ls, cl, ro⟩ := h
  obtain ⟨nm, vm, dir, md, tm⟩ := n
  simp only at hcl hro hp
  subst hcl hro hp
  have c0 := F.c0
  have c2 := F.c2
  have c3 := F.c3
  have c4 := F.c4
  have n1 := F.n1
  have HF := Lib.hid F
  have HC := Lib.hid hC
  have hbl := HC.out.1
  obtain ⟨len, hlen⟩ : ∃ len, len = data.length := ⟨_, rfl⟩
  rw [← hlen] at hpl hdl
  have HL := Lib.hid hlen
  obtain ⟨A0, c, hv, _, _⟩ := Kd.R_reads F.row
  rw [hv, ← hlen] at n1
  obtain ⟨r, hr⟩ : ∃ r, r = p - len := ⟨_, rfl⟩
  have w1 : IntKind.i64.wrap ((p : Int) - (len : Int)) = (r : Int) := by rw [IntWalk.i64_in _ (by omega)]; omega
  have w2 : IntKind.i64.wrap ((m : Int) + (p : Int)) = (m : Int) + (p : Int) := IntWalk.i64_in _ (by omega)
  have w3 : ¬ ((m : Int) + (p : Int) < (len : Int)) := by omega
  have w4 : (0 : Int) < (r : Int) := by omega
  have HVL := Lib.hid (show v = .slice A0 len c by rw [hlen]; exact hv)
  rw [← hlen, ← hr]
  have hrl : r ≤ 10000000 := by omega
  have hnl := HF.out.nef
  have hnd := HF.out.ned
  have NEF := Lib.hid hnl
  have NED := Lib.hid hnd
  clear F hC hv hlen hr hnl hnd hbl
  go_enter Tryd.func42, Tryd.ntmps42
  go_wp2_with fail
  have HS0 := Lib.hid (show W.drew.cell? ⟨f, 4, none⟩ = some (.pointer (some ⟨d, 0, none⟩)) ∧ W.drew.cell? ⟨d, 1, none⟩ = some (.slice A0 len c) from ⟨c4, n1⟩)
  refine start_ (n := 19) (S := fun w' => w'.cell? ⟨f, 4, none⟩ = some (.pointer (some ⟨d, 0, none⟩)) ∧ w'.cell? ⟨d, 1, none⟩ = some (.slice A0 len c)) (ds := [18]) #[false, false, false, false, false, false, false, false, false, false, false, false, false, false, false, false, false, false, false] (by kernel_rfl) rfl rfl (by first | exact HS0.out | trivial) (fun hHeld => ?_)
  refine pure_ (i := 0) (N := some 70) (v := ?_) (a' := ?_) #[true, false, false, false, false, false, false, false, false, false, false, false, false, false, false, false, false, false, false] rfl rfl (by kernel_rfl) (fun _ _ _ h => h) (Or.inl ⟨by rfl, ?_⟩) ?_ ?_
  rotate_left
  · intro w'
    go_simp
    with_reducible rfl
  rotate_left
  · simp only [Act.put, List.setIfInBounds_toArray, List.set_cons_zero, List.set_cons_succ, i64_w, i32_w]
    rfl
  refine pure_ (i := 1) (N := some 71) (v := ?_) (a' := ?_) #[true, true, false, false, false, false, false, false, false, false, false, false, false, false, false, false, false, false, false] rfl rfl (by kernel_rfl) (fun _ _ _ h => h) (Or.inl ⟨by rfl, ?_⟩) ?_ ?_
  rotate_left
  · intro w'
    go_simp
    with_reducible rfl
  rotate_left
  · simp only [Act.put, List.setIfInBounds_toArray, List.set_cons_zero, List.set_cons_succ, i64_w, i32_w]
    rfl
  refine pure_ (i := 2) (N := some 72) (v := ?_) (a' := ?_) #[true, true, true, false, false, false, false, false, false, false, false, false, false, false, false, false, false, false, false] rfl rfl (by kernel_rfl) (fun _ _ _ h => h) (Or.inl ⟨by rfl, ?_⟩) ?_ ?_
  rotate_left
  · intro w'
    go_simp
    with_reducible rfl
  rotate_left
  · simp only [Act.put, List.setIfInBounds_toArray, List.set_cons_zero, List.set_cons_succ, i64_w, i32_w]
    rfl
  refine take_ (i := 3) (N := some 73) (v := ?_) (a' := ?_) #[true, true, true, true, false, false, false, false, false, false, false, false, false, false, false, false, false, false, false] rfl rfl (by kernel_rfl) (fun _ _ _ h => h) (Or.inl ⟨by rfl, ?_⟩) hHeld ?_ ?_
  rotate_left
  · rintro w' ⟨s0, s1⟩
    go_simp
    with_reducible rfl
  rotate_left
  · simp only [Act.put, List.setIfInBounds_toArray, List.set_cons_zero, List.set_cons_succ, i64_w, i32_w]
    rfl
  refine pure_ (i := 4) (N := some 74) (v := ?_) (a' := ?_) #[true, true, true, true, true, false, false, false, false, false, false, false, false, false, false, false, false, false, false] rfl rfl (by kernel_rfl) (fun _ _ _ h => h) (Or.inl ⟨by rfl, ?_⟩) ?_ ?_
  rotate_left
  · intro w'
    go_simp
    with_reducible rfl
  rotate_left
  · simp only [Act.put, List.setIfInBounds_toArray, List.set_cons_zero, List.set_cons_succ, i64_w, i32_w]
    rfl
  refine pure_ (i := 5) (N := some 75) (v := ?_) (a' := ?_) #[true, true, true, true, true, true, false, false, false, false, false, false, false, false, false, false, false, false, false] rfl rfl (by kernel_rfl) (fun _ _ _ h => h) (Or.inl ⟨by rfl, ?_⟩) ?_ ?_
  rotate_left
  · intro w'
    go_simp
    with_reducible rfl
  rotate_left
  · simp only [Act.put, List.setIfInBounds_toArray, List.set_cons_zero, List.set_cons_succ, i64_w, i32_w]
    rfl
  refine pure_ (i := 6) (N := some 76) (v := ?_) (a' := ?_) #[true, true, true, true, true, true, true, false, false, false, false, false, false, false, false, false, false, false, false] rfl rfl (by kernel_rfl) (fun _ _ _ h => h) (Or.inl ⟨by rfl, ?_⟩) ?_ ?_
  rotate_left
  · intro w'
    go_simp
    with_reducible rfl
  rotate_left
  · simp only [Act.put, List.setIfInBounds_toArray, List.set_cons_zero, List.set_cons_succ, i64_w, i32_w]
    rfl
  refine take_ (i := 7) (N := some 77) (v := ?_) (a' := ?_) #[true, true, true, true, true, true, true, true, false, false, false, false, false, false, false, false, false, false, false] rfl rfl (by kernel_rfl) (fun _ _ _ h => h) (Or.inl ⟨by rfl, ?_⟩) hHeld ?_ ?_
  rotate_left
  · rintro w' ⟨s0, s1⟩
    go_simp
    with_reducible rfl
  rotate_left
  · simp only [Act.put, List.setIfInBounds_toArray, List.set_cons_zero, List.set_cons_succ, i64_w, i32_w]
    rfl
  refine pure_ (i := 8) (N := some 78) (v := ?_) (a' := ?_) #[true, true, true, true, true, true, true, true, true, false, false, false, false, false, false, false, false, false, false] rfl rfl (by kernel_rfl) (fun _ _ _ h => h) (Or.inl ⟨by rfl, ?_⟩) ?_ ?_
  rotate_left
  · intro w'
    go_simp
    with_reducible rfl
  rotate_left
  · simp only [Act.put, List.setIfInBounds_toArray, List.set_cons_zero, List.set_cons_succ, i64_w, i32_w]
    rfl
  refine pure_ (i := 9) (N := some 79) (v := ?_) (a' := ?_) #[true, true, true, true, true, true, true, true, true, true, false, false, false, false, false, false, false, false, false] rfl rfl (by kernel_rfl) (fun _ _ _ h => h) (Or.inl ⟨by rfl, ?_⟩) ?_ ?_
  rotate_left
  · intro w'
    go_simp
    with_reducible rfl
  rotate_left
  · simp only [Act.put, List.setIfInBounds_toArray, List.set_cons_zero, List.set_cons_succ, i64_w, i32_w]
    rfl
  refine take_ (i := 10) (N := some 80) (v := ?_) (a' := ?_) #[true, true, true, true, true, true, true, true, true, true, true, false, false, false, false, false, false, false, false] rfl rfl (by kernel_rfl) (fun _ _ _ h => h) (Or.inl ⟨by rfl, ?_⟩) hHeld ?_ ?_
  rotate_left
  · rintro w' ⟨s0, s1⟩
    go_simp
    with_reducible rfl
  rotate_left
  · simp only [Act.put, List.setIfInBounds_toArray, List.set_cons_zero, List.set_cons_succ, i64_w, i32_w]
    rfl
  refine pure_ (i := 11) (N := some 81) (v := ?_) (a' := ?_) #[true, true, true, true, true, true, true, true, true, true, true, true, false, false, false, false, false, false, false] rfl rfl (by kernel_rfl) (fun _ _ _ h => h) (Or.inl ⟨by rfl, ?_⟩) ?_ ?_
  rotate_left
  · intro w'
    go_simp
    with_reducible rfl
  rotate_left
  · simp only [Act.put, List.setIfInBounds_toArray, List.set_cons_zero, List.set_cons_succ, i64_w, i32_w]
    rfl
  refine pure_ (i := 13) (N := some 83) (v := ?_) (a' := ?_) #[true, true, true, true, true, true, true, true, true, true, true, true, false, true, false, false, false, false, false] rfl rfl (by kernel_rfl) (fun _ _ _ h => h) (Or.inl ⟨by rfl, ?_⟩) ?_ ?_
  rotate_left
  · intro w'
    go_simp
    with_reducible rfl
  rotate_left
  · simp only [Act.put, List.setIfInBounds_toArray, List.set_cons_zero, List.set_cons_succ, i64_w, i32_w]
    rfl
  refine one_ (i := 12) (N := some 82) #[true, true, true, true, true, true, true, true, true, true, true, true, true, true, false, false, false, false, false] rfl rfl (by kernel_rfl) (by decide) (fun K hK => ?_)
  refine make_bytes_step (by rfl) rfl _ _ (by rfl) r (by rfl) (by rfl) (by omega) ?_
  intro A1 c1 w1 hr1 hb1
  have F1 := Lib.hid (HF.out.drew.below hb1)
  have R1 := Lib.hid hr1
  have B1 := Lib.hid hb1
  clear hr1 hb1
  refine hK.out _ _ ⟨F1.out.c4, by rw [← HVL.out]; exact F1.out.n1⟩ (fun hHeld => ?_)
  clear hK K
  refine norm_ (a' := ?_) ?_ ?_
  rotate_left
  · show Act.put _ (some 82) _ = _
    simp only [Act.put, List.setIfInBounds_toArray, List.set_cons_zero, List.set_cons_succ, i64_w, i32_w]
    rfl
  refine one_ (i := 14) (N := some 84) #[true, true, true, true, true, true, true, true, true, true, true, true, true, true, true, false, false, false, false] rfl rfl (by kernel_rfl) (by decide) (fun K hK => ?_)
  refine app_bytes_step W.drew.heap.size (by rfl) _ _ (by rfl) (.slice A1 r c1) (List.replicate r 0) b Ab m cb (by rfl) (by rfl) R1.out (Kd.C_below (Kd.C_drew HC.out) B1.out) B1.out.size (by rw [List.length_replicate]; omega) ?_
  intro A2 n2 c2' w2' hr2 hg2 ho2
  have B2 := Lib.hid (show Below W.drew.heap.size W.drew w2' from B1.out.grown hg2 B1.out.size (Kd.R_base R1.out))
  have F2 := Lib.hid (HF.out.drew.below B2.out)
  have R2 := Lib.hid hr2
  clear hr2 hg2 ho2
  refine hK.out _ _ ⟨F2.out.c4, by rw [← HVL.out]; exact F2.out.n1⟩ (fun hHeld => ?_)
  clear hK K
  refine norm_ (a' := ?_) ?_ ?_
  rotate_left
  · show Act.put _ (some 84) _ = _
    simp only [Act.put, List.setIfInBounds_toArray, List.set_cons_zero, List.set_cons_succ, i64_w, i32_w]
    rfl
  refine one_ (i := 15) (N := some 85) #[true, true, true, true, true, true, true, true, true, true, true, true, true, true, true, true, false, false, false] rfl rfl (by kernel_rfl) (by decide) (fun K hK => ?_)
  have C2 := Lib.hid (Kd.R_reads' R2.out)
  refine app_bytes_step base (by rfl) _ _ (by rfl) v data (List.replicate r 0 ++ b) A2 n2 c2' (by exact HVL.out.symm) (by rfl) F2.out.row (by have := C2.out.2.2; rw [← C2.out.1] at this; exact this) (Nat.le_trans (show base ≤ W.drew.heap.size from hbs) B2.out.size) (by rw [← HL.out, C2.out.1, List.length_append, List.length_replicate, HC.out.1]; omega) ?_
  intro A3 n3 c3' w3' hr3 hg3 ho3
  have O3 := Lib.hid (F2.out.own.grown hg3 NEF.out NED.out)
  have R3 := Lib.hid hr3
  have M3 := Lib.hid (show Moves (Tch f d v) W w3' from (((Moves.refl _ _).drew).below B2.out).grown hg3 (fun i hi => .inl (.inr (.inr hi.symm))))
  have T3 := Lib.hid (own_then (v := v) (v1 := v) (w := W) (w1 := w2') B2.out.size (.inl rfl) ho3)
  clear hr3 hg3 ho3
  refine hK.out _ _ ⟨O3.out.c4, by rw [← HVL.out]; exact O3.out.n1⟩ (fun hHeld => ?_)
  clear hK K
  refine norm_ (a' := ?_) ?_ ?_
  rotate_left
  · show Act.put _ (some 85) _ = _
    simp only [Act.put, List.setIfInBounds_toArray, List.set_cons_zero, List.set_cons_succ, i64_w, i32_w]
    rfl
  refine pure_ (i := 16) (N := some 86) (v := ?_) (a' := ?_) #[true, true, true, true, true, true, true, true, true, true, true, true, true, true, true, true, true, false, false] rfl rfl (by kernel_rfl) (fun _ _ _ h => h) (Or.inl ⟨by rfl, ?_⟩) ?_ ?_
  rotate_left
  · intro w'
    go_simp
    with_reducible rfl
  rotate_left
  · simp only [Act.put, List.setIfInBounds_toArray, List.set_cons_zero, List.set_cons_succ, i64_w, i32_w]
    rfl
  refine pure_ (i := 17) (N := some 87) (v := ?_) (a' := ?_) #[true, true, true, true, true, true, true, true, true, true, true, true, true, true, true, true, true, true, false] rfl rfl (by kernel_rfl) (fun _ _ _ h => h) (Or.inl ⟨by rfl, ?_⟩) ?_ ?_
  rotate_left
  · intro w'
    go_simp
    with_reducible rfl
  rotate_left
  · simp only [Act.put, List.setIfInBounds_toArray, List.set_cons_zero, List.set_cons_succ, i64_w, i32_w]
    rfl
  refine last_ (i := 18) (N := none) #[true, true, true, true, true, true, true, true, true, true, true, true, true, true, true, true, true, true, true] rfl rfl (by kernel_rfl) (by decide) (fun K hK => ?_)
  have x1 := O3.out.n1
  have xz := blk_frozen O3.out.hd 1
  refine skip_ (w1 := ?_) (by rfl) rfl ?_ ?_
  rotate_left
  · go_simp
    rfl
  refine hK.out _ _ ?_
  clear x1 xz
  clear hK K
  refine done_ (by kernel_rfl) ?_
  have X4 := Lib.hid (O3.out.set R3.out)
  have M4 := Lib.hid (show Moves (Tch f d v) W (w3'.setCell ⟨d, 1, none⟩ (.slice A3 n3 c3')) from M3.out.setCell (p := ⟨d, 1, none⟩) (.inl (.inr (.inl rfl))) _)
  go_wp2_with fail
  generalize w3'.setCell ⟨d, 1, none⟩ (.slice A3 n3 c3') = W4 at *
  clear HS0
  have HS0 := Lib.hid (show W4.drew.cell? ⟨f, 4, none⟩ = some (.pointer (some ⟨d, 0, none⟩)) ∧ W4.drew.cell? ⟨d, 1, none⟩ = some (.slice A3 n3 c3') from ⟨X4.out.c4, X4.out.n1⟩)
  have NE4 := Lib.hid X4.out.nef
  have ND4 := Lib.hid X4.out.ned
  have HB4 := Lib.hid (show base ≤ W4.drew.heap.size from Nat.le_trans hbs M4.out.size)
  have HC4 := Lib.hid (show Kd.C (Kd.int .u8) W4.drew none 0 [] from ⟨rfl, by omega, fun h => absurd h (by omega)⟩)
  have HLN := Lib.hid (show (data ++ (List.replicate r 0 ++ b)).length + 0 ≤ 140737488355328 by rw [List.length_append, List.length_append, List.length_replicate, HC.out.1, ← HL.out]; omega)
  refine start_ (n := 16) (S := fun w' => w'.cell? ⟨f, 4, none⟩ = some (.pointer (some ⟨d, 0, none⟩)) ∧ w'.cell? ⟨d, 1, none⟩ = some (.slice A3 n3 c3')) (ds := [15]) #[false, false, false, false, false, false, false, false, false, false, false, false, false, false, false, false] (by kernel_rfl) rfl rfl (by first | exact HS0.out | trivial) (fun hHeld => ?_)
  refine pure_ (i := 0) (N := some 88) (v := ?_) (a' := ?_) #[true, false, false, false, false, false, false, false, false, false, false, false, false, false, false, false] rfl rfl (by kernel_rfl) (fun _ _ _ h => h) (Or.inl ⟨by rfl, ?_⟩) ?_ ?_
  rotate_left
  · intro w'
    go_simp
    with_reducible rfl
  rotate_left
  · simp only [Act.put, List.setIfInBounds_toArray, List.set_cons_zero, List.set_cons_succ, i64_w, i32_w]
    rfl
  refine pure_ (i := 1) (N := some 89) (v := ?_) (a' := ?_) #[true, true, false, false, false, false, false, false, false, false, false, false, false, false, false, false] rfl rfl (by kernel_rfl) (fun _ _ _ h => h) (Or.inl ⟨by rfl, ?_⟩) ?_ ?_
  rotate_left
  · intro w'
    go_simp
    with_reducible rfl
  rotate_left
  · simp only [Act.put, List.setIfInBounds_toArray, List.set_cons_zero, List.set_cons_succ, i64_w, i32_w]
    rfl
  refine pure_ (i := 2) (N := some 90) (v := ?_) (a' := ?_) #[true, true, true, false, false, false, false, false, false, false, false, false, false, false, false, false] rfl rfl (by kernel_rfl) (fun _ _ _ h => h) (Or.inl ⟨by rfl, ?_⟩) ?_ ?_
  rotate_left
  · intro w'
    go_simp
    with_reducible rfl
  rotate_left
  · simp only [Act.put, List.setIfInBounds_toArray, List.set_cons_zero, List.set_cons_succ, i64_w, i32_w]
    rfl
  refine take_ (i := 3) (N := some 91) (v := ?_) (a' := ?_) #[true, true, true, true, false, false, false, false, false, false, false, false, false, false, false, false] rfl rfl (by kernel_rfl) (fun _ _ _ h => h) (Or.inl ⟨by rfl, ?_⟩) hHeld ?_ ?_
  rotate_left
  · rintro w' ⟨s0, s1⟩
    go_simp
    with_reducible rfl
  rotate_left
  · simp only [Act.put, List.setIfInBounds_toArray, List.set_cons_zero, List.set_cons_succ, i64_w, i32_w]
    rfl
  refine pure_ (i := 4) (N := some 92) (v := ?_) (a' := ?_) #[true, true, true, true, true, false, false, false, false, false, false, false, false, false, false, false] rfl rfl (by kernel_rfl) (fun _ _ _ h => h) (Or.inl ⟨by rfl, ?_⟩) ?_ ?_
  rotate_left
  · intro w'
    go_simp
    with_reducible rfl
  rotate_left
  · simp only [Act.put, List.setIfInBounds_toArray, List.set_cons_zero, List.set_cons_succ, i64_w, i32_w]
    rfl
  refine pure_ (i := 5) (N := some 93) (v := ?_) (a' := ?_) #[true, true, true, true, true, true, false, false, false, false, false, false, false, false, false, false] rfl rfl (by kernel_rfl) (fun _ _ _ h => h) (Or.inl ⟨by rfl, ?_⟩) ?_ ?_
  rotate_left
  · intro w'
    go_simp
    with_reducible rfl
  rotate_left
  · simp only [Act.put, List.setIfInBounds_toArray, List.set_cons_zero, List.set_cons_succ, i64_w, i32_w]
    rfl
  refine pure_ (i := 6) (N := some 94) (v := ?_) (a' := ?_) #[true, true, true, true, true, true, true, false, false, false, false, false, false, false, false, false] rfl rfl (by kernel_rfl) (fun _ _ _ h => h) (Or.inl ⟨by rfl, ?_⟩) ?_ ?_
  rotate_left
  · intro w'
    go_simp
    with_reducible rfl
  rotate_left
  · simp only [Act.put, List.setIfInBounds_toArray, List.set_cons_zero, List.set_cons_succ, i64_w, i32_w]
    rfl
  refine take_ (i := 7) (N := some 95) (v := ?_) (a' := ?_) #[true, true, true, true, true, true, true, true, false, false, false, false, false, false, false, false] rfl rfl (by kernel_rfl) (fun _ _ _ h => h) (Or.inl ⟨by rfl, ?_⟩) hHeld ?_ ?_
  rotate_left
  · rintro w' ⟨s0, s1⟩
    go_simp
    with_reducible rfl
  rotate_left
  · simp only [Act.put, List.setIfInBounds_toArray, List.set_cons_zero, List.set_cons_succ, i64_w, i32_w]
    rfl
  refine pure_ (i := 8) (N := some 96) (v := ?_) (a' := ?_) #[true, true, true, true, true, true, true, true, true, false, false, false, false, false, false, false] rfl rfl (by kernel_rfl) (fun _ _ _ h => h) (Or.inl ⟨by rfl, ?_⟩) ?_ ?_
  rotate_left
  · intro w'
    go_simp
    with_reducible rfl
  rotate_left
  · simp only [Act.put, List.setIfInBounds_toArray, List.set_cons_zero, List.set_cons_succ, i64_w, i32_w]
    rfl
  refine pure_ (i := 9) (N := some 97) (v := ?_) (a' := ?_) #[true, true, true, true, true, true, true, true, true, true, false, false, false, false, false, false] rfl rfl (by kernel_rfl) (fun _ _ _ h => h) (Or.inl ⟨by rfl, ?_⟩) ?_ ?_
  rotate_left
  · intro w'
    go_simp
    with_reducible rfl
  rotate_left
  · simp only [Act.put, List.setIfInBounds_toArray, List.set_cons_zero, List.set_cons_succ, i64_w, i32_w]
    rfl
  refine take_ (i := 10) (N := some 98) (v := ?_) (a' := ?_) #[true, true, true, true, true, true, true, true, true, true, true, false, false, false, false, false] rfl rfl (by kernel_rfl) (fun _ _ _ h => h) (Or.inl ⟨by rfl, ?_⟩) hHeld ?_ ?_
  rotate_left
  · rintro w' ⟨s0, s1⟩
    go_simp
    with_reducible rfl
  rotate_left
  · simp only [Act.put, List.setIfInBounds_toArray, List.set_cons_zero, List.set_cons_succ, i64_w, i32_w]
    rfl
  refine pure_ (i := 11) (N := some 99) (v := ?_) (a' := ?_) #[true, true, true, true, true, true, true, true, true, true, true, true, false, false, false, false] rfl rfl (by kernel_rfl) (fun _ _ _ h => h) (Or.inl ⟨by rfl, ?_⟩) ?_ ?_
  rotate_left
  · intro w'
    go_simp
    with_reducible rfl
  rotate_left
  · simp only [Act.put, List.setIfInBounds_toArray, List.set_cons_zero, List.set_cons_succ, i64_w, i32_w]
    rfl
  refine one_ (i := 12) (N := some 100) #[true, true, true, true, true, true, true, true, true, true, true, true, true, false, false, false] rfl rfl (by kernel_rfl) (by decide) (fun K hK => ?_)
  refine app_bytes_step base (by rfl) _ _ (by rfl) (.slice A3 n3 c3') (data ++ (List.replicate r 0 ++ b)) [] none 0 0 (by rfl) (by rfl) X4.out.drew.row HC4.out HB4.out HLN.out ?_
  intro A5 n5 c5 w5 hr5 hg5 ho5
  have O5 := Lib.hid (X4.out.drew.own.grown hg5 NE4.out ND4.out)
  have R5 := Lib.hid hr5
  have M5 := Lib.hid (tch_then M4.out T3.out (((Moves.refl (Tch f d (.slice A3 n3 c3')) W4).drew).grown hg5 (fun i hi => .inr (.inr hi.symm) |> .inl)))
  have T5 := Lib.hid (own_then (w := W) (w1 := W4.drew) M4.out.size T3.out ho5)
  clear hr5 hg5 ho5
  refine hK.out _ _ ⟨O5.out.c4, O5.out.n1⟩ (fun hHeld => ?_)
  clear hK K
  refine norm_ (a' := ?_) ?_ ?_
  rotate_left
  · show Act.put _ (some 100) _ = _
    simp only [Act.put, List.setIfInBounds_toArray, List.set_cons_zero, List.set_cons_succ, i64_w, i32_w]
    rfl
  refine pure_ (i := 13) (N := some 101) (v := ?_) (a' := ?_) #[true, true, true, true, true, true, true, true, true, true, true, true, true, true, false, false] rfl rfl (by kernel_rfl) (fun _ _ _ h => h) (Or.inl ⟨by rfl, ?_⟩) ?_ ?_
  rotate_left
  · intro w'
    go_simp
    with_reducible rfl
  rotate_left
  · simp only [Act.put, List.setIfInBounds_toArray, List.set_cons_zero, List.set_cons_succ, i64_w, i32_w]
    rfl
  refine pure_ (i := 14) (N := some 102) (v := ?_) (a' := ?_) #[true, true, true, true, true, true, true, true, true, true, true, true, true, true, true, false] rfl rfl (by kernel_rfl) (fun _ _ _ h => h) (Or.inl ⟨by rfl, ?_⟩) ?_ ?_
  rotate_left
  · intro w'
    go_simp
    with_reducible rfl
  rotate_left
  · simp only [Act.put, List.setIfInBounds_toArray, List.set_cons_zero, List.set_cons_succ, i64_w, i32_w]
    rfl
  refine last_ (i := 15) (N := none) #[true, true, true, true, true, true, true, true, true, true, true, true, true, true, true, true] rfl rfl (by kernel_rfl) (by decide) (fun K hK => ?_)
  have x1 := O5.out.n1
  have xz := blk_frozen O5.out.hd 1
  refine skip_ (w1 := ?_) (by rfl) rfl ?_ ?_
  rotate_left
  · go_simp
    rfl
  refine hK.out _ _ ?_
  clear x1 xz
  clear hK K
  refine done_ (by kernel_rfl) ?_
  have X6 := Lib.hid (O5.out.set R5.out)
  have M6 := Lib.hid (show Moves (Tch f d v) W (w5.setCell ⟨d, 1, none⟩ (.slice A5 n5 c5)) from M5.out.setCell (p := ⟨d, 1, none⟩) (.inl (.inr (.inl rfl))) _)
  generalize w5.setCell ⟨d, 1, none⟩ (.slice A5 n5 c5) = W6 at *
  have c4 := X6.out.c4
  have c0 := X6.out.c0
  have m5 := X6.out.n5
  have z5 := blk_frozen X6.out.hd 5
  have X7 := Lib.hid (X6.out.setTm 0)
  have k0 := X7.out.c0
  have kz := blk_frozen X7.out.hf 0
  have w8 : IntKind.i64.wrap ((p : Int) + (m : Int)) = (p : Int) + (m : Int) := IntWalk.i64_in _ (by omega)
  go_wp2_with (first | (go_at_call 84; (with_reducible refine (mod84 d 0 tm _ m5 z5).mono ?_); rintro e w' ⟨rfl, rfl⟩))
  go_ret2
  refine ⟨rfl, _, ?_, (M6.out.setCell (p := ⟨d, 5, none⟩) (.inl (.inr (.inl rfl))) _).setCell (p := ⟨f, 0, none⟩) (.inl (.inl rfl)) _, T5.out⟩
  have := X7.out.setPos ((p : Int) + (m : Int))
  simpa using this
set_option maxHeartbeats 2000000 in
set_option maxRecDepth 100000 in
/-- Writing that reaches the end. -/
theorem write42e (F : Fil f d h n v data base W) (Ab : Option Addr) (m cb p : Nat) (hC : Kd.C (Kd.int .u8) W Ab m b) (hcl : h.cl = false) (hro : h.ro = false) (hp : h.pos = p) (hpl : p ≤ data.length) (hpm : data.length ≤ m + p) (hm : m ≤ 10000000) (hdl : data.length ≤ 100000000) (hbs : base ≤ W.heap.size) :
    Calls Tryd.prog 42 #[.pointer (some ⟨f, 0, none⟩), .slice Ab m cb] W fun e w' => e = .returned (.tuple #[.int .i64 m, .nilIface]) ∧ Acts f d { h with pos := p + m } { n with tm := 0 } (data.take p ++ b) base v W w' := by
  obtain ⟨pos, ls, cl, ro⟩ := h
  obtain ⟨nm, vm, dir, md, tm⟩ := n
  simp only at hcl hro hp
  subst hcl hro hp
  have c0 := F.c0
  have c2 := F.c2
  have c3 := F.c3
  have c4 := F.c4
  have n1 := F.n1
  have HF := Lib.hid F
  have HC := Lib.hid hC
  have hbl := HC.out.1
  obtain ⟨len, hlen⟩ : ∃ len, len = data.length := ⟨_, rfl⟩
  rw [← hlen] at hpl hdl
  have HL := Lib.hid hlen
  rw [← hlen] at hpm
  obtain ⟨A0, c, hv, hcc, _⟩ := Kd.R_reads F.row
  rw [hv, ← hlen] at n1
  rw [← hlen] at hcc
  have w2 : IntKind.i64.wrap ((m : Int) + (p : Int)) = (m : Int) + (p : Int) := IntWalk.i64_in _ (by omega)
  have w3 : ¬ ((m : Int) + (p : Int) < (len : Int)) := by omega
  have w1 : IntKind.i64.wrap ((p : Int) - (len : Int)) = (p : Int) - (len : Int) := IntWalk.i64_in _ (by omega)
  have w4 : ¬ ((0 : Int) < (p : Int) - (len : Int)) := by omega
  have w5 : (0 : Int) ≤ (p : Int) := by omega
  have w6 : (p : Int) ≤ (c : Int) := by omega
  have HVL := Lib.hid (show v = .slice A0 len c by rw [hlen]; exact hv)
  have HOW := Lib.hid (show (Value.slice A0 p c).ownBlock = v.ownBlock by rw [HVL.out]; cases A0 <;> rfl)
  have HRT := Lib.hid (show Kd.R (Kd.int .u8) 5 W.drew base (fun _ => True) (.slice A0 p c) (data.take p) from Kd.R_take (by have := HF.out.drew.row; rw [HVL.out] at this; exact this) (by rw [← hlen]; exact hpl))
  have NEF := Lib.hid (HOW.out ▸ HF.out.nef)
  have NED := Lib.hid (HOW.out ▸ HF.out.ned)
  have HLN0 := Lib.hid (show (data.take p).length + m ≤ 140737488355328 by rw [List.length_take]; omega)
  have HLN := Lib.hid (show (data.take p ++ b).length + 0 ≤ 140737488355328 by rw [List.length_append, List.length_take, hbl]; omega)
  clear F hC hv hlen hbl
  go_enter Tryd.func42, Tryd.ntmps42
  go_wp2_with fail
  have HS0 := Lib.hid (show W.drew.cell? ⟨f, 4, none⟩ = some (.pointer (some ⟨d, 0, none⟩)) ∧ W.drew.cell? ⟨d, 1, none⟩ = some (.slice A0 len c) from ⟨c4, n1⟩)
  refine start_ (n := 18) (S := fun w' => w'.cell? ⟨f, 4, none⟩ = some (.pointer (some ⟨d, 0, none⟩)) ∧ w'.cell? ⟨d, 1, none⟩ = some (.slice A0 len c)) (ds := [17]) #[false, false, false, false, false, false, false, false, false, false, false, false, false, false, false, false, false, false] (by kernel_rfl) rfl rfl (by first | exact HS0.out | trivial) (fun hHeld => ?_)
  refine pure_ (i := 0) (N := some 103) (v := ?_) (a' := ?_) #[true, false, false, false, false, false, false, false, false, false, false, false, false, false, false, false, false, false] rfl rfl (by kernel_rfl) (fun _ _ _ h => h) (Or.inl ⟨by rfl, ?_⟩) ?_ ?_
  rotate_left
  · intro w'
    go_simp
    with_reducible rfl
  rotate_left
  · simp only [Act.put, List.setIfInBounds_toArray, List.set_cons_zero, List.set_cons_succ, i64_w, i32_w]
    rfl
  refine pure_ (i := 1) (N := some 104) (v := ?_) (a' := ?_) #[true, true, false, false, false, false, false, false, false, false, false, false, false, false, false, false, false, false] rfl rfl (by kernel_rfl) (fun _ _ _ h => h) (Or.inl ⟨by rfl, ?_⟩) ?_ ?_
  rotate_left
  · intro w'
    go_simp
    with_reducible rfl
  rotate_left
  · simp only [Act.put, List.setIfInBounds_toArray, List.set_cons_zero, List.set_cons_succ, i64_w, i32_w]
    rfl
  refine pure_ (i := 2) (N := some 105) (v := ?_) (a' := ?_) #[true, true, true, false, false, false, false, false, false, false, false, false, false, false, false, false, false, false] rfl rfl (by kernel_rfl) (fun _ _ _ h => h) (Or.inl ⟨by rfl, ?_⟩) ?_ ?_
  rotate_left
  · intro w'
    go_simp
    with_reducible rfl
  rotate_left
  · simp only [Act.put, List.setIfInBounds_toArray, List.set_cons_zero, List.set_cons_succ, i64_w, i32_w]
    rfl
  refine take_ (i := 3) (N := some 106) (v := ?_) (a' := ?_) #[true, true, true, true, false, false, false, false, false, false, false, false, false, false, false, false, false, false] rfl rfl (by kernel_rfl) (fun _ _ _ h => h) (Or.inl ⟨by rfl, ?_⟩) hHeld ?_ ?_
  rotate_left
  · rintro w' ⟨s0, s1⟩
    go_simp
    with_reducible rfl
  rotate_left
  · simp only [Act.put, List.setIfInBounds_toArray, List.set_cons_zero, List.set_cons_succ, i64_w, i32_w]
    rfl
  refine pure_ (i := 4) (N := some 107) (v := ?_) (a' := ?_) #[true, true, true, true, true, false, false, false, false, false, false, false, false, false, false, false, false, false] rfl rfl (by kernel_rfl) (fun _ _ _ h => h) (Or.inl ⟨by rfl, ?_⟩) ?_ ?_
  rotate_left
  · intro w'
    go_simp
    with_reducible rfl
  rotate_left
  · simp only [Act.put, List.setIfInBounds_toArray, List.set_cons_zero, List.set_cons_succ, i64_w, i32_w]
    rfl
  refine pure_ (i := 5) (N := some 108) (v := ?_) (a' := ?_) #[true, true, true, true, true, true, false, false, false, false, false, false, false, false, false, false, false, false] rfl rfl (by kernel_rfl) (fun _ _ _ h => h) (Or.inl ⟨by rfl, ?_⟩) ?_ ?_
  rotate_left
  · intro w'
    go_simp
    with_reducible rfl
  rotate_left
  · simp only [Act.put, List.setIfInBounds_toArray, List.set_cons_zero, List.set_cons_succ, i64_w, i32_w]
    rfl
  refine pure_ (i := 6) (N := some 109) (v := ?_) (a' := ?_) #[true, true, true, true, true, true, true, false, false, false, false, false, false, false, false, false, false, false] rfl rfl (by kernel_rfl) (fun _ _ _ h => h) (Or.inl ⟨by rfl, ?_⟩) ?_ ?_
  rotate_left
  · intro w'
    go_simp
    with_reducible rfl
  rotate_left
  · simp only [Act.put, List.setIfInBounds_toArray, List.set_cons_zero, List.set_cons_succ, i64_w, i32_w]
    rfl
  refine take_ (i := 7) (N := some 110) (v := ?_) (a' := ?_) #[true, true, true, true, true, true, true, true, false, false, false, false, false, false, false, false, false, false] rfl rfl (by kernel_rfl) (fun _ _ _ h => h) (Or.inl ⟨by rfl, ?_⟩) hHeld ?_ ?_
  rotate_left
  · rintro w' ⟨s0, s1⟩
    go_simp
    with_reducible rfl
  rotate_left
  · simp only [Act.put, List.setIfInBounds_toArray, List.set_cons_zero, List.set_cons_succ, i64_w, i32_w]
    rfl
  refine pure_ (i := 8) (N := some 111) (v := ?_) (a' := ?_) #[true, true, true, true, true, true, true, true, true, false, false, false, false, false, false, false, false, false] rfl rfl (by kernel_rfl) (fun _ _ _ h => h) (Or.inl ⟨by rfl, ?_⟩) ?_ ?_
  rotate_left
  · intro w'
    go_simp
    with_reducible rfl
  rotate_left
  · simp only [Act.put, List.setIfInBounds_toArray, List.set_cons_zero, List.set_cons_succ, i64_w, i32_w]
    rfl
  refine pure_ (i := 9) (N := some 112) (v := ?_) (a' := ?_) #[true, true, true, true, true, true, true, true, true, true, false, false, false, false, false, false, false, false] rfl rfl (by kernel_rfl) (fun _ _ _ h => h) (Or.inl ⟨by rfl, ?_⟩) ?_ ?_
  rotate_left
  · intro w'
    go_simp
    with_reducible rfl
  rotate_left
  · simp only [Act.put, List.setIfInBounds_toArray, List.set_cons_zero, List.set_cons_succ, i64_w, i32_w]
    rfl
  refine take_ (i := 10) (N := some 113) (v := ?_) (a' := ?_) #[true, true, true, true, true, true, true, true, true, true, true, false, false, false, false, false, false, false] rfl rfl (by kernel_rfl) (fun _ _ _ h => h) (Or.inl ⟨by rfl, ?_⟩) hHeld ?_ ?_
  rotate_left
  · rintro w' ⟨s0, s1⟩
    go_simp
    with_reducible rfl
  rotate_left
  · simp only [Act.put, List.setIfInBounds_toArray, List.set_cons_zero, List.set_cons_succ, i64_w, i32_w]
    rfl
  refine pure_ (i := 11) (N := some 114) (v := ?_) (a' := ?_) #[true, true, true, true, true, true, true, true, true, true, true, true, false, false, false, false, false, false] rfl rfl (by kernel_rfl) (fun _ _ _ h => h) (Or.inl ⟨by rfl, ?_⟩) ?_ ?_
  rotate_left
  · intro w'
    go_simp
    with_reducible rfl
  rotate_left
  · simp only [Act.put, List.setIfInBounds_toArray, List.set_cons_zero, List.set_cons_succ, i64_w, i32_w]
    rfl
  refine pure_ (i := 12) (N := some 115) (v := ?_) (a' := ?_) #[true, true, true, true, true, true, true, true, true, true, true, true, true, false, false, false, false, false] rfl rfl (by kernel_rfl) (fun _ _ _ h => h) (Or.inl ⟨by rfl, ?_⟩) ?_ ?_
  rotate_left
  · intro w'
    go_simp
    with_reducible rfl
  rotate_left
  · simp only [Act.put, List.setIfInBounds_toArray, List.set_cons_zero, List.set_cons_succ, i64_w, i32_w]
    rfl
  refine pure_ (i := 13) (N := some 116) (v := ?_) (a' := ?_) #[true, true, true, true, true, true, true, true, true, true, true, true, true, true, false, false, false, false] rfl rfl (by kernel_rfl) (fun _ _ _ h => h) (Or.inl ⟨by rfl, ?_⟩) ?_ ?_
  rotate_left
  · intro w'
    go_simp
    with_reducible rfl
  rotate_left
  · simp only [Act.put, List.setIfInBounds_toArray, List.set_cons_zero, List.set_cons_succ, i64_w, i32_w]
    rfl
  refine one_ (i := 14) (N := some 117) #[true, true, true, true, true, true, true, true, true, true, true, true, true, true, true, false, false, false] rfl rfl (by kernel_rfl) (by decide) (fun K hK => ?_)
  refine app_bytes_step base (by rfl) _ _ (by rfl) (.slice A0 p c) (data.take p) b Ab m cb (by rfl) (by rfl) HRT.out (Kd.C_drew HC.out) hbs HLN0.out ?_
  intro A3 n3 c3' w3' hr3 hg3 ho3
  have O3 := Lib.hid (HF.out.drew.own.grown hg3 NEF.out NED.out)
  have R3 := Lib.hid hr3
  have M3 := Lib.hid (show Moves (Tch f d v) W w3' from ((Moves.refl _ _).drew).grown hg3 (fun i hi => .inl (.inr (.inr (by rw [← HOW.out]; exact hi.symm)))))
  have T3 := Lib.hid (own_then (v := v) (v1 := .slice A0 p c) (w := W) (w1 := W.drew) (Nat.le_refl _) (.inl HOW.out) ho3)
  clear hr3 hg3 ho3
  refine hK.out _ _ ⟨O3.out.c4, by rw [← HVL.out]; exact O3.out.n1⟩ (fun hHeld => ?_)
  clear hK K
  refine norm_ (a' := ?_) ?_ ?_
  rotate_left
  · show Act.put _ (some 117) _ = _
    simp only [Act.put, List.setIfInBounds_toArray, List.set_cons_zero, List.set_cons_succ, i64_w, i32_w]
    rfl
  refine pure_ (i := 15) (N := some 118) (v := ?_) (a' := ?_) #[true, true, true, true, true, true, true, true, true, true, true, true, true, true, true, true, false, false] rfl rfl (by kernel_rfl) (fun _ _ _ h => h) (Or.inl ⟨by rfl, ?_⟩) ?_ ?_
  rotate_left
  · intro w'
    go_simp
    with_reducible rfl
  rotate_left
  · simp only [Act.put, List.setIfInBounds_toArray, List.set_cons_zero, List.set_cons_succ, i64_w, i32_w]
    rfl
  refine pure_ (i := 16) (N := some 119) (v := ?_) (a' := ?_) #[true, true, true, true, true, true, true, true, true, true, true, true, true, true, true, true, true, false] rfl rfl (by kernel_rfl) (fun _ _ _ h => h) (Or.inl ⟨by rfl, ?_⟩) ?_ ?_
  rotate_left
  · intro w'
    go_simp
    with_reducible rfl
  rotate_left
  · simp only [Act.put, List.setIfInBounds_toArray, List.set_cons_zero, List.set_cons_succ, i64_w, i32_w]
    rfl
  refine last_ (i := 17) (N := none) #[true, true, true, true, true, true, true, true, true, true, true, true, true, true, true, true, true, true] rfl rfl (by kernel_rfl) (by decide) (fun K hK => ?_)
  have x1 := O3.out.n1
  have xz := blk_frozen O3.out.hd 1
  refine skip_ (w1 := ?_) (by rfl) rfl ?_ ?_
  rotate_left
  · go_simp
    rfl
  refine hK.out _ _ ?_
  clear x1 xz
  clear hK K
  refine done_ (by kernel_rfl) ?_
  have X4 := Lib.hid (O3.out.set R3.out)
  have M4 := Lib.hid (show Moves (Tch f d v) W (w3'.setCell ⟨d, 1, none⟩ (.slice A3 n3 c3')) from M3.out.setCell (p := ⟨d, 1, none⟩) (.inl (.inr (.inl rfl))) _)
  go_wp2_with fail
  generalize w3'.setCell ⟨d, 1, none⟩ (.slice A3 n3 c3') = W4 at *
  clear HS0
  have HS0 := Lib.hid (show W4.drew.cell? ⟨f, 4, none⟩ = some (.pointer (some ⟨d, 0, none⟩)) ∧ W4.drew.cell? ⟨d, 1, none⟩ = some (.slice A3 n3 c3') from ⟨X4.out.c4, X4.out.n1⟩)
  have NE4 := Lib.hid X4.out.nef
  have ND4 := Lib.hid X4.out.ned
  have HB4 := Lib.hid (show base ≤ W4.drew.heap.size from Nat.le_trans hbs M4.out.size)
  have HC4 := Lib.hid (show Kd.C (Kd.int .u8) W4.drew none 0 [] from ⟨rfl, by omega, fun h => absurd h (by omega)⟩)
  refine start_ (n := 16) (S := fun w' => w'.cell? ⟨f, 4, none⟩ = some (.pointer (some ⟨d, 0, none⟩)) ∧ w'.cell? ⟨d, 1, none⟩ = some (.slice A3 n3 c3')) (ds := [15]) #[false, false, false, false, false, false, false, false, false, false, false, false, false, false, false, false] (by kernel_rfl) rfl rfl (by first | exact HS0.out | trivial) (fun hHeld => ?_)
  refine pure_ (i := 0) (N := some 120) (v := ?_) (a' := ?_) #[true, false, false, false, false, false, false, false, false, false, false, false, false, false, false, false] rfl rfl (by kernel_rfl) (fun _ _ _ h => h) (Or.inl ⟨by rfl, ?_⟩) ?_ ?_
  rotate_left
  · intro w'
    go_simp
    with_reducible rfl
  rotate_left
  · simp only [Act.put, List.setIfInBounds_toArray, List.set_cons_zero, List.set_cons_succ, i64_w, i32_w]
    rfl
  refine pure_ (i := 1) (N := some 121) (v := ?_) (a' := ?_) #[true, true, false, false, false, false, false, false, false, false, false, false, false, false, false, false] rfl rfl (by kernel_rfl) (fun _ _ _ h => h) (Or.inl ⟨by rfl, ?_⟩) ?_ ?_
  rotate_left
  · intro w'
    go_simp
    with_reducible rfl
  rotate_left
  · simp only [Act.put, List.setIfInBounds_toArray, List.set_cons_zero, List.set_cons_succ, i64_w, i32_w]
    rfl
  refine pure_ (i := 2) (N := some 122) (v := ?_) (a' := ?_) #[true, true, true, false, false, false, false, false, false, false, false, false, false, false, false, false] rfl rfl (by kernel_rfl) (fun _ _ _ h => h) (Or.inl ⟨by rfl, ?_⟩) ?_ ?_
  rotate_left
  · intro w'
    go_simp
    with_reducible rfl
  rotate_left
  · simp only [Act.put, List.setIfInBounds_toArray, List.set_cons_zero, List.set_cons_succ, i64_w, i32_w]
    rfl
  refine take_ (i := 3) (N := some 123) (v := ?_) (a' := ?_) #[true, true, true, true, false, false, false, false, false, false, false, false, false, false, false, false] rfl rfl (by kernel_rfl) (fun _ _ _ h => h) (Or.inl ⟨by rfl, ?_⟩) hHeld ?_ ?_
  rotate_left
  · rintro w' ⟨s0, s1⟩
    go_simp
    with_reducible rfl
  rotate_left
  · simp only [Act.put, List.setIfInBounds_toArray, List.set_cons_zero, List.set_cons_succ, i64_w, i32_w]
    rfl
  refine pure_ (i := 4) (N := some 124) (v := ?_) (a' := ?_) #[true, true, true, true, true, false, false, false, false, false, false, false, false, false, false, false] rfl rfl (by kernel_rfl) (fun _ _ _ h => h) (Or.inl ⟨by rfl, ?_⟩) ?_ ?_
  rotate_left
  · intro w'
    go_simp
    with_reducible rfl
  rotate_left
  · simp only [Act.put, List.setIfInBounds_toArray, List.set_cons_zero, List.set_cons_succ, i64_w, i32_w]
    rfl
  refine pure_ (i := 5) (N := some 125) (v := ?_) (a' := ?_) #[true, true, true, true, true, true, false, false, false, false, false, false, false, false, false, false] rfl rfl (by kernel_rfl) (fun _ _ _ h => h) (Or.inl ⟨by rfl, ?_⟩) ?_ ?_
  rotate_left
  · intro w'
    go_simp
    with_reducible rfl
  rotate_left
  · simp only [Act.put, List.setIfInBounds_toArray, List.set_cons_zero, List.set_cons_succ, i64_w, i32_w]
    rfl
  refine pure_ (i := 6) (N := some 126) (v := ?_) (a' := ?_) #[true, true, true, true, true, true, true, false, false, false, false, false, false, false, false, false] rfl rfl (by kernel_rfl) (fun _ _ _ h => h) (Or.inl ⟨by rfl, ?_⟩) ?_ ?_
  rotate_left
  · intro w'
    go_simp
    with_reducible rfl
  rotate_left
  · simp only [Act.put, List.setIfInBounds_toArray, List.set_cons_zero, List.set_cons_succ, i64_w, i32_w]
    rfl
  refine take_ (i := 7) (N := some 127) (v := ?_) (a' := ?_) #[true, true, true, true, true, true, true, true, false, false, false, false, false, false, false, false] rfl rfl (by kernel_rfl) (fun _ _ _ h => h) (Or.inl ⟨by rfl, ?_⟩) hHeld ?_ ?_
  rotate_left
  · rintro w' ⟨s0, s1⟩
    go_simp
    with_reducible rfl
  rotate_left
  · simp only [Act.put, List.setIfInBounds_toArray, List.set_cons_zero, List.set_cons_succ, i64_w, i32_w]
    rfl
  refine pure_ (i := 8) (N := some 128) (v := ?_) (a' := ?_) #[true, true, true, true, true, true, true, true, true, false, false, false, false, false, false, false] rfl rfl (by kernel_rfl) (fun _ _ _ h => h) (Or.inl ⟨by rfl, ?_⟩) ?_ ?_
  rotate_left
  · intro w'
    go_simp
    with_reducible rfl
  rotate_left
  · simp only [Act.put, List.setIfInBounds_toArray, List.set_cons_zero, List.set_cons_succ, i64_w, i32_w]
    rfl
  refine pure_ (i := 9) (N := some 129) (v := ?_) (a' := ?_) #[true, true, true, true, true, true, true, true, true, true, false, false, false, false, false, false] rfl rfl (by kernel_rfl) (fun _ _ _ h => h) (Or.inl ⟨by rfl, ?_⟩) ?_ ?_
  rotate_left
  · intro w'
    go_simp
    with_reducible rfl
  rotate_left
  · simp only [Act.put, List.setIfInBounds_toArray, List.set_cons_zero, List.set_cons_succ, i64_w, i32_w]
    rfl
  refine take_ (i := 10) (N := some 130) (v := ?_) (a' := ?_) #[true, true, true, true, true, true, true, true, true, true, true, false, false, false, false, false] rfl rfl (by kernel_rfl) (fun _ _ _ h => h) (Or.inl ⟨by rfl, ?_⟩) hHeld ?_ ?_
  rotate_left
  · rintro w' ⟨s0, s1⟩
    go_simp
    with_reducible rfl
  rotate_left
  · simp only [Act.put, List.setIfInBounds_toArray, List.set_cons_zero, List.set_cons_succ, i64_w, i32_w]
    rfl
  refine pure_ (i := 11) (N := some 131) (v := ?_) (a' := ?_) #[true, true, true, true, true, true, true, true, true, true, true, true, false, false, false, false] rfl rfl (by kernel_rfl) (fun _ _ _ h => h) (Or.inl ⟨by rfl, ?_⟩) ?_ ?_
  rotate_left
  · intro w'
    go_simp
    with_reducible rfl
  rotate_left
  · simp only [Act.put, List.setIfInBounds_toArray, List.set_cons_zero, List.set_cons_succ, i64_w, i32_w]
    rfl
  refine one_ (i := 12) (N := some 132) #[true, true, true, true, true, true, true, true, true, true, true, true, true, false, false, false] rfl rfl (by kernel_rfl) (by decide) (fun K hK => ?_)
  refine app_bytes_step base (by rfl) _ _ (by rfl) (.slice A3 n3 c3') (data.take p ++ b) [] none 0 0 (by rfl) (by rfl) X4.out.drew.row HC4.out HB4.out HLN.out ?_
  intro A5 n5 c5 w5 hr5 hg5 ho5
  have O5 := Lib.hid (X4.out.drew.own.grown hg5 NE4.out ND4.out)
  have R5 := Lib.hid hr5
  have M5 := Lib.hid (tch_then M4.out T3.out (((Moves.refl (Tch f d (.slice A3 n3 c3')) W4).drew).grown hg5 (fun i hi => .inr (.inr hi.symm) |> .inl)))
  have T5 := Lib.hid (own_then (w := W) (w1 := W4.drew) M4.out.size T3.out ho5)
  clear hr5 hg5 ho5
  refine hK.out _ _ ⟨O5.out.c4, O5.out.n1⟩ (fun hHeld => ?_)
  clear hK K
  refine norm_ (a' := ?_) ?_ ?_
  rotate_left
  · show Act.put _ (some 132) _ = _
    simp only [Act.put, List.setIfInBounds_toArray, List.set_cons_zero, List.set_cons_succ, i64_w, i32_w]
    rfl
  refine pure_ (i := 13) (N := some 133) (v := ?_) (a' := ?_) #[true, true, true, true, true, true, true, true, true, true, true, true, true, true, false, false] rfl rfl (by kernel_rfl) (fun _ _ _ h => h) (Or.inl ⟨by rfl, ?_⟩) ?_ ?_
  rotate_left
  · intro w'
    go_simp
    with_reducible rfl
  rotate_left
  · simp only [Act.put, List.setIfInBounds_toArray, List.set_cons_zero, List.set_cons_succ, i64_w, i32_w]
    rfl
  refine pure_ (i := 14) (N := some 134) (v := ?_) (a' := ?_) #[true, true, true, true, true, true, true, true, true, true, true, true, true, true, true, false] rfl rfl (by kernel_rfl) (fun _ _ _ h => h) (Or.inl ⟨by rfl, ?_⟩) ?_ ?_
  rotate_left
  · intro w'
    go_simp
    with_reducible rfl
  rotate_left
  · simp only [Act.put, List.setIfInBounds_toArray, List.set_cons_zero, List.set_cons_succ, i64_w, i32_w]
    rfl
  refine last_ (i := 15) (N := none) #[true, true, true, true, true, true, true, true, true, true, true, true, true, true, true, true] rfl rfl (by kernel_rfl) (by decide) (fun K hK => ?_)
  have x1 := O5.out.n1
  have xz := blk_frozen O5.out.hd 1
  refine skip_ (w1 := ?_) (by rfl) rfl ?_ ?_
  rotate_left
  · go_simp
    rfl
  refine hK.out _ _ ?_
  clear x1 xz
  clear hK K
  refine done_ (by kernel_rfl) ?_
  have X6 := Lib.hid (O5.out.set R5.out)
  have M6 := Lib.hid (show Moves (Tch f d v) W (w5.setCell ⟨d, 1, none⟩ (.slice A5 n5 c5)) from M5.out.setCell (p := ⟨d, 1, none⟩) (.inl (.inr (.inl rfl))) _)
  generalize w5.setCell ⟨d, 1, none⟩ (.slice A5 n5 c5) = W6 at *
  have c4 := X6.out.c4
  have c0 := X6.out.c0
  have m5 := X6.out.n5
  have z5 := blk_frozen X6.out.hd 5
  have X7 := Lib.hid (X6.out.setTm 0)
  have k0 := X7.out.c0
  have kz := blk_frozen X7.out.hf 0
  have w8 : IntKind.i64.wrap ((p : Int) + (m : Int)) = (p : Int) + (m : Int) := IntWalk.i64_in _ (by omega)
  go_wp2_with (first | (go_at_call 84; (with_reducible refine (mod84 d 0 tm _ m5 z5).mono ?_); rintro e w' ⟨rfl, rfl⟩))
  go_ret2
  refine ⟨rfl, _, ?_, (M6.out.setCell (p := ⟨d, 5, none⟩) (.inl (.inr (.inl rfl))) _).setCell (p := ⟨f, 0, none⟩) (.inl (.inl rfl)) _, T5.out⟩
  have := X7.out.setPos ((p : Int) + (m : Int))
  simpa using this
set_option maxHeartbeats 2000000 in
set_option maxRecDepth 100000 in
/-- Writing in the midst. -/
theorem write42m (F : Fil f d h n v data base W) (Ab : Option Addr) (m cb p : Nat) (hC : Kd.C (Kd.int .u8) W Ab m b) (hcl : h.cl = false) (hro : h.ro = false) (hp : h.pos = p) (hpl : m + p < data.length) (hdl : data.length ≤ 100000000) (hbs : base ≤ W.heap.size) :
    Calls Tryd.prog 42 #[.pointer (some ⟨f, 0, none⟩), .slice Ab m cb] W fun e w' => e = .returned (.tuple #[.int .i64 m, .nilIface]) ∧ Acts f d { h with pos := p + m } { n with tm := 0 } (data.take p ++ b ++ data.drop (p + m)) base v W w' := by
  obtain ⟨pos, ls, cl, ro⟩ := h
  obtain ⟨nm, vm, dir, md, tm⟩ := n
  simp only at hcl hro hp
  subst hcl hro hp
  have c0 := F.c0
  have c2 := F.c2
  have c3 := F.c3
  have c4 := F.c4
  have n1 := F.n1
  have HF := Lib.hid F
  have HC := Lib.hid hC
  have hbl := HC.out.1
  obtain ⟨len, hlen⟩ : ∃ len, len = data.length := ⟨_, rfl⟩
  rw [← hlen] at hpl hdl
  have HL := Lib.hid hlen
  obtain ⟨g, c, hv, _, _, _⟩ := Kd.R_form F.row (by omega)
  have hcc : data.length ≤ c := (Kd.R_reads' (hv ▸ F.row)).2.1
  rw [hv, ← hlen] at n1
  rw [← hlen] at hcc
  obtain ⟨pe, hpe⟩ : ∃ pe, pe = p + m := ⟨_, rfl⟩
  have w2 : IntKind.i64.wrap ((m : Int) + (p : Int)) = (pe : Int) := by rw [IntWalk.i64_in _ (by omega)]; omega
  have w3 : ((pe : Int) < (len : Int)) := by omega
  have w1 : IntKind.i64.wrap ((p : Int) - (len : Int)) = (p : Int) - (len : Int) := IntWalk.i64_in _ (by omega)
  have w4 : ¬ ((0 : Int) < (p : Int) - (len : Int)) := by omega
  have w5 : (0 : Int) ≤ (p : Int) := by omega
  have w6 : (p : Int) ≤ (c : Int) := by omega
  have w7 : ¬ (c = pe) := by omega
  have w9 : pe ≤ len := by omega
  have HVL := Lib.hid (show v = .slice (some ⟨g, 0, none⟩) len c by rw [hlen]; exact hv)
  have HRW := Lib.hid (show Kd.R (Kd.int .u8) 5 W.drew base (fun _ => True) (.slice (some ⟨g, 0, none⟩) len c) data by have := HF.out.drew.row; rw [HVL.out] at this; exact this)
  have NEF := Lib.hid (show some f ≠ some g by have := HF.out.nef; rw [HVL.out] at this; exact this)
  have NED := Lib.hid (show some d ≠ some g by have := HF.out.ned; rw [HVL.out] at this; exact this)
  have HPM := Lib.hid (show p + m ≤ data.length by rw [← hlen]; omega)
  have HPE := Lib.hid hpe
  have HBL := Lib.hid hbl
  clear F hC hv hlen hbl hpe
  go_enter Tryd.func42, Tryd.ntmps42
  go_wp2_with fail
  have HS0 := Lib.hid (show W.drew.cell? ⟨f, 4, none⟩ = some (.pointer (some ⟨d, 0, none⟩)) ∧ W.drew.cell? ⟨d, 1, none⟩ = some (.slice (some ⟨g, 0, none⟩) len c) from ⟨c4, n1⟩)
  refine start_ (n := 18) (S := fun w' => w'.cell? ⟨f, 4, none⟩ = some (.pointer (some ⟨d, 0, none⟩)) ∧ w'.cell? ⟨d, 1, none⟩ = some (.slice (some ⟨g, 0, none⟩) len c)) (ds := [17]) #[false, false, false, false, false, false, false, false, false, false, false, false, false, false, false, false, false, false] (by kernel_rfl) rfl rfl (by first | exact HS0.out | trivial) (fun hHeld => ?_)
  refine pure_ (i := 0) (N := some 103) (v := ?_) (a' := ?_) #[true, false, false, false, false, false, false, false, false, false, false, false, false, false, false, false, false, false] rfl rfl (by kernel_rfl) (fun _ _ _ h => h) (Or.inl ⟨by rfl, ?_⟩) ?_ ?_
  rotate_left
  · intro w'
    go_simp
    with_reducible rfl
  rotate_left
  · simp only [Act.put, List.setIfInBounds_toArray, List.set_cons_zero, List.set_cons_succ, i64_w, i32_w]
    rfl
  refine pure_ (i := 1) (N := some 104) (v := ?_) (a' := ?_) #[true, true, false, false, false, false, false, false, false, false, false, false, false, false, false, false, false, false] rfl rfl (by kernel_rfl) (fun _ _ _ h => h) (Or.inl ⟨by rfl, ?_⟩) ?_ ?_
  rotate_left
  · intro w'
    go_simp
    with_reducible rfl
  rotate_left
  · simp only [Act.put, List.setIfInBounds_toArray, List.set_cons_zero, List.set_cons_succ, i64_w, i32_w]
    rfl
  refine pure_ (i := 2) (N := some 105) (v := ?_) (a' := ?_) #[true, true, true, false, false, false, false, false, false, false, false, false, false, false, false, false, false, false] rfl rfl (by kernel_rfl) (fun _ _ _ h => h) (Or.inl ⟨by rfl, ?_⟩) ?_ ?_
  rotate_left
  · intro w'
    go_simp
    with_reducible rfl
  rotate_left
  · simp only [Act.put, List.setIfInBounds_toArray, List.set_cons_zero, List.set_cons_succ, i64_w, i32_w]
    rfl
  refine take_ (i := 3) (N := some 106) (v := ?_) (a' := ?_) #[true, true, true, true, false, false, false, false, false, false, false, false, false, false, false, false, false, false] rfl rfl (by kernel_rfl) (fun _ _ _ h => h) (Or.inl ⟨by rfl, ?_⟩) hHeld ?_ ?_
  rotate_left
  · rintro w' ⟨s0, s1⟩
    go_simp
    with_reducible rfl
  rotate_left
  · simp only [Act.put, List.setIfInBounds_toArray, List.set_cons_zero, List.set_cons_succ, i64_w, i32_w]
    rfl
  refine pure_ (i := 4) (N := some 107) (v := ?_) (a' := ?_) #[true, true, true, true, true, false, false, false, false, false, false, false, false, false, false, false, false, false] rfl rfl (by kernel_rfl) (fun _ _ _ h => h) (Or.inl ⟨by rfl, ?_⟩) ?_ ?_
  rotate_left
  · intro w'
    go_simp
    with_reducible rfl
  rotate_left
  · simp only [Act.put, List.setIfInBounds_toArray, List.set_cons_zero, List.set_cons_succ, i64_w, i32_w]
    rfl
  refine pure_ (i := 5) (N := some 108) (v := ?_) (a' := ?_) #[true, true, true, true, true, true, false, false, false, false, false, false, false, false, false, false, false, false] rfl rfl (by kernel_rfl) (fun _ _ _ h => h) (Or.inl ⟨by rfl, ?_⟩) ?_ ?_
  rotate_left
  · intro w'
    go_simp
    with_reducible rfl
  rotate_left
  · simp only [Act.put, List.setIfInBounds_toArray, List.set_cons_zero, List.set_cons_succ, i64_w, i32_w]
    rfl
  refine pure_ (i := 6) (N := some 109) (v := ?_) (a' := ?_) #[true, true, true, true, true, true, true, false, false, false, false, false, false, false, false, false, false, false] rfl rfl (by kernel_rfl) (fun _ _ _ h => h) (Or.inl ⟨by rfl, ?_⟩) ?_ ?_
  rotate_left
  · intro w'
    go_simp
    with_reducible rfl
  rotate_left
  · simp only [Act.put, List.setIfInBounds_toArray, List.set_cons_zero, List.set_cons_succ, i64_w, i32_w]
    rfl
  refine take_ (i := 7) (N := some 110) (v := ?_) (a' := ?_) #[true, true, true, true, true, true, true, true, false, false, false, false, false, false, false, false, false, false] rfl rfl (by kernel_rfl) (fun _ _ _ h => h) (Or.inl ⟨by rfl, ?_⟩) hHeld ?_ ?_
  rotate_left
  · rintro w' ⟨s0, s1⟩
    go_simp
    with_reducible rfl
  rotate_left
  · simp only [Act.put, List.setIfInBounds_toArray, List.set_cons_zero, List.set_cons_succ, i64_w, i32_w]
    rfl
  refine pure_ (i := 8) (N := some 111) (v := ?_) (a' := ?_) #[true, true, true, true, true, true, true, true, true, false, false, false, false, false, false, false, false, false] rfl rfl (by kernel_rfl) (fun _ _ _ h => h) (Or.inl ⟨by rfl, ?_⟩) ?_ ?_
  rotate_left
  · intro w'
    go_simp
    with_reducible rfl
  rotate_left
  · simp only [Act.put, List.setIfInBounds_toArray, List.set_cons_zero, List.set_cons_succ, i64_w, i32_w]
    rfl
  refine pure_ (i := 9) (N := some 112) (v := ?_) (a' := ?_) #[true, true, true, true, true, true, true, true, true, true, false, false, false, false, false, false, false, false] rfl rfl (by kernel_rfl) (fun _ _ _ h => h) (Or.inl ⟨by rfl, ?_⟩) ?_ ?_
  rotate_left
  · intro w'
    go_simp
    with_reducible rfl
  rotate_left
  · simp only [Act.put, List.setIfInBounds_toArray, List.set_cons_zero, List.set_cons_succ, i64_w, i32_w]
    rfl
  refine take_ (i := 10) (N := some 113) (v := ?_) (a' := ?_) #[true, true, true, true, true, true, true, true, true, true, true, false, false, false, false, false, false, false] rfl rfl (by kernel_rfl) (fun _ _ _ h => h) (Or.inl ⟨by rfl, ?_⟩) hHeld ?_ ?_
  rotate_left
  · rintro w' ⟨s0, s1⟩
    go_simp
    with_reducible rfl
  rotate_left
  · simp only [Act.put, List.setIfInBounds_toArray, List.set_cons_zero, List.set_cons_succ, i64_w, i32_w]
    rfl
  refine pure_ (i := 11) (N := some 114) (v := ?_) (a' := ?_) #[true, true, true, true, true, true, true, true, true, true, true, true, false, false, false, false, false, false] rfl rfl (by kernel_rfl) (fun _ _ _ h => h) (Or.inl ⟨by rfl, ?_⟩) ?_ ?_
  rotate_left
  · intro w'
    go_simp
    with_reducible rfl
  rotate_left
  · simp only [Act.put, List.setIfInBounds_toArray, List.set_cons_zero, List.set_cons_succ, i64_w, i32_w]
    rfl
  refine pure_ (i := 12) (N := some 115) (v := ?_) (a' := ?_) #[true, true, true, true, true, true, true, true, true, true, true, true, true, false, false, false, false, false] rfl rfl (by kernel_rfl) (fun _ _ _ h => h) (Or.inl ⟨by rfl, ?_⟩) ?_ ?_
  rotate_left
  · intro w'
    go_simp
    with_reducible rfl
  rotate_left
  · simp only [Act.put, List.setIfInBounds_toArray, List.set_cons_zero, List.set_cons_succ, i64_w, i32_w]
    rfl
  refine pure_ (i := 13) (N := some 116) (v := ?_) (a' := ?_) #[true, true, true, true, true, true, true, true, true, true, true, true, true, true, false, false, false, false] rfl rfl (by kernel_rfl) (fun _ _ _ h => h) (Or.inl ⟨by rfl, ?_⟩) ?_ ?_
  rotate_left
  · intro w'
    go_simp
    with_reducible rfl
  rotate_left
  · simp only [Act.put, List.setIfInBounds_toArray, List.set_cons_zero, List.set_cons_succ, i64_w, i32_w]
    rfl
  refine one_ (i := 14) (N := some 117) #[true, true, true, true, true, true, true, true, true, true, true, true, true, true, true, false, false, false] rfl rfl (by kernel_rfl) (by decide) (fun K hK => ?_)
  refine inplace_step (p := p) (m := m) (base := base) (len := len) (xs := data) (b := b) (by rfl) (by rfl) _ _ (by rfl) HRW.out (Kd.C_drew HC.out) HPM.out (by rfl) (by rfl) ?_
  rw [← HPE.out]
  intro w3' hr3 hg3
  have O3 := Lib.hid (HF.out.drew.own.grown hg3 NEF.out NED.out)
  have RF := Lib.hid hr3
  have R3 := Lib.hid (show Kd.R (Kd.int .u8) 5 w3' base (fun _ => True) (.slice (some ⟨g, 0, none⟩) pe c) (data.take p ++ b) from mid_take hr3 HBL.out HPM.out HPE.out)
  have M3 := Lib.hid (show Moves (Tch f d v) W w3' from ((Moves.refl _ _).drew).grown hg3 (fun i hi => .inl (.inr (.inr (by rw [HVL.out]; exact hi.symm)))))
  have T3 := Lib.hid (show (Value.slice (some ⟨g, 0, none⟩) pe c).ownBlock = v.ownBlock ∨ ∃ b, (Value.slice (some ⟨g, 0, none⟩) pe c).ownBlock = some b ∧ W.heap.size ≤ b from .inl (by rw [HVL.out]; rfl))
  clear hr3 hg3
  refine hK.out _ _ ⟨O3.out.c4, by rw [← HVL.out]; exact O3.out.n1⟩ (fun hHeld => ?_)
  clear hK K
  refine norm_ (a' := ?_) ?_ ?_
  rotate_left
  · show Act.put _ (some 117) _ = _
    simp only [Act.put, List.setIfInBounds_toArray, List.set_cons_zero, List.set_cons_succ, i64_w, i32_w]
    rfl
  refine pure_ (i := 15) (N := some 118) (v := ?_) (a' := ?_) #[true, true, true, true, true, true, true, true, true, true, true, true, true, true, true, true, false, false] rfl rfl (by kernel_rfl) (fun _ _ _ h => h) (Or.inl ⟨by rfl, ?_⟩) ?_ ?_
  rotate_left
  · intro w'
    go_simp
    with_reducible rfl
  rotate_left
  · simp only [Act.put, List.setIfInBounds_toArray, List.set_cons_zero, List.set_cons_succ, i64_w, i32_w]
    rfl
  refine pure_ (i := 16) (N := some 119) (v := ?_) (a' := ?_) #[true, true, true, true, true, true, true, true, true, true, true, true, true, true, true, true, true, false] rfl rfl (by kernel_rfl) (fun _ _ _ h => h) (Or.inl ⟨by rfl, ?_⟩) ?_ ?_
  rotate_left
  · intro w'
    go_simp
    with_reducible rfl
  rotate_left
  · simp only [Act.put, List.setIfInBounds_toArray, List.set_cons_zero, List.set_cons_succ, i64_w, i32_w]
    rfl
  refine last_ (i := 17) (N := none) #[true, true, true, true, true, true, true, true, true, true, true, true, true, true, true, true, true, true] rfl rfl (by kernel_rfl) (by decide) (fun K hK => ?_)
  have x1 := O3.out.n1
  have xz := blk_frozen O3.out.hd 1
  refine skip_ (w1 := ?_) (by rfl) rfl ?_ ?_
  rotate_left
  · go_simp
    rfl
  refine hK.out _ _ ?_
  clear x1 xz
  clear hK K
  refine done_ (by kernel_rfl) ?_
  have RF4 := Lib.hid (Kd.R_set RF.out O3.out.hd (Fil.types 92 (.inr rfl)) 1 (.slice (some ⟨g, 0, none⟩) pe c))
  have X4 := Lib.hid (O3.out.set R3.out)
  have M4 := Lib.hid (show Moves (Tch f d v) W (w3'.setCell ⟨d, 1, none⟩ (.slice (some ⟨g, 0, none⟩) pe c)) from M3.out.setCell (p := ⟨d, 1, none⟩) (.inl (.inr (.inl rfl))) _)
  go_wp2_with fail
  generalize w3'.setCell ⟨d, 1, none⟩ (.slice (some ⟨g, 0, none⟩) pe c) = W4 at *
  clear HS0
  have HS0 := Lib.hid (show W4.drew.cell? ⟨f, 4, none⟩ = some (.pointer (some ⟨d, 0, none⟩)) ∧ W4.drew.cell? ⟨d, 1, none⟩ = some (.slice (some ⟨g, 0, none⟩) pe c) from ⟨X4.out.c4, X4.out.n1⟩)
  have NE4 := Lib.hid X4.out.nef
  have ND4 := Lib.hid X4.out.ned
  have HB4 := Lib.hid (show base ≤ W4.drew.heap.size from Nat.le_trans hbs M4.out.size)
  have HC4 := Lib.hid (show Kd.C (Kd.int .u8) W4.drew (some ⟨g, pe, none⟩) (len - pe) (data.drop (p + m)) from mid_tail RF4.out HBL.out HPM.out HPE.out HL.out)
  have HLN := Lib.hid (show (data.take p ++ b).length + (len - pe) ≤ 140737488355328 by rw [List.length_append, List.length_take, HBL.out]; omega)
  refine start_ (n := 16) (S := fun w' => w'.cell? ⟨f, 4, none⟩ = some (.pointer (some ⟨d, 0, none⟩)) ∧ w'.cell? ⟨d, 1, none⟩ = some (.slice (some ⟨g, 0, none⟩) pe c)) (ds := [15]) #[false, false, false, false, false, false, false, false, false, false, false, false, false, false, false, false] (by kernel_rfl) rfl rfl (by first | exact HS0.out | trivial) (fun hHeld => ?_)
  refine pure_ (i := 0) (N := some 120) (v := ?_) (a' := ?_) #[true, false, false, false, false, false, false, false, false, false, false, false, false, false, false, false] rfl rfl (by kernel_rfl) (fun _ _ _ h => h) (Or.inl ⟨by rfl, ?_⟩) ?_ ?_
  rotate_left
  · intro w'
    go_simp
    with_reducible rfl
  rotate_left
  · simp only [Act.put, List.setIfInBounds_toArray, List.set_cons_zero, List.set_cons_succ, i64_w, i32_w]
    rfl
  refine pure_ (i := 1) (N := some 121) (v := ?_) (a' := ?_) #[true, true, false, false, false, false, false, false, false, false, false, false, false, false, false, false] rfl rfl (by kernel_rfl) (fun _ _ _ h => h) (Or.inl ⟨by rfl, ?_⟩) ?_ ?_
  rotate_left
  · intro w'
    go_simp
    with_reducible rfl
  rotate_left
  · simp only [Act.put, List.setIfInBounds_toArray, List.set_cons_zero, List.set_cons_succ, i64_w, i32_w]
    rfl
  refine pure_ (i := 2) (N := some 122) (v := ?_) (a' := ?_) #[true, true, true, false, false, false, false, false, false, false, false, false, false, false, false, false] rfl rfl (by kernel_rfl) (fun _ _ _ h => h) (Or.inl ⟨by rfl, ?_⟩) ?_ ?_
  rotate_left
  · intro w'
    go_simp
    with_reducible rfl
  rotate_left
  · simp only [Act.put, List.setIfInBounds_toArray, List.set_cons_zero, List.set_cons_succ, i64_w, i32_w]
    rfl
  refine take_ (i := 3) (N := some 123) (v := ?_) (a' := ?_) #[true, true, true, true, false, false, false, false, false, false, false, false, false, false, false, false] rfl rfl (by kernel_rfl) (fun _ _ _ h => h) (Or.inl ⟨by rfl, ?_⟩) hHeld ?_ ?_
  rotate_left
  · rintro w' ⟨s0, s1⟩
    go_simp
    with_reducible rfl
  rotate_left
  · simp only [Act.put, List.setIfInBounds_toArray, List.set_cons_zero, List.set_cons_succ, i64_w, i32_w]
    rfl
  refine pure_ (i := 4) (N := some 124) (v := ?_) (a' := ?_) #[true, true, true, true, true, false, false, false, false, false, false, false, false, false, false, false] rfl rfl (by kernel_rfl) (fun _ _ _ h => h) (Or.inl ⟨by rfl, ?_⟩) ?_ ?_
  rotate_left
  · intro w'
    go_simp
    with_reducible rfl
  rotate_left
  · simp only [Act.put, List.setIfInBounds_toArray, List.set_cons_zero, List.set_cons_succ, i64_w, i32_w]
    rfl
  refine pure_ (i := 5) (N := some 125) (v := ?_) (a' := ?_) #[true, true, true, true, true, true, false, false, false, false, false, false, false, false, false, false] rfl rfl (by kernel_rfl) (fun _ _ _ h => h) (Or.inl ⟨by rfl, ?_⟩) ?_ ?_
  rotate_left
  · intro w'
    go_simp
    with_reducible rfl
  rotate_left
  · simp only [Act.put, List.setIfInBounds_toArray, List.set_cons_zero, List.set_cons_succ, i64_w, i32_w]
    rfl
  refine pure_ (i := 6) (N := some 126) (v := ?_) (a' := ?_) #[true, true, true, true, true, true, true, false, false, false, false, false, false, false, false, false] rfl rfl (by kernel_rfl) (fun _ _ _ h => h) (Or.inl ⟨by rfl, ?_⟩) ?_ ?_
  rotate_left
  · intro w'
    go_simp
    with_reducible rfl
  rotate_left
  · simp only [Act.put, List.setIfInBounds_toArray, List.set_cons_zero, List.set_cons_succ, i64_w, i32_w]
    rfl
  refine take_ (i := 7) (N := some 127) (v := ?_) (a' := ?_) #[true, true, true, true, true, true, true, true, false, false, false, false, false, false, false, false] rfl rfl (by kernel_rfl) (fun _ _ _ h => h) (Or.inl ⟨by rfl, ?_⟩) hHeld ?_ ?_
  rotate_left
  · rintro w' ⟨s0, s1⟩
    go_simp
    with_reducible rfl
  rotate_left
  · simp only [Act.put, List.setIfInBounds_toArray, List.set_cons_zero, List.set_cons_succ, i64_w, i32_w]
    rfl
  refine pure_ (i := 8) (N := some 128) (v := ?_) (a' := ?_) #[true, true, true, true, true, true, true, true, true, false, false, false, false, false, false, false] rfl rfl (by kernel_rfl) (fun _ _ _ h => h) (Or.inl ⟨by rfl, ?_⟩) ?_ ?_
  rotate_left
  · intro w'
    go_simp
    with_reducible rfl
  rotate_left
  · simp only [Act.put, List.setIfInBounds_toArray, List.set_cons_zero, List.set_cons_succ, i64_w, i32_w]
    rfl
  refine pure_ (i := 9) (N := some 129) (v := ?_) (a' := ?_) #[true, true, true, true, true, true, true, true, true, true, false, false, false, false, false, false] rfl rfl (by kernel_rfl) (fun _ _ _ h => h) (Or.inl ⟨by rfl, ?_⟩) ?_ ?_
  rotate_left
  · intro w'
    go_simp
    with_reducible rfl
  rotate_left
  · simp only [Act.put, List.setIfInBounds_toArray, List.set_cons_zero, List.set_cons_succ, i64_w, i32_w]
    rfl
  refine take_ (i := 10) (N := some 130) (v := ?_) (a' := ?_) #[true, true, true, true, true, true, true, true, true, true, true, false, false, false, false, false] rfl rfl (by kernel_rfl) (fun _ _ _ h => h) (Or.inl ⟨by rfl, ?_⟩) hHeld ?_ ?_
  rotate_left
  · rintro w' ⟨s0, s1⟩
    go_simp
    with_reducible rfl
  rotate_left
  · simp only [Act.put, List.setIfInBounds_toArray, List.set_cons_zero, List.set_cons_succ, i64_w, i32_w]
    rfl
  refine pure_ (i := 11) (N := some 131) (v := ?_) (a' := ?_) #[true, true, true, true, true, true, true, true, true, true, true, true, false, false, false, false] rfl rfl (by kernel_rfl) (fun _ _ _ h => h) (Or.inl ⟨by rfl, ?_⟩) ?_ ?_
  rotate_left
  · intro w'
    go_simp
    with_reducible rfl
  rotate_left
  · simp only [Act.put, List.setIfInBounds_toArray, List.set_cons_zero, List.set_cons_succ, i64_w, i32_w]
    rfl
  refine one_ (i := 12) (N := some 132) #[true, true, true, true, true, true, true, true, true, true, true, true, true, false, false, false] rfl rfl (by kernel_rfl) (by decide) (fun K hK => ?_)
  refine app_bytes_step base (by rfl) _ _ (by rfl) (.slice (some ⟨g, 0, none⟩) pe c) (data.take p ++ b) (data.drop (p + m)) (some ⟨g, pe, none⟩) (len - pe) (c - pe) (by rfl) (by rfl) X4.out.drew.row HC4.out HB4.out HLN.out ?_
  intro A5 n5 c5 w5 hr5 hg5 ho5
  have O5 := Lib.hid (X4.out.drew.own.grown hg5 NE4.out ND4.out)
  have R5 := Lib.hid hr5
  have M5 := Lib.hid (tch_then M4.out T3.out (((Moves.refl (Tch f d (.slice (some ⟨g, 0, none⟩) pe c)) W4).drew).grown hg5 (fun i hi => .inr (.inr hi.symm) |> .inl)))
  have T5 := Lib.hid (own_then (w := W) (w1 := W4.drew) M4.out.size T3.out ho5)
  clear hr5 hg5 ho5
  refine hK.out _ _ ⟨O5.out.c4, O5.out.n1⟩ (fun hHeld => ?_)
  clear hK K
  refine norm_ (a' := ?_) ?_ ?_
  rotate_left
  · show Act.put _ (some 132) _ = _
    simp only [Act.put, List.setIfInBounds_toArray, List.set_cons_zero, List.set_cons_succ, i64_w, i32_w]
    rfl
  refine pure_ (i := 13) (N := some 133) (v := ?_) (a' := ?_) #[true, true, true, true, true, true, true, true, true, true, true, true, true, true, false, false] rfl rfl (by kernel_rfl) (fun _ _ _ h => h) (Or.inl ⟨by rfl, ?_⟩) ?_ ?_
  rotate_left
  · intro w'
    go_simp
    with_reducible rfl
  rotate_left
  · simp only [Act.put, List.setIfInBounds_toArray, List.set_cons_zero, List.set_cons_succ, i64_w, i32_w]
    rfl
  refine pure_ (i := 14) (N := some 134) (v := ?_) (a' := ?_) #[true, true, true, true, true, true, true, true, true, true, true, true, true, true, true, false] rfl rfl (by kernel_rfl) (fun _ _ _ h => h) (Or.inl ⟨by rfl, ?_⟩) ?_ ?_
  rotate_left
  · intro w'
    go_simp
    with_reducible rfl
  rotate_left
  · simp only [Act.put, List.setIfInBounds_toArray, List.set_cons_zero, List.set_cons_succ, i64_w, i32_w]
    rfl
  refine last_ (i := 15) (N := none) #[true, true, true, true, true, true, true, true, true, true, true, true, true, true, true, true] rfl rfl (by kernel_rfl) (by decide) (fun K hK => ?_)
  have x1 := O5.out.n1
  have xz := blk_frozen O5.out.hd 1
  refine skip_ (w1 := ?_) (by rfl) rfl ?_ ?_
  rotate_left
  · go_simp
    rfl
  refine hK.out _ _ ?_
  clear x1 xz
  clear hK K
  refine done_ (by kernel_rfl) ?_
  have X6 := Lib.hid (O5.out.set R5.out)
  have M6 := Lib.hid (show Moves (Tch f d v) W (w5.setCell ⟨d, 1, none⟩ (.slice A5 n5 c5)) from M5.out.setCell (p := ⟨d, 1, none⟩) (.inl (.inr (.inl rfl))) _)
  generalize w5.setCell ⟨d, 1, none⟩ (.slice A5 n5 c5) = W6 at *
  have c4 := X6.out.c4
  have c0 := X6.out.c0
  have m5 := X6.out.n5
  have z5 := blk_frozen X6.out.hd 5
  have X7 := Lib.hid (X6.out.setTm 0)
  have k0 := X7.out.c0
  have kz := blk_frozen X7.out.hf 0
  have w8 : IntKind.i64.wrap ((p : Int) + (m : Int)) = (p : Int) + (m : Int) := IntWalk.i64_in _ (by omega)
  go_wp2_with (first | (go_at_call 84; (with_reducible refine (mod84 d 0 tm _ m5 z5).mono ?_); rintro e w' ⟨rfl, rfl⟩))
  go_ret2
  refine ⟨rfl, _, ?_, (M6.out.setCell (p := ⟨d, 5, none⟩) (.inl (.inr (.inl rfl))) _).setCell (p := ⟨f, 0, none⟩) (.inl (.inl rfl)) _, T5.out⟩
  have := X7.out.setPos ((p : Int) + (m : Int))
  exact this
end
end Go.Proofs.YtljcdjggjphedaaDoor.Hd
