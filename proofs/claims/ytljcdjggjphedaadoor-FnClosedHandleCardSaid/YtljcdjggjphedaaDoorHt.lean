/- Open files in memory: cutting. -/
import Derived.Test.YtljcdjggjphedaaDoorHw
import Derived.IntWalk
import Derived.StillTailTactics
import Derived.RegionTactic
namespace Go.Proofs.YtljcdjggjphedaaDoor.Hd
open Go.RowKit Go.Proofs.YtljcdjggjphedaaDoorW.PrintWords Go.Proofs.YtljcdjggjphedaaDoorW.PrintLast Go.Proofs.YtljcdjggjphedaaDoorW.PrintMore
set_option linter.unusedVariables false
set_option linter.unusedSimpArgs false
/-- A refusal of a handle that only reads: a new error of its own, with an error in it that is new, too. -/
def Refused (op : ByteArray) (w : World) (e : Ending) (w' : World) : Prop :=
  ∃ (p b : Nat) (path : Value), e = .returned (.iface 130 (.pointer (some ⟨p, 0, none⟩))) ∧ Below w.heap.size w w' ∧ w'.cell? ⟨p, 0, none⟩ = some (.string op) ∧ w'.cell? ⟨p, 2, none⟩ = some (.iface 149 (.pointer (some ⟨b, 0, none⟩))) ∧ w.heap.size ≤ b ∧ ∃ c t, w'.heap[b]? = some (.cells c t (0, 0))
theorem refused_mk (op nm s : ByteArray) (W : World) : Refused op W (.returned (.iface 130 (.pointer (some ⟨W.heap.size + 1, 0, none⟩)))) (((W.alloc (.cells #[.string s] 151)).alloc (.cells #[.string op, .string nm, .iface 149 (.pointer (some ⟨W.heap.size, 0, none⟩))] 133)).drew) := by
  have hb := blk_alloc (blk_new W (.cells #[.string s] 151)) (.cells #[.string op, .string nm, .iface 149 (.pointer (some ⟨W.heap.size, 0, none⟩))] 133)
  have hn := blk_new (W.alloc (.cells #[.string s] 151)) (.cells #[.string op, .string nm, .iface 149 (.pointer (some ⟨W.heap.size, 0, none⟩))] 133)
  have hs : (W.alloc (.cells #[.string s] 151)).heap.size = W.heap.size + 1 := by simp
  rw [hs] at hn
  exact ⟨W.heap.size + 1, W.heap.size, .string nm, rfl, below_drew (below_alloc (below_alloc (Below.refl _ _) _) _), blk_cell hn 0, blk_cell hn 2, Nat.le_refl _, _, _, hb⟩
/-- A handle and its node, whatever becomes of the bytes. -/
structure Own (f d : Nat) (h : Hnd) (n : Nod) (v : Value) (W : World) : Prop where
  hf : W.heap[f]? = some (.cells (hcs h d) 94 (0, 0))
  hd : W.heap[d]? = some (.cells (ncs n v) 92 (0, 0))
section
variable {f d base : Nat} {h : Hnd} {n : Nod} {v : Value} {data : List Int} {W V : World}
theorem Fil.own (F : Fil f d h n v data base W) : Own f d h n v W := ⟨F.hf, F.hd⟩
theorem Own.grown (F : Own f d h n v W) {row : Option Nat} (hg : W.grownBy V row) (h1 : some f ≠ row) (h2 : some d ≠ row) : Own f d h n v V := ⟨blk_grown F.hf hg h1, blk_grown F.hd hg h2⟩
theorem Own.below (F : Own f d h n v W) (hb : Below W.heap.size W V) : Own f d h n v V := ⟨blk_below F.hf hb, blk_below F.hd hb⟩
theorem Own.c4 (F : Own f d h n v W) : W.cell? ⟨f, 4, none⟩ = some (.pointer (some ⟨d, 0, none⟩)) := blk_cell F.hf 4
theorem Own.n1 (F : Own f d h n v W) : W.cell? ⟨d, 1, none⟩ = some v := blk_cell F.hd 1
theorem Own.set (F : Own f d h n v W) {v' : Value} {data' : List Int} (hr : Kd.R (Kd.int .u8) 5 W base (fun _ => True) v' data') : Fil f d h n v' data' base (W.setCell ⟨d, 1, none⟩ v') :=
  ⟨blk_far F.hf (blk_ne F.hf F.hd (by decide)) _, blk_put F.hd 1 _ rfl, Kd.R_set hr F.hd (Fil.types 92 (.inr rfl)) 1 _⟩
end
section
variable {f d base : Nat} {h : Hnd} {n : Nod} {v : Value} {data : List Int} {W : World}
theorem Fil.setData (F : Fil f d h n v data base W) (v' : Value) (data' : List Int) (hr : Kd.R (Kd.int .u8) 5 W base (fun _ => True) v' data') : Fil f d h n v' data' base (W.setCell ⟨d, 1, none⟩ v') :=
  ⟨blk_far F.hf F.ne _, blk_put F.hd 1 _ rfl, Kd.R_set hr F.hd (Fil.types 92 (.inr rfl)) 1 _⟩
set_option maxHeartbeats 1000000 in
theorem trunc45c (F : Fil f d h n v data base W) (A : Nat → Addr) (hS : Sent A W) (size : Int) (hcl : h.cl = true) :
    Calls Tryd.prog 45 #[.pointer (some ⟨f, 0, none⟩), .int .i64 size] W fun e w' => e = .returned (.iface 149 (.pointer (some (A 0)))) ∧ Below W.heap.size W w' := by
  have c2 := F.c2
  rw [hcl] at c2
  have g0 := hS.var 0 (by decide)
  clear F hS hcl
  generalize A 0 = a0 at *
  go_enter Tryd.func45, Tryd.ntmps45
  go_wp2_with fail
  go_ret
  exact ⟨rfl, by repeat (first | exact Below.refl _ _ | apply pw_below_drewN)⟩
set_option maxHeartbeats 1000000 in
theorem trunc45n (F : Fil f d h n v data base W) (A : Nat → Addr) (hS : Sent A W) (size : Int) (hcl : h.cl = false) (hro : h.ro = false) (hs : size < 0) :
    Calls Tryd.prog 45 #[.pointer (some ⟨f, 0, none⟩), .int .i64 size] W fun e w' => e = .returned (.iface 149 (.pointer (some (A 3)))) ∧ Below W.heap.size W w' := by
  have c2 := F.c2
  have c3 := F.c3
  rw [hcl] at c2
  rw [hro] at c3
  have g0 := hS.var 3 (by decide)
  clear F hS hcl hro
  generalize A 3 = a0 at *
  go_enter Tryd.func45, Tryd.ntmps45
  go_wp2_with fail
  go_ret
  exact ⟨rfl, by repeat (first | exact Below.refl _ _ | apply pw_below_drewN)⟩
set_option maxHeartbeats 1000000 in
set_option maxRecDepth 100000 in
theorem trunc45r (F : Fil f d h n v data base W) (size : Int) (hcl : h.cl = false) (hro : h.ro = true) :
    Calls Tryd.prog 45 #[.pointer (some ⟨f, 0, none⟩), .int .i64 size] W (Refused { data := #[116, 114, 117, 110, 99, 97, 116, 101] } W) := by
  have c2 := F.c2
  have c3 := F.c3
  have c4 := F.c4
  have n0 := F.n0
  rw [hcl] at c2
  rw [hro] at c3
  obtain ⟨nm, vm, dir, md, tm⟩ := n
  simp only at n0
  have y4 := World.new_ne W _ c4
  have y0 := World.new_ne W _ n0
  have HE := Lib.hid (fun s W => err83 (W := W) s)
  clear F hcl hro
  go_enter Tryd.func45, Tryd.ntmps45
  go_wp2_with fail
  go_region_held3 (fun w' => w'.cell? ⟨f, 4, none⟩ = some (.pointer (some ⟨d, 0, none⟩)) ∧ w'.cell? ⟨d, 0, none⟩ = some (.string nm))
    (go_keep)
    ((go_at_call 83; (with_reducible refine (HE.out _ _).mono ?_); rintro e w1 ⟨rfl, rfl⟩))
  go_wp2
  go_ret
  exact refused_mk _ _ _ _
/-- What cutting leaves. -/
def cutTo (data : List Int) (s : Nat) : List Int := data.take s ++ List.replicate (s - data.length) 0
set_option maxHeartbeats 1000000 in
set_option maxRecDepth 100000 in
theorem trunc45d (F : Fil f d h n v data base W) (s : Nat) (hcl : h.cl = false) (hro : h.ro = false) (hs : s ≤ data.length) (hl : data.length ≤ 10000000) :
    Calls Tryd.prog 45 #[.pointer (some ⟨f, 0, none⟩), .int .i64 s] W fun e w' => e = .returned .nilIface ∧ Acts f d h { n with tm := 0 } (data.take s) base v W w' := by
  obtain ⟨pos, ls, cl, ro⟩ := h
  obtain ⟨nm, vm, dir, md, tm⟩ := n
  simp only at hcl hro
  subst hcl hro
  have c2 := F.c2
  have c3 := F.c3
  have c4 := F.c4
  have n1 := F.n1
  have z1 := blk_frozen F.hd 1
  have HF := Lib.hid F
  obtain ⟨len, hlen⟩ : ∃ len, len = data.length := ⟨_, rfl⟩
  rw [← hlen] at hs hl
  have h0 : ¬ ((s : Int) < 0) := by omega
  have h1 : ¬ ((len : Int) < (s : Int)) := by omega
  have h2 : (0 : Int) ≤ (s : Int) := by omega
  rcases row_cases F.row with ⟨hv, hd0⟩ | ⟨g, c, hv, hc⟩
  · rw [hd0] at hlen
    rw [hv] at n1
    obtain rfl : len = 0 := by simpa using hlen
    obtain rfl : s = 0 := by omega
    have HV := Lib.hid hv
    have HD := Lib.hid hd0
    clear F hv hd0 hlen
    go_enter Tryd.func45, Tryd.ntmps45
    go_wp2_with fail
    go_still_tail 15, (by kernel_rfl)
    change wpList _ _ _ _ _ W.drew
    have FX := (HF.out.setData (.slice none 0 0) [] (Kd.R_nil _ _ _ _ _)).drew
    have m5 := FX.n5
    have z5 := blk_frozen FX.hd 5
    have HX := Lib.hid FX
    clear FX
    go_wp2_with (first | (go_at_call 84; (with_reducible refine (mod84 d 0 tm _ m5 z5).mono ?_); rintro e w' ⟨rfl, rfl⟩))
    go_ret
    refine ⟨rfl, _, HX.out.setTm 0, ?_, .inl (by rw [HV.out])⟩
    exact (((Moves.refl _ _).setCell (p := ⟨d, 1, none⟩) (.inl (.inr (.inl rfl))) _).drew).setCell (p := ⟨d, 5, none⟩) (.inl (.inr (.inl rfl))) _
  · rw [hv, ← hlen] at n1
    rw [← hlen] at hc
    have h3 : (s : Int) ≤ (c : Int) := by omega
    have HV := Lib.hid hv
    have HL := Lib.hid hlen
    clear F hv hlen
    go_enter Tryd.func45, Tryd.ntmps45
    go_wp2_with fail
    have hrow := Kd.R_take (m := s) (by have := HF.out.row; rw [HV.out] at this; exact this) (by rw [← HL.out]; exact hs)
    go_still_tail 15, (by kernel_rfl)
    change wpList _ _ _ _ _ W.drew
    have FX := (HF.out.setData (.slice (some ⟨g, 0, none⟩) s c) (data.take s) hrow).drew
    have m5 := FX.n5
    have z5 := blk_frozen FX.hd 5
    have HX := Lib.hid FX
    clear FX hrow
    go_wp2_with (first | (go_at_call 84; (with_reducible refine (mod84 d 0 tm _ m5 z5).mono ?_); rintro e w' ⟨rfl, rfl⟩))
    go_ret
    refine ⟨rfl, _, HX.out.setTm 0, ?_, .inl (by rw [HV.out]; rfl)⟩
    exact (((Moves.refl _ _).setCell (p := ⟨d, 1, none⟩) (.inl (.inr (.inl rfl))) _).drew).setCell (p := ⟨d, 5, none⟩) (.inl (.inr (.inl rfl))) _
set_option maxHeartbeats 1000000 in
set_option maxRecDepth 100000 in
theorem trunc45g (F : Fil f d h n v data base W) (s : Nat) (hcl : h.cl = false) (hro : h.ro = false) (hs : data.length < s) (hl : s ≤ 10000000) (hb : base ≤ W.heap.size) :
    Calls Tryd.prog 45 #[.pointer (some ⟨f, 0, none⟩), .int .i64 s] W fun e w' => e = .returned .nilIface ∧ Acts f d h { n with tm := 0 } (data ++ List.replicate (s - data.length) 0) base v W w' := by
  obtain ⟨pos, ls, cl, ro⟩ := h
  obtain ⟨nm, vm, dir, md, tm⟩ := n
  simp only at hcl hro
  subst hcl hro
  have c2 := F.c2
  have c3 := F.c3
  have c4 := F.c4
  have n1 := F.n1
  have z1 := blk_frozen F.hd 1
  have HF := Lib.hid F
  obtain ⟨len, hlen⟩ : ∃ len, len = data.length := ⟨_, rfl⟩
  rw [← hlen] at hs
  rw [← hlen]
  have h0 : ¬ ((s : Int) < 0) := by omega
  have h1 : ((len : Int) < (s : Int)) := by omega
  obtain ⟨r, hr⟩ : ∃ r, r = s - len := ⟨_, rfl⟩
  have w1 : IntKind.i64.wrap ((s : Int) - (len : Int)) = (r : Int) := by rw [IntWalk.i64_in _ (by omega)]; omega
  rw [← hr]
  have hrl : r ≤ 10000000 := by omega
  have hll : len ≤ 10000000 := by omega
  obtain ⟨A0, c, hv, hc, _⟩ := Kd.R_reads F.row
  rw [hv, ← hlen] at n1
  have HV := Lib.hid hv
  have HL := Lib.hid hlen
  clear F hv hlen hr hc
  go_enter Tryd.func45, Tryd.ntmps45
  go_wp2_with fail
  have HVL := Lib.hid (show v = .slice A0 len c by rw [HV.out, HL.out])
  have HBS := Lib.hid (show base ≤ W.drew.heap.size from hb)
  have HLE := Lib.hid (show (data.length + (r : Int).toNat) * 1 ≤ 140737488355328 by rw [← HL.out, Int.toNat_natCast]; omega)
  have HS0 := Lib.hid (show W.drew.cell? ⟨f, 4, none⟩ = some (.pointer (some ⟨d, 0, none⟩)) ∧ W.drew.cell? ⟨d, 1, none⟩ = some (.slice A0 len c) from ⟨c4, n1⟩)
  refine start_ (n := 16) (S := fun w' => w'.cell? ⟨f, 4, none⟩ = some (.pointer (some ⟨d, 0, none⟩)) ∧ w'.cell? ⟨d, 1, none⟩ = some (.slice A0 len c)) (ds := [15]) #[false, false, false, false, false, false, false, false, false, false, false, false, false, false, false, false] (by kernel_rfl) rfl rfl (by first | exact HS0.out | trivial) (fun hHeld => ?_)
  refine pure_ (i := 0) (N := some 49) (v := ?_) (a' := ?_) #[true, false, false, false, false, false, false, false, false, false, false, false, false, false, false, false] rfl rfl (by kernel_rfl) (fun _ _ _ h => h) (Or.inl ⟨by rfl, ?_⟩) ?_ ?_
  rotate_left
  · intro w'
    go_simp
    with_reducible rfl
  rotate_left
  · simp only [Act.put, List.setIfInBounds_toArray, List.set_cons_zero, List.set_cons_succ, i64_w, i32_w]
    rfl
  refine pure_ (i := 1) (N := some 50) (v := ?_) (a' := ?_) #[true, true, false, false, false, false, false, false, false, false, false, false, false, false, false, false] rfl rfl (by kernel_rfl) (fun _ _ _ h => h) (Or.inl ⟨by rfl, ?_⟩) ?_ ?_
  rotate_left
  · intro w'
    go_simp
    with_reducible rfl
  rotate_left
  · simp only [Act.put, List.setIfInBounds_toArray, List.set_cons_zero, List.set_cons_succ, i64_w, i32_w]
    rfl
  refine pure_ (i := 2) (N := some 51) (v := ?_) (a' := ?_) #[true, true, true, false, false, false, false, false, false, false, false, false, false, false, false, false] rfl rfl (by kernel_rfl) (fun _ _ _ h => h) (Or.inl ⟨by rfl, ?_⟩) ?_ ?_
  rotate_left
  · intro w'
    go_simp
    with_reducible rfl
  rotate_left
  · simp only [Act.put, List.setIfInBounds_toArray, List.set_cons_zero, List.set_cons_succ, i64_w, i32_w]
    rfl
  refine take_ (i := 3) (N := some 52) (v := ?_) (a' := ?_) #[true, true, true, true, false, false, false, false, false, false, false, false, false, false, false, false] rfl rfl (by kernel_rfl) (fun _ _ _ h => h) (Or.inl ⟨by rfl, ?_⟩) hHeld ?_ ?_
  rotate_left
  · rintro w' ⟨s0, s1⟩
    go_simp
    with_reducible rfl
  rotate_left
  · simp only [Act.put, List.setIfInBounds_toArray, List.set_cons_zero, List.set_cons_succ, i64_w, i32_w]
    rfl
  refine pure_ (i := 4) (N := some 53) (v := ?_) (a' := ?_) #[true, true, true, true, true, false, false, false, false, false, false, false, false, false, false, false] rfl rfl (by kernel_rfl) (fun _ _ _ h => h) (Or.inl ⟨by rfl, ?_⟩) ?_ ?_
  rotate_left
  · intro w'
    go_simp
    with_reducible rfl
  rotate_left
  · simp only [Act.put, List.setIfInBounds_toArray, List.set_cons_zero, List.set_cons_succ, i64_w, i32_w]
    rfl
  refine pure_ (i := 5) (N := some 54) (v := ?_) (a' := ?_) #[true, true, true, true, true, true, false, false, false, false, false, false, false, false, false, false] rfl rfl (by kernel_rfl) (fun _ _ _ h => h) (Or.inl ⟨by rfl, ?_⟩) ?_ ?_
  rotate_left
  · intro w'
    go_simp
    with_reducible rfl
  rotate_left
  · simp only [Act.put, List.setIfInBounds_toArray, List.set_cons_zero, List.set_cons_succ, i64_w, i32_w]
    rfl
  refine pure_ (i := 6) (N := some 55) (v := ?_) (a' := ?_) #[true, true, true, true, true, true, true, false, false, false, false, false, false, false, false, false] rfl rfl (by kernel_rfl) (fun _ _ _ h => h) (Or.inl ⟨by rfl, ?_⟩) ?_ ?_
  rotate_left
  · intro w'
    go_simp
    with_reducible rfl
  rotate_left
  · simp only [Act.put, List.setIfInBounds_toArray, List.set_cons_zero, List.set_cons_succ, i64_w, i32_w]
    rfl
  refine take_ (i := 7) (N := some 56) (v := ?_) (a' := ?_) #[true, true, true, true, true, true, true, true, false, false, false, false, false, false, false, false] rfl rfl (by kernel_rfl) (fun _ _ _ h => h) (Or.inl ⟨by rfl, ?_⟩) hHeld ?_ ?_
  rotate_left
  · rintro w' ⟨s0, s1⟩
    go_simp
    with_reducible rfl
  rotate_left
  · simp only [Act.put, List.setIfInBounds_toArray, List.set_cons_zero, List.set_cons_succ, i64_w, i32_w]
    rfl
  refine pure_ (i := 8) (N := some 57) (v := ?_) (a' := ?_) #[true, true, true, true, true, true, true, true, true, false, false, false, false, false, false, false] rfl rfl (by kernel_rfl) (fun _ _ _ h => h) (Or.inl ⟨by rfl, ?_⟩) ?_ ?_
  rotate_left
  · intro w'
    go_simp
    with_reducible rfl
  rotate_left
  · simp only [Act.put, List.setIfInBounds_toArray, List.set_cons_zero, List.set_cons_succ, i64_w, i32_w]
    rfl
  refine pure_ (i := 9) (N := some 58) (v := ?_) (a' := ?_) #[true, true, true, true, true, true, true, true, true, true, false, false, false, false, false, false] rfl rfl (by kernel_rfl) (fun _ _ _ h => h) (Or.inl ⟨by rfl, ?_⟩) ?_ ?_
  rotate_left
  · intro w'
    go_simp
    with_reducible rfl
  rotate_left
  · simp only [Act.put, List.setIfInBounds_toArray, List.set_cons_zero, List.set_cons_succ, i64_w, i32_w]
    rfl
  refine take_ (i := 10) (N := some 59) (v := ?_) (a' := ?_) #[true, true, true, true, true, true, true, true, true, true, true, false, false, false, false, false] rfl rfl (by kernel_rfl) (fun _ _ _ h => h) (Or.inl ⟨by rfl, ?_⟩) hHeld ?_ ?_
  rotate_left
  · rintro w' ⟨s0, s1⟩
    go_simp
    with_reducible rfl
  rotate_left
  · simp only [Act.put, List.setIfInBounds_toArray, List.set_cons_zero, List.set_cons_succ, i64_w, i32_w]
    rfl
  refine pure_ (i := 11) (N := some 60) (v := ?_) (a' := ?_) #[true, true, true, true, true, true, true, true, true, true, true, true, false, false, false, false] rfl rfl (by kernel_rfl) (fun _ _ _ h => h) (Or.inl ⟨by rfl, ?_⟩) ?_ ?_
  rotate_left
  · intro w'
    go_simp
    with_reducible rfl
  rotate_left
  · simp only [Act.put, List.setIfInBounds_toArray, List.set_cons_zero, List.set_cons_succ, i64_w, i32_w]
    rfl
  refine one_ (i := 12) (N := some 61) #[true, true, true, true, true, true, true, true, true, true, true, true, true, false, false, false] rfl rfl (by kernel_rfl) (by decide) (fun K hK => ?_)
  refine Kd.R_append_zeros_step (Kd.int .u8) (w0 := W.drew) base (by rfl) _ _ 22 3 5 (.int .u8 0) 1 (by rfl) Tryd.underlying22 (k := .i64) Tryd.underlying3 PFnHandleScript.info5 rfl (by decide) (by decide) v data (0 : Int) (kx := .i64) (r : Int) (fun _ => True) (by exact HVL.out.symm) (by rfl) rfl (fun _ _ => trivial) HF.out.drew.row (by omega) (Below.refl _ _) HBS.out HLE.out ?_
  intro v1 w1 hr1 hb1 hg1 hat1
  have O1 := Lib.hid (HF.out.drew.own.grown hg1 HF.out.nef HF.out.ned)
  have R1 := Lib.hid hr1
  have G1 := Lib.hid hg1
  have T1 := Lib.hid hat1
  obtain ⟨A1, c1, e1, _, _⟩ := Kd.R_reads hr1
  obtain ⟨nl, enl⟩ : ∃ nl, nl = (data ++ List.replicate (r : Int).toNat 0).length := ⟨_, rfl⟩
  rw [← enl] at e1
  clear enl
  subst e1
  have m5 := (O1.out.set R1.out).n5
  have z5 := blk_frozen (O1.out.set R1.out).hd 5
  have HX := Lib.hid (O1.out.set R1.out)
  clear hr1 hb1 hg1 hat1
  refine hK.out _ _ ⟨O1.out.c4, by rw [← HVL.out]; exact O1.out.n1⟩ (fun hHeld => ?_)
  clear hK K
  refine norm_ (a' := ?_) ?_ ?_
  rotate_left
  · show Act.put _ (some 61) _ = _
    simp only [Act.put, List.setIfInBounds_toArray, List.set_cons_zero, List.set_cons_succ, i64_w, i32_w]
    rfl
  refine pure_ (i := 13) (N := some 62) (v := ?_) (a' := ?_) #[true, true, true, true, true, true, true, true, true, true, true, true, true, true, false, false] rfl rfl (by kernel_rfl) (fun _ _ _ h => h) (Or.inl ⟨by rfl, ?_⟩) ?_ ?_
  rotate_left
  · intro w'
    go_simp
    with_reducible rfl
  rotate_left
  · simp only [Act.put, List.setIfInBounds_toArray, List.set_cons_zero, List.set_cons_succ, i64_w, i32_w]
    rfl
  refine pure_ (i := 14) (N := some 63) (v := ?_) (a' := ?_) #[true, true, true, true, true, true, true, true, true, true, true, true, true, true, true, false] rfl rfl (by kernel_rfl) (fun _ _ _ h => h) (Or.inl ⟨by rfl, ?_⟩) ?_ ?_
  rotate_left
  · intro w'
    go_simp
    with_reducible rfl
  rotate_left
  · simp only [Act.put, List.setIfInBounds_toArray, List.set_cons_zero, List.set_cons_succ, i64_w, i32_w]
    rfl
  refine last_ (i := 15) (N := none) #[true, true, true, true, true, true, true, true, true, true, true, true, true, true, true, true] rfl rfl (by kernel_rfl) (by decide) (fun K hK => ?_)
  have x1 := O1.out.n1
  have xz := blk_frozen O1.out.hd 1
  refine skip_ (w1 := ?_) (by rfl) rfl ?_ ?_
  rotate_left
  · go_simp
    rfl
  refine hK.out _ _ ?_
  clear hK K
  refine done_ (by kernel_rfl) ?_
  go_wp2_with (first | (go_at_call 84; (with_reducible refine (mod84 d 0 tm _ m5 z5).mono ?_); rintro e w' ⟨rfl, rfl⟩))
  go_ret
  rw [Int.toNat_natCast] at HX
  refine ⟨rfl, _, HX.out.setTm 0, ?_, T1.out⟩
  exact ((((Moves.refl _ _).drew).grown G1.out (fun i hi => .inl (.inr (.inr hi.symm)))).setCell (p := ⟨d, 1, none⟩) (.inl (.inr (.inl rfl))) _).setCell (p := ⟨d, 5, none⟩) (.inl (.inr (.inl rfl))) _
end
end Go.Proofs.YtljcdjggjphedaaDoor.Hd
