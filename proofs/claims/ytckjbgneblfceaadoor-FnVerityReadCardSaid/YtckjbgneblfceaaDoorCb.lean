/- Reading of an open file into a part of a row. -/
import Derived.Test.YtckjbgneblfceaaDoorCa
namespace Go.Proofs.YtckjbgneblfceaaDoor.Cb
open Go.RowKit Go.Maps Go.Proofs.YtckjbgneblfceaaDoorW.PrintWords Go.Proofs.YtckjbgneblfceaaDoorW.PrintLast Go.Proofs.YtckjbgneblfceaaDoorW.PrintMore Go.Proofs.YtckjbgneblfceaaDoor.Fa Go.Proofs.YtckjbgneblfceaaDoor.Fm Go.Proofs.YtckjbgneblfceaaDoor.Ca
set_option linter.unusedVariables false
set_option linter.unusedSimpArgs false
/-- An open file, its node and bytes as they lay in w0; the named errors. -/
structure Fl (w0 : World) (f d : Nat) (pos : Nat) (Ad : Option Addr) (cd : Nat) (data : List Int) (a1 a2 : Addr) (W : World) : Prop where
  hf : W.heap[f]? = some (.cells #[.int .i64 (pos : Int), .int .i64 0, .bool false, .bool true, .pointer (some ⟨d, 0, none⟩)] 123 (0, 0))
  hd : w0.cell? ⟨d, 1, none⟩ = some (.slice Ad data.length cd)
  hC : (Kd.int .u8).C w0 Ad data.length data
  hl : data.length ≤ cd
  g5 : w0.cell? ⟨5, 0, none⟩ = some (.iface 156 (.pointer (some a1)))
  g6 : w0.cell? ⟨6, 0, none⟩ = some (.iface 156 (.pointer (some a2)))
  bel : Below w0.heap.size w0 W
  ge : w0.heap.size ≤ f
section
variable {w0 : World} {f d pos : Nat} {Ad : Option Addr} {cd : Nat} {data : List Int} {a1 a2 : Addr} {W V : World}
theorem Fl.c0 (F : Fl w0 f d pos Ad cd data a1 a2 W) : W.cell? ⟨f, 0, none⟩ = some (.int .i64 (pos : Int)) := blk_cell F.hf 0
theorem Fl.c2 (F : Fl w0 f d pos Ad cd data a1 a2 W) : W.cell? ⟨f, 2, none⟩ = some (.bool false) := blk_cell F.hf 2
theorem Fl.c4 (F : Fl w0 f d pos Ad cd data a1 a2 W) : W.cell? ⟨f, 4, none⟩ = some (.pointer (some ⟨d, 0, none⟩)) := blk_cell F.hf 4
theorem Fl.n1 (F : Fl w0 f d pos Ad cd data a1 a2 W) : W.cell? ⟨d, 1, none⟩ = some (.slice Ad data.length cd) := cellb0 F.hd F.bel
theorem Fl.grown (F : Fl w0 f d pos Ad cd data a1 a2 W) {row : Option Nat} (hg : W.grownBy V row) (h1 : some f ≠ row) (h2 : ∀ k, row = some k → w0.heap.size ≤ k) : Fl w0 f d pos Ad cd data a1 a2 V :=
  ⟨blk_grown F.hf hg h1, F.hd, F.hC, F.hl, F.g5, F.g6, F.bel.grown hg F.bel.size h2, F.ge⟩
theorem Fl.below (F : Fl w0 f d pos Ad cd data a1 a2 W) (hb : Below W.heap.size W V) : Fl w0 f d pos Ad cd data a1 a2 V :=
  ⟨blk_below F.hf hb, F.hd, F.hC, F.hl, F.g5, F.g6, below_then F.bel F.bel.size hb, F.ge⟩
theorem Fl.drew (F : Fl w0 f d pos Ad cd data a1 a2 W) : Fl w0 f d pos Ad cd data a1 a2 W.drew := F.below (below_drew1 (Below.refl _ _))
theorem Fl.drewN (F : Fl w0 f d pos Ad cd data a1 a2 W) (m : Nat) : Fl w0 f d pos Ad cd data a1 a2 (W.drewN m) := F.below (pw_below_drewN (Below.refl _ _) m)
theorem Fl.set (F : Fl w0 f d pos Ad cd data a1 a2 W) (x : Nat) : Fl w0 f d x Ad cd data a1 a2 (W.setCell ⟨f, 0, none⟩ (.int .i64 (x : Int))) :=
  ⟨by simpa using blk_set F.hf 0 (.int .i64 (x : Int)), F.hd, F.hC, F.hl, F.g5, F.g6, below_set F.bel F.ge, F.ge⟩
end
set_option maxHeartbeats 4000000 in
set_option maxRecDepth 100000 in
theorem read_mid {w0 : World} {f d p : Nat} {ad : Addr} {cd : Nat} {data : List Int} {a1 a2 : Addr} {W : World} (F : Fl w0 f d p (some ad) cd data a1 a2 W) {bb g n cap : Nat} {xs : List Int} (HB : Kd.R (Kd.int .u8) 5 W bb (fun _ => True) (.slice (some ⟨g, 0, none⟩) n cap) xs) (hbb : w0.heap.size ≤ bb) (o m cm : Nat) (hom : o + m ≤ xs.length) (hpl : p < data.length) (hm0 : 0 < m) (hml : m ≤ 1000000) (hdl : data.length ≤ 1000000) :
    Calls Tryd.prog 77 #[.pointer (some ⟨f, 0, none⟩), .slice (some ⟨g, o, none⟩) m cm] W fun e w' => e = .returned (.tuple #[.int .i64 ((min m (data.length - p) : Nat) : Int), .nilIface]) ∧ Fl w0 f d (p + min m (data.length - p)) (some ad) cd data a1 a2 w' ∧ Kd.R (Kd.int .u8) 5 w' bb (fun _ => True) (.slice (some ⟨g, 0, none⟩) n cap) (xs.take o ++ (data.drop p).take (min m (data.length - p)) ++ xs.drop (o + min m (data.length - p))) := by
  have c0 := F.c0
  have c2 := F.c2
  have c4 := F.c4
  have n1 := F.n1
  have z0 := blk_frozen F.hf 0
  have hdc := F.hl
  have HF := Lib.hid F
  have HBB := Lib.hid HB
  have NE := Lib.hid (Kd.R_ne HB F.hf (by decide))
  obtain ⟨len, hlen⟩ : ∃ len, len = data.length := ⟨_, rfl⟩
  have CP0 := Kd.C_take (m := min m (data.length - p)) (Kd.C_drop (m := p) (c := cd) F.hC (by omega) hdc) (by rw [List.length_drop]; omega)
  rw [if_neg (by omega)] at CP0
  rw [show ((data.drop p).take (min m (data.length - p))).length = min m (data.length - p) by rw [List.length_take, List.length_drop]; omega] at CP0
  rw [← hlen] at n1 hpl hdl hdc CP0
  rw [← hlen]
  have HLEN := Lib.hid hlen
  have q1 : ((p : Int) == (len : Int)) = false := by simp; omega
  obtain ⟨r, hr⟩ : ∃ r, r = len - p := ⟨_, rfl⟩
  have w1 : IntKind.i64.wrap ((len : Int) - (p : Int)) = (r : Int) := by rw [IntWalk.i64_in _ (by omega)]; omega
  have hr0 : 0 < r := by omega
  have hr1 : p + r = len := by omega
  rw [← hr] at CP0
  rw [← hr]
  clear F HB hlen hr
  obtain ⟨k, hk⟩ : ∃ k, k = min m r := ⟨_, rfl⟩
  have hkm : k ≤ m := by omega
  have hkr : k ≤ r := by omega
  rw [← hk] at CP0
  rw [← hk]
  have CP1 : Kd.C (Kd.int .u8) w0 (some (ad.add p)) k ((data.drop p).take k) := by
    have h9 := CP0
    rw [show p * (Kd.int IntKind.u8).sz = p by show p * 1 = p; omega] at h9
    exact h9
  have CP := Lib.hid CP1
  clear CP0 CP1
  obtain ⟨pe, hpe⟩ : ∃ pe, pe = p + k := ⟨_, rfl⟩
  have w2 : IntKind.i64.wrap ((p : Int) + (k : Int)) = (pe : Int) := by rw [IntWalk.i64_in _ (by omega)]; omega
  have b1 : (p : Int) ≤ (pe : Int) := by omega
  have b2 : (pe : Int) ≤ (cd : Int) := by omega
  have b3 : (0 : Int) ≤ (p : Int) := by omega
  have b4 : ¬ (cd = p) := by omega
  have b5 : pe - p = k := by omega
  have HPE := Lib.hid hpe
  have HOM := Lib.hid hom
  have HKM := Lib.hid hkm
  have hcase : (m ≤ r ∧ k = m) ∨ (¬ m ≤ r ∧ k = r) := by omega
  clear hpe hk hom
  rcases hcase with ⟨hmr, hk⟩ | ⟨hmr, hk⟩
  all_goals obtain rfl := hk
  all_goals
    go_enter Tryd.func77, Tryd.ntmps77
    go_wp2_with fail
    go_quiet (fail)
    go_wp2
    go_quiet (fail)
    go_wp2
    go_quiet (fail)
    go_wp2
  rotate_left
  all_goals try (go_quiet (fail); go_wp2)
  rotate_left
  all_goals
    refine at_drewN ?_
    rintro W1 ⟨N1, hW1⟩
    have HDR : Drawn0 W W1 := by rw [hW1]; repeat (first | exact Drawn0.refl _ | apply Drawn0.step)
    obtain ⟨N2, hN2⟩ := HDR.out
    have F1 := Lib.hid (show Fl w0 f d p (some ad) cd data a1 a2 W1.drew by rw [hN2]; exact (HF.out.drewN N2).drew)
    have B1 := Lib.hid (show Kd.R (Kd.int .u8) 5 W1.drew bb (fun _ => True) (.slice (some ⟨g, 0, none⟩) n cap) xs by rw [hN2]; exact Kd.R_below HBB.out (below_drew1 (pw_below_drewN (Below.refl _ _) N2)))
    have c0 : W1.cell? ⟨f, 0, none⟩ = some (.int .i64 p) := F1.out.c0
    have c4 : W1.cell? ⟨f, 4, none⟩ = some (.pointer (some ⟨d, 0, none⟩)) := F1.out.c4
    have n1 : W1.cell? ⟨d, 1, none⟩ = some (.slice (some ad) len cd) := by have := F1.out.n1; rw [← HLEN.out] at this; exact this
    clear hW1 hN2 HDR
    go_region_held3 (fun w' => w'.cell? ⟨f, 0, none⟩ = some (.int .i64 p) ∧ w'.cell? ⟨f, 4, none⟩ = some (.pointer (some ⟨d, 0, none⟩)) ∧ w'.cell? ⟨d, 1, none⟩ = some (.slice (some ad) len cd))
      (first | exact Q2.out | go_keep)
      ((refine copy_step (by rfl) _ _ 33 33 5 (by rfl) Tryd.underlying33 info5s xs ((data.drop p).take k) (some (ad.add p)) k (cd - p) o _ cm (fun _ => True) (by rfl) (by rfl) B1.out (Kd.C_below CP.out F1.out.bel) HKM.out HOM.out ?_; intro w1 hr1 hg1; have R2 := Lib.hid hr1; have G2 := Lib.hid hg1; have F2 := Lib.hid (F1.out.grown hg1 NE.out (fun k hk => Nat.le_trans hbb (Kd.R_base HBB.out k hk))); have Q2 := Lib.hid (show w1.cell? ⟨f, 0, none⟩ = some (.int .i64 (p : Int)) ∧ w1.cell? ⟨f, 4, none⟩ = some (.pointer (some ⟨d, 0, none⟩)) ∧ w1.cell? ⟨d, 1, none⟩ = some (.slice (some ad) len cd) from ⟨F2.out.c0, F2.out.c4, by have := F2.out.n1; rw [← HLEN.out] at this; exact this⟩); clear hr1 hg1))
    have c0 := F2.out.c0
    have z0 := blk_frozen F2.out.hf 0
    go_wp2
    go_ret2
    refine ⟨rfl, ?_, ?_⟩
    · rw [← HPE.out]
      exact F2.out.set pe
    · exact Kd.R_set R2.out F2.out.hf (by decide) 0 _
set_option maxHeartbeats 1000000 in
theorem read_end {w0 : World} {f d p : Nat} {Ad : Option Addr} {cd : Nat} {data : List Int} {a1 a2 : Addr} {W : World} (F : Fl w0 f d p Ad cd data a1 a2 W) (Ab : Option Addr) (m cb : Nat) (hm : 0 < m) (hp : p = data.length) :
    Calls Tryd.prog 77 #[.pointer (some ⟨f, 0, none⟩), .slice Ab m cb] W fun e w' => e = .returned (.tuple #[.int .i64 0, .iface 156 (.pointer (some a1))]) ∧ Below W.heap.size W w' := by
  have c0 := F.c0
  have c2 := F.c2
  have c4 := F.c4
  have n1 := F.n1
  have g1 := cellb0 F.g5 F.bel
  subst hp
  clear F
  generalize data.length = len at *
  go_enter Tryd.func77, Tryd.ntmps77
  go_wp2_with fail
  go_quiet (fail)
  go_wp2
  go_quiet (fail)
  go_wp2
  go_ret2
  exact ⟨rfl, by repeat (first | exact Below.refl _ _ | apply pw_below_drewN)⟩
theorem comp156 : (Tryd.prog.info? 156).map (·.comparable) = some true := by kernel_rfl
theorem size174 : (Tryd.prog.info? 174).map (·.size) = some 1 := by kernel_rfl
theorem eql_same (a : Addr) (w : World) : (binOp .eql 73 (.iface 156 (.pointer (some a))) (.iface 156 (.pointer (some a)))).run Tryd.prog w = .ok (.bool true) w := by
  obtain ⟨i, hi, hcmp⟩ := Option.map_eq_some_iff.1 comp156
  obtain ⟨j, hj, _⟩ := Option.map_eq_some_iff.1 size174
  exact run_eql_iface_ptr_same w a Tryd.underlying73 Tryd.underlying156 hi hcmp hj
/-- So many bytes are read, if there are as many. -/
def Rd (w0 : World) (f d p : Nat) (ad : Addr) (cd : Nat) (data : List Int) (a1 a2 : Addr) (bb g n cap : Nat) (xs : List Int) (o k : Nat) (w' : World) : Prop :=
  Fl w0 f d (p + k) (some ad) cd data a1 a2 w' ∧ Kd.R (Kd.int .u8) 5 w' bb (fun _ => True) (.slice (some ⟨g, 0, none⟩) n cap) (xs.take o ++ (data.drop p).take k ++ xs.drop (o + k))
set_option maxHeartbeats 4000000 in
set_option maxRecDepth 100000 in
theorem rl_full {w0 : World} {f d p : Nat} {ad : Addr} {cd : Nat} {data : List Int} {a1 a2 : Addr} {W : World} (F : Fl w0 f d p (some ad) cd data a1 a2 W) {bb g n cap : Nat} {xs : List Int} (HB : Kd.R (Kd.int .u8) 5 W bb (fun _ => True) (.slice (some ⟨g, 0, none⟩) n cap) xs) (hbb : w0.heap.size ≤ bb) (o h cm : Nat) (hom : o + h ≤ xs.length) (hcm : h ≤ cm) (hpl : p + h ≤ data.length) (hm0 : 0 < h) (hdl : data.length ≤ 1000000) :
    Calls Tryd.prog 68 #[.pointer (some ⟨f, 0, none⟩), .slice (some ⟨g, o, none⟩) h cm, .int .i64 h] W fun e w' => e = .returned (.tuple #[.int .i64 (h : Int), .nilIface]) ∧ Rd w0 f d p ad cd data a1 a2 bb g n cap xs o h w' := by
  have HR := read_mid F HB hbb o h cm hom (by omega) hm0 (by omega) hdl
  rw [show min h (data.length - p) = h by omega] at HR
  have HR := Lib.hid HR
  have hcm' : (h : Int) ≤ (cm : Int) := by omega
  have hm1 : ¬ cm = 0 := by omega
  have hb1 : (h : Int) ≤ 1000000 := by omega
  clear F HB hom hpl hdl
  go_enter Tryd.func68, Tryd.ntmps68
  go_wp2_with fail
  go_loopw [6, 7] (fun v6 v7 wr => (v6 = .int .i64 0 ∧ v7 = .nilIface ∧ wr = W) ∨ (v6 = .int .i64 (h : Int) ∧ v7 = .nilIface ∧ Hid (Rd w0 f d p ad cd data a1 a2 bb g n cap xs o h wr))) (fun v6 _ _ => h - (intOf v6).toNat)
  case atStart => exact .inl ⟨rfl, rfl, rfl⟩
  case round =>
    rcases hrel with ⟨rfl, rfl, rfl⟩ | ⟨rfl, rfl, HQ⟩
    · go_wp2_with (first | (go_at_call 77; (refine (HR.out).mono ?_); rintro e w1 ⟨rfl, hf, hr⟩; have HQ := Lib.hid (show Rd w0 f d p ad cd data a1 a2 bb g n cap xs o h w1 from ⟨hf, hr⟩); clear hf hr))
      go_roundw
      case rel => exact .inr ⟨by simp, rfl, HQ⟩
      case measure => simp [intOf]; omega
    · go_wp2_with fail
      go_ret2
      exact ⟨rfl, HQ.out⟩
set_option maxHeartbeats 4000000 in
set_option maxRecDepth 100000 in
theorem rl_part {w0 : World} {f d p : Nat} {ad : Addr} {cd : Nat} {data : List Int} {a1 a2 : Addr} {W : World} (F : Fl w0 f d p (some ad) cd data a1 a2 W) {bb g n cap : Nat} {xs : List Int} (HB : Kd.R (Kd.int .u8) 5 W bb (fun _ => True) (.slice (some ⟨g, 0, none⟩) n cap) xs) (hbb : w0.heap.size ≤ bb) (o h cm k : Nat) (hk : p + k = data.length) (hom : o + h ≤ xs.length) (hcm : h ≤ cm) (hm0 : 0 < k) (hkh : k < h) (hh : h ≤ 1000000) (hdl : data.length ≤ 1000000) :
    Calls Tryd.prog 68 #[.pointer (some ⟨f, 0, none⟩), .slice (some ⟨g, o, none⟩) h cm, .int .i64 h] W fun e w' => e = .returned (.tuple #[.int .i64 (k : Int), .iface 156 (.pointer (some a2))]) ∧ Rd w0 f d p ad cd data a1 a2 bb g n cap xs o k w' := by
  have HR := read_mid F HB hbb o h cm hom (by omega) (by omega) (by omega) hdl
  rw [show min h (data.length - p) = k by omega] at HR
  have HR := Lib.hid HR
  have HK := Lib.hid hk
  have HBN := Lib.hid hbb
  have hcm' : (h : Int) ≤ (cm : Int) := by omega
  have hm1 : ¬ cm = 0 := by omega
  have hm2 : ¬ cm = k := by omega
  have hb1 : (h : Int) ≤ 1000000 := by omega
  have hki : (0 : Int) < (k : Int) := by omega
  have hki2 : (k : Int) < (h : Int) := by omega
  have hki3 : (k : Int) ≤ (h : Int) := by omega
  have hki4 : (0 : Int) ≤ (k : Int) := by omega
  have heq := eql_same a1
  clear F HB hom hdl hk
  go_enter Tryd.func68, Tryd.ntmps68
  go_wp2_with fail
  go_loopw [6, 7] (fun v6 v7 wr => (v6 = .int .i64 0 ∧ v7 = .nilIface ∧ wr = W) ∨ (v6 = .int .i64 (k : Int) ∧ v7 = .nilIface ∧ Hid (Rd w0 f d p ad cd data a1 a2 bb g n cap xs o k wr)) ∨ (v6 = .int .i64 (k : Int) ∧ v7 = .iface 156 (.pointer (some a1)) ∧ Hid (Rd w0 f d p ad cd data a1 a2 bb g n cap xs o k wr))) (fun v6 v7 _ => (if intOf v6 = 0 then 2 else 0) + (match v7 with | .nilIface => 1 | _ => 0))
  case atStart => exact .inl ⟨rfl, rfl, rfl⟩
  case round =>
    rcases hrel with ⟨rfl, rfl, rfl⟩ | ⟨rfl, rfl, HQ⟩ | ⟨rfl, rfl, HQ⟩
    · go_wp2_with (first | (go_at_call 77; (refine (HR.out).mono ?_); rintro e w1 ⟨rfl, hf, hr⟩; have HQ := Lib.hid (show Rd w0 f d p ad cd data a1 a2 bb g n cap xs o k w1 from ⟨hf, hr⟩); clear hf hr))
      go_roundw
      case rel => exact .inr (.inl ⟨by simp, rfl, HQ⟩)
      case measure => simp [intOf, show ¬ k = 0 by omega]
    · have HE := Lib.hid (fun (Ab : Option Addr) (m cb : Nat) (hm : 0 < m) => read_end HQ.out.1 Ab m cb hm HK.out)
      go_wp2_with (first | (go_at_call 77; (refine (HE.out _ _ _ (by omega)).mono ?_); rintro e w1 ⟨rfl, hb⟩; have HQ2 := Lib.hid (show Rd w0 f d p ad cd data a1 a2 bb g n cap xs o k w1 from ⟨HQ.out.1.below hb, Kd.R_below HQ.out.2 hb⟩); clear hb))
      go_roundw
      case rel => exact .inr (.inr ⟨by simp, rfl, HQ2⟩)
      case measure => simp [intOf]
    · have g1 := cellb0 HQ.out.1.g5 HQ.out.1.bel
      have g2 := cellb0 HQ.out.1.g6 HQ.out.1.bel
      go_wp2_with fail
      go_ret2
      exact ⟨rfl, HQ.out⟩
end Go.Proofs.YtckjbgneblfceaaDoor.Cb
