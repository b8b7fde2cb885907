/- The attributes that fit, and those told of by the reference. -/
import Derived.Test.YtckjbgneblfceaaDoorFd
namespace Go.Proofs.YtckjbgneblfceaaDoor.Fe
open Go.RowKit Go.Maps Go.Proofs.YtckjbgneblfceaaDoorW.PrintWords Go.Proofs.YtckjbgneblfceaaDoorW.PrintLast Go.Proofs.YtckjbgneblfceaaDoorW.PrintMore Go.Proofs.YtckjbgneblfceaaDoor.PFnFitFirst Go.Proofs.YtckjbgneblfceaaDoor.Fa Go.Proofs.YtckjbgneblfceaaDoor.Fm Go.Proofs.YtckjbgneblfceaaDoor.Fb Go.Proofs.YtckjbgneblfceaaDoor.Fc Go.Proofs.YtckjbgneblfceaaDoor.Fd
set_option linter.unusedVariables false
set_option linter.unusedSimpArgs false
/-- Rows of which the elements lead to what lay in w0. -/
def Kf {α : Type} (d : Kd α) (w0 : World) : Kd α := Kd.fixed d w0
theorem Kf_C {α : Type} {d : Kd α} {w0 W : World} {A : Option Addr} {n : Nat} {xs : List α} (h : (Kf d w0).C W A n xs) (hb : Below w0.heap.size w0 W) : d.C W A n xs := by
  unfold Kd.C at h ⊢
  exact h.imp_ (Below.refl _ _) (fun _ _ hp => d.K_below hb hp)
theorem app58 {ops : Array Oper} {rest : List Oper} {o : Oper} {a : Act} {Q : Exit → Act → World → Prop} {W w0 wb : World} (base : Nat) (hgd : o.guard = none) (s x : Operand) (ho : o.op = .call { callee := .builtin .append, args := #[s, x], argTypes := #[22, 22] })
    (v : Value) (xs : List S58) (p : S58) (A1 : Option Addr) (c1 : Nat) (hs : a.eval s = v) {g : Nat} (hx : a.eval x = .slice (some ⟨g, 0, none⟩) 1 1) (hgs : W.heap.size = g) (l1 : p.f1.length ≤ c1) (g1 : (Kd.int .u8).C w0 A1 p.f1.length p.f1)
    (HO : (Kf k58 w0).R 58 W base (fun _ => True) v xs) (HB : Below base wb W) (hbase : base ≤ W.heap.size) (hl : xs.length ≤ 1000)
    (h : ∀ v1 w1, (Kf k58 w0).R 58 w1 base (fun _ => True) v1 (xs ++ [p]) → Below base wb w1 → wpList Tryd.prog ops Q rest (a.put o.dst v1) w1) :
    wpList Tryd.prog ops Q (o :: rest) a (W.alloc (.cells #[.string p.f0, .slice A1 p.f1.length c1] 58)) := by
  subst hgs
  refine Kd.R_append (Kf k58 w0) (w0 := wb) base hgd s x 22 58 _ 40 ho Tryd.underlying22 info58 rfl (by show 0 < 2; decide) (by decide) v xs p [.string p.f0, .slice A1 p.f1.length c1] (fun _ => True) (fun _ => False) hs hx (k58_mk w0 p l1 g1) (fun _ hk => hk.elim) (fun _ _ => trivial) HO HB hbase (by omega) ?_
  intro v1 w1 h1 hb _ _
  exact h v1 w1 h1 hb
theorem app70 {ops : Array Oper} {rest : List Oper} {o : Oper} {a : Act} {Q : Exit → Act → World → Prop} {W w0 wb : World} (base : Nat) (hgd : o.guard = none) (s x : Operand) (ho : o.op = .call { callee := .builtin .append, args := #[s, x], argTypes := #[27, 27] })
    (v : Value) (xs : List S70) (p : S70) (A1 : Option Addr) (c1 : Nat) (hs : a.eval s = v) {g : Nat} (hx : a.eval x = .slice (some ⟨g, 0, none⟩) 1 1) (hgs : W.heap.size = g) (l1 : p.f1.length ≤ c1) (g1 : (Kd.int .u8).C w0 A1 p.f1.length p.f1)
    (HO : (Kf k70 w0).R 70 W base (fun _ => True) v xs) (HB : Below base wb W) (hbase : base ≤ W.heap.size) (hl : xs.length ≤ 1000)
    (h : ∀ v1 w1, (Kf k70 w0).R 70 w1 base (fun _ => True) v1 (xs ++ [p]) → Below base wb w1 → wpList Tryd.prog ops Q rest (a.put o.dst v1) w1) :
    wpList Tryd.prog ops Q (o :: rest) a (W.alloc (.cells #[.string p.f0, .slice A1 p.f1.length c1] 70)) := by
  subst hgs
  refine Kd.R_append (Kf k70 w0) (w0 := wb) base hgd s x 27 70 _ 40 ho Tryd.underlying27 info70 rfl (by show 0 < 2; decide) (by decide) v xs p [.string p.f0, .slice A1 p.f1.length c1] (fun _ => True) (fun _ => False) hs hx (k70_mk w0 p l1 g1) (fun _ hk => hk.elim) (fun _ _ => trivial) HO HB hbase (by omega) ?_
  intro v1 w1 h1 hb _ _
  exact h v1 w1 h1 hb
def to70 (x : S58) : S70 := ⟨x.f0, x.f1⟩
theorem at58b {w w1 : World} {A : Option Addr} {n : Nat} {xs : List S58} (h : k58.C w A n xs) (hb : Below w.heap.size w w1) (i : Nat) (h1 : i < n) : ∃ ad A1 c1, A = some ad ∧ w1.cell? (ad.add (i * 2)) = some (.string (xs.getD i z58).f0) ∧ w1.cell? ⟨(ad.add (i * 2)).block, (ad.add (i * 2)).off + 1, none⟩ = some (.slice A1 (xs.getD i z58).f1.length c1) ∧ (xs.getD i z58).f1.length ≤ c1 ∧ (Kd.int .u8).C w A1 (xs.getD i z58).f1.length (xs.getD i z58).f1 := by
  obtain ⟨ad, A1, c1, e, k0, k1, l1, g1⟩ := at_T58 h (i : Int) (by omega) (by omega)
  unfold rd_T58 at k0 k1 l1 g1
  rw [Int.toNat_natCast] at k0 k1 l1 g1
  exact ⟨ad, A1, c1, e, cellb0 k0 hb, cellb0 k1 hb, l1, g1⟩
theorem at70b {w w1 : World} {A : Option Addr} {n : Nat} {xs : List S70} (h : k70.C w A n xs) (hb : Below w.heap.size w w1) (i : Nat) (h1 : i < n) : ∃ ad A1 c1, A = some ad ∧ w1.cell? (ad.add (i * 2)) = some (.string (xs.getD i z70).f0) ∧ w1.cell? ⟨(ad.add (i * 2)).block, (ad.add (i * 2)).off + 1, none⟩ = some (.slice A1 (xs.getD i z70).f1.length c1) ∧ (xs.getD i z70).f1.length ≤ c1 ∧ (Kd.int .u8).C w A1 (xs.getD i z70).f1.length (xs.getD i z70).f1 := by
  obtain ⟨ad, A1, c1, e, k0, k1, l1, g1⟩ := at_T70 h (i : Int) (by omega) (by omega)
  unfold rd_T70 at k0 k1 l1 g1
  rw [Int.toNat_natCast] at k0 k1 l1 g1
  exact ⟨ad, A1, c1, e, cellb0 k0 hb, cellb0 k1 hb, l1, g1⟩
set_option maxHeartbeats 4000000 in
set_option maxRecDepth 100000 in
theorem attr_calls (W : World) (l : List S58) (A : Option Addr) (c : Nat) (hC : k58.C W A l.length l) (hl : l.length ≤ 1000) :
    Calls Tryd.prog 11 #[.slice A l.length c] W fun e w' => ∃ B d, e = .returned (.slice B l.length d) ∧ k70.C w' B l.length (l.map to70) ∧ Below W.heap.size W w' := by
  have HC := Lib.hid hC
  obtain ⟨n, hn⟩ : ∃ n, n = l.length := ⟨_, rfl⟩
  rw [← hn] at hl HC ⊢
  have HN := Lib.hid hn
  clear hC hn
  go_enter Tryd.func11, Tryd.ntmps11
  go_wp2_with fail
  go_loopw [8, 3] (fun v8 v3 wr => ∃ i : Nat, v8 = .int .i64 i ∧ i ≤ n ∧ Hid ((Kf k70 W).R 70 wr W.heap.size (fun _ => True) v3 ((l.map to70).take i)) ∧ Hid (Below W.heap.size W wr)) (fun v8 _ _ => n - (intOf v8).toNat)
  case atStart => exact ⟨0, rfl, Nat.zero_le _, Lib.hid (Kd.R_nil _ _ _ _ _), Lib.hid (Below.refl _ _)⟩
  case round =>
    obtain ⟨i, rfl, hi, R1, BI⟩ := hrel
    by_cases hlt : i < n
    · have hlt' : (i : Int) < (n : Int) := by omega
      have T1 := Lib.hid (take_succ to70 l i z58 (by rw [← HN.out]; exact hlt))
      obtain ⟨ad, B1, d1, eA, k0, k1, m1, g1⟩ := at58b HC.out BI.out i hlt
      obtain ⟨x, hx⟩ : ∃ x, x = l.getD i z58 := ⟨_, rfl⟩
      rw [← hx] at T1 k0 k1 m1 g1
      subst eA
      have G1 := Lib.hid g1
      have hsz := BI.out.size
      have hle1 : ((l.map to70).take i).length ≤ i := List.length_take_le _ _
      clear hx g1
      have BA := Lib.hid (below_then BI.out hsz (below_alloc (Below.refl _ _) (.cells #[.string x.f0, .slice B1 x.f1.length d1] 58)))
      have R1a := Lib.hid (Kd.R_below R1.out (below_alloc (Below.refl _ _) (.cells #[.string x.f0, .slice B1 x.f1.length d1] 58)))
      have SA : W.heap.size ≤ (wr.alloc (.cells #[.string x.f0, .slice B1 x.f1.length d1] 58)).heap.size := by simp; omega
      go_wp2_with (first
        | ((with_reducible refine gate_builtin (b := .append) (xs := #[.tmp 12, .tmp 18]) rfl ?_); at_builtin; refine app70 (W := wr.alloc (.cells #[.string x.f0, .slice B1 x.f1.length d1] 58)) (w0 := W) (wb := W) W.heap.size rfl (.tmp 12) (.tmp 18) rfl u3 _ (to70 x) B1 d1 rfl rfl (by simp) m1 G1.out R1a.out BA.out SA (by omega) ?_; intro v4 w4 hr hb; have R4 := Lib.hid hr; have B4 := Lib.hid hb; clear hr hb))
      go_roundw
      case rel => exact ⟨i + 1, by push_cast; rfl, hlt, Lib.hid (by rw [T1.out]; exact R4.out), B4⟩
      case measure => simp only [intOf]; omega
    · obtain rfl : i = n := by omega
      have e1 : (l.map to70).take i = l.map to70 := List.take_of_length_le (by rw [List.length_map, ← HN.out]; exact Nat.le_refl _)
      have r1 := R1.out
      rw [e1] at r1
      obtain ⟨A7, c7, h7, _, g7⟩ := Kd.R_reads r1
      rw [List.length_map, ← HN.out] at h7 g7
      subst h7
      have G7 := Lib.hid (Kf_C g7 BI.out)
      clear r1 g7 R1 e1
      go_wp2_with fail
      go_ret
      exact ⟨A7, c7, rfl, G7.out, BI.out⟩
set_option maxHeartbeats 4000000 in
set_option maxRecDepth 100000 in
theorem same_calls (W : World) (l : List S58) (A B : Option Addr) (c d : Nat) (hC : k58.C W A l.length l) (hD : k70.C W B l.length (l.map to70)) :
    Calls Tryd.prog 10 #[.slice A l.length c, .slice B l.length d] W fun e w' => e = .returned (.bool true) ∧ Below W.heap.size W w' := by
  have HC := Lib.hid hC
  have HD := Lib.hid hD
  have hmx := hC.2.1
  obtain ⟨n, hn⟩ : ∃ n, n = l.length := ⟨_, rfl⟩
  rw [← hn] at HC HD hmx ⊢
  have HN := Lib.hid hn
  clear hC hD hn
  go_enter Tryd.func10, Tryd.ntmps10
  go_wp2_with fail
  go_loopw [13] (fun v13 wr => ∃ i : Nat, v13 = .int .i64 i ∧ i ≤ n ∧ Hid (Below W.heap.size W wr)) (fun v13 _ => n - (intOf v13).toNat)
  case atStart => exact ⟨0, rfl, Nat.zero_le _, Lib.hid (Below.refl _ _)⟩
  case round =>
    obtain ⟨i, rfl, hi, BI⟩ := hrel
    by_cases hlt : i < n
    · have hlt' : (i : Int) < (n : Int) := by omega
      obtain ⟨ad, B1, d1, eA, k0, k1, m1, g1⟩ := at58b HC.out BI.out i hlt
      obtain ⟨bd, B2, d2, eB, j0, j1, m2, g2⟩ := at70b HD.out BI.out i hlt
      have ex : (l.map to70).getD i z70 = to70 (l.getD i z58) := by
        rw [List.getD_eq_getElem?_getD, List.getD_eq_getElem?_getD, List.getElem?_map, List.getElem?_eq_getElem (by rw [← HN.out]; exact hlt)]
        rfl
      rw [ex] at j0 j1 m2 g2
      obtain ⟨x, hx⟩ : ∃ x, x = l.getD i z58 := ⟨_, rfl⟩
      rw [← hx] at k0 k1 m1 g1 j0 j1 m2 g2
      subst eA eB
      have j0 : wr.cell? (bd.add (i * 2)) = some (.string x.f0) := j0
      have j1 : wr.cell? ⟨(bd.add (i * 2)).block, (bd.add (i * 2)).off + 1, none⟩ = some (.slice B2 x.f1.length d2) := j1
      have SS := Lib.hid (show ∀ w1, Below wr.heap.size wr w1 → (fun w' => w'.cell? (ad.add (i * 2)) = some (.string x.f0) ∧ w'.cell? ⟨(ad.add (i * 2)).block, (ad.add (i * 2)).off + 1, none⟩ = some (.slice B1 x.f1.length d1) ∧ w'.cell? (bd.add (i * 2)) = some (.string x.f0) ∧ w'.cell? ⟨(bd.add (i * 2)).block, (bd.add (i * 2)).off + 1, none⟩ = some (.slice B2 x.f1.length d2) ∧ (convert 33 9 (.slice B1 x.f1.length d1)).run Tryd.prog w' = .ok (.string (strOfNums x.f1)) w' ∧ (convert 33 9 (.slice B2 x.f1.length d2)).run Tryd.prog w' = .ok (.string (strOfNums x.f1)) w') w1 from fun w1 hb =>
        ⟨cellb0 k0 hb, cellb0 k1 hb, cellb0 j0 hb, cellb0 j1 hb, Kd.C_string (dst := 9) Tryd.underlying33 Tryd.underlying5 Tryd.underlying9 (Kd.C_below g1 (below_then BI.out BI.out.size hb)) (c := d1), Kd.C_string (dst := 9) (P := Tryd.prog) Tryd.underlying33 Tryd.underlying5 Tryd.underlying9 (Kd.C_below g2 (below_then BI.out BI.out.size hb)) (c := d2)⟩)
      have S3 := Lib.hid (SS.out wr.drew (below_drew1 (Below.refl _ _)))
      clear k0 k1 j0 j1 g1 g2 m1 m2 hx ex
      go_upto_region 6 with (fail)
      go_region_held3 (fun w' => w'.cell? (ad.add (i * 2)) = some (.string x.f0) ∧ w'.cell? ⟨(ad.add (i * 2)).block, (ad.add (i * 2)).off + 1, none⟩ = some (.slice B1 x.f1.length d1) ∧ w'.cell? (bd.add (i * 2)) = some (.string x.f0) ∧ w'.cell? ⟨(bd.add (i * 2)).block, (bd.add (i * 2)).off + 1, none⟩ = some (.slice B2 x.f1.length d2) ∧ (convert 33 9 (.slice B1 x.f1.length d1)).run Tryd.prog w' = .ok (.string (strOfNums x.f1)) w' ∧ (convert 33 9 (.slice B2 x.f1.length d2)).run Tryd.prog w' = .ok (.string (strOfNums x.f1)) w')
        (first | exact S3.out | go_keep)
        (fail)
      go_wp2_with fail
      go_roundw
      case rel => exact ⟨i + 1, by push_cast; rfl, hlt, Lib.hid (below_then BI.out BI.out.size (below_drew1 (Below.refl _ _)))⟩
      case measure => simp only [intOf]; omega
    · obtain rfl : i = n := by omega
      go_wp2_with fail
      go_ret
      exact ⟨rfl, BI.out⟩
end Go.Proofs.YtckjbgneblfceaaDoor.Fe
