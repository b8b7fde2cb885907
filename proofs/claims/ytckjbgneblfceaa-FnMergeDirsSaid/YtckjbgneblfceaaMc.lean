/- What is told of a row of infos. -/
import Derived.Test.YtckjbgneblfceaaMb
namespace Go.Proofs.Ytckjbgneblfceaa.Ma
open Go.RowKit Go.Proofs.YtckjbgneblfceaaW.PrintWords Go.Proofs.YtckjbgneblfceaaW.PrintLast Go.Proofs.YtckjbgneblfceaaW.PrintMore
open Go.Proofs.Ytckjbgneblfceaa.PFnMergeDirs
set_option linter.unusedVariables false
set_option linter.unusedSimpArgs false
theorem ptr_at {w : World} {A : Option Addr} {n : Nat} {ps : List Nat} (h : kp.C w A n ps) (i : Nat) (hi : i < n) : ∃ ad p, A = some ad ∧ ps[i]? = some p ∧ w.cell? (ad.add i) = some (.pointer (some ⟨p, 0, none⟩)) := by
  have hl : ps.length = n := Kd.C_len h
  obtain ⟨ad, c, e, _, hK, hc0⟩ := Kd.C_get h 0 (i : Int) (by omega) (by omega)
  rw [Int.toNat_natCast] at hK hc0
  have hp : ps[i]? = some (ps.getD i 0) := by rw [List.getD_eq_getElem?_getD, List.getElem?_eq_getElem (by omega)]; rfl
  refine ⟨ad, ps.getD i 0, e, hp, ?_⟩
  have h1 : c = [encP (ps.getD i 0)] := hK
  have h2 := hc0 0 (encP (ps.getD i 0)) (by rw [h1]; rfl)
  have h3 : i * kp.sz + 0 = i := by show i * 1 + 0 = i; omega
  rw [h3] at h2
  exact h2
set_option maxHeartbeats 8000000 in
set_option maxRecDepth 100000 in
theorem from14 (A : Option Addr) (n c : Nat) (ps : List Nat) (l : List S30) (w : World) (hC : ∀ i, i < n → ∃ ad p, A = some ad ∧ ps[i]? = some p ∧ w.cell? (ad.add i) = some (.pointer (some ⟨p, 0, none⟩))) (hl : ps.length = n) (hnc : n ≤ c) (hn : n ≤ 2000) (hF : Fis ps l w) (hmd : ∀ x ∈ l, 0 ≤ x.f1 ∧ x.f1 < 4294967296) (hlen : ∀ x ∈ l, x.f0.size ≤ 4294967296) :
    Calls Try.prog 14 #[.slice A n c] w fun e w' => ∃ v, e = .returned v ∧ k35.R 35 w' w.heap.size (fun _ => True) v (l.map tell) ∧ Below w.heap.size w w' := by
  have HC := Lib.hid hC
  have HF := Lib.hid hF
  have HL := Lib.hid hl
  have HM := Lib.hid hmd
  have HN := Lib.hid hlen
  clear hC hF hmd hlen
  go_enter Try.func14, Try.ntmps14
  go_wp2
  go_loopw [3, 8] (fun v3 v8 wr => ∃ (i : Nat), v8 = .int .i64 i ∧ i ≤ n ∧ Hid (k35.R 35 wr w.heap.size (fun _ => True) v3 ((l.take i).map tell)) ∧ Hid (Below w.heap.size w wr)) (fun _ v8 _ => n - (intOf v8).toNat)
  case atStart => exact ⟨0, rfl, Nat.zero_le _, Lib.hid (Kd.R_nil _ _ _ _ _), Lib.hid (Below.refl _ _)⟩
  case round =>
    obtain ⟨i, rfl, hin, R1, B1⟩ := hrel
    by_cases hlt : i < n
    · have hlt' : (i : Int) < (n : Int) := by omega
      have j1 : decide ((i : Int) < (n : Int)) = true := decide_eq_true hlt'
      have j2 : (0 ≤ (i : Int)) = True := eq_true (by omega)
      have j3 : ((i : Int) < (n : Int)) = True := eq_true hlt'
      have j4 : IntKind.i64.wrap ((i : Int) + 1) = (i : Int) + 1 := IntWalk.i64_in _ (by omega)
      obtain ⟨ad, p, eA, hp, k0⟩ := HC.out i hlt
      have k0 := cellb0 k0 B1.out
      obtain ⟨x, hxl⟩ : ∃ x, l[i]? = some x := ⟨_, List.getElem?_eq_getElem (by have := HF.out.len; have := HL.out; omega)⟩
      have PX := Lib.hid ((HF.out.ent i p x hp hxl).later B1.out)
      have HX := Lib.hid hxl
      have hmx := HM.out x (List.mem_of_getElem? hxl)
      have hlx := HN.out x (List.mem_of_getElem? hxl)
      have hle : ((l.take i).map tell).length ≤ 2000 := by rw [List.length_map, List.length_take]; omega
      have T := Lib.hid (show (l.take (i + 1)).map tell = (l.take i).map tell ++ [tell x] from by rw [List.take_add_one, hxl, Option.toList_some, List.map_append]; rfl)
      subst eA
      clear hp hxl
      obtain ⟨y, hy⟩ : ∃ y, y = tell x := ⟨_, rfl⟩
      have HY := Lib.hid hy
      clear hy
      go_wp2_with (first | (go_at_call 19; (with_reducible refine (from19 PX.out hlx hmx).mono ?_); rw [← HY.out]; rintro e w2 ⟨rfl, hb2⟩; have R2 := Lib.hid (Kd.R_below R1.out hb2); have B2 := Lib.hid (below_then B1.out B1.out.size hb2); clear hb2) | ((with_reducible refine gate_builtin (b := .append) (xs := #[.tmp 12, .tmp 15]) rfl ?_); at_builtin; refine Kd.R_append k35 (w0 := w) (W := w2) w.heap.size rfl (.tmp 12) (.tmp 15) 25 35 (.agg #[(.string ⟨#[]⟩), (.int .i64 0), (.int .i64 0), (.bool false), (.int .i64 0)]) 48 rfl Try.underlying25 PFnMergeDirs.info35 rfl (by decide) (by omega) u3 ((l.take i).map tell) y [.string y.f0, .int .i64 y.f1, .int .i64 y.f2, .bool y.f3, .int .i64 y.f4] (fun _ => True) (fun _ => False) rfl rfl (k35_mkM _ _ _ y) (fun _ hk => hk.elim) (fun _ _ => trivial) R2.out B2.out B2.out.size (by omega) ?_; intro v4 w4 hr hb _ _; have R4 := Lib.hid hr; have B4 := Lib.hid hb; clear hr hb))
      go_roundw
      case rel => exact ⟨i + 1, by push_cast; rfl, hlt, Lib.hid (by rw [T.out, ← HY.out]; exact R4.out), B4⟩
      case measure => simp only [intOf]; omega
    · obtain rfl : i = n := by omega
      have j1 : decide ((i : Int) < (i : Int)) = false := decide_eq_false (by omega)
      go_wp2
      go_returns
      have e1 : l.take i = l := List.take_of_length_le (by have := HF.out.len; have := HL.out; omega)
      exact ⟨_, rfl, by have := R1.out; rw [e1] at this; exact this, B1.out⟩
end Go.Proofs.Ytckjbgneblfceaa.Ma
