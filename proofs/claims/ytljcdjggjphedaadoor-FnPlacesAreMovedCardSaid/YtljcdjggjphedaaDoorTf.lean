/- The steps of which the places are moved. -/
import Derived.Test.YtljcdjggjphedaaDoorTb
import Derived.Test.YtljcdjggjphedaaDoorTd
namespace Go.Proofs.YtljcdjggjphedaaDoor.Tf
open Go.RowKit Go.Maps Go.Proofs.YtljcdjggjphedaaDoorW.PrintWords Go.Proofs.YtljcdjggjphedaaDoorW.PrintLast Go.Proofs.YtljcdjggjphedaaDoorW.PrintMore Go.Proofs.YtljcdjggjphedaaDoor.PFnHandleScript Go.Proofs.YtljcdjggjphedaaDoor.Hd Go.Proofs.YtljcdjggjphedaaDoor.Mf Go.Proofs.YtljcdjggjphedaaDoor.Tb Go.Proofs.YtljcdjggjphedaaDoor.Td
set_option linter.unusedVariables false
set_option linter.unusedSimpArgs false
theorem at26b {w w1 : World} {A : Option Addr} {n : Nat} {xs : List S26} (h : k26.C w A n xs) (hb : Below w.heap.size w w1) (i : Nat) (h1 : i < n) : ∃ ad A6 c6, A = some ad ∧ w1.cell? (ad.add (i * 10)) = some (.int .i64 (rd_T26 xs i).f0) ∧ w1.cell? ⟨(ad.add (i * 10)).block, (ad.add (i * 10)).off + 1, none⟩ = some (.string (rd_T26 xs i).f1) ∧ w1.cell? ⟨(ad.add (i * 10)).block, (ad.add (i * 10)).off + 2, none⟩ = some (.string (rd_T26 xs i).f2) ∧ w1.cell? ⟨(ad.add (i * 10)).block, (ad.add (i * 10)).off + 3, none⟩ = some (.int .i64 (rd_T26 xs i).f3) ∧ w1.cell? ⟨(ad.add (i * 10)).block, (ad.add (i * 10)).off + 4, none⟩ = some (.int .i64 (rd_T26 xs i).f4) ∧ w1.cell? ⟨(ad.add (i * 10)).block, (ad.add (i * 10)).off + 5, none⟩ = some (.int .i64 (rd_T26 xs i).f5) ∧ w1.cell? ⟨(ad.add (i * 10)).block, (ad.add (i * 10)).off + 6, none⟩ = some (.slice A6 (rd_T26 xs i).f6.length c6) ∧ w1.cell? ⟨(ad.add (i * 10)).block, (ad.add (i * 10)).off + 7, none⟩ = some (.int .i64 (rd_T26 xs i).f7) ∧ w1.cell? ⟨(ad.add (i * 10)).block, (ad.add (i * 10)).off + 8, none⟩ = some (.int .i64 (rd_T26 xs i).f8) ∧ w1.cell? ⟨(ad.add (i * 10)).block, (ad.add (i * 10)).off + 9, none⟩ = some (.int .i64 (rd_T26 xs i).f9) ∧ (rd_T26 xs i).f6.length ≤ c6 ∧ (Kd.int .u8).C w A6 (rd_T26 xs i).f6.length (rd_T26 xs i).f6 := by
  obtain ⟨ad, A6, c6, e, k0, k1, k2, k3, k4, k5, k6, k7, k8, k9, l6, g6⟩ := at_T26 h (i : Int) (by omega) (by omega)
  exact ⟨ad, A6, c6, e, cellb k0 hb, cellb k1 hb, cellb k2 hb, cellb k3 hb, cellb k4 hb, cellb k5 hb, cellb k6 hb, cellb k7 hb, cellb k8 hb, cellb k9 hb, l6, g6⟩
section
variable {ops : Array Oper} {rest : List Oper} {o : Oper} {a : Act} {Q : Exit → Act → World → Prop}
theorem app_stp {W w0 wb : World} (base : Nat) (hgd : o.guard = none) (s x : Operand) (ho : o.op = .call { callee := .builtin .append, args := #[s, x], argTypes := #[23, 23] })
    (v : Value) (xs : List S26) (p : S26) (A6 : Option Addr) (c6 : Nat) (hs : a.eval s = v) {g : Nat} (hx : a.eval x = .slice (some ⟨g, 0, none⟩) 1 1) (hgs : W.heap.size = g) (l6 : p.f6.length ≤ c6) (g6 : (Kd.int .u8).C w0 A6 p.f6.length p.f6)
    (HO : (Kx w0).R 26 W base (fun _ => True) v xs) (HB : Below base wb W) (hbase : base ≤ W.heap.size) (hl : xs.length ≤ 1000)
    (h : ∀ v1 w1, (Kx w0).R 26 w1 base (fun _ => True) v1 (xs ++ [p]) → Below base wb w1 → W.grownBy w1 v.ownBlock → wpList Tryd.prog ops Q rest (a.put o.dst v1) w1) :
    wpList Tryd.prog ops Q (o :: rest) a (W.alloc (.cells #[.int .i64 p.f0, .string p.f1, .string p.f2, .int .i64 p.f3, .int .i64 p.f4, .int .i64 p.f5, .slice A6 p.f6.length c6, .int .i64 p.f7, .int .i64 p.f8, .int .i64 p.f9] 26)) := by
  subst hgs
  refine Kd.R_append (Kx w0) (w0 := wb) base hgd s x 23 26 _ 112 ho Tryd.underlying23 info26 rfl (by show 0 < 10; decide) (by decide) v xs p [.int .i64 p.f0, .string p.f1, .string p.f2, .int .i64 p.f3, .int .i64 p.f4, .int .i64 p.f5, .slice A6 p.f6.length c6, .int .i64 p.f7, .int .i64 p.f8, .int .i64 p.f9] (fun _ => True) (fun _ => False) hs hx (k26_mk w0 p l6 g6) (fun _ hk => hk.elim) (fun _ _ => trivial) HO HB hbase (by omega) ?_
  intro v1 w1 h1 hb h2 _
  exact h v1 w1 h1 hb h2
end
theorem mov_cases (q : Int) (s : S26) : ((s.f0 == 13) = true ∧ mov q s = { s with f7 := s.f7 + q }) ∨ ((s.f0 == 13) = false ∧ (s.f0 == 15) = true ∧ mov q s = { s with f7 := s.f7 + q }) ∨ ((s.f0 == 13) = false ∧ (s.f0 == 15) = false ∧ (s.f0 == 17) = true ∧ mov q s = { s with f7 := s.f7 + q }) ∨
    ((s.f0 == 13) = false ∧ (s.f0 == 15) = false ∧ (s.f0 == 17) = false ∧ (s.f0 == 16) = true ∧ (s.f8 == 0) = true ∧ mov q s = { s with f7 := s.f7 + q }) ∨ ((s.f0 == 13) = false ∧ (s.f0 == 15) = false ∧ (s.f0 == 17) = false ∧ (s.f0 == 16) = true ∧ (s.f8 == 0) = false ∧ mov q s = s) ∨ ((s.f0 == 13) = false ∧ (s.f0 == 15) = false ∧ (s.f0 == 17) = false ∧ (s.f0 == 16) = false ∧ mov q s = s) := by
  unfold mov
  by_cases h1 : s.f0 = 13
  · left; exact ⟨by rw [h1]; rfl, if_pos (.inl h1)⟩
  by_cases h2 : s.f0 = 15
  · right; left; exact ⟨by rw [h2]; rfl, by rw [h2]; rfl, if_pos (.inr (.inl h2))⟩
  by_cases h3 : s.f0 = 17
  · right; right; left; exact ⟨by rw [h3]; rfl, by rw [h3]; rfl, by rw [h3]; rfl, if_pos (.inr (.inr (.inl h3)))⟩
  by_cases h4 : s.f0 = 16
  · by_cases h5 : s.f8 = 0
    · right; right; right; left; exact ⟨by rw [h4]; rfl, by rw [h4]; rfl, by rw [h4]; rfl, by rw [h4]; rfl, by rw [h5]; rfl, if_pos (.inr (.inr (.inr ⟨h4, h5⟩)))⟩
    · right; right; right; right; left; exact ⟨by rw [h4]; rfl, by rw [h4]; rfl, by rw [h4]; rfl, by rw [h4]; rfl, by simp [h5], if_neg (by omega)⟩
  · right; right; right; right; right; exact ⟨by simp [h1], by simp [h2], by simp [h3], by simp [h4], if_neg (by omega)⟩
theorem take_map (f : S26 → S26) (ss : List S26) (i : Nat) (h : i < ss.length) : (ss.map f).take (i + 1) = (ss.map f).take i ++ [f (rd_T26 ss (i : Int))] := by
  rw [List.take_add_one]
  congr 1
  unfold rd_T26
  rw [Int.toNat_natCast, List.getD_eq_getElem?_getD, List.getElem?_map, List.getElem?_eq_getElem h]
  rfl
set_option maxHeartbeats 4000000 in
set_option maxRecDepth 100000 in
theorem moved_calls (w0 W : World) (hb0 : Below w0.heap.size w0 W) (ss : List S26) (As : Option Addr) (cs : Nat) (q : Nat) (hC : k26.C w0 As ss.length ss) (hl : ss.length ≤ 1000) (hq : q ≤ 10000) (hb7 : ∀ i : Nat, i < ss.length → -4611686018427387904 ≤ (rd_T26 ss i).f7 ∧ (rd_T26 ss i).f7 ≤ 4611686018427387904) :
    Calls Tryd.prog 18 #[.slice As ss.length cs, .int .i64 (q : Int)] W fun e w' => ∃ A c, e = .returned (.slice A ss.length c) ∧ ss.length ≤ c ∧ (Kx w0).C w' A ss.length (ss.map (mov (q : Int))) ∧ Below W.heap.size W w' := by
  have HC := Lib.hid hC
  have HB0 := Lib.hid hb0
  have H7 := Lib.hid hb7
  obtain ⟨n, hn⟩ : ∃ n, n = ss.length := ⟨_, rfl⟩
  rw [← hn] at hl HC ⊢
  have HN := Lib.hid hn
  clear hC hb7 hn hb0
  go_enter Tryd.func18, Tryd.ntmps18
  go_wp2_with fail
  have R0 := Lib.hid (zero_row (Kx w0) (W := W) (base := W.heap.size) (e := 26) (ok := fun _ => True) trivial (Nat.le_refl _))
  go_loopw [11, 5] (fun v11 v5 wr => ∃ i : Nat, v11 = .int .i64 i ∧ i ≤ n ∧ Hid ((Kx w0).R 26 wr W.heap.size (fun _ => True) v5 ((ss.map (mov (q : Int))).take i)) ∧ Hid (Below W.heap.size W wr)) (fun v11 _ _ => n - (intOf v11).toNat)
  case atStart => exact ⟨0, rfl, by omega, R0, Lib.hid (below_alloc (Below.refl _ _) _)⟩
  case round =>
    obtain ⟨i, rfl, hi, RI, BI⟩ := hrel
    clear R0
    by_cases hlt : i < n
    · have TK := Lib.hid (take_map (mov (q : Int)) ss i (by rw [← HN.out]; exact hlt))
      obtain ⟨ad, A6, c6, rfl, k0, k1, k2, k3, k4, k5, k6, k7, k8, k9, l6, g6⟩ := at26b HC.out (below_then HB0.out HB0.out.size BI.out) i hlt
      have G6 := Lib.hid g6
      obtain ⟨e0, e1⟩ := H7.out i (by rw [← HN.out]; exact hlt)
      clear g6
      have hsz := BI.out.size
      have hlen : ((ss.map (mov (q : Int))).take i).length ≤ i := List.length_take_le _ _
      obtain ⟨s, hs⟩ : ∃ s, s = rd_T26 ss (i : Int) := ⟨_, rfl⟩
      rw [← hs] at k0 k1 k2 k3 k4 k5 k6 k7 k8 k9 l6 G6 e0 e1 TK
      clear hs
      have d1 := Int.natCast_nonneg q
      rcases mov_cases (q : Int) s with ⟨b1, hp⟩ | ⟨b1, b2, hp⟩ | ⟨b1, b2, b3, hp⟩ | ⟨b1, b2, b3, b4, b5, hp⟩ | ⟨b1, b2, b3, b4, b5, hp⟩ | ⟨b1, b2, b3, b4, hp⟩
      all_goals
        rw [hp] at TK
        clear hp
      iterate 4
        · go_wp2_with (first | ((with_reducible refine gate_builtin (b := .append) (xs := #[.tmp 43, .tmp 45]) rfl ?_); at_builtin; refine app_stp (w0 := w0) (wb := W) W.heap.size rfl (.tmp 43) (.tmp 45) rfl u5 _ { s with f7 := s.f7 + (q : Int) } A6 c6 rfl rfl (by simp) l6 G6.out (Kd.R_below RI.out (below_alloc (Below.refl _ _) _)) (below_then BI.out BI.out.size (below_alloc (Below.refl _ _) _)) (by simp; omega) (by omega) ?_; intro v1 wn hr hb hg; have RN := Lib.hid hr; have BN := Lib.hid hb; clear hr hb hg))
          go_roundw
          case rel => exact ⟨i + 1, by push_cast; rfl, hlt, Lib.hid (by rw [TK.out]; exact RN.out), BN⟩
          case measure => simp only [intOf]; omega
      all_goals
        go_wp2_with (first | ((with_reducible refine gate_builtin (b := .append) (xs := #[.tmp 43, .tmp 45]) rfl ?_); at_builtin; refine app_stp (w0 := w0) (wb := W) W.heap.size rfl (.tmp 43) (.tmp 45) rfl u5 _ s A6 c6 rfl rfl (by simp) l6 G6.out (Kd.R_below RI.out (below_alloc (Below.refl _ _) _)) (below_then BI.out BI.out.size (below_alloc (Below.refl _ _) _)) (by simp; omega) (by omega) ?_; intro v1 wn hr hb hg; have RN := Lib.hid hr; have BN := Lib.hid hb; clear hr hb hg))
        go_roundw
        case rel => exact ⟨i + 1, by push_cast; rfl, hlt, Lib.hid (by rw [TK.out]; exact RN.out), BN⟩
        case measure => simp only [intOf]; omega
    · obtain rfl : i = n := by omega
      have hall : (ss.map (mov (q : Int))).take i = ss.map (mov (q : Int)) := List.take_of_length_le (by rw [List.length_map, ← HN.out]; exact Nat.le_refl _)
      have ri := RI.out
      rw [hall] at ri
      obtain ⟨A7, c7, rfl, hc7, hC7⟩ := Kd.R_reads ri
      have el : (ss.map (mov (q : Int))).length = i := by rw [List.length_map, ← HN.out]
      rw [el] at hC7 hc7
      have hZ7 := Lib.hid hC7
      clear ri RI hC7
      rw [el]
      go_wp2_with fail
      go_ret
      exact ⟨A7, c7, rfl, hc7, hZ7.out, BI.out⟩
end Go.Proofs.YtljcdjggjphedaaDoor.Tf
