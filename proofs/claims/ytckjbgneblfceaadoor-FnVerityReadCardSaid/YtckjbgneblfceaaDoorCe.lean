/- Bytes searched in a file of bytes. -/
import Derived.Test.YtckjbgneblfceaaDoorCd
namespace Go.Proofs.YtckjbgneblfceaaDoor.Ce
open Go.RowKit Go.Maps Go.Proofs.YtckjbgneblfceaaDoorW.PrintWords Go.Proofs.YtckjbgneblfceaaDoorW.PrintLast Go.Proofs.YtckjbgneblfceaaDoorW.PrintMore Go.Proofs.YtckjbgneblfceaaDoor.Fa Go.Proofs.YtckjbgneblfceaaDoor.Fm Go.Proofs.YtckjbgneblfceaaDoor.Fc Go.Proofs.YtckjbgneblfceaaDoor.Ca Go.Proofs.YtckjbgneblfceaaDoor.Cb Go.Proofs.YtckjbgneblfceaaDoor.Cc Go.Proofs.YtckjbgneblfceaaDoor.Cd
open Go.Proofs.YtckjbgneblfceaaDoor.PFnFitFirst (rd_L2 at_L2)
set_option linter.unusedVariables false
set_option linter.unusedSimpArgs false
abbrev kB : Kd (List Int) := Kd.slice 5 (Kd.int .u8)
theorem app_sub {ops : Array Oper} {rest : List Oper} {o : Oper} {a : Act} {Q : Exit → Act → World → Prop} {W wb : World} (base : Nat) (hgd : o.guard = none) (s x : Operand) (ho : o.op = .call { callee := .builtin .append, args := #[s, x], argTypes := #[42, 42] })
    (v : Value) (xs : List (List Int)) (p : List Int) (A1 : Option Addr) (c1 : Nat) (hs : a.eval s = v) {g : Nat} (hx : a.eval x = .slice (some ⟨g, 0, none⟩) 1 1) (hgs : W.heap.size = g) (HE : (Kd.int .u8).R 5 W base (fun _ => True) (.slice A1 p.length c1) p)
    (HO : kB.R 33 W base (fun _ => True) v xs) (HB : Below base wb W) (hbase : base ≤ W.heap.size) (hl : xs.length ≤ 1000)
    (h : ∀ v1 w1, kB.R 33 w1 base (fun _ => True) v1 (xs ++ [p]) → Below base wb w1 → wpList Tryd.prog ops Q rest (a.put o.dst v1) w1) :
    wpList Tryd.prog ops Q (o :: rest) a (W.alloc (.cells #[.slice A1 p.length c1] 33)) := by
  subst hgs
  refine Kd.R_append kB (w0 := wb) base hgd s x 42 33 _ 24 ho Tryd.underlying42 info33 rfl (by decide) (by decide) v xs p [.slice A1 p.length c1] (fun _ => True) (fun k => some k = (Value.slice A1 p.length c1).ownBlock) hs hx ⟨.slice A1 p.length c1, rfl, Kd.R_tight rfl HE⟩ (fun k hk => ⟨trivial, fun e => own_ne HE HO (by decide) k hk.symm e.symm⟩) (fun _ _ => trivial) HO HB hbase (by omega) ?_
  intro v1 w1 h1 hb _ _
  exact h v1 w1 h1 hb
theorem take_succ2 (l : List (List Int)) (i : Nat) (h : i < l.length) : l.take (i + 1) = l.take i ++ [rd_L2 l (i : Int)] := by
  rw [List.take_add_one, List.getElem?_eq_getElem h]
  unfold rd_L2
  rw [Int.toNat_natCast, List.getD_eq_getElem?_getD, List.getElem?_eq_getElem h]
  rfl
theorem make_calls (W : World) (nm : ByteArray) : Calls Tryd.prog 58 #[.string nm] W fun e w' => e = .returned (.pointer (some ⟨W.heap.size, 0, none⟩)) ∧ w' = W.alloc (.cells #[.string nm, .slice none 0 0, .map none, .bool false, .int .u32 268435456, .int .i64 0, .int .i64 0, .int .i64 0] 129) := by
  go_enter Tryd.func58, Tryd.ntmps58
  go_wp2_with fail
  go_ret
  exact ⟨rfl, rfl⟩
theorem with_calls (W : World) (nm : ByteArray) (A : Option Addr) (m c : Nat) : Calls Tryd.prog 38 #[.string nm, .slice A m c] W fun e w' => ∃ d, e = .returned (.pointer (some ⟨d, 0, none⟩)) ∧ w'.cell? ⟨d, 1, none⟩ = some (.slice A m c) ∧ Below W.heap.size W w' := by
  have HM := Lib.hid (make_calls W nm)
  go_enter Tryd.func38, Tryd.ntmps38
  go_wp2_with (first | (go_at_call 58; (refine (HM.out).mono ?_); rintro e w1 ⟨rfl, rfl⟩))
  go_ret
  refine ⟨W.heap.size, rfl, ?_, below_alloc (Below.refl _ _) _⟩
  exact blk_cell (blk_new W _) 1
theorem open_calls (W : World) (d : Nat) : Calls Tryd.prog 37 #[.pointer (some ⟨d, 0, none⟩)] W fun e w' => e = .returned (.pointer (some ⟨W.heap.size, 0, none⟩)) ∧ w' = W.alloc (.cells #[.int .i64 0, .int .i64 0, .bool false, .bool true, .pointer (some ⟨d, 0, none⟩)] 123) := by
  go_enter Tryd.func37, Tryd.ntmps37
  go_wp2_with fail
  go_ret
  exact ⟨rfl, rfl⟩
theorem door_calls {W : World} {f : Nat} {As : Option Addr} {n cs : Nat} {Q : World → Prop} (h : Calls Tryd.prog 57 #[.pointer (some ⟨f, 0, none⟩), .slice As n cs] W fun e w' => e = .returned (.bool true) ∧ Q w') :
    Calls Tryd.prog 36 #[.pointer (some ⟨f, 0, none⟩), .slice As n cs] W fun e w' => e = .returned (.bool true) ∧ Q w' := by
  have H := Lib.hid h
  clear h
  go_enter Tryd.func36, Tryd.ntmps36
  go_wp2_with (first | (go_at_call 57; (refine (H.out).mono ?_); rintro e w1 ⟨rfl, hq⟩; have HQ := Lib.hid hq; clear hq))
  go_ret
  exact ⟨rfl, HQ.out⟩
set_option maxHeartbeats 4000000 in
set_option maxRecDepth 100000 in
theorem in_calls (W : World) (a1 a2 : Addr) (g5 : W.cell? ⟨5, 0, none⟩ = some (.iface 156 (.pointer (some a1)))) (g6 : W.cell? ⟨6, 0, none⟩ = some (.iface 156 (.pointer (some a2)))) (data : List Int) (Ad : Option Addr) (cd : Nat) (hD : (Kd.int .u8).C W Ad data.length data) (subs : List (List Int)) (As : Option Addr) (cs : Nat) (hS : kB.C W As subs.length subs) (hn : subs.length ≤ 20) (hb : ∀ x ∈ subs, x.length ≤ 20000) (hd : data.length ≤ 20000) (fr en : Nat) (h1 : fr < en) (h2 : en ≤ data.length) (j0 : Nat) (hj : j0 < subs.length) (hs : rd_L2 subs (j0 : Int) = (data.drop fr).take (en - fr)) :
    Calls Tryd.prog 17 #[.slice Ad data.length cd, .slice As subs.length cs] W fun e w' => e = .returned (.bool true) ∧ Below W.heap.size W w' := by
  have HD := Lib.hid hD
  have HS := Lib.hid hS
  have HB := Lib.hid hb
  have HJ := Lib.hid hs
  have HG5 := Lib.hid g5
  have HG6 := Lib.hid g6
  obtain ⟨n, hns⟩ : ∃ n, n = subs.length := ⟨_, rfl⟩
  rw [← hns] at HS hn hj
  rw [← hns]
  have HN := Lib.hid hns
  clear hD hS hb hs g5 g6 hns
  go_enter Tryd.func17, Tryd.ntmps17
  go_wp2_with fail
  go_loopw [10, 5] (fun v10 v5 wr => ∃ i : Nat, v10 = .int .i64 i ∧ i ≤ n ∧ Hid (kB.R 33 wr W.heap.size (fun _ => True) v5 (subs.take i)) ∧ Hid (Below W.heap.size W wr)) (fun v10 _ _ => n - (intOf v10).toNat)
  case atStart => exact ⟨0, rfl, Nat.zero_le _, Lib.hid (Kd.R_nil _ _ _ _ _), Lib.hid (Below.refl _ _)⟩
  case round =>
    obtain ⟨i, rfl, hi, R1, BI⟩ := hrel
    by_cases hlt : i < n
    · have hlt' : (i : Int) < (n : Int) := by omega
      have T := Lib.hid (take_succ2 subs i (by rw [← HN.out]; exact hlt))
      obtain ⟨sd, B1, e1, eA, k1, l1, g1⟩ := at_sub HS.out BI.out i hlt
      have hsb := HB.out _ (rd_mem subs i (by rw [← HN.out]; exact hlt))
      obtain ⟨x, hx⟩ : ∃ x, x = rd_L2 subs (i : Int) := ⟨_, rfl⟩
      rw [← hx] at T k1 l1 g1 hsb
      subst eA
      have G1 := Lib.hid g1
      have hle : (subs.take i).length ≤ i := List.length_take_le _ _
      clear g1 hx
      go_wp2_with (first
        | ((with_reducible refine gate_builtin (b := .append) (xs := #[.const (.slice none 0 0), .tmp 15]) rfl ?_); at_builtin; refine copy_bytes (wb := wr) wr.heap.size rfl (.const (.slice none 0 0)) (.tmp 15) rfl x B1 x.length e1 rfl rfl (Kd.C_below G1.out BI.out) (Below.refl _ _) (Nat.le_refl _) (by omega) ?_; intro A4 c4 w4 hr hb hg; have B4 := Lib.hid (below_then BI.out BI.out.size hb); have E4 := Lib.hid (Kd.R_lower hr BI.out.size); have R4 := Lib.hid (Kd.R_below R1.out hb); clear hr hb hg)
        | ((with_reducible refine gate_builtin (b := .append) (xs := #[.tmp 14, .tmp 17]) rfl ?_); at_builtin; refine app_sub (W := w4) (wb := W) W.heap.size rfl (.tmp 14) (.tmp 17) rfl u5 _ x A4 c4 rfl rfl rfl E4.out R4.out B4.out B4.out.size (by omega) ?_; intro v5 w5 hr hb; have R5 := Lib.hid hr; have B5 := Lib.hid hb; clear hr hb))
      go_roundw
      case rel => exact ⟨i + 1, by push_cast; rfl, hlt, Lib.hid (by rw [T.out]; exact R5.out), B5⟩
      case measure => simp only [intOf]; omega
    · obtain rfl : i = n := by omega
      have e1 : subs.take i = subs := List.take_of_length_le (by rw [← HN.out]; exact Nat.le_refl _)
      have r1 := R1.out
      rw [e1] at r1
      obtain ⟨A7, c7, h7, _, g7⟩ := Kd.R_reads r1
      rw [← HN.out] at h7 g7
      subst h7
      have G7 := Lib.hid g7
      have hlen : data.length ≤ 2147483647 := by omega
      clear r1 g7 R1 e1 hlt
      have HW := Lib.hid (fun (w : World) (nm : ByteArray) (A : Option Addr) (m c : Nat) => with_calls w nm A m c)
      have HO := Lib.hid (fun (w : World) (d : Nat) => open_calls w d)
      go_wp2_with (first
        | ((with_reducible refine gate_builtin (b := .append) (xs := #[.const (.slice none 0 0), .tmp 20]) rfl ?_); at_builtin; refine copy_bytes (wb := wr) wr.heap.size rfl (.const (.slice none 0 0)) (.tmp 20) rfl data Ad data.length cd rfl rfl (Kd.C_below HD.out BI.out) (Below.refl _ _) (Nat.le_refl _) hlen ?_; intro A4 c4 w4 hr hb hg; have B4 := Lib.hid hb; have E4 := Lib.hid (Kd.R_reads' hr); clear hr hb hg)
        | (go_at_call 38; (refine (HW.out _ _ _ _ _).mono ?_); rintro e w5 ⟨d, rfl, hd5, hb5⟩; have D5 := Lib.hid hd5; have B5 := Lib.hid hb5; clear hd5 hb5)
        | (go_at_call 37; (refine (HO.out _ _).mono ?_); rintro e w6 ⟨rfl, rfl⟩)
        | (go_at_call 36; (obtain ⟨ad, hA4, hf⟩ : ∃ ad, A4 = some ad ∧ Fl w5 w5.heap.size d 0 (some ad) c4 data a1 a2 (w5.alloc (.cells #[.int .i64 0, .int .i64 0, .bool false, .bool true, .pointer (some ⟨d, 0, none⟩)] 123)) := (by
            have hc4 := Kd.C_below E4.out.2.2 B5.out
            obtain ⟨ad, hA, _⟩ := hc4.2.2 (by omega)
            subst hA
            have b5 := below_then BI.out BI.out.size (below_then B4.out B4.out.size B5.out)
            exact ⟨ad, rfl, blk_new _ _, D5.out, hc4, E4.out.2.1, cellb0 HG5.out b5, cellb0 HG6.out b5, below_alloc (Below.refl _ _) _, Nat.le_refl _⟩)); (have hs5 : Kd.C (Kd.slice 5 (Kd.int .u8)) w5 A7 subs.length subs := by rw [← HN.out]; exact Kd.C_below G7.out (below_then B4.out B4.out.size B5.out)); (have h57 := search_calls hf subs A7 c7 hs5 (by rw [← HN.out]; exact hn) HB.out hd fr en h1 h2 j0 (by rw [← HN.out]; exact hj) HJ.out); (rw [← HN.out] at h57); (refine (door_calls h57).mono ?_); rintro e w7 ⟨rfl, hb7⟩; have B7 := Lib.hid (below_then BI.out BI.out.size (below_then (below_then B4.out B4.out.size B5.out) (below_then B4.out B4.out.size B5.out).size hb7)); clear hb7 h57 hs5 hf))
      go_ret
      exact ⟨rfl, B7.out⟩
end Go.Proofs.YtckjbgneblfceaaDoor.Ce
