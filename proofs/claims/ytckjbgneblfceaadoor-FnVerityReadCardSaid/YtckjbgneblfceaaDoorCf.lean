/- The law's walk: bytes contain each part of themselves. -/
import Derived.Test.YtckjbgneblfceaaDoorCe
import Derived.Test.YtckjbgneblfceaaDoorLw
namespace Go.Proofs.YtckjbgneblfceaaDoor.Cf
open Go.RowKit Go.Maps Go.Proofs.YtckjbgneblfceaaDoorW.PrintWords Go.Proofs.YtckjbgneblfceaaDoorW.PrintLast Go.Proofs.YtckjbgneblfceaaDoorW.PrintMore Go.Proofs.YtckjbgneblfceaaDoor.Fa Go.Proofs.YtckjbgneblfceaaDoor.Fm Go.Proofs.YtckjbgneblfceaaDoor.Fc Go.Proofs.YtckjbgneblfceaaDoor.Fe Go.Proofs.YtckjbgneblfceaaDoor.Ca Go.Proofs.YtckjbgneblfceaaDoor.Cb Go.Proofs.YtckjbgneblfceaaDoor.Cc Go.Proofs.YtckjbgneblfceaaDoor.Cd Go.Proofs.YtckjbgneblfceaaDoor.Ce
open Go.Proofs.YtckjbgneblfceaaDoor.PFnFitFirst (rd_L2 at_L2)
set_option linter.unusedVariables false
set_option linter.unusedSimpArgs false
section
variable {P : Program} {ops : Array Oper} {Q : Exit → Act → World → Prop} {md : Region.Mode} {S0 S1 : World → Prop} {k : Nat}
theorem wpAnyL_two {i j : Nat} {oi oj : Oper} {fuel : Nat} {listed : Array Bool} {a : Act} {w : World} (hr : Region.ready md ops listed = [i, j]) (hi : ops[i]? = some oi) (hj : ops[j]? = some oj)
    (h1 : ∀ K' : Act → World → Prop, Shut (∀ a w, Lw.Gate S0 S1 k (listed.setIfInBounds i true) w → Lw.wpAnyL P md ops Q S0 S1 k fuel (listed.setIfInBounds i true) a w → K' a w) → if Region.wanted oi (yielded ops a.tmps) = true then Oper.wp P oi a w K' Q else K' (a.put oi.dst undef) w)
    (h2 : ∀ K' : Act → World → Prop, Shut (∀ a w, Lw.Gate S0 S1 k (listed.setIfInBounds j true) w → Lw.wpAnyL P md ops Q S0 S1 k fuel (listed.setIfInBounds j true) a w → K' a w) → if Region.wanted oj (yielded ops a.tmps) = true then Oper.wp P oj a w K' Q else K' (a.put oj.dst undef) w) :
    Lw.wpAnyL P md ops Q S0 S1 k (fuel + 1) listed a w :=
  Lw.wpAnyL_all hr (by simp) (fun n hn => by
    rcases List.mem_cons.1 hn with rfl | hn
    · exact wpOp_step hi (fun K' hK => h1 K' (fun a w hG hW => hK a w ⟨hG, hW⟩))
    · have hn := List.mem_singleton.1 hn
      subst hn
      exact wpOp_step hj (fun K' hK => h2 K' (fun a w hG hW => hK a w ⟨hG, hW⟩)))
end
theorem Kf_of {w0 W : World} {A : Option Addr} {n : Nat} {xs : List (List Int)} (h : kB.C w0 A n xs) (hb : Below w0.heap.size w0 W) : (Kf kB w0).C W A n xs := by
  unfold Kd.C at h ⊢
  exact h.imp_ hb (fun _ _ hp => hp)
theorem zero_row {α : Type} (d : Kd α) {W : World} {base e : Nat} {ok : Nat → Prop} (hfresh : ok W.heap.size) (hbase : base ≤ W.heap.size) :
    d.R e (W.alloc (.cells #[] e)) base ok (.slice (some ⟨W.heap.size, 0, none⟩) 0 0) [] := by
  refine ⟨fun k hk => ?_, [], ?_, ⟨by simp, fun j p hj => by simp at hj⟩⟩
  · have : W.heap.size = k := by simpa [Value.ownBlock] using hk
    subst this
    exact hfresh
  · have h2 := World.ownsRow_lit (base := base) (e := e) (size := d.sz) W #[] 0 hbase (by simp [maxLen]) (by simp)
    simpa using h2
theorem lit_row {α : Type} (d : Kd α) {W : World} {base e : Nat} {x : α} {cs : List Value} {ok okp : Nat → Prop} (hp : d.M W base okp x cs) (hok : ∀ k, okp k → ok k) (hfresh : ok W.heap.size) (hbase : base ≤ W.heap.size) :
    d.R e (W.alloc (.cells cs.toArray e)) base ok (.slice (some ⟨W.heap.size, 0, none⟩) 1 1) [x] := by
  refine ⟨fun k hk => ?_, cs, ?_, ?_⟩
  · have : W.heap.size = k := by simpa [Value.ownBlock] using hk
    subst this
    exact hfresh
  · have h2 := World.ownsRow_lit (base := base) (e := e) (size := d.sz) W cs.toArray 1 hbase (by simp [maxLen]) (by simpa using d.K_len (d.K_of_M hp))
    simpa using h2
  · refine ⟨by simpa using d.K_len (d.K_of_M hp), fun j p hj => ?_⟩
    match j, hj with
    | 0, hj =>
      simp at hj
      subst hj
      have hlen := d.K_len (d.K_of_M hp)
      have e : (cs.drop (0 * d.sz)).take d.sz = cs := by rw [Nat.zero_mul, List.drop_zero, List.take_of_length_le (by omega)]
      rw [e]
      refine d.M_mono (fun k hk => ⟨hok k hk.1, fun h => ?_⟩) (Kd.M_below (d.M_bound hp) (below_alloc (Below.refl _ _) _))
      have : k = W.heap.size := by simpa [Value.ownBlock] using h
      have := hk.2.2.1
      omega
theorem app_rows_step {ops : Array Oper} {o : Oper} {a : Act} {Kc : Act → World → Prop} {Q : Exit → Act → World → Prop} {W w0 wb : World} (base : Nat) (hw : Region.wanted o (yielded ops a.tmps) = true) (s x : Operand) (ho : o.op = .call { callee := .builtin .append, args := #[s, x], argTypes := #[42, 42] })
    (v : Value) (xs ys : List (List Int)) (A : Option Addr) (m c : Nat) (hs : a.eval s = v) (hx : a.eval x = .slice A m c) (HO : (Kf kB w0).R 33 W base (fun _ => True) v xs) (HR : (Kf kB w0).C W A m ys) (HB : Below base wb W) (hbase : base ≤ W.heap.size) (hl : xs.length + m ≤ 1000)
    (h : ∀ v1 w1, (Kf kB w0).R 33 w1 base (fun _ => True) v1 (xs ++ ys) → Below base wb w1 → W.grownBy w1 v.ownBlock → Kc (a.put o.dst v1) w1) :
    if Region.wanted o (yielded ops a.tmps) = true then Oper.wp Tryd.prog o a W Kc Q else Kc (a.put o.dst undef) W := by
  refine Kd.R_append_rows_step (Kf kB w0) (w0 := wb) base hw s x 42 33 (.slice none 0 0) 24 ho Tryd.underlying42 info33 rfl (by show 0 < 1; decide) (by decide) v xs ys A m c (fun _ => True) (fun _ => False) hs hx HO HR (fun x cs hc => hc) (fun _ hk => hk.elim) (fun _ _ => trivial) HB hbase (by omega) ?_
  intro v1 w1 h1 hb h2 _
  exact h v1 w1 h1 hb h2
set_option maxHeartbeats 8000000 in
set_option maxRecDepth 100000 in
theorem law5in (w : World) (a1 a2 : Addr) (g5 : w.cell? ⟨5, 0, none⟩ = some (.iface 156 (.pointer (some a1)))) (g6 : w.cell? ⟨6, 0, none⟩ = some (.iface 156 (.pointer (some a2)))) (data : List Int) (Ad : Option Addr) (cd : Nat) (fr en : Nat) (subs : List (List Int)) (As : Option Addr) (cs : Nat) (at_ : Nat) (hD : (Kd.int .u8).C w Ad data.length data) (hcd : data.length ≤ cd) (hS : kB.C w As subs.length subs) (hcs : subs.length ≤ cs) (hZ : Calls Tryd.prog 16 #[.slice As subs.length cs] w fun e w' => e = .returned (.bool true) ∧ Below w.heap.size w w') (hd : data.length ≤ 20000) (h1 : fr < en) (h2 : en ≤ data.length) (hn : subs.length ≤ 9) (hat : at_ ≤ subs.length) :
    Calls Tryd.prog 5 #[.slice Ad data.length cd, .int .i64 (fr : Int), .int .i64 (en : Int), .slice As subs.length cs, .int .i64 (at_ : Int)] w fun e w' => e = .returned (.bool true) ∧ Below w.heap.size w w' := by
  have HD := Lib.hid hD
  have HS := Lib.hid hS
  have HZ := Lib.hid hZ
  have HG5 := Lib.hid g5
  have HG6 := Lib.hid g6
  obtain ⟨N, hN⟩ : ∃ N, N = subs.length := ⟨_, rfl⟩
  obtain ⟨LD, hLD⟩ : ∃ LD, LD = data.length := ⟨_, rfl⟩
  rw [← hN] at HS HZ hn hat hcs
  rw [← hLD] at HD hd h2 hcd
  rw [← hN, ← hLD]
  have HN := Lib.hid hN
  have HLD := Lib.hid hLD
  clear hD hS hZ g5 g6 hN hLD
  have i1 : (LD : Int) ≤ 2147483647 := by omega
  have i2 : (LD : Int) ≤ 20000 := by omega
  have i3 : (0 : Int) ≤ (fr : Int) := by omega
  have i4 : (fr : Int) < (en : Int) := by omega
  have i5 : (en : Int) ≤ (LD : Int) := by omega
  have i6 : (N : Int) ≤ 9 := by omega
  have i7 : (0 : Int) ≤ (at_ : Int) := by omega
  have i8 : (at_ : Int) ≤ (N : Int) := by omega
  go_enter Tryd.func5, Tryd.ntmps5
  go_wp2_with (first | (go_at_call 16; (refine (HZ.out).mono ?_); rintro e w1 ⟨rfl, hb1⟩; have B1 := Lib.hid hb1; clear hb1))
  go_loopw [57] (fun v57 wr => ∃ i : Nat, v57 = .int .i64 i ∧ i ≤ N ∧ Hid (∀ j : Nat, j < i → (rd_L2 subs (j : Int)).length ≤ 20000) ∧ Hid (Below w.heap.size w wr)) (fun v57 _ => N - (intOf v57).toNat)
  case atStart => exact ⟨0, rfl, Nat.zero_le _, Lib.hid (fun j hj => absurd hj (by omega)), B1⟩
  case round =>
    obtain ⟨i, rfl, hi, NI, BI⟩ := hrel
    by_cases hlt : i < N
    · have hlt' : (i : Int) < (N : Int) := by omega
      obtain ⟨sd, D1, e1, eA, k1, l1, g1⟩ := at_sub HS.out BI.out i hlt
      subst eA
      obtain ⟨x, hx⟩ : ∃ x, x = rd_L2 subs (i : Int) := ⟨_, rfl⟩
      rw [← hx] at k1 l1
      have HX := Lib.hid hx
      clear g1 hx
      by_cases hbig : (20000 : Int) < (x.length : Int)
      · go_wp2_with fail
        go_ret
        exact ⟨rfl, BI.out⟩
      · go_wp2_with fail
        go_roundw
        case rel => exact ⟨i + 1, by push_cast; rfl, hlt, Lib.hid (fun j hj => by
          rcases Nat.lt_or_ge j i with h | h
          · exact NI.out j h
          · obtain rfl : j = i := by omega
            rw [← HX.out]; omega), BI⟩
        case measure => simp only [intOf]; omega
    · obtain rfl : i = N := by omega
      obtain ⟨dd, hdd, _⟩ := HD.out.2.2 (by omega)
      subst hdd
      obtain ⟨ndl, hndl⟩ : ∃ ndl, ndl = (data.drop fr).take (en - fr) := ⟨_, rfl⟩
      have hnl : ndl.length = en - fr := by rw [hndl, List.length_take, List.length_drop, ← HLD.out]; omega
      have HNDL := Lib.hid hndl
      clear hndl hlt
      have f1 : at_ ≤ cs := by omega
      have f2 : en ≤ cd := by omega
      have f3 : fr ≤ en := by omega
      have f4 : ¬ cd = fr := by omega
      have NK := Lib.hid (show (Kf kB w).M w w.heap.size (fun _ => False) ndl [.slice (some (dd.add fr)) (en - fr) (cd - fr)] from by
        have h9 := Kd.C_take (m := en - fr) (Kd.C_drop (m := fr) (c := cd) (show (Kd.int .u8).C w (some dd) data.length data by rw [← HLD.out]; exact HD.out) (by rw [← HLD.out]; omega) (by rw [← HLD.out]; omega)) (by rw [List.length_drop, ← HLD.out]; omega)
        rw [if_neg f4, ← HNDL.out] at h9
        refine ⟨some (dd.add fr), cd - fr, by rw [hnl], by omega, ?_⟩
        have h8 : (Kd.int .u8).C w (some (dd.add (fr * 1))) ndl.length ndl := h9
        rw [Nat.mul_one] at h8
        exact h8)
      have TK := Lib.hid (show kB.C w As at_ (subs.take at_) from by
        have h9 := Kd.C_take (m := at_) (show kB.C w As subs.length subs by rw [← HN.out]; exact HS.out) (by rw [← HN.out]; exact hat)
        rw [List.length_take, Nat.min_eq_left (by rw [← HN.out]; exact hat)] at h9
        exact h9)
      have DK := Lib.hid (show kB.C w (if cs = at_ then As else Option.map (fun x => x.add at_) As) (i - at_) (subs.drop at_) from by
        have h9 := Kd.C_drop (m := at_) (c := cs) (show kB.C w As subs.length subs by rw [← HN.out]; exact HS.out) (by rw [← HN.out]; exact hat) (by rw [← HN.out]; exact hcs)
        rw [List.length_drop, ← HN.out] at h9
        rw [show at_ * kB.sz = at_ from by show at_ * 1 = at_; omega] at h9
        exact h9)
      obtain ⟨all, hall⟩ : ∃ all, all = subs.take at_ ++ [ndl] ++ subs.drop at_ := ⟨_, rfl⟩
      have HALL := Lib.hid hall
      have hal : all.length = i + 1 := by rw [hall, List.length_append, List.length_append, List.length_take, List.length_drop, List.length_singleton, ← HN.out]; omega
      have hrd : rd_L2 all (at_ : Int) = ndl := by
        unfold rd_L2
        rw [Int.toNat_natCast, hall, List.getD_eq_getElem?_getD, List.append_assoc, List.getElem?_append_right (by rw [List.length_take]; omega), List.length_take, Nat.min_eq_left (by rw [← HN.out]; exact hat), Nat.sub_self]
        rfl
      have hab : ∀ x ∈ all, x.length ≤ 20000 := by
        intro x hx
        rw [hall] at hx
        have hsub : ∀ x ∈ subs, x.length ≤ 20000 := fun x hx => by
          obtain ⟨j, hj, e⟩ := List.getElem_of_mem hx
          have h9 := NI.out j (by rw [HN.out]; exact hj)
          unfold rd_L2 at h9
          rw [Int.toNat_natCast, List.getD_eq_getElem?_getD, List.getElem?_eq_getElem hj] at h9
          rw [← e]
          exact h9
        rcases List.mem_append.1 hx with hx | hx
        · rcases List.mem_append.1 hx with hx | hx
          · exact hsub x (List.mem_of_mem_take hx)
          · have := List.mem_singleton.1 hx
            subst this
            omega
        · exact hsub x (List.mem_of_mem_drop hx)
      have HX17 := Lib.hid (show ∀ (W : World) (A9 : Option Addr) (c9 : Nat), Below w.heap.size w W → kB.C W A9 all.length all → Calls Tryd.prog 17 #[.slice (some dd) LD cd, .slice A9 all.length c9] W fun e w' => e = .returned (.bool true) ∧ Below W.heap.size W w' from fun W A9 c9 hb hc => by
        have h9 := in_calls W a1 a2 (cellb0 HG5.out hb) (cellb0 HG6.out hb) data (some dd) cd (by rw [← HLD.out]; exact Kd.C_below HD.out hb) all A9 c9 hc (by omega) hab (by rw [← HLD.out]; exact hd) fr en h1 (by rw [← HLD.out]; exact h2) at_ (by omega) (by rw [hrd, HNDL.out])
        rw [← HLD.out] at h9
        exact h9)
      clear hall hal hrd hab
      go_upto_region 11 with (fail)
      refine Lw.wp_region_gate (S0 := fun _ => True) (S1 := fun _ => True) (k := 99) (by kernel_rfl) ?_
      rw [show ({ wr with drawn := wr.drawn + 1 } : World) = wr.drew from rfl]
      obtain ⟨wd, hwd⟩ : ∃ wd, wd = wr.drew := ⟨_, rfl⟩
      have Bwd := Lib.hid (show Below w.heap.size w wd from by rw [hwd]; exact below_drew1 BI.out)
      rw [← hwd]
      clear hwd
      refine Lw.wpAnyL_take0 (i := 1) (v := ?_) rfl (by decide) (by kernel_rfl) (by kernel_rfl) (by kernel_rfl) (fun _ _ _ h => h) (Or.inl ⟨by rfl, ?_⟩) ⟨trivial, fun _ => trivial⟩ ?_
      rotate_left
      · (intro w _; go_simp; try with_reducible rfl)
      (try simp only [Act.put, List.setIfInBounds_toArray, List.set_cons_zero, List.set_cons_succ]); (try simp only [List.getElem_toArray, List.getElem_cons_zero, List.getElem_cons_succ]); (try simp only [Act.put, List.setIfInBounds_toArray, List.set_cons_zero, List.set_cons_succ])
      refine Lw.wpAnyL_take0 (i := 2) (v := ?_) rfl (by decide) (by kernel_rfl) (by kernel_rfl) (by kernel_rfl) (fun _ _ _ h => h) (Or.inl ⟨by rfl, ?_⟩) ⟨trivial, fun _ => trivial⟩ ?_
      rotate_left
      · (intro w _; go_simp; try with_reducible rfl)
      (try simp only [Act.put, List.setIfInBounds_toArray, List.set_cons_zero, List.set_cons_succ]); (try simp only [List.getElem_toArray, List.getElem_cons_zero, List.getElem_cons_succ]); (try simp only [Act.put, List.setIfInBounds_toArray, List.set_cons_zero, List.set_cons_succ])
      refine Lw.wpAnyL_take0 (i := 3) (v := ?_) rfl (by decide) (by kernel_rfl) (by kernel_rfl) (by kernel_rfl) (fun _ _ _ h => h) (Or.inl ⟨by rfl, ?_⟩) ⟨trivial, fun _ => trivial⟩ ?_
      rotate_left
      · (intro w _; go_simp; try with_reducible rfl)
      (try simp only [Act.put, List.setIfInBounds_toArray, List.set_cons_zero, List.set_cons_succ]); (try simp only [List.getElem_toArray, List.getElem_cons_zero, List.getElem_cons_succ]); (try simp only [Act.put, List.setIfInBounds_toArray, List.set_cons_zero, List.set_cons_succ])
      refine Lw.wpAnyL_take0 (i := 5) (v := ?_) rfl (by decide) (by kernel_rfl) (by kernel_rfl) (by kernel_rfl) (fun _ _ _ h => h) (Or.inl ⟨by rfl, ?_⟩) ⟨trivial, fun _ => trivial⟩ ?_
      rotate_left
      · (intro w _; go_simp; try with_reducible rfl)
      (try simp only [Act.put, List.setIfInBounds_toArray, List.set_cons_zero, List.set_cons_succ]); (try simp only [List.getElem_toArray, List.getElem_cons_zero, List.getElem_cons_succ]); (try simp only [Act.put, List.setIfInBounds_toArray, List.set_cons_zero, List.set_cons_succ])
      refine Lw.wpAnyL_take0 (i := 6) (v := ?_) rfl (by decide) (by kernel_rfl) (by kernel_rfl) (by kernel_rfl) (fun _ _ _ h => h) (Or.inl ⟨by rfl, ?_⟩) ⟨trivial, fun _ => trivial⟩ ?_
      rotate_left
      · (intro w _; go_simp; try with_reducible rfl)
      (try simp only [Act.put, List.setIfInBounds_toArray, List.set_cons_zero, List.set_cons_succ]); (try simp only [List.getElem_toArray, List.getElem_cons_zero, List.getElem_cons_succ]); (try simp only [Act.put, List.setIfInBounds_toArray, List.set_cons_zero, List.set_cons_succ])
      refine Lw.wpAnyL_take0 (i := 7) (v := ?_) rfl (by decide) (by kernel_rfl) (by kernel_rfl) (by kernel_rfl) (fun _ _ _ h => h) (Or.inl ⟨by rfl, ?_⟩) ⟨trivial, fun _ => trivial⟩ ?_
      rotate_left
      · (intro w _; go_simp; try with_reducible rfl)
      (try simp only [Act.put, List.setIfInBounds_toArray, List.set_cons_zero, List.set_cons_succ]); (try simp only [List.getElem_toArray, List.getElem_cons_zero, List.getElem_cons_succ]); (try simp only [Act.put, List.setIfInBounds_toArray, List.set_cons_zero, List.set_cons_succ])
      refine Lw.wpAnyL_take0 (i := 8) (v := ?_) rfl (by decide) (by kernel_rfl) (by kernel_rfl) (by kernel_rfl) (fun _ _ _ h => h) (Or.inl ⟨by rfl, ?_⟩) ⟨trivial, fun _ => trivial⟩ ?_
      rotate_left
      · (intro w _; go_simp; try with_reducible rfl)
      (try simp only [Act.put, List.setIfInBounds_toArray, List.set_cons_zero, List.set_cons_succ]); (try simp only [List.getElem_toArray, List.getElem_cons_zero, List.getElem_cons_succ]); (try simp only [Act.put, List.setIfInBounds_toArray, List.set_cons_zero, List.set_cons_succ])
      refine Lw.wpAnyL_take0 (i := 11) (v := ?_) rfl (by decide) (by kernel_rfl) (by kernel_rfl) (by kernel_rfl) (fun _ _ _ h => h) (Or.inl ⟨by rfl, ?_⟩) ⟨trivial, fun _ => trivial⟩ ?_
      rotate_left
      · (intro w _; go_simp; try with_reducible rfl)
      (try simp only [Act.put, List.setIfInBounds_toArray, List.set_cons_zero, List.set_cons_succ]); (try simp only [List.getElem_toArray, List.getElem_cons_zero, List.getElem_cons_succ]); (try simp only [Act.put, List.setIfInBounds_toArray, List.set_cons_zero, List.set_cons_succ])
      refine Lw.wpAnyL_take0 (i := 12) (v := ?_) rfl (by decide) (by kernel_rfl) (by kernel_rfl) (by kernel_rfl) (fun _ _ _ h => h) (Or.inl ⟨by rfl, ?_⟩) ⟨trivial, fun _ => trivial⟩ ?_
      rotate_left
      · (intro w _; go_simp; try with_reducible rfl)
      (try simp only [Act.put, List.setIfInBounds_toArray, List.set_cons_zero, List.set_cons_succ]); (try simp only [List.getElem_toArray, List.getElem_cons_zero, List.getElem_cons_succ]); (try simp only [Act.put, List.setIfInBounds_toArray, List.set_cons_zero, List.set_cons_succ])
      refine Lw.wpAnyL_take0 (i := 13) (v := ?_) rfl (by decide) (by kernel_rfl) (by kernel_rfl) (by kernel_rfl) (fun _ _ _ h => h) (Or.inl ⟨by rfl, ?_⟩) ⟨trivial, fun _ => trivial⟩ ?_
      rotate_left
      · (intro w _; go_simp; try with_reducible rfl)
      (try simp only [Act.put, List.setIfInBounds_toArray, List.set_cons_zero, List.set_cons_succ]); (try simp only [List.getElem_toArray, List.getElem_cons_zero, List.getElem_cons_succ]); (try simp only [Act.put, List.setIfInBounds_toArray, List.set_cons_zero, List.set_cons_succ])
      refine wpAnyL_two (i := 0) (j := 9) (by kernel_rfl) rfl rfl (fun K hK => ?_) (fun K hK => ?_)
      · go_simp
        refine hK.out _ _ ⟨trivial, fun _ => trivial⟩ ?_
        (try simp only [Act.put, List.setIfInBounds_toArray, List.set_cons_zero, List.set_cons_succ]); (try simp only [List.getElem_toArray, List.getElem_cons_zero, List.getElem_cons_succ]); (try simp only [Act.put, List.setIfInBounds_toArray, List.set_cons_zero, List.set_cons_succ])
        obtain ⟨wa, hwa⟩ : ∃ wa, wa = wd.alloc (.cells #[] 33) := ⟨_, rfl⟩
        obtain ⟨gz, hgz⟩ : ∃ gz, gz = wd.heap.size := ⟨_, rfl⟩
        have Bwa := Lib.hid (show Below w.heap.size w wa from by rw [hwa]; exact below_alloc Bwd.out _)
        have RZ := Lib.hid (show (Kf kB w).R 33 wa w.heap.size (fun _ => True) (.slice (some ⟨gz, 0, none⟩) 0 0) [] from by rw [hwa, hgz]; exact zero_row (Kf kB w) trivial Bwd.out.size)
        rw [← hwa, ← hgz]
        clear hwa hgz
        refine wpAnyL_two (i := 4) (j := 9) (by kernel_rfl) rfl rfl (fun K hK => ?_) (fun K hK => ?_)
        · refine app_rows_step (W := wa) (w0 := w) (wb := w) w.heap.size rfl _ _ rfl (.slice (some ⟨gz, 0, none⟩) 0 0) [] (subs.take at_) As at_ cs rfl rfl RZ.out (Kf_of TK.out Bwa.out) Bwa.out Bwa.out.size (by simp; omega) ?_
          intro va wb hr hb hg
          rw [List.nil_append] at hr
          have RA := Lib.hid hr
          have Bwb := Lib.hid hb
          clear hr hb hg
          refine hK.out _ _ ⟨trivial, fun _ => trivial⟩ ?_
          (try simp only [Act.put, List.setIfInBounds_toArray, List.set_cons_zero, List.set_cons_succ]); (try simp only [List.getElem_toArray, List.getElem_cons_zero, List.getElem_cons_succ]); (try simp only [Act.put, List.setIfInBounds_toArray, List.set_cons_zero, List.set_cons_succ])
          refine Lw.wpAnyL_one (i := 9) (by kernel_rfl) rfl (fun K hK => ?_)
          go_simp
          refine hK.out _ _ ⟨trivial, fun _ => trivial⟩ ?_
          (try simp only [Act.put, List.setIfInBounds_toArray, List.set_cons_zero, List.set_cons_succ]); (try simp only [List.getElem_toArray, List.getElem_cons_zero, List.getElem_cons_succ]); (try simp only [Act.put, List.setIfInBounds_toArray, List.set_cons_zero, List.set_cons_succ])
          obtain ⟨wc, hwc⟩ : ∃ wc, wc = wb.alloc (.cells #[.slice (some (dd.add fr)) (en - fr) (cd - fr)] 33) := ⟨_, rfl⟩
          obtain ⟨gl, hgl⟩ : ∃ gl, gl = wb.heap.size := ⟨_, rfl⟩
          have Bwc := Lib.hid (show Below w.heap.size w wc from by rw [hwc]; exact below_alloc Bwb.out _)
          have RL := Lib.hid (show (Kf kB w).R 33 wc w.heap.size (fun _ => True) (.slice (some ⟨gl, 0, none⟩) 1 1) [ndl] from by rw [hwc, hgl]; exact lit_row (Kf kB w) (W := wb) (base := w.heap.size) (e := 33) (x := ndl) (cs := [.slice (some (dd.add fr)) (en - fr) (cd - fr)]) (ok := fun _ => True) (okp := fun _ => False) NK.out (fun _ hk => hk.elim) trivial Bwb.out.size)
          have RA := Lib.hid (Kd.R_below RA.out (show Below wb.heap.size wb wc from by rw [hwc]; exact below_alloc (Below.refl _ _) _))
          rw [← hwc, ← hgl]
          clear hwc hgl
          refine Lw.wpAnyL_one (i := 10) (by kernel_rfl) rfl (fun K hK => ?_)
          refine app_rows_step (W := wc) (w0 := w) (wb := w) w.heap.size rfl _ _ rfl va (subs.take at_) [ndl] (some ⟨gl, 0, none⟩) 1 1 rfl rfl RA.out (Kd.R_reads' RL.out).2.2 Bwc.out Bwc.out.size (by rw [List.length_take]; omega) ?_
          intro vb we hr hb hg
          have RB := Lib.hid hr
          have Bwe := Lib.hid hb
          clear hr hb hg
          refine hK.out _ _ ⟨trivial, fun _ => trivial⟩ ?_
          (try simp only [Act.put, List.setIfInBounds_toArray, List.set_cons_zero, List.set_cons_succ]); (try simp only [List.getElem_toArray, List.getElem_cons_zero, List.getElem_cons_succ]); (try simp only [Act.put, List.setIfInBounds_toArray, List.set_cons_zero, List.set_cons_succ])
          refine Lw.wpAnyL_one (i := 14) (by kernel_rfl) rfl (fun K hK => ?_)
          refine app_rows_step (W := we) (w0 := w) (wb := w) w.heap.size rfl _ _ rfl vb (subs.take at_ ++ [ndl]) (subs.drop at_) _ (i - at_) _ rfl rfl RB.out (Kf_of DK.out Bwe.out) Bwe.out Bwe.out.size (by rw [List.length_append, List.length_take, List.length_singleton]; omega) ?_
          intro vc wf hr hb hg
          rw [← HALL.out] at hr
          obtain ⟨A9, c9, hvc, _, hc9⟩ := Kd.R_reads hr
          subst hvc
          have Bwf := Lib.hid hb
          have C9 := Lib.hid (Kf_C hc9 hb)
          clear hr hb hg hc9
          refine hK.out _ _ ⟨trivial, fun _ => trivial⟩ ?_
          (try simp only [Act.put, List.setIfInBounds_toArray, List.set_cons_zero, List.set_cons_succ]); (try simp only [List.getElem_toArray, List.getElem_cons_zero, List.getElem_cons_succ]); (try simp only [Act.put, List.setIfInBounds_toArray, List.set_cons_zero, List.set_cons_succ])
          refine Lw.wpAnyL_take0 (i := 15) (v := ?_) rfl (by decide) (by kernel_rfl) (by kernel_rfl) (by kernel_rfl) (fun _ _ _ h => h) (Or.inl ⟨by rfl, ?_⟩) ⟨trivial, fun _ => trivial⟩ ?_
          rotate_left
          · (intro w _; go_simp; try with_reducible rfl)
          (try simp only [Act.put, List.setIfInBounds_toArray, List.set_cons_zero, List.set_cons_succ]); (try simp only [List.getElem_toArray, List.getElem_cons_zero, List.getElem_cons_succ]); (try simp only [Act.put, List.setIfInBounds_toArray, List.set_cons_zero, List.set_cons_succ])
          refine Lw.wpAnyL_done (by kernel_rfl) ?_ _
          have H17 := Lib.hid (HX17.out wf A9 c9 Bwf.out C9.out)
          go_wp2_with (first | (go_at_call 17; (refine (H17.out).mono ?_); rintro e w9 ⟨rfl, hb9⟩; have B9 := Lib.hid (below_then Bwf.out Bwf.out.size hb9); clear hb9))
          all_goals (go_ret; exact ⟨rfl, B9.out⟩)
        · go_simp
          refine hK.out _ _ ⟨trivial, fun _ => trivial⟩ ?_
          (try simp only [Act.put, List.setIfInBounds_toArray, List.set_cons_zero, List.set_cons_succ]); (try simp only [List.getElem_toArray, List.getElem_cons_zero, List.getElem_cons_succ]); (try simp only [Act.put, List.setIfInBounds_toArray, List.set_cons_zero, List.set_cons_succ])
          obtain ⟨wb, hwb⟩ : ∃ wb, wb = wa.alloc (.cells #[.slice (some (dd.add fr)) (en - fr) (cd - fr)] 33) := ⟨_, rfl⟩
          obtain ⟨gl, hgl⟩ : ∃ gl, gl = wa.heap.size := ⟨_, rfl⟩
          have Bwb := Lib.hid (show Below w.heap.size w wb from by rw [hwb]; exact below_alloc Bwa.out _)
          have RL := Lib.hid (show (Kf kB w).R 33 wb w.heap.size (fun _ => True) (.slice (some ⟨gl, 0, none⟩) 1 1) [ndl] from by rw [hwb, hgl]; exact lit_row (Kf kB w) (W := wa) (base := w.heap.size) (e := 33) (x := ndl) (cs := [.slice (some (dd.add fr)) (en - fr) (cd - fr)]) (ok := fun _ => True) (okp := fun _ => False) NK.out (fun _ hk => hk.elim) trivial Bwa.out.size)
          have NZL := Lib.hid (show gz ≠ gl from fun e => by have h9 := Kd.R_lt RZ.out gz rfl; omega)
          have RZ := Lib.hid (Kd.R_below RZ.out (show Below wa.heap.size wa wb from by rw [hwb]; exact below_alloc (Below.refl _ _) _))
          rw [← hwb, ← hgl]
          clear hwb hgl
          refine Lw.wpAnyL_one (i := 4) (by kernel_rfl) rfl (fun K hK => ?_)
          refine app_rows_step (W := wb) (w0 := w) (wb := w) w.heap.size rfl _ _ rfl (.slice (some ⟨gz, 0, none⟩) 0 0) [] (subs.take at_) As at_ cs rfl rfl RZ.out (Kf_of TK.out Bwb.out) Bwb.out Bwb.out.size (by simp; omega) ?_
          intro va wc hr hb hg
          rw [List.nil_append] at hr
          have RA := Lib.hid hr
          have Bwc := Lib.hid hb
          have RL := Lib.hid (Kd.R_grown1 RL.out rfl hg (fun e => by simp [Value.ownBlock] at e; exact NZL.out e))
          clear hr hb hg
          refine hK.out _ _ ⟨trivial, fun _ => trivial⟩ ?_
          (try simp only [Act.put, List.setIfInBounds_toArray, List.set_cons_zero, List.set_cons_succ]); (try simp only [List.getElem_toArray, List.getElem_cons_zero, List.getElem_cons_succ]); (try simp only [Act.put, List.setIfInBounds_toArray, List.set_cons_zero, List.set_cons_succ])
          refine Lw.wpAnyL_one (i := 10) (by kernel_rfl) rfl (fun K hK => ?_)
          refine app_rows_step (W := wc) (w0 := w) (wb := w) w.heap.size rfl _ _ rfl va (subs.take at_) [ndl] (some ⟨gl, 0, none⟩) 1 1 rfl rfl RA.out (Kd.R_reads' RL.out).2.2 Bwc.out Bwc.out.size (by rw [List.length_take]; omega) ?_
          intro vb we hr hb hg
          have RB := Lib.hid hr
          have Bwe := Lib.hid hb
          clear hr hb hg
          refine hK.out _ _ ⟨trivial, fun _ => trivial⟩ ?_
          (try simp only [Act.put, List.setIfInBounds_toArray, List.set_cons_zero, List.set_cons_succ]); (try simp only [List.getElem_toArray, List.getElem_cons_zero, List.getElem_cons_succ]); (try simp only [Act.put, List.setIfInBounds_toArray, List.set_cons_zero, List.set_cons_succ])
          refine Lw.wpAnyL_one (i := 14) (by kernel_rfl) rfl (fun K hK => ?_)
          refine app_rows_step (W := we) (w0 := w) (wb := w) w.heap.size rfl _ _ rfl vb (subs.take at_ ++ [ndl]) (subs.drop at_) _ (i - at_) _ rfl rfl RB.out (Kf_of DK.out Bwe.out) Bwe.out Bwe.out.size (by rw [List.length_append, List.length_take, List.length_singleton]; omega) ?_
          intro vc wf hr hb hg
          rw [← HALL.out] at hr
          obtain ⟨A9, c9, hvc, _, hc9⟩ := Kd.R_reads hr
          subst hvc
          have Bwf := Lib.hid hb
          have C9 := Lib.hid (Kf_C hc9 hb)
          clear hr hb hg hc9
          refine hK.out _ _ ⟨trivial, fun _ => trivial⟩ ?_
          (try simp only [Act.put, List.setIfInBounds_toArray, List.set_cons_zero, List.set_cons_succ]); (try simp only [List.getElem_toArray, List.getElem_cons_zero, List.getElem_cons_succ]); (try simp only [Act.put, List.setIfInBounds_toArray, List.set_cons_zero, List.set_cons_succ])
          refine Lw.wpAnyL_take0 (i := 15) (v := ?_) rfl (by decide) (by kernel_rfl) (by kernel_rfl) (by kernel_rfl) (fun _ _ _ h => h) (Or.inl ⟨by rfl, ?_⟩) ⟨trivial, fun _ => trivial⟩ ?_
          rotate_left
          · (intro w _; go_simp; try with_reducible rfl)
          (try simp only [Act.put, List.setIfInBounds_toArray, List.set_cons_zero, List.set_cons_succ]); (try simp only [List.getElem_toArray, List.getElem_cons_zero, List.getElem_cons_succ]); (try simp only [Act.put, List.setIfInBounds_toArray, List.set_cons_zero, List.set_cons_succ])
          refine Lw.wpAnyL_done (by kernel_rfl) ?_ _
          have H17 := Lib.hid (HX17.out wf A9 c9 Bwf.out C9.out)
          go_wp2_with (first | (go_at_call 17; (refine (H17.out).mono ?_); rintro e w9 ⟨rfl, hb9⟩; have B9 := Lib.hid (below_then Bwf.out Bwf.out.size hb9); clear hb9))
          all_goals (go_ret; exact ⟨rfl, B9.out⟩)
      · go_simp
        refine hK.out _ _ ⟨trivial, fun _ => trivial⟩ ?_
        (try simp only [Act.put, List.setIfInBounds_toArray, List.set_cons_zero, List.set_cons_succ]); (try simp only [List.getElem_toArray, List.getElem_cons_zero, List.getElem_cons_succ]); (try simp only [Act.put, List.setIfInBounds_toArray, List.set_cons_zero, List.set_cons_succ])
        obtain ⟨wa, hwa⟩ : ∃ wa, wa = wd.alloc (.cells #[.slice (some (dd.add fr)) (en - fr) (cd - fr)] 33) := ⟨_, rfl⟩
        obtain ⟨gl, hgl⟩ : ∃ gl, gl = wd.heap.size := ⟨_, rfl⟩
        have Bwa := Lib.hid (show Below w.heap.size w wa from by rw [hwa]; exact below_alloc Bwd.out _)
        have RL := Lib.hid (show (Kf kB w).R 33 wa w.heap.size (fun _ => True) (.slice (some ⟨gl, 0, none⟩) 1 1) [ndl] from by rw [hwa, hgl]; exact lit_row (Kf kB w) (W := wd) (base := w.heap.size) (e := 33) (x := ndl) (cs := [.slice (some (dd.add fr)) (en - fr) (cd - fr)]) (ok := fun _ => True) (okp := fun _ => False) NK.out (fun _ hk => hk.elim) trivial Bwd.out.size)
        rw [← hwa, ← hgl]
        clear hwa hgl
        refine Lw.wpAnyL_one (i := 0) (by kernel_rfl) rfl (fun K hK => ?_)
        go_simp
        refine hK.out _ _ ⟨trivial, fun _ => trivial⟩ ?_
        (try simp only [Act.put, List.setIfInBounds_toArray, List.set_cons_zero, List.set_cons_succ]); (try simp only [List.getElem_toArray, List.getElem_cons_zero, List.getElem_cons_succ]); (try simp only [Act.put, List.setIfInBounds_toArray, List.set_cons_zero, List.set_cons_succ])
        obtain ⟨wb, hwb⟩ : ∃ wb, wb = wa.alloc (.cells #[] 33) := ⟨_, rfl⟩
        obtain ⟨gz, hgz⟩ : ∃ gz, gz = wa.heap.size := ⟨_, rfl⟩
        have Bwb := Lib.hid (show Below w.heap.size w wb from by rw [hwb]; exact below_alloc Bwa.out _)
        have RZ := Lib.hid (show (Kf kB w).R 33 wb w.heap.size (fun _ => True) (.slice (some ⟨gz, 0, none⟩) 0 0) [] from by rw [hwb, hgz]; exact zero_row (Kf kB w) trivial Bwa.out.size)
        have NZL := Lib.hid (show gz ≠ gl from fun e => by have h9 := Kd.R_lt RL.out gl rfl; omega)
        have RL := Lib.hid (Kd.R_below RL.out (show Below wa.heap.size wa wb from by rw [hwb]; exact below_alloc (Below.refl _ _) _))
        rw [← hwb, ← hgz]
        clear hwb hgz
        refine Lw.wpAnyL_one (i := 4) (by kernel_rfl) rfl (fun K hK => ?_)
        refine app_rows_step (W := wb) (w0 := w) (wb := w) w.heap.size rfl _ _ rfl (.slice (some ⟨gz, 0, none⟩) 0 0) [] (subs.take at_) As at_ cs rfl rfl RZ.out (Kf_of TK.out Bwb.out) Bwb.out Bwb.out.size (by simp; omega) ?_
        intro va wc hr hb hg
        rw [List.nil_append] at hr
        have RA := Lib.hid hr
        have Bwc := Lib.hid hb
        have RL := Lib.hid (Kd.R_grown1 RL.out rfl hg (fun e => by simp [Value.ownBlock] at e; exact NZL.out e))
        clear hr hb hg
        refine hK.out _ _ ⟨trivial, fun _ => trivial⟩ ?_
        (try simp only [Act.put, List.setIfInBounds_toArray, List.set_cons_zero, List.set_cons_succ]); (try simp only [List.getElem_toArray, List.getElem_cons_zero, List.getElem_cons_succ]); (try simp only [Act.put, List.setIfInBounds_toArray, List.set_cons_zero, List.set_cons_succ])
        refine Lw.wpAnyL_one (i := 10) (by kernel_rfl) rfl (fun K hK => ?_)
        refine app_rows_step (W := wc) (w0 := w) (wb := w) w.heap.size rfl _ _ rfl va (subs.take at_) [ndl] (some ⟨gl, 0, none⟩) 1 1 rfl rfl RA.out (Kd.R_reads' RL.out).2.2 Bwc.out Bwc.out.size (by rw [List.length_take]; omega) ?_
        intro vb we hr hb hg
        have RB := Lib.hid hr
        have Bwe := Lib.hid hb
        clear hr hb hg
        refine hK.out _ _ ⟨trivial, fun _ => trivial⟩ ?_
        (try simp only [Act.put, List.setIfInBounds_toArray, List.set_cons_zero, List.set_cons_succ]); (try simp only [List.getElem_toArray, List.getElem_cons_zero, List.getElem_cons_succ]); (try simp only [Act.put, List.setIfInBounds_toArray, List.set_cons_zero, List.set_cons_succ])
        refine Lw.wpAnyL_one (i := 14) (by kernel_rfl) rfl (fun K hK => ?_)
        refine app_rows_step (W := we) (w0 := w) (wb := w) w.heap.size rfl _ _ rfl vb (subs.take at_ ++ [ndl]) (subs.drop at_) _ (i - at_) _ rfl rfl RB.out (Kf_of DK.out Bwe.out) Bwe.out Bwe.out.size (by rw [List.length_append, List.length_take, List.length_singleton]; omega) ?_
        intro vc wf hr hb hg
        rw [← HALL.out] at hr
        obtain ⟨A9, c9, hvc, _, hc9⟩ := Kd.R_reads hr
        subst hvc
        have Bwf := Lib.hid hb
        have C9 := Lib.hid (Kf_C hc9 hb)
        clear hr hb hg hc9
        refine hK.out _ _ ⟨trivial, fun _ => trivial⟩ ?_
        (try simp only [Act.put, List.setIfInBounds_toArray, List.set_cons_zero, List.set_cons_succ]); (try simp only [List.getElem_toArray, List.getElem_cons_zero, List.getElem_cons_succ]); (try simp only [Act.put, List.setIfInBounds_toArray, List.set_cons_zero, List.set_cons_succ])
        refine Lw.wpAnyL_take0 (i := 15) (v := ?_) rfl (by decide) (by kernel_rfl) (by kernel_rfl) (by kernel_rfl) (fun _ _ _ h => h) (Or.inl ⟨by rfl, ?_⟩) ⟨trivial, fun _ => trivial⟩ ?_
        rotate_left
        · (intro w _; go_simp; try with_reducible rfl)
        (try simp only [Act.put, List.setIfInBounds_toArray, List.set_cons_zero, List.set_cons_succ]); (try simp only [List.getElem_toArray, List.getElem_cons_zero, List.getElem_cons_succ]); (try simp only [Act.put, List.setIfInBounds_toArray, List.set_cons_zero, List.set_cons_succ])
        refine Lw.wpAnyL_done (by kernel_rfl) ?_ _
        have H17 := Lib.hid (HX17.out wf A9 c9 Bwf.out C9.out)
        go_wp2_with (first | (go_at_call 17; (refine (H17.out).mono ?_); rintro e w9 ⟨rfl, hb9⟩; have B9 := Lib.hid (below_then Bwf.out Bwf.out.size hb9); clear hb9))
        all_goals (go_ret; exact ⟨rfl, B9.out⟩)
theorem fits_from (l : List (List Int)) (hl : l.length ≤ 2147483647) : ∀ d i : Nat, i + d = l.length → ∀ k, d < k → ∃ r, Go.Proofs.YtckjbgneblfceaaDoor.PFnContainsSlice.laws_zzFits9.l0 k l (l.length : Int) (i : Int) = some r
  | 0, i, h, 0, hk => by omega
  | 0, i, h, k + 1, hk => by
    unfold Go.Proofs.YtckjbgneblfceaaDoor.PFnContainsSlice.laws_zzFits9.l0
    rw [if_neg (by omega)]
    exact ⟨_, rfl⟩
  | d + 1, i, h, 0, hk => by omega
  | d + 1, i, h, k + 1, hk => by
    unfold Go.Proofs.YtckjbgneblfceaaDoor.PFnContainsSlice.laws_zzFits9.l0
    rw [if_pos (by omega), if_pos (by omega), if_pos (by omega)]
    split
    · exact ⟨_, rfl⟩
    · rw [w64b i (by omega)]
      exact fits_from l hl d (i + 1) (by omega) k (by omega)
theorem fits_any (l : List (List Int)) : ∃ k r, Go.Proofs.YtckjbgneblfceaaDoor.PFnContainsSlice.laws_zzFits9.f k l = some r := by
  unfold Go.Proofs.YtckjbgneblfceaaDoor.PFnContainsSlice.laws_zzFits9.f
  by_cases h : (l.length : Int) > 2147483647
  · exact ⟨0, false, by rw [if_pos h]⟩
  · obtain ⟨r, hr⟩ := fits_from l (by omega) l.length 0 (by omega) (l.length + 1) (by omega)
    exact ⟨l.length + 1, r, by rw [if_neg h]; exact hr⟩
set_option maxHeartbeats 2000000 in
set_option maxRecDepth 100000 in
theorem law5 (w : World) (a1 a2 : Addr) (g5 : w.cell? ⟨5, 0, none⟩ = some (.iface 156 (.pointer (some a1)))) (g6 : w.cell? ⟨6, 0, none⟩ = some (.iface 156 (.pointer (some a2)))) (data : List Int) (Ad : Option Addr) (md cd : Nat) (fr en : Int) (subs : List (List Int)) (As : Option Addr) (ms cs : Nat) (at_ : Int) (hD : (Kd.int .u8).C w Ad md data) (hcd : md ≤ cd) (hS : kB.C w As ms subs) (hcs : ms ≤ cs) :
    Calls Tryd.prog 5 #[.slice Ad md cd, .int .i64 fr, .int .i64 en, .slice As ms cs, .int .i64 at_] w fun e w' => e = .returned (.bool true) ∧ Below w.heap.size w w' := by
  obtain rfl := hD.1
  obtain rfl := hS.1
  obtain ⟨k1, r1, z1⟩ := fits_any subs
  have hZ : Calls Tryd.prog 16 #[.slice As subs.length cs] w fun e w' => e = .returned (.bool r1) ∧ Below w.heap.size w w' := (Go.Proofs.YtckjbgneblfceaaDoor.PFnContainsSlice.laws_zzFits9.calls k1 As cs subs r1 w hS hcs z1).mono (fun e w' h => ⟨h.1, h.2.below⟩)
  have m1 := hD.2.1
  have m2 := hS.2.1
  clear z1
  have hx : (2147483647 < (data.length : Int)) ∨ ((data.length : Int) ≤ 2147483647 ∧ r1 = false) ∨ ((data.length : Int) ≤ 2147483647 ∧ r1 = true ∧ 20000 < (data.length : Int)) ∨ (r1 = true ∧ (data.length : Int) ≤ 20000 ∧ fr < 0) ∨ (r1 = true ∧ (data.length : Int) ≤ 20000 ∧ 0 ≤ fr ∧ en ≤ fr) ∨ (r1 = true ∧ (data.length : Int) ≤ 20000 ∧ 0 ≤ fr ∧ fr < en ∧ (data.length : Int) < en) ∨ (r1 = true ∧ (data.length : Int) ≤ 20000 ∧ 0 ≤ fr ∧ fr < en ∧ en ≤ (data.length : Int) ∧ 9 < (subs.length : Int)) ∨ (r1 = true ∧ (data.length : Int) ≤ 20000 ∧ 0 ≤ fr ∧ fr < en ∧ en ≤ (data.length : Int) ∧ (subs.length : Int) ≤ 9 ∧ at_ < 0) ∨ (r1 = true ∧ (data.length : Int) ≤ 20000 ∧ 0 ≤ fr ∧ fr < en ∧ en ≤ (data.length : Int) ∧ (subs.length : Int) ≤ 9 ∧ 0 ≤ at_ ∧ (subs.length : Int) < at_) ∨ (r1 = true ∧ (data.length : Int) ≤ 20000 ∧ 0 ≤ fr ∧ fr < en ∧ en ≤ (data.length : Int) ∧ (subs.length : Int) ≤ 9 ∧ 0 ≤ at_ ∧ at_ ≤ (subs.length : Int)) := by
    cases r1 <;> simp <;> omega
  rcases hx with p1 | ⟨p1, rfl⟩ | ⟨p1, rfl, p2⟩ | ⟨rfl, p1, p2⟩ | ⟨rfl, p1, p2, p3⟩ | ⟨rfl, p1, p2, p3, p4⟩ | ⟨rfl, p1, p2, p3, p4, p5⟩ | ⟨rfl, p1, p2, p3, p4, p5, p6⟩ | ⟨rfl, p1, p2, p3, p4, p5, p6, p7⟩ | ⟨rfl, p1, p2, p3, p4, p5, p6, p7⟩
  case inr.inr.inr.inr.inr.inr.inr.inr.inr =>
    obtain ⟨fr, rfl⟩ := Int.eq_ofNat_of_zero_le p2
    obtain ⟨en, rfl⟩ := Int.eq_ofNat_of_zero_le (show 0 ≤ en by omega)
    obtain ⟨at_, rfl⟩ := Int.eq_ofNat_of_zero_le p6
    exact law5in w a1 a2 g5 g6 data Ad cd fr en subs As cs at_ hD hcd hS hcs hZ (by omega) (by omega) (by omega) (by omega) (by omega)
  all_goals
    have HZ := Lib.hid hZ
    have B0 := Lib.hid (Below.refl w.heap.size w)
    try have p0 : (data.length : Int) ≤ 2147483647 := by omega
    clear hZ hD hS g5 g6
    go_enter Tryd.func5, Tryd.ntmps5
    go_wp2_with (first | (go_at_call 16; (refine (HZ.out).mono ?_); rintro e w1 ⟨rfl, hb1⟩; have B1 := Lib.hid hb1; clear hb1))
    go_ret
    first
      | exact ⟨rfl, B1.out⟩
      | exact ⟨rfl, B0.out⟩
end Go.Proofs.YtckjbgneblfceaaDoor.Cf
