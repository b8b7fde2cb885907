/- Bytes copied into a part of a row; errors that have a name. -/
import Derived.Test.YtckjbgneblfceaaDoorFe
import Derived.LaidLaws
import Derived.LaidEql
import Derived.Stop.IfaceNil
import Derived.Stop.LaidErr
namespace Go.Proofs.YtckjbgneblfceaaDoor.Ca
open Go.RowKit Go.Maps Go.Proofs.YtckjbgneblfceaaDoorW.PrintWords Go.Proofs.YtckjbgneblfceaaDoorW.PrintLast Go.Proofs.YtckjbgneblfceaaDoorW.PrintMore
open Go.Proofs.YtckjbgneblfceaaDoorW.PrintWords.Kd
open Go.Proofs.YtckjbgneblfceaaDoor.Fa Go.Proofs.YtckjbgneblfceaaDoor.Fm
set_option linter.unusedVariables false
set_option linter.unusedSimpArgs false
section
variable {P : Program}
theorem enc1 (k : IntKind) (x : Int) : (Value.int k x).oneCell' = true := rfl
/-- Cells laid into a row in place. -/
theorem row_laid {W : World} {base e g n cap : Nat} {ok : Nat → Prop} {xs : List Int} (h : Kd.R (Kd.int .u8) e W base ok (.slice (some ⟨g, 0, none⟩) n cap) xs) (o : Nat) (ys : List Int) (hle : o + ys.length ≤ xs.length) :
    Kd.R (Kd.int .u8) e (W.setCells g o (encs (Value.int .u8) ys)) base ok (.slice (some ⟨g, 0, none⟩) n cap) (xs.take o ++ ys ++ xs.drop (o + ys.length)) ∧ W.grownBy (W.setCells g o (encs (Value.int .u8) ys)) (some g) := by
  have hown := own_of_R h
  have hl2 : (xs.take o ++ ys ++ xs.drop (o + ys.length)).length = xs.length := by
    simp only [List.length_append, List.length_take, List.length_drop]; omega
  obtain ⟨s1, s2, s3, s4⟩ := setCells_same g (encs (Value.int .u8) ys) o W
  refine ⟨?_, ⟨s1, s2, s3, by rw [s4]; exact Nat.le_refl _, fun k _ hk => setCells_far _ _ k (fun he => hk (by rw [he]))⟩⟩
  rcases hown.2 with ⟨hx, _⟩ | ⟨g', cap', cur, hv, hb, hh, hnc, hcm, hcs, htake⟩
  · cases hx
  · simp only [Value.slice.injEq, Option.some.injEq, Addr.mk.injEq] at hv
    obtain ⟨⟨rfl, _, _⟩, rfl, rfl⟩ := hv
    obtain ⟨cur', h3, h4, h5⟩ := setCells_row (encs (Value.int .u8) ys) o W cur hh (by rw [encs_length]; omega)
    refine R_of_own (h1 := enc1 .u8) ?_ h.1
    rw [hl2]
    refine ⟨by rw [encs_length, hl2, Nat.mul_one], .inr ⟨g, cap, cur', rfl, hb, h3, hnc, hcm, by rw [h4, hcs], ?_⟩⟩
    rw [Nat.mul_one] at htake ⊢
    rw [h5, encs_length]
    have hc : cur.toList = encs (Value.int .u8) xs ++ cur.toList.drop xs.length := by
      conv => lhs; rw [← List.take_append_drop xs.length cur.toList, htake]
    have hel : (encs (Value.int IntKind.u8) xs).length = xs.length := encs_length ..
    have e0 : cur.toList.take o = (encs (Value.int IntKind.u8) xs).take o := by rw [hc, List.take_append_of_le_length (by rw [hel]; omega)]
    have e2 : cur.toList.drop (o + ys.length) = (encs (Value.int IntKind.u8) xs).drop (o + ys.length) ++ cur.toList.drop xs.length := by
      conv => lhs; rw [hc]
      rw [List.drop_append_of_le_length (by rw [hel]; omega)]
    have e1 : (encs (Value.int IntKind.u8) xs).take o ++ encs (Value.int IntKind.u8) ys ++ (encs (Value.int IntKind.u8) xs).drop (o + ys.length) = encs (Value.int IntKind.u8) (xs.take o ++ ys ++ xs.drop (o + ys.length)) := by
      simp [encs]
    rw [e0, e2, ← List.append_assoc, e1, List.take_append_of_le_length (by rw [encs_length, hl2]; exact Nat.le_refl _), List.take_of_length_le (by rw [encs_length, hl2]; exact Nat.le_refl _)]
/-- copy of bytes that can be read into a part of a row of one's own. -/
theorem copy_run {W : World} {base : Nat} (t t' ty e : TypeId) (ht : P.underlying t = some (.slice e)) (hinfo : (P.info? e).map (·.size) = some 1) {g n cap : Nat} {xs ys : List Int} {A : Option Addr} {m c o l cc : Nat} {ok : Nat → Prop}
    (HO : Kd.R (Kd.int .u8) e W base ok (.slice (some ⟨g, 0, none⟩) n cap) xs) (HR : Kd.C (Kd.int .u8) W A m ys) (hle : m ≤ l) (hol : o + l ≤ xs.length) :
    ∃ w1, (Builtin.copy_ #[t, t'] ty #[.slice (some ⟨g, o, none⟩) l cc, .slice A m c]).run P W = .ok (.int .i64 (m : Nat)) w1 ∧ Kd.R (Kd.int .u8) e w1 base ok (.slice (some ⟨g, 0, none⟩) n cap) (xs.take o ++ ys ++ xs.drop (o + m)) ∧ W.grownBy w1 (some g) := by
  have hR := reads_of_C (enc := Value.int .u8) (d := (0 : Int)) (h1 := enc1 .u8) HR
  have hm : ys.length = m := hR.1
  have hmin : Nat.min m l = m := Nat.min_eq_left hle
  rcases Nat.eq_zero_or_pos m with h0 | hp
  · subst h0
    obtain rfl : ys = [] := List.eq_nil_of_length_eq_zero hm
    refine ⟨W, ?_, by simpa using HO, World.grownBy.refl W _⟩
    exact run_copy_none W t t' ty e (some ⟨g, o, none⟩) A l cc 0 c ht hinfo (by simp)
  · obtain ⟨ad, hA, hc⟩ := hR.2.2 hp
    have hlaid := row_laid HO o ys (by omega)
    have hsrc : ∀ j u, (encs (Value.int .u8) ys)[j]? = some u → W.cell? (ad.add j) = some u := by
      intro j u hu
      have hj : j < ys.length := by
        rcases Nat.lt_or_ge j ys.length with h | h
        · exact h
        · rw [List.getElem?_eq_none (by rw [encs_length]; exact h)] at hu
          cases hu
      rw [encs_get (d := (0 : Int)) _ j hj] at hu
      rw [hc j (by omega), ← hu]
    have hcell : ∀ j, j < xs.length → (W.cell? ⟨g, j, none⟩).isSome = true ∧ W.frozen? ⟨g, j, none⟩ = false := by
      intro j hj
      have hn := (Kd.R_reads' HO).1
      have := R_celln (h1 := enc1 .u8) (0 : Int) HO (j : Int) (by omega) (by omega)
      rw [Int.toNat_natCast] at this
      exact ⟨by rw [this.1]; rfl, this.2⟩
    have hr := run_copy_cells (P := P) W t t' ty e g o l cc ad m c (encs (Value.int .u8) ys) ht hinfo (by rw [encs_length, hm]; exact hmin.symm) hsrc
      (fun j hj => by rw [encs_length] at hj; exact (hcell (o + j) (by omega)).1) (fun j hj => by rw [encs_length] at hj; exact (hcell (o + j) (by omega)).2) (by intro u hu; simp only [encs, List.mem_map] at hu; obtain ⟨q, _, rfl⟩ := hu; rfl)
    refine ⟨_, by rw [hA, hr, encs_length, hm]; rfl, ?_, ?_⟩
    · have := hlaid.1
      rw [hm] at this
      exact this
    · exact hlaid.2
variable {ops : Array Oper} {o : Oper} {a : Act} {Q : Exit → Act → World → Prop} {Kc : Act → World → Prop}
theorem copy_step {W : World} {base : Nat} (hw : Region.wanted o (yielded ops a.tmps) = true) (s x : Operand) (t t' e : TypeId)
    (ho : o.op = .call { callee := .builtin .copy, args := #[s, x], argTypes := #[t, t'] }) (ht : P.underlying t = some (.slice e)) (hinfo : (P.info? e).map (·.size) = some 1)
    {g n cap : Nat} (xs ys : List Int) (A : Option Addr) (m c p l cc : Nat) (ok : Nat → Prop) (hs : a.eval s = .slice (some ⟨g, p, none⟩) l cc) (hx : a.eval x = .slice A m c)
    (HO : Kd.R (Kd.int .u8) e W base ok (.slice (some ⟨g, 0, none⟩) n cap) xs) (HR : Kd.C (Kd.int .u8) W A m ys) (hle : m ≤ l) (hol : p + l ≤ xs.length)
    (h : ∀ w1, Kd.R (Kd.int .u8) e w1 base ok (.slice (some ⟨g, 0, none⟩) n cap) (xs.take p ++ ys ++ xs.drop (p + m)) → W.grownBy w1 (some g) → Kc (a.put o.dst (.int .i64 (m : Nat))) w1) :
    if Region.wanted o (yielded ops a.tmps) = true then Oper.wp P o a W Kc Q else Kc (a.put o.dst undef) W := by
  obtain ⟨w1, hr, h1, h2⟩ := copy_run (P := P) (c := c) (cc := cc) t t' o.type e ht hinfo HO HR hle hol
  refine event_step hw ?_ (h w1 h1 h2)
  unfold execOp
  simp only [ho, resolve, invoke, builtin, Sem.run_bind, Sem.run_pure, Result.andThen_ok, List.map_toArray, List.map_cons, List.map_nil, hs, hx, hr]
end
theorem at_drewN {P : Program} {c : Code} {Q : Exit → Act → World → Prop} {a : Act} {W : World} {N : Nat} (h : ∀ W1, (∃ n, W1 = W.drewN n) → Code.wp P c Q a W1) : Code.wp P c Q a (W.drewN N) := h _ ⟨N, rfl⟩
theorem info5s : (Tryd.prog.info? 5).map (·.size) = some 1 := by kernel_rfl
end Go.Proofs.YtckjbgneblfceaaDoor.Ca
