/- Rows of a caller's steps, copied; their sizes; steps on a closed file. -/
import Derived.Test.YtljcdjggjphedaaDoorHl
import Derived.Test.YtljcdjggjphedaaDoorPFnHandleScriptx2
import Derived.IntWalk
namespace Go.Proofs.YtljcdjggjphedaaDoor.Hd
open Go.RowKit Go.Proofs.YtljcdjggjphedaaDoorW.PrintWords Go.Proofs.YtljcdjggjphedaaDoorW.PrintLast Go.Proofs.YtljcdjggjphedaaDoorW.PrintMore
open Go.Proofs.YtljcdjggjphedaaDoor.PFnHandleScript
set_option linter.unusedVariables false
set_option linter.unusedSimpArgs false
theorem fits2_any (a0 : Int) (a1 a2 : ByteArray) (a3 a4 a5 : Int) (l6 : List Int) (a7 a8 a9 : Int) : ∃ r, laws_zzFits2.f a0 a1 a2 a3 a4 a5 l6 a7 a8 a9 = some r := by
  unfold laws_zzFits2.f
  split
  · exact ⟨_, rfl⟩
  · split
    · exact ⟨_, rfl⟩
    · split <;> exact ⟨_, rfl⟩
theorem fits1_from (l : List S26) (hl : l.length ≤ 2147483647) : ∀ (d i : Nat), i + d = l.length → ∃ r, laws_zzFits1.l0 (d + 1) l (l.length : Int) i = some r
  | 0, i, h => by
    unfold laws_zzFits1.l0
    rw [if_neg (by omega)]
    exact ⟨_, rfl⟩
  | d + 1, i, h => by
    unfold laws_zzFits1.l0
    rw [if_pos (by omega), if_pos (by omega), if_pos (by omega)]
    obtain ⟨r, hr⟩ := fits2_any (rd_T26 l i).f0 (rd_T26 l i).f1 (rd_T26 l i).f2 (rd_T26 l i).f3 (rd_T26 l i).f4 (rd_T26 l i).f5 (rd_T26 l i).f6 (rd_T26 l i).f7 (rd_T26 l i).f8 (rd_T26 l i).f9
    rw [hr]
    simp only [Option.bind_some]
    split
    · have hw : wrap64 ((i : Int) + 1) = ((i + 1 : Nat) : Int) := by unfold wrap64; omega
      rw [hw]
      exact fits1_from l hl d (i + 1) (by omega)
    · exact ⟨_, rfl⟩
theorem fits1_any (l : List S26) : ∃ k r, laws_zzFits1.f k l = some r := by
  by_cases h : l.length ≤ 2147483647
  · obtain ⟨r, hr⟩ := fits1_from l h l.length 0 (by omega)
    refine ⟨l.length + 1, r, ?_⟩
    unfold laws_zzFits1.f
    rw [if_neg (by omega)]
    exact hr
  · refine ⟨0, false, ?_⟩
    unfold laws_zzFits1.f
    rw [if_pos (by omega)]
/-- Whether steps are short enough is told. -/
theorem zz12 (w : World) (l : List S26) (A : Option Addr) (m c : Nat) (hC : k26.C w A m l) (hc : m ≤ c) : ∃ r : Bool, ∀ W, Below w.heap.size w W → Calls Tryd.prog 12 #[.slice A m c] W fun e w' => e = .returned (.bool r) ∧ Below W.heap.size W w' := by
  obtain rfl := hC.1
  obtain ⟨k, r, h⟩ := fits1_any l
  exact ⟨r, fun W hb => laws_zzFits1.calls k A c l r W (Kd.C_below hC hb) hc h⟩
theorem cellb {W W1 : World} {a : Addr} {v : Value} (h : W.cell? a = some v) (hb : Below W.heap.size W W1) : W1.cell? a = some v := by
  have hlt : a.block < W.heap.size := by
    rcases Nat.lt_or_ge a.block W.heap.size with hc | hc
    · exact hc
    · have hn : W.heap[a.block]? = none := Array.getElem?_eq_none hc
      simp [World.cell?, hn] at h
  rw [World.cell?_of_block (a := a) (hb.block a.block hlt)]
  exact h
/-- A step where the caller laid it, seen later. -/
theorem at26b {w w1 : World} {A : Option Addr} {n : Nat} {xs : List S26} (h : k26.C w A n xs) (hb : Below w.heap.size w w1) (i : Nat) (h1 : i < n) : ∃ ad A6 c6, A = some ad ∧ w1.cell? (ad.add (i * 10)) = some (.int .i64 (rd_T26 xs i).f0) ∧ w1.cell? ⟨(ad.add (i * 10)).block, (ad.add (i * 10)).off + 1, none⟩ = some (.string (rd_T26 xs i).f1) ∧ w1.cell? ⟨(ad.add (i * 10)).block, (ad.add (i * 10)).off + 2, none⟩ = some (.string (rd_T26 xs i).f2) ∧ w1.cell? ⟨(ad.add (i * 10)).block, (ad.add (i * 10)).off + 3, none⟩ = some (.int .i64 (rd_T26 xs i).f3) ∧ w1.cell? ⟨(ad.add (i * 10)).block, (ad.add (i * 10)).off + 4, none⟩ = some (.int .i64 (rd_T26 xs i).f4) ∧ w1.cell? ⟨(ad.add (i * 10)).block, (ad.add (i * 10)).off + 5, none⟩ = some (.int .i64 (rd_T26 xs i).f5) ∧ w1.cell? ⟨(ad.add (i * 10)).block, (ad.add (i * 10)).off + 6, none⟩ = some (.slice A6 (rd_T26 xs i).f6.length c6) ∧ w1.cell? ⟨(ad.add (i * 10)).block, (ad.add (i * 10)).off + 7, none⟩ = some (.int .i64 (rd_T26 xs i).f7) ∧ w1.cell? ⟨(ad.add (i * 10)).block, (ad.add (i * 10)).off + 8, none⟩ = some (.int .i64 (rd_T26 xs i).f8) ∧ w1.cell? ⟨(ad.add (i * 10)).block, (ad.add (i * 10)).off + 9, none⟩ = some (.int .i64 (rd_T26 xs i).f9) ∧ (rd_T26 xs i).f6.length ≤ c6 ∧ (Kd.int .u8).C w A6 (rd_T26 xs i).f6.length (rd_T26 xs i).f6 := by
  obtain ⟨ad, A6, c6, e, k0, k1, k2, k3, k4, k5, k6, k7, k8, k9, l6, g6⟩ := at_T26 h (i : Int) (by omega) (by omega)
  exact ⟨ad, A6, c6, e, cellb k0 hb, cellb k1 hb, cellb k2 hb, cellb k3 hb, cellb k4 hb, cellb k5 hb, cellb k6 hb, cellb k7 hb, cellb k8 hb, cellb k9 hb, l6, g6⟩
/-- Steps that lead to what the caller laid (in w0). -/
def Kx (w0 : World) : Kd S26 := Kd.fixed k26 w0
theorem info26 : (Tryd.prog.info? 26).map (fun i => (i.zero, i.size, i.bytes)) = some (some (.agg #[.int .i64 0, .string ⟨#[]⟩, .string ⟨#[]⟩, .int .i64 0, .int .i64 0, .int .i64 0, .slice none 0 0, .int .i64 0, .int .i64 0, .int .i64 0]), 10, 112) := by kernel_rfl
theorem Kx_C {w0 W : World} {A : Option Addr} {n : Nat} {xs : List S26} (h : (Kx w0).C W A n xs) (hb : Below w0.heap.size w0 W) : k26.C W A n xs := Kd.C_read (d := k26) (dm := Kx w0) rfl (fun x cs hk => k26.K_below hb hk) h
theorem lit_row {α : Type} (d : Kd α) {W : World} {base e : Nat} {x : α} {cs : List Value} {ok okp : Nat → Prop} (hp : d.M W base okp x cs) (hok : ∀ k, okp k → ok k) (hfresh : ok W.heap.size) (hbase : base ≤ W.heap.size) :
    d.R e (W.alloc (.cells cs.toArray e)) base ok (.slice (some ⟨W.heap.size, 0, none⟩) 1 1) [x] := by
  refine ⟨fun k hk => ?_, cs, ?_, ?_⟩
  · have : W.heap.size = k := by simpa [Value.ownBlock] using hk
    subst this
    exact hfresh
  · have h2 := World.ownsRow_lit (base := base) (e := e) (size := d.sz) W cs.toArray 1 hbase (by simp [maxLen]) (by simpa using d.K_len (d.K_of_M hp))
    simpa using h2
  · refine ⟨by simpa using d.K_len (d.K_of_M hp), fun j p hj => ?_⟩
    match j, hj with
    | 0, hj =>
      simp at hj
      subst hj
      have hlen := d.K_len (d.K_of_M hp)
      have e : (cs.drop (0 * d.sz)).take d.sz = cs := by rw [Nat.zero_mul, List.drop_zero, List.take_of_length_le (by omega)]
      rw [e]
      refine d.M_mono (fun k hk => ⟨hok k hk.1, fun h => ?_⟩) (Kd.M_below (d.M_bound hp) (below_alloc (Below.refl _ _) _))
      have : k = W.heap.size := by simpa [Value.ownBlock] using h
      have := hk.2.2.1
      omega
section
variable {ops : Array Oper} {rest : List Oper} {o : Oper} {a : Act} {Q : Exit → Act → World → Prop}
theorem app_stp {W w0 wb : World} (base : Nat) (hgd : o.guard = none) (s x : Operand) (ho : o.op = .call { callee := .builtin .append, args := #[s, x], argTypes := #[23, 23] })
    (v : Value) (xs : List S26) (p : S26) (A6 : Option Addr) (c6 : Nat) (hs : a.eval s = v) {g : Nat} (hx : a.eval x = .slice (some ⟨g, 0, none⟩) 1 1) (hgs : W.heap.size = g) (l6 : p.f6.length ≤ c6) (g6 : (Kd.int .u8).C w0 A6 p.f6.length p.f6)
    (HO : (Kx w0).R 26 W base (fun _ => True) v xs) (HB : Below base wb W) (hbase : base ≤ W.heap.size) (hl : xs.length ≤ 1000)
    (h : ∀ v1 w1, (Kx w0).R 26 w1 base (fun _ => True) v1 (xs ++ [p]) → Below base wb w1 → W.grownBy w1 v.ownBlock → wpList Tryd.prog ops Q rest (a.put o.dst v1) w1) :
    wpList Tryd.prog ops Q (o :: rest) a (W.alloc (.cells #[.int .i64 p.f0, .string p.f1, .string p.f2, .int .i64 p.f3, .int .i64 p.f4, .int .i64 p.f5, .slice A6 p.f6.length c6, .int .i64 p.f7, .int .i64 p.f8, .int .i64 p.f9] 26)) := by
  subst hgs
  refine Kd.R_append (Kx w0) (w0 := wb) base hgd s x 23 26 _ 112 ho Tryd.underlying23 info26 rfl (by show 0 < 10; decide) (by decide) v xs p [.int .i64 p.f0, .string p.f1, .string p.f2, .int .i64 p.f3, .int .i64 p.f4, .int .i64 p.f5, .slice A6 p.f6.length c6, .int .i64 p.f7, .int .i64 p.f8, .int .i64 p.f9] (fun _ => True) (fun _ => False) hs hx (k26_mk w0 p l6 g6) (fun _ hk => hk.elim) (fun _ _ => trivial) HO HB hbase (by omega) ?_
  intro v1 w1 h1 hb h2 _
  exact h v1 w1 h1 hb h2
end
section
variable {A : Nat → Addr} {h : Hnd} {n : Nod} {data : List Int} {s : S26}
theorem does_read (m : Nat) (hop : s.f0 = 12) (hN : s.f9 = m) (hm : m ≤ 1000000) (hl : data.length ≤ 1000000) (hp : h.cl = false → 0 ≤ h.pos) :
    Does A h n data s (ans (rdE h.cl data.length h.pos m) 0 0 (rdD h.cl data h.pos m)) { h with pos := h.pos + (rdD h.cl data h.pos m).length } n data := by
  intro f d base v W F hS hf hd Ad cd hC hc
  rw [hop, hN]
  exact on_read_any F m _ _ _ _ _ rfl (rdD_len _ _ _ _) hm s.f7 (read_spec A F hS.sent m hm hl hp) (fun w2 hM => kind_rd A h.cl data.length h.pos m w2 ((hS.moves hM (F.tch hf hd) (Nat.le_trans hf (Nat.le_of_lt (blk_lt F.hf)))).sent)) s.f8 s.f1 s.f2 s.f3 s.f4 s.f5 Ad s.f6.length cd
theorem does_readat (m : Nat) (hop : s.f0 = 13) (hN : s.f9 = m) (hm : m ≤ 1000000) (hl : data.length ≤ 1000000) (hp : h.cl = false → 0 ≤ s.f7) : Does A h n data s (ans (rdE h.cl data.length s.f7 m) 0 0 (rdD h.cl data s.f7 m)) h n data := by
  intro f d base v W F hS hf hd Ad cd hC hc
  rw [hop, hN]
  exact on_readat_any F m _ _ h _ _ rfl (rdD_len _ _ _ _) hm s.f7 (readat_spec A F hS hf hd m hm hl s.f7 hp) (fun w2 hM => kind_rd A h.cl data.length s.f7 m w2 ((hS.moves hM (F.tch hf hd) (Nat.le_trans hf (Nat.le_of_lt (blk_lt F.hf)))).sent)) s.f8 s.f1 s.f2 s.f3 s.f4 s.f5 Ad s.f6.length cd
theorem does_writeatc (hop : s.f0 = 15) (hcl : h.cl = true) (hm : s.f6.length ≤ 10000000) : Does A h n data s (ans 3 0 0 []) { h with pos := s.f7 } n data := by
  intro f d base v W F hS hf hd Ad cd hC hc
  rw [hop]
  exact on_writeat_any F _ _ _ 0 3 s.f7 Ad s.f6.length cd hC hm (writeat_of F hf s.f7 (fun W0 F0 hM hs => write_c F0 (hS.moves hM (fun k hk => by subst hk; exact hf) (Nat.le_trans hf (Nat.le_of_lt (blk_lt F.hf)))) hf hd s.f6.length hcl)) s.f8 s.f9 s.f1 s.f2 s.f3 s.f4 s.f5
theorem does_writeatr (hop : s.f0 = 15) (hcl : h.cl = false) (hro : h.ro = true) (hm : s.f6.length ≤ 10000000) : Does A h n data s (ans 6 0 0 []) { h with pos := s.f7 } n data := by
  intro f d base v W F hS hf hd Ad cd hC hc
  rw [hop]
  exact on_writeat_any F _ _ _ 0 6 s.f7 Ad s.f6.length cd hC hm (writeat_of F hf s.f7 (fun W0 F0 hM hs => write_r F0 (hS.moves hM (fun k hk => by subst hk; exact hf) (Nat.le_trans hf (Nat.le_of_lt (blk_lt F.hf)))) hf hd s.f6.length hcl hro)) s.f8 s.f9 s.f1 s.f2 s.f3 s.f4 s.f5
end
end Go.Proofs.YtljcdjggjphedaaDoor.Hd
