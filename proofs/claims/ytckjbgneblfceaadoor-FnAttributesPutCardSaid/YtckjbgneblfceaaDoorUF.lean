/- A part of the proof that FnAttributesPut answers true for all attributes, sizes and offsets. -/
import Derived.Test.YtckjbgneblfceaaDoorUE
import Derived.Handy
import Derived.Laws.Cover1
namespace Go.Proofs.YtckjbgneblfceaaDoor.At
open Go.RowKit Go.Maps Go.Proofs.YtckjbgneblfceaaDoorW.PrintWords Go.Proofs.YtckjbgneblfceaaDoorW.PrintLast Go.Proofs.YtckjbgneblfceaaDoorW.PrintMore
open Go.Proofs.YtckjbgneblfceaaDoor.Da Go.Proofs.YtckjbgneblfceaaDoor.Fa Go.Proofs.YtckjbgneblfceaaDoor.Fm Go.Proofs.YtckjbgneblfceaaDoor.PFnFitFirst
open Go.Proofs.YtckjbgneblfceaaDoor.Fb Go.Proofs.YtckjbgneblfceaaDoor.Fc Go.Proofs.YtckjbgneblfceaaDoor.Fe
open Go.Proofs.YtckjbgneblfceaaDoor.Al (up4 roomL room laid40)
set_option linter.unusedVariables false
set_option linter.unusedSimpArgs false
theorem less_irr : ∀ a : List UInt8, Op.bytesLess a a = false
  | [] => rfl
  | x :: xs => by
    have h : ¬ x < x := fun e => by have := UInt8.lt_iff_toNat_lt.1 e; omega
    simp [Op.bytesLess, h, less_irr xs]
theorem less_nil (a : List UInt8) : Op.bytesLess a [] = false := by cases a <;> rfl
theorem less_trans : ∀ a b c : List UInt8, Op.bytesLess a b = true → Op.bytesLess b c = true → Op.bytesLess a c = true
  | a, b, [], _, h => by rw [less_nil] at h; cases h
  | [], _, _ :: _, _, _ => rfl
  | x :: xs, [], _ :: _, h, _ => by rw [less_nil] at h; cases h
  | x :: xs, y :: ys, z :: zs, h1, h2 => by
    have ih := less_trans xs ys zs
    simp only [Op.bytesLess, Bool.or_eq_true, Bool.and_eq_true, decide_eq_true_eq, beq_iff_eq] at h1 h2 ⊢
    rcases h1 with h1 | ⟨rfl, h1⟩
    · rcases h2 with h2 | ⟨rfl, h2⟩
      · exact .inl (UInt8.lt_trans h1 h2)
      · exact .inl h1
    · rcases h2 with h2 | ⟨rfl, h2⟩
      · exact .inl h2
      · exact .inr ⟨rfl, ih h1 h2⟩
theorem less_tot : ∀ a b : List UInt8, Op.bytesLess a b = false → a ≠ b → Op.bytesLess b a = true
  | [], [], _, h => absurd rfl h
  | [], _ :: _, h, _ => by cases h
  | _ :: _, [], _, _ => rfl
  | x :: xs, y :: ys, h, hne => by
    have ih := less_tot xs ys
    simp only [Op.bytesLess, Bool.or_eq_false_iff, Bool.and_eq_false_iff, decide_eq_false_iff_not, beq_eq_false_iff_ne] at h
    simp only [Op.bytesLess, Bool.or_eq_true, Bool.and_eq_true, decide_eq_true_eq, beq_iff_eq]
    obtain ⟨h1, h2⟩ := h
    by_cases e : x = y
    · subst e
      rcases h2 with h2 | h2
      · exact absurd rfl h2
      · exact .inr ⟨rfl, ih h2 (fun e2 => hne (by rw [e2]))⟩
    · have e3 : x.toNat ≠ y.toNat := fun e4 => e (UInt8.toNat_inj.1 e4)
      exact .inl (UInt8.lt_iff_toNat_lt.2 (by
        have h3 : ¬ x.toNat < y.toNat := fun h4 => h1 (UInt8.lt_iff_toNat_lt.2 h4)
        omega))
/-- One name ahead of another. -/
def ltS (a b : S58) : Prop := Op.bytesLess a.f0.toList b.f0.toList = true
theorem ltS_trans {a b c : S58} (h1 : ltS a b) (h2 : ltS b c) : ltS a c := less_trans _ _ _ h1 h2
theorem ltS_tot {a b : S58} (h : ¬ ltS a b) (hne : a.f0 ≠ b.f0) : ltS b a := by
  unfold ltS at h ⊢
  refine less_tot _ _ (by simpa using h) (fun e => hne ?_)
  rw [ByteArray.toList_eq, ByteArray.toList_eq] at e
  exact kof_inj e
def Sorted (l : List S58) : Prop := l.Pairwise ltS
/-- How far the sorting of one element is. -/
structure Mid (A : List S58) (x : S58) (B : List S58) : Prop where
  ord : Sorted (A ++ B)
  low : ∀ b ∈ B, ltS x b
theorem Mid.start {A : List S58} (x : S58) (h : Sorted A) : Mid A x [] := ⟨by simpa using h, fun b hb => by simp at hb⟩
theorem Mid.step {A B : List S58} {x y : S58} (h : Mid (A ++ [y]) x B) (hxy : ltS x y) : Mid A x (y :: B) :=
  ⟨by have := h.ord; simpa using this, fun b hb => by
    rcases List.mem_cons.1 hb with rfl | hb
    · exact hxy
    · exact h.low b hb⟩
theorem Mid.done0 {B : List S58} {x : S58} (h : Mid [] x B) : Sorted (x :: B) := List.pairwise_cons.2 ⟨h.low, h.ord⟩
theorem Mid.done {A B : List S58} {x y : S58} (h : Mid (A ++ [y]) x B) (hxy : ¬ ltS x y) (hne : x.f0 ≠ y.f0) : Sorted (A ++ [y] ++ x :: B) := by
  have hyx := ltS_tot hxy hne
  have ho := h.ord
  unfold Sorted at ho ⊢
  rw [List.pairwise_append] at ho ⊢
  obtain ⟨h1, h2, h3⟩ := ho
  refine ⟨h1, List.pairwise_cons.2 ⟨h.low, h2⟩, fun a ha b hb => ?_⟩
  rcases List.mem_cons.1 hb with rfl | hb
  · rcases List.mem_append.1 ha with ha | ha
    · rw [List.pairwise_append] at h1
      exact ltS_trans (h1.2.2 a ha y (by simp)) hyx
    · obtain rfl := List.mem_singleton.1 ha
      exact hyx
  · exact h3 a ha b hb
theorem swap_list (A R : List S58) (y x : S58) : ((A ++ y :: x :: R).set (A.length + 1) y).set A.length x = A ++ x :: y :: R := by
  rw [List.set_append_right _ _ (by omega), show A.length + 1 - A.length = 1 by omega]
  simp
theorem swap_perm (A R : List S58) (y x : S58) : (A ++ x :: y :: R).Perm (A ++ y :: x :: R) := (List.Perm.swap y x R).append_left A
/-- Two elements change places. -/
theorem swap58 {W : World} {base g n cap : Nat} {xs : List S58} (h : k58.R 58 W base (fun _ => True) (.slice (some ⟨g, 0, none⟩) n cap) xs) (i k : Nat) (hi : i < n) (hk : k < n) (hne : i ≠ k) :
    ∃ A1 n1 c1 A2 n2 c2, ∃ v1 v2 : Value, v1 = .slice A1 n1 c1 ∧ v2 = .slice A2 n2 c2 ∧ (W.cell? ⟨g, i * 2, none⟩ = some (.string (xs.getD i z58).f0) ∧ W.cell? ⟨g, i * 2 + 1, none⟩ = some v1 ∧ W.frozen? ⟨g, i * 2, none⟩ = false ∧ W.frozen? ⟨g, i * 2 + 1, none⟩ = false) ∧
      (W.cell? ⟨g, k * 2, none⟩ = some (.string (xs.getD k z58).f0) ∧ W.cell? ⟨g, k * 2 + 1, none⟩ = some v2 ∧ W.frozen? ⟨g, k * 2, none⟩ = false ∧ W.frozen? ⟨g, k * 2 + 1, none⟩ = false) ∧
      k58.R 58 ((((W.setCell ⟨g, i * 2, none⟩ (.string (xs.getD k z58).f0)).setCell ⟨g, i * 2 + 1, none⟩ v2).setCell ⟨g, k * 2, none⟩ (.string (xs.getD i z58).f0)).setCell ⟨g, k * 2 + 1, none⟩ v1) base (fun _ => True) (.slice (some ⟨g, 0, none⟩) n cap) ((xs.set i (xs.getD k z58)).set k (xs.getD i z58)) := by
  obtain ⟨ci, li, Mi, hci, fi⟩ := Kd.R_elem h z58 (i : Int) (by omega) (by omega)
  obtain ⟨ck, lk, Mk, hck, fk⟩ := Kd.R_elem h z58 (k : Int) (by omega) (by omega)
  rw [Int.toNat_natCast] at Mi hci fi Mk hck fk
  obtain ⟨v1, rfl, r1⟩ := k58_openM Mi
  obtain ⟨v2, rfl, r2⟩ := k58_openM Mk
  obtain ⟨A1, d1, e1, _, _⟩ := Kd.R_reads r1
  obtain ⟨A2, d2, e2, _, _⟩ := Kd.R_reads r2
  have hsz : k58.sz = 2 := rfl
  rw [hsz] at hci fi hck fk
  have R1 := Kd.R_seg h (i : Int) (by omega) (by omega) (c := [.string (xs.getD i z58).f0, v1]) (seg := [.string (xs.getD k z58).f0, v2]) (j := 0) li (by rw [Int.toNat_natCast, hsz]; exact hci) (by show 0 + 2 ≤ 2; decide) (x' := xs.getD k z58)
    (okp := fun k => True ∧ k ≠ g) (by simpa using Mk) (fun _ hk => hk)
  rw [Int.toNat_natCast, hsz, Nat.add_zero] at R1
  obtain ⟨R1, G1⟩ := R1
  obtain ⟨c3, l3, _, hc3, _⟩ := Kd.R_elem R1 z58 (k : Int) (by omega) (by omega)
  rw [Int.toNat_natCast] at hc3
  have Mi2 := Kd.M_grown Mi G1 (fun k hk e => hk.2 (Option.some.inj e))
  have R2 := Kd.R_seg R1 (k : Int) (by omega) (by omega) (c := c3) (seg := [.string (xs.getD i z58).f0, v1]) (j := 0) l3 (by rw [Int.toNat_natCast]; exact hc3) (by show 0 + 2 ≤ 2; decide) (x' := xs.getD i z58)
    (okp := fun k => True ∧ k ≠ g) (by rw [List.drop_of_length_le (by rw [l3]; show 2 ≤ 0 + 2; decide)]; simpa using Mi2) (fun _ hk => hk)
  rw [Int.toNat_natCast, hsz, Nat.add_zero] at R2
  have a0 := hci 0 _ rfl
  have a1 := hci 1 _ rfl
  have b0 := hck 0 _ rfl
  have b1 := hck 1 _ rfl
  have f0 := fi 0
  have f1 := fi 1
  have g0 := fk 0
  have g1 := fk 1
  rw [Nat.add_zero] at a0 b0 f0 g0
  exact ⟨A1, _, d1, A2, _, d2, v1, v2, e1, e2, ⟨a0, a1, f0, f1⟩, ⟨b0, b1, g0, g1⟩, R2.1⟩
end Go.Proofs.YtckjbgneblfceaaDoor.At
namespace Go.Proofs.YtckjbgneblfceaaDoor.At
open Go.RowKit Go.Maps Go.Proofs.YtckjbgneblfceaaDoorW.PrintWords Go.Proofs.YtckjbgneblfceaaDoorW.PrintLast Go.Proofs.YtckjbgneblfceaaDoorW.PrintMore
open Go.Proofs.YtckjbgneblfceaaDoor.Da Go.Proofs.YtckjbgneblfceaaDoor.Fa Go.Proofs.YtckjbgneblfceaaDoor.Fm Go.Proofs.YtckjbgneblfceaaDoor.PFnFitFirst
open Go.Proofs.YtckjbgneblfceaaDoor.Fb Go.Proofs.YtckjbgneblfceaaDoor.Fc Go.Proofs.YtckjbgneblfceaaDoor.Fe
open Go.Proofs.YtckjbgneblfceaaDoor.Al (up4 roomL room laid40)
set_option linter.unusedVariables false
set_option linter.unusedSimpArgs false
theorem inv_key {key : Value} {kl : Lit} (h : keyOf Tryd.prog 9 key = some kl) : ∃ x : List UInt8, key = .string ⟨x.toArray⟩ := by
  obtain ⟨x, hx, _⟩ := Maps.keyOf_str Tryd.underlying9 h
  exact ⟨x, hx⟩
theorem key_lit {x : List UInt8} {kl : Lit} (h : keyOf Tryd.prog 9 (.string ⟨x.toArray⟩) = some kl) : kl = .string x := by
  obtain ⟨y, hy, rfl, _⟩ := Maps.keyOf_str Tryd.underlying9 h
  have : x = y := by simpa using hy
  rw [this]
theorem ne_iter9 {w : World} {g : Nat} {f : List Int} {b r n : Nat} {D : DataW Unit} {left : Lit → Bool} {cnt base : Nat} {e : TypeId} {size : Nat} {v : Value} {m : Nat} {xs : List Value}
    (h : w.ownsRow base e size v m xs) (hr : w.ranges Tryd.prog 9 (valR g f) b r n D left cnt) : some r ≠ v.ownBlock := by
  obtain ⟨_, _, _, _, _, _, _, _, _, hit, _⟩ := hr
  rcases h.2 with ⟨rfl, _⟩ | ⟨g, cap, cur, rfl, _, hb, _⟩
  · simp [Value.ownBlock]
  · intro e1
    have : r = g := by simpa [Value.ownBlock] using e1
    subst this
    rw [hit] at hb
    cases hb
theorem ne_low9 {w : World} {base : Nat} {e : TypeId} {size : Nat} {v : Value} {n : Nat} {xs : List Value} (h : w.ownsRow base e size v n xs) {b : Nat} (hb : b < base) : some b ≠ v.ownBlock := fun e1 => by
  have := (h.lt b e1.symm).1
  omega
theorem kof_mk (s : ByteArray) : (⟨(kof s).toArray⟩ : ByteArray) = s := by unfold kof; simp
theorem app58R {ops : Array Oper} {rest : List Oper} {o : Oper} {a : Act} {Q : Exit → Act → World → Prop} {W wb : World} (base : Nat) (hgd : o.guard = none) (s x : Operand) (ho : o.op = .call { callee := .builtin .append, args := #[s, x], argTypes := #[22, 22] })
    (v : Value) (xs : List S58) (p : S58) (A1 : Option Addr) (c1 : Nat) (hs : a.eval s = v) {g : Nat} (hx : a.eval x = .slice (some ⟨g, 0, none⟩) 1 1) (hgs : W.heap.size = g)
    (HP : (Kd.int .u8).R 5 W base (fun _ => True) (.slice A1 p.f1.length c1) p.f1)
    (HO : k58.R 58 W base (fun _ => True) v xs) (HB : Below base wb W) (hbase : base ≤ W.heap.size) (hl : xs.length ≤ 1000)
    (h : ∀ v1 w1, k58.R 58 w1 base (fun _ => True) v1 (xs ++ [p]) → Below base wb w1 → W.grownBy w1 v.ownBlock → wpList Tryd.prog ops Q rest (a.put o.dst v1) w1) :
    wpList Tryd.prog ops Q (o :: rest) a (W.alloc (.cells #[.string p.f0, .slice A1 p.f1.length c1] 58)) := by
  subst hgs
  have HP2 := Kd.R_apartR HP HO (by decide)
  refine Kd.R_append k58 (w0 := wb) base hgd s x 22 58 _ 40 ho Tryd.underlying22 info58 rfl (by decide) (by decide) v xs p [.string p.f0, .slice A1 p.f1.length c1] (fun _ => True) (fun k => True ∧ some k ≠ v.ownBlock) hs hx (k58_mkM _ _ _ p HP2) (fun _ hk => hk) (fun _ _ => trivial) HO HB hbase (by omega) ?_
  intro v1 w1 h1 hb h2 _
  exact h v1 w1 h1 hb h2
theorem R_iter {α : Type} {d : Kd α} {e base : Nat} {ok : Nat → Prop} {W W1 : World} {v : Value} {xs : List α} {g : Nat} {f : List Int} {b r n : Nat} {D : DataW Unit} {left : Lit → Bool} {cnt : Nat} (h : d.R e W base ok v xs) (hr : W.ranges Tryd.prog 9 (valR g f) b r n D left cnt) (hg : W.grownBy W1 (some r)) : d.R e W1 base ok v xs := by
  obtain ⟨_, _, _, _, _, _, _, _, _, hit, _⟩ := hr
  refine Kd.R_mono (Kd.R_grown (Kd.R_mono (ok' := fun k => ok k ∧ k ≠ r) (Kd.R_bound h) (fun k hk => ⟨hk.1, fun e => ?_⟩)) hg (fun k hk e => hk.2 (Option.some.inj e))) (fun k hk => hk.1)
  obtain ⟨_, _, _, q, _, cells, hc⟩ := hk
  rw [e, hit] at hc
  cases hc
def B10 : List Nat := [0, 1, 3, 7, 7, 31, 63, 127, 7, 7, 519, 1799, 3847, 7943, 16383, 32767]
def upto (k : Nat) : Array Bool := (List.replicate k true ++ List.replicate (16 - k) false).toArray
noncomputable def T10 : Bool × List (List Nat × List Nat) := rtab .any (opsOf Tryd.f46 10)
theorem tab10 : rtab .any (opsOf Tryd.f46 10) = T10 := rfl
theorem bits10 : waitsOk T10.2 B10 = true := by kernel_rfl
def B12 : List Nat := [0, 0, 0, 0, 8, 0, 0, 64, 224, 480, 0, 0, 3072, 7168, 16355, 32739, 65535, 131071]
def upts (k : Nat) : Array Bool := (List.replicate k true ++ List.replicate (18 - k) false).toArray
noncomputable def T12 : Bool × List (List Nat × List Nat) := rtab .any (opsOf Tryd.f46 12)
theorem tab12 : rtab .any (opsOf Tryd.f46 12) = T12 := rfl
theorem bits12 : waitsOk T12.2 B12 = true := by kernel_rfl
theorem snoc_cases {α : Type} (l : List α) : l = [] ∨ ∃ r y, l = r ++ [y] := by
  induction l using snoc_ind with
  | nil => exact .inl rfl
  | snoc l x _ => exact .inr ⟨l, x, rfl⟩
set_option maxHeartbeats 8000000 in
set_option maxRecDepth 100000 in
theorem from46 (l : List S58) (n g gm : Nat) (f : List Int) (D : DataW Unit) (w : World) (hn : l.length = n) (hl : n ≤ 40) (hM : MapB g f gm n D l w) (hL : Lies g 0 f w) (hfi : InBytes f) (hfl : f.length ≤ 4096) (hi : Fine l)
    (once : ∀ i j : Nat, i < j → j < l.length → (l.getD i z58).f0 ≠ (l.getD j z58).f0) :
    Calls Tryd.prog 46 #[.map (some gm)] w fun e w' => ∃ B c ys, e = .returned (.slice B ys.length c) ∧ ys.length ≤ c ∧ k58.C w' B ys.length ys ∧ Below w.heap.size w w' ∧ Sorted ys ∧ ∀ y, y ∈ ys ↔ y ∈ l := by
  have HL := Lib.hid hn
  have MM := Lib.hid hM
  have LL := Lib.hid hL
  have FI := Lib.hid hfi
  have HI := Lib.hid hi
  have ON := Lib.hid once
  clear hn hM hL hfi hi once
  go_enter Tryd.func46, Tryd.ntmps46
  go_upto_block 0 with (first | (at_range; refine wpList_range_own _ rfl _ 99 rfl 9 33 key9 Tryd.underlying99 (valR g f) gm n D rfl MM.out.own ?_; intro w0 hrg0 hg0 hs0; have G0 := Lib.hid hrg0; have H0 := Lib.hid (show Below w.heap.size w w0 from ⟨hg0.os, hg0.tape, hg0.output, hg0.size, fun k hk => hg0.block k hk (by simp)⟩); clear hrg0 hg0 hs0))
  go_frame
  have hrw : gm < w.heap.size := MM.out.own.lt
  go_cut [3] (fun v3 wd => ∃ ys : List S58, Hid (k58.R 58 wd w.heap.size (fun _ => True) v3 ys) ∧ Hid (Below w.heap.size w wd) ∧ Hid ((ys.map fun y => kof y.f0).Nodup ∧ (∀ y ∈ ys, y ∈ l) ∧ ∀ s, has D (.string s) = true → s ∈ ys.map fun y => kof y.f0) ∧ ys.length ≤ n)
  case first =>
    go_wp2
    go_loopw [3] (fun v3 wr => ∃ (ys : List S58) (left : Lit → Bool) (cnt : Nat), Hid (k58.R 58 wr w.heap.size (fun _ => True) v3 ys) ∧ Hid (Below w.heap.size w wr) ∧ Hid (wr.ranges Tryd.prog 9 (valR g f) gm w.heap.size n D left cnt) ∧ Hid (Collected D left (ys.map fun y => kof y.f0)) ∧ ys.length + cnt ≤ n ∧ Hid (∀ y ∈ ys, y ∈ l)) (fun _ wr => wr.rangeLeft gm w.heap.size)
    case atStart => exact ⟨[], _, _, Lib.hid (Kd.R_nil _ _ _ _ _), H0, G0, Lib.hid (Collected.start D), by have := MM.out.own.size_le; simp; omega, Lib.hid (fun y hy => by simp at hy)⟩
    case round =>
      obtain ⟨ys, left, cnt, R1, B1, G1, C1, N1, Y1⟩ := hrel
      go_wp2_with (first | (at_next; refine wpList_next_ranges wr rfl _ rfl 9 key9 (valR g f) (fun x : List UInt8 => Value.string ⟨x.toArray⟩) (valV g) (fun key kl h => inv_key h) (fun v y h => valR_shape h) gm w.heap.size n D left cnt rfl G1.out ?_ ?_))
      · intro hc0 hl0
        go_wp2
        go_meet
        case rel => exact ⟨ys, R1, B1, Lib.hid ⟨C1.out.1, Y1.out, fun s hs => (C1.out.2 s).2 ⟨hs, hl0 _⟩⟩, by omega⟩
      · intro x co cm cc kl y1 y2 w1 cnt1 hkey hlk hRv hat hrg1 hlt hg1 hs1 hen
        obtain rfl := key_lit hkey
        have G2 := Lib.hid hrg1
        have C2 := Lib.hid (C1.out.step hlk hat)
        have hhas : has D (.string x) = true := has_true_of_atKey hat
        obtain ⟨x0, hx0, rfl⟩ := MM.out.non x hhas
        obtain ⟨e1, e2⟩ := MM.out.ent x0 hx0
        obtain ⟨z1, z2, z3⟩ := valR_inv hRv
        have e3 := (hat .nil).symm.trans e2
        rw [show y1 = _ from congrArg Prod.fst z3] at e3
        obtain ⟨q1, q2, q3, q4⟩ := HI.out x0 hx0
        have e4 : (f.drop co).take cm = x0.f1 := U8_inj ((FI.out.drop co).take cm) q1 (by injection e3 with e3; injection e3)
        have e5 : cm = x0.f1.length := by rw [← e4, List.length_take, List.length_drop]; simp only at z1; omega
        subst e5
        rw [kof_mk] at hen ⊢
        unfold valV at hen ⊢
        simp only at hen ⊢
        have R2 := Lib.hid (R_iter R1.out G1.out hg1)
        have B2 := Lib.hid (show Below w.heap.size w w1 from B1.out.grown hg1 B1.out.size (fun k hk => by obtain rfl := Option.some.inj hk; exact Nat.le_refl _))
        have hp0 := (LL.out.later B2.out).part co x0.f1.length
        rw [e4, Nat.zero_add] at hp0
        have CV := Lib.hid (C_of_lies hp0 (by omega))
        have EX := Lib.hid hx0
        have L1 := Lib.hid hlt
        obtain ⟨inner2, ho2⟩ := Kd.R_own R2.out
        have NR1 := Lib.hid (ne_iter9 ho2 G2.out)
        have NB1 := Lib.hid (ne_low9 ho2 hrw)
        have hvl : x0.f1.length ≤ 2147483647 := by omega
        have hyl : ys.length ≤ 1000 := by omega
        clear hp0 hkey hlk hRv hat hrg1 hg1 hs1 hlt e1 e2 e3 e4 q1 z1 z2 z3 hx0 ho2 hhas
        go_wp2_with (first
          | ((with_reducible refine gate_builtin (b := .append) (xs := #[.const (.slice none 0 0), .tmp 17]) rfl ?_); at_builtin; refine copy_bytes (wb := w1) w1.heap.size rfl (.const (.slice none 0 0)) (.tmp 17) rfl x0.f1 (some ⟨g, co, none⟩) x0.f1.length cc rfl rfl CV.out (Below.refl _ _) (Nat.le_refl _) hvl ?_; intro A4 c4 w4 hr hb hg; have B4 := Lib.hid (below_then B2.out B2.out.size hb); have V4 := Lib.hid (Kd.R_lower hr B2.out.size); have R4 := Lib.hid (Kd.R_below R2.out hb); have G4 := Lib.hid (G2.out.kept hg (by simp) (by simp)); clear hr hb hg)
          | ((with_reducible refine gate_builtin (b := .append) (xs := #[.tmp 15, .tmp 20]) rfl ?_); at_builtin; refine app58R (W := w4) (wb := w) w.heap.size rfl (.tmp 15) (.tmp 20) rfl u3 _ x0 A4 c4 rfl rfl (by simp) V4.out R4.out B4.out B4.out.size hyl ?_; intro v5 w5 hr hb hg; have R5 := Lib.hid hr; have B5 := Lib.hid hb; have G5 := Lib.hid (G4.out.kept hg NB1.out NR1.out); clear hr hb hg))
        go_roundw
        case rel => exact ⟨ys ++ [x0], _, cnt1, R5, B5, G5, Lib.hid (by rw [List.map_append]; exact C2.out), by rw [List.length_append, List.length_singleton]; have := L1.out; omega, Lib.hid (fun y hy => by rcases List.mem_append.1 hy with hy | hy; exact Y1.out y hy; obtain rfl := List.mem_singleton.1 hy; exact EX.out)⟩
        case measure => rw [G5.out.left_eq, G1.out.left_eq]; exact L1.out
  case rest =>
    rename World => wd
    obtain ⟨ys, R3, B3, K3, N3⟩ := hcut
    obtain ⟨A, c, rfl, hlc, _⟩ := Kd.R_reads R3.out
    obtain ⟨m, hm⟩ : ∃ m, m = ys.length := ⟨_, rfl⟩
    have HG := Lib.hid (show ∃ G, 0 < m → A = some ⟨G, 0, none⟩ from by
      by_cases h0 : 0 < ys.length
      · obtain ⟨g2, c2, e, _⟩ := Kd.R_form R3.out h0
        injection e with e _ _
        exact ⟨g2, fun _ => e⟩
      · exact ⟨0, fun h => absurd h (by omega)⟩)
    rw [← hm] at hlc R3 N3 ⊢
    have HM2 := Lib.hid hm
    clear hm
    obtain ⟨G, hG⟩ := HG.out
    have HG2 := Lib.hid hG
    clear hG HG
    go_wp2
    go_loopw [6] (fun v6 wr => ∃ (i : Nat) (zs : List S58), v6 = .int .i64 i ∧ 1 ≤ i ∧ (i ≤ m ∨ i = 1) ∧ Hid (k58.R 58 wr w.heap.size (fun _ => True) (.slice A m c) zs) ∧ Hid (Below w.heap.size w wr) ∧ Hid (zs.Perm ys) ∧ Hid (Sorted (zs.take i))) (fun v6 _ => m - (intOf v6).toNat)
    case atStart =>
      refine ⟨1, ys, rfl, by decide, .inr rfl, R3, B3, Lib.hid (List.Perm.refl _), Lib.hid ?_⟩
      cases ys with
      | nil => exact List.Pairwise.nil
      | cons a r => exact List.pairwise_singleton _ _
    case round =>
      obtain ⟨i, zs, rfl, hi1, hi2, R4, B4, P4, S4⟩ := hrel
      have ZL := Lib.hid (show zs.length = m from by rw [P4.out.length_eq, HM2.out])
      by_cases hlt : i < m
      · have j1 : decide ((i : Int) < (m : Int)) = true := decide_eq_true (by omega)
        obtain rfl := HG2.out (by omega)
        obtain ⟨x, hx⟩ : ∃ x, zs[i]? = some x := ⟨_, List.getElem?_eq_getElem (by rw [ZL.out]; exact hlt)⟩
        have Z1 := Lib.hid (show zs = zs.take i ++ x :: zs.drop (i + 1) from by
          have h := List.take_append_drop i zs
          rw [List.drop_eq_getElem_cons (by rw [ZL.out]; exact hlt)] at h
          have h2 : zs[i]'(by rw [ZL.out]; exact hlt) = x := by rw [List.getElem?_eq_getElem (by rw [ZL.out]; exact hlt)] at hx; exact Option.some.inj hx
          rw [h2] at h
          exact h.symm)
        obtain ⟨C, hC⟩ : ∃ C, C = zs.drop (i + 1) := ⟨_, rfl⟩
        have M0 := Lib.hid (Mid.start x S4.out)
        have LA := Lib.hid (show (zs.take i).length = i from by rw [List.length_take, ZL.out]; omega)
        go_wp2
        go_loopw [7] (fun v7 wi => ∃ (j : Nat) (A' B : List S58), v7 = .int .i64 j ∧ A'.length = j ∧ Hid (j + B.length = i) ∧ Hid (k58.R 58 wi w.heap.size (fun _ => True) (.slice (some ⟨G, 0, none⟩) m c) (A' ++ x :: (B ++ C))) ∧ Hid (Below w.heap.size w wi) ∧ Hid ((A' ++ x :: (B ++ C)).Perm ys) ∧ Hid (Mid A' x B)) (fun v7 _ => (intOf v7).toNat)
        case atStart => exact ⟨i, zs.take i, [], rfl, LA.out, Lib.hid (by simp), Lib.hid (by rw [List.nil_append, hC, ← Z1.out]; exact R4.out), B4, Lib.hid (by rw [List.nil_append, hC, ← Z1.out]; exact P4.out), M0⟩
        case round =>
          clear R4 B4 P4 S4 Z1 hC M0 LA ZL
          obtain ⟨j, A', B, rfl, hj, HB, R5, B5, P5, M5⟩ := hrel
          have L5 := Lib.hid (show (A' ++ x :: (B ++ C)).length = m from by rw [P5.out.length_eq, HM2.out])
          rcases snoc_cases A' with rfl | ⟨A1, y, rfl⟩
          · obtain rfl : 0 = j := hj
            go_wp2
            refine start_ (n := 16) (S := fun _ => True) (ds := []) (upto 0) (by kernel_rfl) rfl rfl trivial (fun hHeld => ?_)
            refine with_tabW tab10 bits10 (fun HT HW => ?_)
            refine pure_ (i := 0) (N := some 29) (v := ?_) (a' := ?_) (upto 1) rfl rfl (any_of HT.out (by kernel_rfl)) (fun _ _ _ h => h) (Or.inl ⟨by rfl, ?_⟩) ?_ ?_
            rotate_left
            · intro w'; go_simp; with_reducible rfl
            rotate_left
            · simp only [Act.put, List.setIfInBounds_toArray, List.set_cons_zero, List.set_cons_succ]; rfl
            refine pure_ (i := 1) (N := some 30) (v := ?_) (a' := ?_) (upto 2) rfl rfl (any_of HT.out (by kernel_rfl)) (fun _ _ _ h => h) (Or.inl ⟨by rfl, ?_⟩) ?_ ?_
            rotate_left
            · intro w'; go_simp; with_reducible rfl
            rotate_left
            · simp only [Act.put, List.setIfInBounds_toArray, List.set_cons_zero, List.set_cons_succ]; rfl
            refine pure_ (i := 2) (N := some 31) (v := ?_) (a' := ?_) (upto 3) rfl rfl (any_of HT.out (by kernel_rfl)) (fun _ _ _ h => h) (Or.inl ⟨by rfl, ?_⟩) ?_ ?_
            rotate_left
            · intro w'; go_simp; with_reducible rfl
            rotate_left
            · simp only [Act.put, List.setIfInBounds_toArray, List.set_cons_zero, List.set_cons_succ]; rfl
            refine pure_ (i := 3) (N := some 32) (v := undef) (a' := ?_) (upto 4) rfl rfl (any_of HT.out (by kernel_rfl)) (fun _ _ _ h => h) (Or.inr ⟨by rfl, rfl⟩) ?_ ?_
            rotate_left
            · simp only [Act.put, List.setIfInBounds_toArray, List.set_cons_zero, List.set_cons_succ]; rfl
            refine pure_ (i := 4) (N := some 33) (v := undef) (a' := ?_) (upto 5) rfl rfl (any_of HT.out (by kernel_rfl)) (fun _ _ _ h => h) (Or.inr ⟨by rfl, rfl⟩) ?_ ?_
            rotate_left
            · simp only [Act.put, List.setIfInBounds_toArray, List.set_cons_zero, List.set_cons_succ]; rfl
            refine pure_ (i := 5) (N := some 34) (v := undef) (a' := ?_) (upto 6) rfl rfl (any_of HT.out (by kernel_rfl)) (fun _ _ _ h => h) (Or.inr ⟨by rfl, rfl⟩) ?_ ?_
            rotate_left
            · simp only [Act.put, List.setIfInBounds_toArray, List.set_cons_zero, List.set_cons_succ]; rfl
            refine pure_ (i := 6) (N := some 35) (v := undef) (a' := ?_) (upto 7) rfl rfl (any_of HT.out (by kernel_rfl)) (fun _ _ _ h => h) (Or.inr ⟨by rfl, rfl⟩) ?_ ?_
            rotate_left
            · simp only [Act.put, List.setIfInBounds_toArray, List.set_cons_zero, List.set_cons_succ]; rfl
            refine pure_ (i := 7) (N := some 36) (v := undef) (a' := ?_) (upto 8) rfl rfl (any_of HT.out (by kernel_rfl)) (fun _ _ _ h => h) (Or.inr ⟨by rfl, rfl⟩) ?_ ?_
            rotate_left
            · simp only [Act.put, List.setIfInBounds_toArray, List.set_cons_zero, List.set_cons_succ]; rfl
            refine pure_ (i := 8) (N := some 37) (v := undef) (a' := ?_) (upto 9) rfl rfl (any_of HT.out (by kernel_rfl)) (fun _ _ _ h => h) (Or.inr ⟨by rfl, rfl⟩) ?_ ?_
            rotate_left
            · simp only [Act.put, List.setIfInBounds_toArray, List.set_cons_zero, List.set_cons_succ]; rfl
            refine pure_ (i := 9) (N := some 38) (v := undef) (a' := ?_) (upto 10) rfl rfl (any_of HT.out (by kernel_rfl)) (fun _ _ _ h => h) (Or.inr ⟨by rfl, rfl⟩) ?_ ?_
            rotate_left
            · simp only [Act.put, List.setIfInBounds_toArray, List.set_cons_zero, List.set_cons_succ]; rfl
            refine pure_ (i := 10) (N := some 39) (v := undef) (a' := ?_) (upto 11) rfl rfl (any_of HT.out (by kernel_rfl)) (fun _ _ _ h => h) (Or.inr ⟨by rfl, rfl⟩) ?_ ?_
            rotate_left
            · simp only [Act.put, List.setIfInBounds_toArray, List.set_cons_zero, List.set_cons_succ]; rfl
            refine pure_ (i := 11) (N := some 40) (v := undef) (a' := ?_) (upto 12) rfl rfl (any_of HT.out (by kernel_rfl)) (fun _ _ _ h => h) (Or.inr ⟨by rfl, rfl⟩) ?_ ?_
            rotate_left
            · simp only [Act.put, List.setIfInBounds_toArray, List.set_cons_zero, List.set_cons_succ]; rfl
            refine pure_ (i := 12) (N := some 41) (v := undef) (a' := ?_) (upto 13) rfl rfl (any_of HT.out (by kernel_rfl)) (fun _ _ _ h => h) (Or.inr ⟨by rfl, rfl⟩) ?_ ?_
            rotate_left
            · simp only [Act.put, List.setIfInBounds_toArray, List.set_cons_zero, List.set_cons_succ]; rfl
            refine pure_ (i := 13) (N := some 42) (v := undef) (a' := ?_) (upto 14) rfl rfl (any_of HT.out (by kernel_rfl)) (fun _ _ _ h => h) (Or.inr ⟨by rfl, rfl⟩) ?_ ?_
            rotate_left
            · simp only [Act.put, List.setIfInBounds_toArray, List.set_cons_zero, List.set_cons_succ]; rfl
            refine pure_ (i := 14) (N := some 43) (v := undef) (a' := ?_) (upto 15) rfl rfl (any_of HT.out (by kernel_rfl)) (fun _ _ _ h => h) (Or.inr ⟨by rfl, rfl⟩) ?_ ?_
            rotate_left
            · simp only [Act.put, List.setIfInBounds_toArray, List.set_cons_zero, List.set_cons_succ]; rfl
            refine pure_ (i := 15) (N := some 44) (v := ?_) (a' := ?_) (upto 16) rfl rfl (any_of HT.out (by kernel_rfl)) (fun _ _ _ h => h) (Or.inl ⟨by rfl, ?_⟩) ?_ ?_
            rotate_left
            · intro w'; go_simp; with_reducible rfl
            rotate_left
            · simp only [Act.put, List.setIfInBounds_toArray, List.set_cons_zero, List.set_cons_succ]; rfl
            refine done_ (done_of HT.out (by kernel_rfl)) ?_
            go_wp2
            go_roundw
            case rel =>
              have hb := HB.out
              rw [Nat.zero_add] at hb
              exact ⟨i + 1, x :: (B ++ C), by push_cast; rfl, by omega, .inl (by omega), Lib.hid (Kd.R_drew R5.out), Lib.hid (below_drew B5.out), P5, Lib.hid (by rw [List.take_succ_cons, List.take_append_of_le_length (by omega), List.take_of_length_le (by omega)]; exact M5.out.done0)⟩
            case measure => simp only [intOf]; omega
          · have hk : A1.length + 1 = j := by rw [← hj, List.length_append, List.length_singleton]
            obtain ⟨k, hk2⟩ : ∃ k, k = A1.length := ⟨_, rfl⟩
            have hjk : j = k + 1 := by omega
            have E0 : A1 ++ [y] ++ x :: (B ++ C) = A1 ++ y :: x :: (B ++ C) := by simp
            rw [E0] at R5 P5 L5
            have g1 : (A1 ++ y :: x :: (B ++ C)).getD j z58 = x := by rw [hjk, hk2, List.getD_eq_getElem?_getD, List.getElem?_append_right (by omega), show A1.length + 1 - A1.length = 1 by omega]; rfl
            have g2 : (A1 ++ y :: x :: (B ++ C)).getD k z58 = y := by rw [hk2, List.getD_eq_getElem?_getD, List.getElem?_append_right (by omega), Nat.sub_self]; rfl
            have hjm : j < m := by have := L5.out; rw [List.length_append] at this; simp only [List.length_cons] at this; omega
            have hsw := swap58 R5.out j k hjm (by omega) (by omega)
            rw [g1, g2, show ((A1 ++ y :: x :: (B ++ C)).set j y).set k x = A1 ++ x :: y :: (B ++ C) from by rw [hjk, hk2]; exact swap_list A1 (B ++ C) y x] at hsw
            have hsw0 := swap58 (Kd.R_drew R5.out) j k hjm (by omega) (by omega)
            rw [g1, g2] at hsw0
            obtain ⟨-, -, -, -, -, -, -, -, -, -, ⟨s0, -, -, -⟩, ⟨s1, -, -, -⟩, -⟩ := hsw0
            obtain ⟨X1, n1, y1, X2, n2, y2, _, _, rfl, rfl, ⟨a0, a1, f0, f1⟩, ⟨b0, b1, h0, h1⟩, hR⟩ := hsw
            have R6 := Lib.hid hR
            have u1 : IntKind.i64.wrap ((j : Int) - 1) = (k : Int) := by rw [IntWalk.i64_in _ (by omega)]; omega
            have u2 : decide ((0 : Int) < (j : Int)) = true := decide_eq_true (by omega)
            have u7 : decide (0 < j) = true := decide_eq_true (by omega)
            have u8 : k < m := by omega
            have o1 : (k = j) = False := eq_false (by omega)
            have o2 : (j = k) = False := eq_false (by omega)
            have o3 : (k * 2 = j * 2 + 1) = False := eq_false (by omega)
            have o4 : (j * 2 + 1 = k * 2) = False := eq_false (by omega)
            have o5 : (k * 2 + 1 = j * 2) = False := eq_false (by omega)
            have o6 : (j * 2 = k * 2 + 1) = False := eq_false (by omega)
            have o7 : (j * 2 = k * 2) = False := eq_false (by omega)
            have o8 : (k * 2 = j * 2) = False := eq_false (by omega)
            have o9 : (j * 2 + 1 = k * 2 + 1) = False := eq_false (by omega)
            have o10 : (k * 2 + 1 = j * 2 + 1) = False := eq_false (by omega)
            have u3 : (0 ≤ (j : Int)) = True := eq_true (by omega)
            have u4 : ((j : Int) < (m : Int)) = True := eq_true (by omega)
            have u5 : (0 ≤ (k : Int)) = True := eq_true (by omega)
            have u6 : ((k : Int) < (m : Int)) = True := eq_true (by omega)
            have HK := Lib.hid hk2
            have HJ := Lib.hid hjk
            have GB := Lib.hid (show w.heap.size ≤ G from by obtain ⟨inner, ho⟩ := Kd.R_own R5.out; exact own_base ho G (by simp [Value.ownBlock]))
            have NE := Lib.hid (show x.f0 ≠ y.f0 from by
              have h := ((P5.out.map fun y => kof y.f0).nodup_iff).2 K3.out.1
              rw [List.map_append, List.nodup_append] at h
              have h2 := h.2.1
              rw [List.map_cons, List.nodup_cons] at h2
              exact fun e => h2.1 (by rw [List.map_cons, ← e]; exact List.mem_cons_self ..))
            have ET := Lib.hid (show (A1 ++ y :: x :: (B ++ C)).take (i + 1) = A1 ++ [y] ++ x :: B from by
              have e : A1 ++ y :: x :: (B ++ C) = (A1 ++ [y] ++ x :: B) ++ C := by simp
              rw [e]
              refine List.take_left' ?_
              have := HB.out
              simp only [List.length_append, List.length_cons, List.length_nil]
              omega)
            clear hR g1 g2 E0 hk hk2 hj hjk
            cases hxy : Op.bytesLess x.f0.toList y.f0.toList with
            | true =>
              go_wp2
              refine start_ (n := 16) (S := fun w' => w'.cell? ⟨G, j * 2, none⟩ = some (.string x.f0) ∧ w'.cell? ⟨G, k * 2, none⟩ = some (.string y.f0)) (ds := []) (upto 0) (by kernel_rfl) rfl rfl ⟨s0, s1⟩ (fun hHeld => ?_)
              refine with_tabW tab10 bits10 (fun HT HW => ?_)
              refine pure_ (i := 0) (N := some 29) (v := ?_) (a' := ?_) (upto 1) rfl rfl (any_of HT.out (by kernel_rfl)) (fun _ _ _ h => h) (Or.inl ⟨by rfl, ?_⟩) ?_ ?_
              rotate_left
              · intro w'; go_simp; with_reducible rfl
              rotate_left
              · simp only [Act.put, List.setIfInBounds_toArray, List.set_cons_zero, List.set_cons_succ]; rfl
              refine pure_ (i := 1) (N := some 30) (v := ?_) (a' := ?_) (upto 2) rfl rfl (any_of HT.out (by kernel_rfl)) (fun _ _ _ h => h) (Or.inl ⟨by rfl, ?_⟩) ?_ ?_
              rotate_left
              · intro w'; go_simp; with_reducible rfl
              rotate_left
              · simp only [Act.put, List.setIfInBounds_toArray, List.set_cons_zero, List.set_cons_succ]; rfl
              refine pure_ (i := 2) (N := some 31) (v := ?_) (a' := ?_) (upto 3) rfl rfl (any_of HT.out (by kernel_rfl)) (fun _ _ _ h => h) (Or.inl ⟨by rfl, ?_⟩) ?_ ?_
              rotate_left
              · intro w'; go_simp; with_reducible rfl
              rotate_left
              · simp only [Act.put, List.setIfInBounds_toArray, List.set_cons_zero, List.set_cons_succ]; rfl
              refine pure_ (i := 3) (N := some 32) (v := ?_) (a' := ?_) (upto 4) rfl rfl (any_of HT.out (by kernel_rfl)) (fun _ _ _ h => h) (Or.inl ⟨by rfl, ?_⟩) ?_ ?_
              rotate_left
              · intro w'; go_simp; with_reducible rfl
              rotate_left
              · simp only [Act.put, List.setIfInBounds_toArray, List.set_cons_zero, List.set_cons_succ]; rfl
              refine pure_ (i := 4) (N := some 33) (v := ?_) (a' := ?_) (upto 5) rfl rfl (any_of HT.out (by kernel_rfl)) (fun _ _ _ h => h) (Or.inl ⟨by rfl, ?_⟩) ?_ ?_
              rotate_left
              · intro w'; go_simp; with_reducible rfl
              rotate_left
              · simp only [Act.put, List.setIfInBounds_toArray, List.set_cons_zero, List.set_cons_succ]; rfl
              refine pure_ (i := 5) (N := some 34) (v := ?_) (a' := ?_) (upto 6) rfl rfl (any_of HT.out (by kernel_rfl)) (fun _ _ _ h => h) (Or.inl ⟨by rfl, ?_⟩) ?_ ?_
              rotate_left
              · intro w'; go_simp; with_reducible rfl
              rotate_left
              · simp only [Act.put, List.setIfInBounds_toArray, List.set_cons_zero, List.set_cons_succ]; rfl
              refine pure_ (i := 6) (N := some 35) (v := ?_) (a' := ?_) (upto 7) rfl rfl (any_of HT.out (by kernel_rfl)) (fun _ _ _ h => h) (Or.inl ⟨by rfl, ?_⟩) ?_ ?_
              rotate_left
              · intro w'; go_simp; with_reducible rfl
              rotate_left
              · simp only [Act.put, List.setIfInBounds_toArray, List.set_cons_zero, List.set_cons_succ]; rfl
              refine take_ (i := 7) (N := some 36) (v := ?_) (a' := ?_) (upto 8) rfl rfl (take_ofW HT.out HW.out (by kernel_rfl)) (fun _ _ _ h => h) (Or.inl ⟨by rfl, ?_⟩) hHeld ?_ ?_
              rotate_left
              · rintro w' ⟨s0, s1⟩; go_simp; with_reducible rfl
              rotate_left
              · simp only [Act.put, List.setIfInBounds_toArray, List.set_cons_zero, List.set_cons_succ]; rfl
              refine pure_ (i := 8) (N := some 37) (v := ?_) (a' := ?_) (upto 9) rfl rfl (any_of HT.out (by kernel_rfl)) (fun _ _ _ h => h) (Or.inl ⟨by rfl, ?_⟩) ?_ ?_
              rotate_left
              · intro w'; go_simp; with_reducible rfl
              rotate_left
              · simp only [Act.put, List.setIfInBounds_toArray, List.set_cons_zero, List.set_cons_succ]; rfl
              refine pure_ (i := 9) (N := some 38) (v := ?_) (a' := ?_) (upto 10) rfl rfl (any_of HT.out (by kernel_rfl)) (fun _ _ _ h => h) (Or.inl ⟨by rfl, ?_⟩) ?_ ?_
              rotate_left
              · intro w'; go_simp; with_reducible rfl
              rotate_left
              · simp only [Act.put, List.setIfInBounds_toArray, List.set_cons_zero, List.set_cons_succ]; rfl
              refine pure_ (i := 10) (N := some 39) (v := ?_) (a' := ?_) (upto 11) rfl rfl (any_of HT.out (by kernel_rfl)) (fun _ _ _ h => h) (Or.inl ⟨by rfl, ?_⟩) ?_ ?_
              rotate_left
              · intro w'; go_simp; with_reducible rfl
              rotate_left
              · simp only [Act.put, List.setIfInBounds_toArray, List.set_cons_zero, List.set_cons_succ]; rfl
              refine pure_ (i := 11) (N := some 40) (v := ?_) (a' := ?_) (upto 12) rfl rfl (any_of HT.out (by kernel_rfl)) (fun _ _ _ h => h) (Or.inl ⟨by rfl, ?_⟩) ?_ ?_
              rotate_left
              · intro w'; go_simp; with_reducible rfl
              rotate_left
              · simp only [Act.put, List.setIfInBounds_toArray, List.set_cons_zero, List.set_cons_succ]; rfl
              refine pure_ (i := 12) (N := some 41) (v := ?_) (a' := ?_) (upto 13) rfl rfl (any_of HT.out (by kernel_rfl)) (fun _ _ _ h => h) (Or.inl ⟨by rfl, ?_⟩) ?_ ?_
              rotate_left
              · intro w'; go_simp; with_reducible rfl
              rotate_left
              · simp only [Act.put, List.setIfInBounds_toArray, List.set_cons_zero, List.set_cons_succ]; rfl
              refine take_ (i := 13) (N := some 42) (v := ?_) (a' := ?_) (upto 14) rfl rfl (take_ofW HT.out HW.out (by kernel_rfl)) (fun _ _ _ h => h) (Or.inl ⟨by rfl, ?_⟩) hHeld ?_ ?_
              rotate_left
              · rintro w' ⟨s0, s1⟩; go_simp; with_reducible rfl
              rotate_left
              · simp only [Act.put, List.setIfInBounds_toArray, List.set_cons_zero, List.set_cons_succ]; rfl
              refine pure_ (i := 14) (N := some 43) (v := ?_) (a' := ?_) (upto 15) rfl rfl (any_of HT.out (by kernel_rfl)) (fun _ _ _ h => h) (Or.inl ⟨by rfl, ?_⟩) ?_ ?_
              rotate_left
              · intro w'; go_simp; with_reducible rfl
              rotate_left
              · simp only [Act.put, List.setIfInBounds_toArray, List.set_cons_zero, List.set_cons_succ]; rfl
              refine pure_ (i := 15) (N := some 44) (v := ?_) (a' := ?_) (upto 16) rfl rfl (any_of HT.out (by kernel_rfl)) (fun _ _ _ h => h) (Or.inl ⟨by rfl, ?_⟩) ?_ ?_
              rotate_left
              · intro w'; go_simp; with_reducible rfl
              rotate_left
              · simp only [Act.put, List.setIfInBounds_toArray, List.set_cons_zero, List.set_cons_succ]; rfl
              refine done_ (done_of HT.out (by kernel_rfl)) ?_
              go_wp2
              refine start_ (n := 18) (S := fun w' => w'.cell? ⟨G, j * 2, none⟩ = some (.string x.f0) ∧ w'.cell? ⟨G, j * 2 + 1, none⟩ = some (.slice X1 n1 y1) ∧ w'.cell? ⟨G, k * 2, none⟩ = some (.string y.f0) ∧ w'.cell? ⟨G, k * 2 + 1, none⟩ = some (.slice X2 n2 y2)) (ds := [15, 17]) (upts 0) (by kernel_rfl) rfl rfl ⟨a0, a1, b0, b1⟩ (fun hHeld => ?_)
              refine with_tabW tab12 bits12 (fun HT HW => ?_)
              refine pure_ (i := 0) (N := (some 47)) (v := ?_) (a' := ?_) (upts 1) rfl rfl (any_of HT.out (by kernel_rfl)) (fun _ _ _ h => h) (Or.inl ⟨by rfl, ?_⟩) ?_ ?_
              rotate_left
              · intro w'; go_simp; with_reducible rfl
              rotate_left
              · simp only [Act.put, List.setIfInBounds_toArray, List.set_cons_zero, List.set_cons_succ]; rfl
              refine pure_ (i := 1) (N := (some 48)) (v := ?_) (a' := ?_) (upts 2) rfl rfl (any_of HT.out (by kernel_rfl)) (fun _ _ _ h => h) (Or.inl ⟨by rfl, ?_⟩) ?_ ?_
              rotate_left
              · intro w'; go_simp; with_reducible rfl
              rotate_left
              · simp only [Act.put, List.setIfInBounds_toArray, List.set_cons_zero, List.set_cons_succ]; rfl
              refine pure_ (i := 2) (N := (some 49)) (v := ?_) (a' := ?_) (upts 3) rfl rfl (any_of HT.out (by kernel_rfl)) (fun _ _ _ h => h) (Or.inl ⟨by rfl, ?_⟩) ?_ ?_
              rotate_left
              · intro w'; go_simp; with_reducible rfl
              rotate_left
              · simp only [Act.put, List.setIfInBounds_toArray, List.set_cons_zero, List.set_cons_succ]; rfl
              refine pure_ (i := 3) (N := (some 50)) (v := ?_) (a' := ?_) (upts 4) rfl rfl (any_of HT.out (by kernel_rfl)) (fun _ _ _ h => h) (Or.inl ⟨by rfl, ?_⟩) ?_ ?_
              rotate_left
              · intro w'; go_simp; with_reducible rfl
              rotate_left
              · simp only [Act.put, List.setIfInBounds_toArray, List.set_cons_zero, List.set_cons_succ]; rfl
              refine pure_ (i := 4) (N := (some 51)) (v := ?_) (a' := ?_) (upts 5) rfl rfl (any_of HT.out (by kernel_rfl)) (fun _ _ _ h => h) (Or.inl ⟨by rfl, ?_⟩) ?_ ?_
              rotate_left
              · intro w'; go_simp; with_reducible rfl
              rotate_left
              · simp only [Act.put, List.setIfInBounds_toArray, List.set_cons_zero, List.set_cons_succ]; rfl
              refine pure_ (i := 5) (N := (some 52)) (v := ?_) (a' := ?_) (upts 6) rfl rfl (any_of HT.out (by kernel_rfl)) (fun _ _ _ h => h) (Or.inl ⟨by rfl, ?_⟩) ?_ ?_
              rotate_left
              · intro w'; go_simp; with_reducible rfl
              rotate_left
              · simp only [Act.put, List.setIfInBounds_toArray, List.set_cons_zero, List.set_cons_succ]; rfl
              refine pure_ (i := 6) (N := (some 53)) (v := ?_) (a' := ?_) (upts 7) rfl rfl (any_of HT.out (by kernel_rfl)) (fun _ _ _ h => h) (Or.inl ⟨by rfl, ?_⟩) ?_ ?_
              rotate_left
              · intro w'; go_simp; with_reducible rfl
              rotate_left
              · simp only [Act.put, List.setIfInBounds_toArray, List.set_cons_zero, List.set_cons_succ]; rfl
              refine pure_ (i := 7) (N := (some 54)) (v := ?_) (a' := ?_) (upts 8) rfl rfl (any_of HT.out (by kernel_rfl)) (fun _ _ _ h => h) (Or.inl ⟨by rfl, ?_⟩) ?_ ?_
              rotate_left
              · intro w'; go_simp; with_reducible rfl
              rotate_left
              · simp only [Act.put, List.setIfInBounds_toArray, List.set_cons_zero, List.set_cons_succ]; rfl
              refine pure_ (i := 8) (N := (some 55)) (v := ?_) (a' := ?_) (upts 9) rfl rfl (any_of HT.out (by kernel_rfl)) (fun _ _ _ h => h) (Or.inl ⟨by rfl, ?_⟩) ?_ ?_
              rotate_left
              · intro w'; go_simp; with_reducible rfl
              rotate_left
              · simp only [Act.put, List.setIfInBounds_toArray, List.set_cons_zero, List.set_cons_succ]; rfl
              refine take_ (i := 9) (N := (some 56)) (v := ?_) (a' := ?_) (upts 10) rfl rfl (take_ofW HT.out HW.out (by kernel_rfl)) (fun _ _ _ h => h) (Or.inl ⟨by rfl, ?_⟩) hHeld ?_ ?_
              rotate_left
              · rintro w' ⟨s0, s1, s2, s3⟩; go_simp; with_reducible rfl
              rotate_left
              · simp only [Act.put, List.setIfInBounds_toArray, List.set_cons_zero, List.set_cons_succ]; rfl
              refine pure_ (i := 10) (N := (some 57)) (v := ?_) (a' := ?_) (upts 11) rfl rfl (any_of HT.out (by kernel_rfl)) (fun _ _ _ h => h) (Or.inl ⟨by rfl, ?_⟩) ?_ ?_
              rotate_left
              · intro w'; go_simp; with_reducible rfl
              rotate_left
              · simp only [Act.put, List.setIfInBounds_toArray, List.set_cons_zero, List.set_cons_succ]; rfl
              refine pure_ (i := 11) (N := (some 58)) (v := ?_) (a' := ?_) (upts 12) rfl rfl (any_of HT.out (by kernel_rfl)) (fun _ _ _ h => h) (Or.inl ⟨by rfl, ?_⟩) ?_ ?_
              rotate_left
              · intro w'; go_simp; with_reducible rfl
              rotate_left
              · simp only [Act.put, List.setIfInBounds_toArray, List.set_cons_zero, List.set_cons_succ]; rfl
              refine pure_ (i := 12) (N := (some 59)) (v := ?_) (a' := ?_) (upts 13) rfl rfl (any_of HT.out (by kernel_rfl)) (fun _ _ _ h => h) (Or.inl ⟨by rfl, ?_⟩) ?_ ?_
              rotate_left
              · intro w'; go_simp; with_reducible rfl
              rotate_left
              · simp only [Act.put, List.setIfInBounds_toArray, List.set_cons_zero, List.set_cons_succ]; rfl
              refine take_ (i := 13) (N := (some 60)) (v := ?_) (a' := ?_) (upts 14) rfl rfl (take_ofW HT.out HW.out (by kernel_rfl)) (fun _ _ _ h => h) (Or.inl ⟨by rfl, ?_⟩) hHeld ?_ ?_
              rotate_left
              · rintro w' ⟨s0, s1, s2, s3⟩; go_simp; with_reducible rfl
              rotate_left
              · simp only [Act.put, List.setIfInBounds_toArray, List.set_cons_zero, List.set_cons_succ]; rfl
              refine pure_ (i := 14) (N := (some 61)) (v := ?_) (a' := ?_) (upts 15) rfl rfl (any_of HT.out (by kernel_rfl)) (fun _ _ _ h => h) (Or.inl ⟨by rfl, ?_⟩) ?_ ?_
              rotate_left
              · intro w'; go_simp; with_reducible rfl
              rotate_left
              · simp only [Act.put, List.setIfInBounds_toArray, List.set_cons_zero, List.set_cons_succ]; rfl
              refine last_ (i := 15) (N := none) (upts 16) rfl rfl (one_of HT.out (by kernel_rfl)) (by decide) (fun K hK => ?_)
              go_simp
              refine hK.out _ _ ?_
              clear hK
              refine pure_ (i := 16) (N := (some 62)) (v := ?_) (a' := ?_) (upts 17) rfl rfl (any_of HT.out (by kernel_rfl)) (fun _ _ _ h => h) (Or.inl ⟨by rfl, ?_⟩) ?_ ?_
              rotate_left
              · intro w'; go_simp; with_reducible rfl
              rotate_left
              · simp only [Act.put, List.setIfInBounds_toArray, List.set_cons_zero, List.set_cons_succ]; rfl
              refine last_ (i := 17) (N := none) (upts 18) rfl rfl (one_of HT.out (by kernel_rfl)) (by decide) (fun K hK => ?_)
              go_simp
              refine hK.out _ _ ?_
              clear hK
              refine done_ (done_of HT.out (by kernel_rfl)) ?_
              go_wp2
              go_roundw
              case rel =>
                have := HB.out
                have := HJ.out
                exact ⟨k, A1, y :: B, rfl, HK.out.symm, Lib.hid (by rw [List.length_cons]; omega), Lib.hid (Kd.R_drew (Kd.R_drew R6.out)), Lib.hid (below_drew (below_drew (below_set (below_set (below_set (below_set B5.out GB.out) GB.out) GB.out) GB.out))), Lib.hid ((swap_perm A1 (B ++ C) y x).trans P5.out), Lib.hid (M5.out.step hxy)⟩
              case measure => have := HJ.out; simp only [intOf]; omega
            | false =>
              go_wp2
              refine start_ (n := 16) (S := fun w' => w'.cell? ⟨G, j * 2, none⟩ = some (.string x.f0) ∧ w'.cell? ⟨G, k * 2, none⟩ = some (.string y.f0)) (ds := []) (upto 0) (by kernel_rfl) rfl rfl ⟨s0, s1⟩ (fun hHeld => ?_)
              refine with_tabW tab10 bits10 (fun HT HW => ?_)
              refine pure_ (i := 0) (N := some 29) (v := ?_) (a' := ?_) (upto 1) rfl rfl (any_of HT.out (by kernel_rfl)) (fun _ _ _ h => h) (Or.inl ⟨by rfl, ?_⟩) ?_ ?_
              rotate_left
              · intro w'; go_simp; with_reducible rfl
              rotate_left
              · simp only [Act.put, List.setIfInBounds_toArray, List.set_cons_zero, List.set_cons_succ]; rfl
              refine pure_ (i := 1) (N := some 30) (v := ?_) (a' := ?_) (upto 2) rfl rfl (any_of HT.out (by kernel_rfl)) (fun _ _ _ h => h) (Or.inl ⟨by rfl, ?_⟩) ?_ ?_
              rotate_left
              · intro w'; go_simp; with_reducible rfl
              rotate_left
              · simp only [Act.put, List.setIfInBounds_toArray, List.set_cons_zero, List.set_cons_succ]; rfl
              refine pure_ (i := 2) (N := some 31) (v := ?_) (a' := ?_) (upto 3) rfl rfl (any_of HT.out (by kernel_rfl)) (fun _ _ _ h => h) (Or.inl ⟨by rfl, ?_⟩) ?_ ?_
              rotate_left
              · intro w'; go_simp; with_reducible rfl
              rotate_left
              · simp only [Act.put, List.setIfInBounds_toArray, List.set_cons_zero, List.set_cons_succ]; rfl
              refine pure_ (i := 3) (N := some 32) (v := ?_) (a' := ?_) (upto 4) rfl rfl (any_of HT.out (by kernel_rfl)) (fun _ _ _ h => h) (Or.inl ⟨by rfl, ?_⟩) ?_ ?_
              rotate_left
              · intro w'; go_simp; with_reducible rfl
              rotate_left
              · simp only [Act.put, List.setIfInBounds_toArray, List.set_cons_zero, List.set_cons_succ]; rfl
              refine pure_ (i := 4) (N := some 33) (v := ?_) (a' := ?_) (upto 5) rfl rfl (any_of HT.out (by kernel_rfl)) (fun _ _ _ h => h) (Or.inl ⟨by rfl, ?_⟩) ?_ ?_
              rotate_left
              · intro w'; go_simp; with_reducible rfl
              rotate_left
              · simp only [Act.put, List.setIfInBounds_toArray, List.set_cons_zero, List.set_cons_succ]; rfl
              refine pure_ (i := 5) (N := some 34) (v := ?_) (a' := ?_) (upto 6) rfl rfl (any_of HT.out (by kernel_rfl)) (fun _ _ _ h => h) (Or.inl ⟨by rfl, ?_⟩) ?_ ?_
              rotate_left
              · intro w'; go_simp; with_reducible rfl
              rotate_left
              · simp only [Act.put, List.setIfInBounds_toArray, List.set_cons_zero, List.set_cons_succ]; rfl
              refine pure_ (i := 6) (N := some 35) (v := ?_) (a' := ?_) (upto 7) rfl rfl (any_of HT.out (by kernel_rfl)) (fun _ _ _ h => h) (Or.inl ⟨by rfl, ?_⟩) ?_ ?_
              rotate_left
              · intro w'; go_simp; with_reducible rfl
              rotate_left
              · simp only [Act.put, List.setIfInBounds_toArray, List.set_cons_zero, List.set_cons_succ]; rfl
              refine take_ (i := 7) (N := some 36) (v := ?_) (a' := ?_) (upto 8) rfl rfl (take_ofW HT.out HW.out (by kernel_rfl)) (fun _ _ _ h => h) (Or.inl ⟨by rfl, ?_⟩) hHeld ?_ ?_
              rotate_left
              · rintro w' ⟨s0, s1⟩; go_simp; with_reducible rfl
              rotate_left
              · simp only [Act.put, List.setIfInBounds_toArray, List.set_cons_zero, List.set_cons_succ]; rfl
              refine pure_ (i := 8) (N := some 37) (v := ?_) (a' := ?_) (upto 9) rfl rfl (any_of HT.out (by kernel_rfl)) (fun _ _ _ h => h) (Or.inl ⟨by rfl, ?_⟩) ?_ ?_
              rotate_left
              · intro w'; go_simp; with_reducible rfl
              rotate_left
              · simp only [Act.put, List.setIfInBounds_toArray, List.set_cons_zero, List.set_cons_succ]; rfl
              refine pure_ (i := 9) (N := some 38) (v := ?_) (a' := ?_) (upto 10) rfl rfl (any_of HT.out (by kernel_rfl)) (fun _ _ _ h => h) (Or.inl ⟨by rfl, ?_⟩) ?_ ?_
              rotate_left
              · intro w'; go_simp; with_reducible rfl
              rotate_left
              · simp only [Act.put, List.setIfInBounds_toArray, List.set_cons_zero, List.set_cons_succ]; rfl
              refine pure_ (i := 10) (N := some 39) (v := ?_) (a' := ?_) (upto 11) rfl rfl (any_of HT.out (by kernel_rfl)) (fun _ _ _ h => h) (Or.inl ⟨by rfl, ?_⟩) ?_ ?_
              rotate_left
              · intro w'; go_simp; with_reducible rfl
              rotate_left
              · simp only [Act.put, List.setIfInBounds_toArray, List.set_cons_zero, List.set_cons_succ]; rfl
              refine pure_ (i := 11) (N := some 40) (v := ?_) (a' := ?_) (upto 12) rfl rfl (any_of HT.out (by kernel_rfl)) (fun _ _ _ h => h) (Or.inl ⟨by rfl, ?_⟩) ?_ ?_
              rotate_left
              · intro w'; go_simp; with_reducible rfl
              rotate_left
              · simp only [Act.put, List.setIfInBounds_toArray, List.set_cons_zero, List.set_cons_succ]; rfl
              refine pure_ (i := 12) (N := some 41) (v := ?_) (a' := ?_) (upto 13) rfl rfl (any_of HT.out (by kernel_rfl)) (fun _ _ _ h => h) (Or.inl ⟨by rfl, ?_⟩) ?_ ?_
              rotate_left
              · intro w'; go_simp; with_reducible rfl
              rotate_left
              · simp only [Act.put, List.setIfInBounds_toArray, List.set_cons_zero, List.set_cons_succ]; rfl
              refine take_ (i := 13) (N := some 42) (v := ?_) (a' := ?_) (upto 14) rfl rfl (take_ofW HT.out HW.out (by kernel_rfl)) (fun _ _ _ h => h) (Or.inl ⟨by rfl, ?_⟩) hHeld ?_ ?_
              rotate_left
              · rintro w' ⟨s0, s1⟩; go_simp; with_reducible rfl
              rotate_left
              · simp only [Act.put, List.setIfInBounds_toArray, List.set_cons_zero, List.set_cons_succ]; rfl
              refine pure_ (i := 14) (N := some 43) (v := ?_) (a' := ?_) (upto 15) rfl rfl (any_of HT.out (by kernel_rfl)) (fun _ _ _ h => h) (Or.inl ⟨by rfl, ?_⟩) ?_ ?_
              rotate_left
              · intro w'; go_simp; with_reducible rfl
              rotate_left
              · simp only [Act.put, List.setIfInBounds_toArray, List.set_cons_zero, List.set_cons_succ]; rfl
              refine pure_ (i := 15) (N := some 44) (v := ?_) (a' := ?_) (upto 16) rfl rfl (any_of HT.out (by kernel_rfl)) (fun _ _ _ h => h) (Or.inl ⟨by rfl, ?_⟩) ?_ ?_
              rotate_left
              · intro w'; go_simp; with_reducible rfl
              rotate_left
              · simp only [Act.put, List.setIfInBounds_toArray, List.set_cons_zero, List.set_cons_succ]; rfl
              refine done_ (done_of HT.out (by kernel_rfl)) ?_
              go_wp2
              go_roundw
              case rel => exact ⟨i + 1, A1 ++ y :: x :: (B ++ C), by push_cast; rfl, by omega, .inl (by omega), Lib.hid (Kd.R_drew R5.out), Lib.hid (below_drew B5.out), P5, Lib.hid (by rw [ET.out]; exact M5.out.done (by unfold ltS; rw [hxy]; decide) NE.out)⟩
              case measure => simp only [intOf]; omega
      · have j1 : decide ((i : Int) < (m : Int)) = false := decide_eq_false (by omega)
        have e1 : zs.take i = zs := List.take_of_length_le (by rw [ZL.out]; omega)
        have S5 := S4.out
        rw [e1] at S5
        have S6 := Lib.hid S5
        clear S5 e1
        obtain ⟨_, _, hC⟩ := Kd.R_reads' R4.out
        have HC := Lib.hid hC
        clear hC
        go_wp2
        go_ret
        refine ⟨A, c, zs, by rw [ZL.out]; rfl, by have := ZL.out; omega, HC.out, B4.out, S6.out, fun y => ?_⟩
        rw [P4.out.mem_iff]
        refine ⟨K3.out.2.1 y, fun hy => ?_⟩
        obtain ⟨h1, _⟩ := MM.out.ent y hy
        obtain ⟨z, hz1, hz2⟩ := List.mem_map.1 (K3.out.2.2 _ h1)
        have hz3 := K3.out.2.1 z hz1
        have : z = y := by
          obtain ⟨p, hp1, hp2⟩ := List.getElem_of_mem hz3
          obtain ⟨q, hq1, hq2⟩ := List.getElem_of_mem hy
          have e := kof_inj hz2
          have d1 : l.getD p z58 = z := by rw [List.getD_eq_getElem?_getD, List.getElem?_eq_getElem hp1, Option.getD_some, hp2]
          have d2 : l.getD q z58 = y := by rw [List.getD_eq_getElem?_getD, List.getElem?_eq_getElem hq1, Option.getD_some, hq2]
          rcases Nat.lt_trichotomy p q with h | h | h
          · exact absurd (by rw [d1, d2]; exact e) (ON.out p q h hq1)
          · subst h; rw [← hp2, ← hq2]
          · exact absurd (by rw [d1, d2]; exact e.symm) (ON.out q p h hp1)
        rw [← this]
        exact hz1
end Go.Proofs.YtckjbgneblfceaaDoor.At
namespace Go.Proofs.YtckjbgneblfceaaDoor.At
open Go.RowKit Go.Maps Go.Proofs.YtckjbgneblfceaaDoorW.PrintWords Go.Proofs.YtckjbgneblfceaaDoorW.PrintLast Go.Proofs.YtckjbgneblfceaaDoorW.PrintMore
open Go.Proofs.YtckjbgneblfceaaDoor.Da Go.Proofs.YtckjbgneblfceaaDoor.Fa Go.Proofs.YtckjbgneblfceaaDoor.Fm Go.Proofs.YtckjbgneblfceaaDoor.PFnFitFirst
open Go.Proofs.YtckjbgneblfceaaDoor.Fb Go.Proofs.YtckjbgneblfceaaDoor.Fc Go.Proofs.YtckjbgneblfceaaDoor.Fe
open Go.Proofs.YtckjbgneblfceaaDoor.Al (up4 roomL room laid40)
set_option linter.unusedVariables false
set_option linter.unusedSimpArgs false
theorem make99 (w : World) : (Instr.makeMap 99 none).run Tryd.prog w = .ok (.map (some w.heap.size)) (w.alloc (.map #[] 0)) := by kernel_rfl
set_option maxHeartbeats 4000000 in
set_option maxRecDepth 100000 in
theorem get47 (l : List S58) (n g cb size d : Nat) (w : World) (f : List Int) (t : TypeId) (fr : Nat × Nat) (hn : l.length = n) (hg4 : w.heap[4]? = some (.cells cells14 t fr)) (hl : n ≤ 40)
    (hf : f = bytesOf size (lay size d (l.map to133))) (hL : Lies g 0 f w) (hcb : size ≤ cb) (hsz : size ≤ 4096) (hds : d + size ≤ 65535) (hfit : rmL (l.map to133) + 4 ≤ size) (hi : Read l) :
    Calls Tryd.prog 47 #[.slice (some ⟨g, 0, none⟩) size cb, .int .u16 (d : Int)] w fun e w' => e = .returned (.map (some w.heap.size)) ∧ ∃ D, MapB g f w.heap.size n D l w' ∧ Below w.heap.size w w' := by
  have H := Lib.hid (get64 l n g w.heap.size cb size d w (w.alloc (.map #[] 0)) f t fr hn hg4 hl hf hL (MapB.made g f w) (below_alloc (Below.refl _ _) _) (Nat.le_refl _) hcb hsz hds hfit hi)
  have hmk := make99 w
  clear hn hg4 hf hL hfit hi
  go_enter Tryd.func47, Tryd.ntmps47
  go_wp2_with (first | (go_at_call 64; (with_reducible refine (H.out).mono ?_); rintro e w2 ⟨rfl, hb⟩; have P := Lib.hid hb; clear hb))
  go_ret
  exact ⟨rfl, P.out⟩
set_option maxHeartbeats 4000000 in
set_option maxRecDepth 100000 in
theorem get24 (l : List S58) (A : Option Addr) (n c size d : Nat) (w : World) (t : TypeId) (fr : Nat × Nat) (hn : l.length = n) (hg4 : w.heap[4]? = some (.cells cells14 t fr)) (hl : n ≤ 40) (hnc : n ≤ c) (hC : k58.C w A n l)
    (hsz : size ≤ 4096) (hds : d + size ≤ 65535) (hf : roomL l + 4 ≤ size) (hr : Read l) :
    Calls Tryd.prog 24 #[.slice A n c, .int .i64 (size : Int), .int .u16 (d : Int)] w fun e w' => Below w.heap.size w w' ∧
      ∃ B c2 ys, e = .returned (.tuple #[.slice B ys.length c2, .bool true]) ∧ ys.length ≤ c2 ∧ k58.C w' B ys.length ys ∧ Sorted ys ∧ ∀ y, y ∈ ys ↔ y ∈ l := by
  have hi := hr.fine
  have HC := Lib.hid hC
  have HI := Lib.hid hi
  have HR := Lib.hid hr
  have HL := Lib.hid hn
  have H4 := Lib.hid hg4
  have LA := Lib.hid (laid40 A n c l size w t fr hg4 hC hnc hl hsz (fun x hx => ⟨(hi x hx).2.1, (hi x hx).2.2.1, (hi x hx).2.2.2⟩))
  have s0 : decide ((size : Int) < 0) = false := decide_eq_false (by omega)
  have s1 : decide ((4096 : Int) < (size : Int)) = false := decide_eq_false (by omega)
  have HV := Lib.hid (show ∀ i : Nat, i < l.length → (rd_T58 l i).f1.length ≤ 2147483647 from fun i hi2 => by
    have hm : rd_T58 l i ∈ l := by
      unfold rd_T58
      rw [Int.toNat_natCast, List.getD_eq_getElem?_getD, List.getElem?_eq_getElem hi2]
      exact List.getElem_mem hi2
    have := (hi _ hm).2.2.2
    omega)
  have SP := Lib.hid (show ∀ W, Below w.heap.size w W → Calls Tryd.prog 28 #[.slice A n c] W fun e w' => ∃ A1 c1 A2 c2, e = .returned (.tuple #[.slice A1 n c1, .slice A2 n c2]) ∧ n ≤ c1 ∧ n ≤ c2 ∧ Kd.string.C w' A1 n (l.map (fun x => x.f0)) ∧ kB.C w' A2 n (l.map (fun x => x.f1)) ∧ Below W.heap.size W w' from by
    intro W hW
    subst hn
    exact split_full W l A c (Kd.C_below hC hW) (by omega) HV.out)
  clear hC hi hn hg4 hr
  have E1 := Lib.hid (show decide (4 + roomL l ≤ size) = true from decide_eq_true (by omega))
  have HF := Lib.hid hf
  have hs0 : 0 < size := by omega
  have D1 := Lib.hid (show rmL (l.map to133) + 4 ≤ size from by rw [roomL_rmL]; exact hf)
  obtain ⟨f, hf0⟩ : ∃ f, f = bytesOf size (lay size d (l.map to133)) := ⟨_, rfl⟩
  have FF := Lib.hid hf0
  have FL := Lib.hid (show f.length = size from by rw [hf0]; exact bytesOf_len _ _ (by rw [lay_len]; have := D1.out; omega))
  have FI := Lib.hid (show InBytes f from by
    rw [hf0]
    refine bytesOf_in size d _ (fun x hx => ?_)
    obtain ⟨y, hy, rfl⟩ := List.mem_map.1 hx
    obtain ⟨a1, a2, a3, a4⟩ := HI.out y hy
    exact ⟨a1, comp_idx y.f0, a3⟩)
  have FB := Lib.hid (show f.length ≤ 4096 from by rw [FL.out]; exact hsz)
  clear hf hf0
  go_enter Tryd.func24, Tryd.ntmps24
  go_wp2_with (first | (go_at_call 40; (with_reducible refine (LA.out).mono ?_); rw [E1.out]; rintro e w2 ⟨rfl, hb⟩; have B2 := Lib.hid hb; clear hb) | (go_at_call 28; (with_reducible refine (SP.out _ B2.out).mono ?_); rintro e w3 ⟨A1, c1, A2, c2, rfl, m1, m2, hN, hV, hb⟩; have HN := Lib.hid hN; have HV2 := Lib.hid hV; have B3 := Lib.hid (below_then B2.out B2.out.size hb); clear hN hV hb) | ((with_reducible refine gate_dst (N := 29) rfl ?_); refine Cd.make_bytes rfl rfl (.tmp 28) (.tmp 28) rfl size rfl rfl hs0 (by omega) ?_; intro g cb w4 hr hcb hb; have R4 := Lib.hid (show Bst g w4 (zs size) w4 ∧ w3.heap.size ≤ g from bst_of_R hr); have hcb := hcb; have B4 := Lib.hid hb; have G4 := Lib.hid (((below_then B3.out B3.out.size hb).block 4 (Da.blk_lt H4.out)).trans H4.out); clear hr hb) | (go_at_call 41; (with_reducible refine (door41 l A1 A2 n c1 c2 g cb size d w3 w4 t fr HL.out G4.out hl m1 m2 HN.out HV2.out R4.out.1 B4.out R4.out.2 D1.out hcb hsz hds HI.out).mono ?_); rw [← FF.out]; rintro e w5 ⟨rfl, hb⟩; have P := Lib.hid hb; have B5 := Lib.hid (below_then B3.out B3.out.size (hb.mv.toBelow B4.out B4.out.size (fun k hk => by rw [hk]; exact R4.out.2))); have G5 := Lib.hid ((B5.out.block 4 (Da.blk_lt H4.out)).trans H4.out); clear hb) | (go_at_call 47; (with_reducible refine (get47 l n g cb size d _ f t fr HL.out G5.out hl FF.out P.out.lies hcb hsz hds D1.out HR.out).mono ?_); rintro e w6 ⟨rfl, D, hm, hb⟩; have M6 := Lib.hid hm; have B6 := Lib.hid (below_then B5.out B5.out.size hb); have L6 := Lib.hid (P.out.lies.later hb); clear hm hb) | (go_at_call 46; (with_reducible refine (from46 l n g w5.heap.size f D _ HL.out hl M6.out L6.out FI.out FB.out HI.out HR.out.once).mono ?_); rintro e w7 ⟨B, c7, ys, rfl, h1, h2, h3, h4, h5⟩; have Q1 := Lib.hid h1; have Q2 := Lib.hid h2; have B7 := Lib.hid (below_then B6.out B6.out.size h3); have Q4 := Lib.hid h4; have Q5 := Lib.hid h5; clear h1 h2 h3 h4 h5))
  go_ret2
  exact ⟨B7.out, B, c7, ys, rfl, Q1.out, Q2.out, Q4.out, Q5.out⟩
end Go.Proofs.YtckjbgneblfceaaDoor.At
namespace Go.Proofs.YtckjbgneblfceaaDoor.At
open Go.RowKit Go.Maps Go.Proofs.YtckjbgneblfceaaDoorW.PrintWords Go.Proofs.YtckjbgneblfceaaDoorW.PrintLast Go.Proofs.YtckjbgneblfceaaDoorW.PrintMore
open Go.Proofs.YtckjbgneblfceaaDoor.Da Go.Proofs.YtckjbgneblfceaaDoor.Fa Go.Proofs.YtckjbgneblfceaaDoor.Fm Go.Proofs.YtckjbgneblfceaaDoor.PFnFitFirst
open Go.Proofs.YtckjbgneblfceaaDoor.Fb Go.Proofs.YtckjbgneblfceaaDoor.Fc Go.Proofs.YtckjbgneblfceaaDoor.Fe
open Go.Proofs.YtckjbgneblfceaaDoor.Al (up4 roomL room laid40)
set_option linter.unusedVariables false
set_option linter.unusedSimpArgs false
def ltB (nm : ByteArray) (x : S70) : Bool := Op.bytesLess x.f0.toList nm.toList
def gtB (nm : ByteArray) (x : S70) : Bool := !(Op.bytesLess x.f0.toList nm.toList || x.f0.toList == nm.toList)
def withX (l : List S70) (nm : ByteArray) (v : List Int) : List S70 := l.filter (ltB nm) ++ [(⟨nm, v⟩ : S70)] ++ l.filter (gtB nm)
theorem filter_snoc (p : S70 → Bool) (l : List S70) (i : Nat) (x : S70) (h : l[i]? = some x) : (l.take (i + 1)).filter p = if p x = true then (l.take i).filter p ++ [x] else (l.take i).filter p := by
  rw [List.take_add_one, h, Option.toList_some, List.filter_append]
  by_cases hp : p x = true
  · rw [if_pos hp]; simp [hp]
  · rw [if_neg hp]; simp [hp]
set_option maxHeartbeats 8000000 in
set_option maxRecDepth 100000 in
theorem with25 (l : List S70) (A : Option Addr) (n c : Nat) (nm : ByteArray) (B : Option Addr) (m d : Nat) (v : List Int) (w : World) (hn : l.length = n) (hl : n ≤ 400) (hnc : n ≤ c) (hC : k70.C w A n l) (hV : (Kd.int .u8).C w B m v) (hmd : m ≤ d) :
    Calls Tryd.prog 25 #[.slice A n c, .string nm, .slice B m d] w fun e w' => ∃ A2 c2, e = .returned (.slice A2 (withX l nm v).length c2) ∧ (withX l nm v).length ≤ c2 ∧ k70.C w' A2 (withX l nm v).length (withX l nm v) ∧ Below w.heap.size w w' := by
  have HC := Lib.hid hC
  have HV := Lib.hid hV
  have HL := Lib.hid hn
  have hvm : v.length = m := Kd.C_len hV
  subst hvm
  clear hC hV hn
  go_enter Tryd.func25, Tryd.ntmps25
  go_upto_block 0 with (first | ((with_reducible refine gate_dst (N := 12) rfl ?_); refine Kd.R_lit (Kf k70 w) w.heap.size 70 ?hg (N := 12) ?hd (xs := ([] : List S70)) (inner := []) (ok := fun _ => True) (okp := fun _ => True) ?hr ?hp (fun _ hk => hk) trivial (Below.refl _ _) (Nat.le_refl _) (by simp) ?_; (case hd => rfl); (case hg => rfl); (case hr => first | (go_simp; done) | (go_simp; rfl)); (case hp => exact (Reps.none _ _)); intro v0 w0 ho4 hb hg_ hnew_; have R0 := Lib.hid ho4; have B0 := Lib.hid hb; clear hg_ hnew_ ho4 hb))
  go_cut [7] (fun v7 wd => Hid ((Kf k70 w).R 70 wd w.heap.size (fun _ => True) v7 (l.filter (ltB nm))) ∧ Hid (Below w.heap.size w wd))
  case first =>
    go_wp2
    go_loopw [7, 15] (fun v7 vi wr => ∃ i : Nat, vi = .int .i64 i ∧ i ≤ n ∧ Hid ((Kf k70 w).R 70 wr w.heap.size (fun _ => True) v7 ((l.take i).filter (ltB nm))) ∧ Hid (Below w.heap.size w wr)) (fun _ vi _ => n - (intOf vi).toNat)
    case atStart => exact ⟨0, rfl, Nat.zero_le _, R0, B0⟩
    case round =>
      obtain ⟨i, rfl, hin, R1, B1⟩ := hrel
      by_cases hlt : i < n
      · have hlt' : (i : Int) < (n : Int) := by omega
        have j1 : decide ((i : Int) < (n : Int)) = true := decide_eq_true hlt'
        have j2 : (0 ≤ (i : Int)) = True := eq_true (by omega)
        have j3 : ((i : Int) < (n : Int)) = True := eq_true hlt'
        have j4 : IntKind.i64.wrap ((i : Int) + 1) = (i : Int) + 1 := IntWalk.i64_in _ (by omega)
        obtain ⟨ad, A2, c2, rfl, k0, k1, l2, g2⟩ := at70b HC.out B1.out i hlt
        obtain ⟨x, hx⟩ : ∃ x, x = l.getD i z70 := ⟨_, rfl⟩
        have hgx : l[i]? = some x := by rw [hx, List.getD_eq_getElem?_getD, List.getElem?_eq_getElem (by rw [HL.out]; exact hlt)]; rfl
        rw [← hx] at k0 k1 l2 g2
        have T := filter_snoc (ltB nm) l i x hgx
        have hfl : ((l.take i).filter (ltB nm)).length ≤ 1000 := by
          have h1 := List.length_filter_le (ltB nm) (l.take i)
          have h2 := List.length_filter_le (ltB nm) l
          rw [List.length_take] at h1
          have h3 := HL.out
          try simp only [List.length_append, List.length_singleton]
          omega
        have G2 := Lib.hid g2
        have hsz := B1.out.size
        clear hx hgx g2
        have BA := Lib.hid (below_then B1.out hsz (below_alloc (Below.refl _ _) (.cells #[.string x.f0, .slice A2 x.f1.length c2] 70)))
        have R1a := Lib.hid (Kd.R_below R1.out (below_alloc (Below.refl _ _) (.cells #[.string x.f0, .slice A2 x.f1.length c2] 70)))
        have SA : w.heap.size ≤ (wr.alloc (.cells #[.string x.f0, .slice A2 x.f1.length c2] 70)).heap.size := by simp; omega
        cases hb : ltB nm x with
        | true =>
          have HF := Lib.hid (show (l.take (i + 1)).filter (ltB nm) = (l.take i).filter (ltB nm) ++ [x] from by rw [T, if_pos hb])
          unfold ltB at hb
          clear T
          go_wp2_with (first
            | ((with_reducible refine gate_builtin (b := .append) (xs := #[.tmp 23, .tmp 25]) rfl ?_); at_builtin; refine app70 (W := wr.alloc (.cells #[.string x.f0, .slice A2 x.f1.length c2] 70)) (w0 := w) (wb := w) w.heap.size rfl (.tmp 23) (.tmp 25) rfl _ _ x A2 c2 rfl rfl (by simp) l2 G2.out R1a.out BA.out SA hfl ?_; intro v4 w4 hr hb2; have R4 := Lib.hid hr; have B4 := Lib.hid hb2; clear hr hb2))
          go_roundw
          case rel => exact ⟨i + 1, by push_cast; rfl, hlt, Lib.hid (by rw [HF.out]; exact R4.out), B4⟩
          case measure => simp only [intOf]; omega
        | false =>
          have HF := Lib.hid (show (l.take (i + 1)).filter (ltB nm) = (l.take i).filter (ltB nm) from by rw [T, if_neg (by rw [hb]; decide)])
          unfold ltB at hb
          clear T
          go_wp2
          go_roundw
          case rel => exact ⟨i + 1, by push_cast; rfl, hlt, Lib.hid (by rw [HF.out]; exact R1a.out), BA⟩
          case measure => simp only [intOf]; omega
      · obtain rfl : i = n := by omega
        have j1 : decide ((i : Int) < (i : Int)) = false := decide_eq_false (by omega)
        have e1 : l.take i = l := List.take_of_length_le (by rw [HL.out]; exact Nat.le_refl _)
        rw [e1] at R1
        go_wp2
        go_meet
        case rel => exact ⟨R1, B1⟩
  case rest =>
    rename World => wd
    obtain ⟨R2, B2⟩ := hcut
    have hfl0 : (l.filter (ltB nm)).length ≤ 1000 := by have h1 := List.length_filter_le (ltB nm) l; have := HL.out; omega
    go_upto_block 2 with (first
      | ((with_reducible refine gate_builtin (b := .append) (xs := #[.tmp 28, .tmp 32]) rfl ?_); at_builtin; refine app70 (W := wd) (w0 := w) (wb := w) w.heap.size rfl (.tmp 28) (.tmp 32) rfl _ _ ⟨nm, v⟩ B d rfl rfl (by simp) hmd HV.out R2.out B2.out B2.out.size hfl0 ?_; intro v4 w4 hr hb2; have R3 := Lib.hid (show (Kf k70 w).R 70 w4 w.heap.size (fun _ => True) v4 (l.filter (ltB nm) ++ [(⟨nm, v⟩ : S70)]) from hr); have B3 := Lib.hid hb2; clear hr hb2))
    go_wp2
    go_loopw [7, 36] (fun v7 vi wr => ∃ i : Nat, vi = .int .i64 i ∧ i ≤ n ∧ Hid ((Kf k70 w).R 70 wr w.heap.size (fun _ => True) v7 ((l.filter (ltB nm) ++ [(⟨nm, v⟩ : S70)]) ++ (l.take i).filter (gtB nm))) ∧ Hid (Below w.heap.size w wr)) (fun _ vi _ => n - (intOf vi).toNat)
    case atStart => exact ⟨0, rfl, Nat.zero_le _, Lib.hid (by have h := R3.out; simpa using h), B3⟩
    case round =>
      obtain ⟨i, rfl, hin, R1, B1⟩ := hrel
      by_cases hlt : i < n
      · have hlt' : (i : Int) < (n : Int) := by omega
        have j1 : decide ((i : Int) < (n : Int)) = true := decide_eq_true hlt'
        have j2 : (0 ≤ (i : Int)) = True := eq_true (by omega)
        have j3 : ((i : Int) < (n : Int)) = True := eq_true hlt'
        have j4 : IntKind.i64.wrap ((i : Int) + 1) = (i : Int) + 1 := IntWalk.i64_in _ (by omega)
        obtain ⟨ad, A2, c2, rfl, k0, k1, l2, g2⟩ := at70b HC.out B1.out i hlt
        obtain ⟨x, hx⟩ : ∃ x, x = l.getD i z70 := ⟨_, rfl⟩
        have hgx : l[i]? = some x := by rw [hx, List.getD_eq_getElem?_getD, List.getElem?_eq_getElem (by rw [HL.out]; exact hlt)]; rfl
        rw [← hx] at k0 k1 l2 g2
        have T := filter_snoc (gtB nm) l i x hgx
        have hfl : ((l.filter (ltB nm) ++ [(⟨nm, v⟩ : S70)]) ++ (l.take i).filter (gtB nm)).length ≤ 1000 := by
          have h1 := List.length_filter_le (gtB nm) (l.take i)
          have h2 := List.length_filter_le (ltB nm) l
          rw [List.length_take] at h1
          have h3 := HL.out
          try simp only [List.length_append, List.length_singleton]
          omega
        have G2 := Lib.hid g2
        have hsz := B1.out.size
        clear hx hgx g2
        have BA := Lib.hid (below_then B1.out hsz (below_alloc (Below.refl _ _) (.cells #[.string x.f0, .slice A2 x.f1.length c2] 70)))
        have R1a := Lib.hid (Kd.R_below R1.out (below_alloc (Below.refl _ _) (.cells #[.string x.f0, .slice A2 x.f1.length c2] 70)))
        have SA : w.heap.size ≤ (wr.alloc (.cells #[.string x.f0, .slice A2 x.f1.length c2] 70)).heap.size := by simp; omega
        cases hb : gtB nm x with
        | true =>
          have HF := Lib.hid (show (l.take (i + 1)).filter (gtB nm) = (l.take i).filter (gtB nm) ++ [x] from by rw [T, if_pos hb])
          unfold gtB at hb
          clear T
          go_wp2_with (first
            | ((with_reducible refine gate_builtin (b := .append) (xs := #[.tmp 44, .tmp 46]) rfl ?_); at_builtin; refine app70 (W := wr.alloc (.cells #[.string x.f0, .slice A2 x.f1.length c2] 70)) (w0 := w) (wb := w) w.heap.size rfl (.tmp 44) (.tmp 46) rfl _ _ x A2 c2 rfl rfl (by simp) l2 G2.out R1a.out BA.out SA hfl ?_; intro v4 w4 hr hb2; have R4 := Lib.hid hr; have B4 := Lib.hid hb2; clear hr hb2))
          go_roundw
          case rel => exact ⟨i + 1, by push_cast; rfl, hlt, Lib.hid (by rw [HF.out, ← List.append_assoc]; exact R4.out), B4⟩
          case measure => simp only [intOf]; omega
        | false =>
          have HF := Lib.hid (show (l.take (i + 1)).filter (gtB nm) = (l.take i).filter (gtB nm) from by rw [T, if_neg (by rw [hb]; decide)])
          unfold gtB at hb
          clear T
          go_wp2
          go_roundw
          case rel => exact ⟨i + 1, by push_cast; rfl, hlt, Lib.hid (by rw [HF.out]; exact R1a.out), BA⟩
          case measure => simp only [intOf]; omega
      · obtain rfl : i = n := by omega
        have j1 : decide ((i : Int) < (i : Int)) = false := decide_eq_false (by omega)
        have e1 : l.take i = l := List.take_of_length_le (by rw [HL.out]; exact Nat.le_refl _)
        rw [e1] at R1
        have HX := Lib.hid (show (l.filter (ltB nm) ++ [(⟨nm, v⟩ : S70)]) ++ l.filter (gtB nm) = withX l nm v from rfl)
        rw [HX.out] at R1
        obtain ⟨A7, c7, rfl, h7, g7⟩ := Kd.R_reads R1.out
        have G7 := Lib.hid (Kf_C g7 B1.out)
        have L7 := Lib.hid h7
        clear h7 g7
        go_wp2
        go_ret
        exact ⟨A7, c7, rfl, L7.out, G7.out, B1.out⟩
end Go.Proofs.YtckjbgneblfceaaDoor.At
