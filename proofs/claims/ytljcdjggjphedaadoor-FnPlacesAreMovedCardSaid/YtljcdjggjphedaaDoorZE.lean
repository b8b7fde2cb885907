/- A part of the proof that FnHandleScript answers true for every file and all steps. -/
import Derived.Maps.Own
import Derived.Maps.Views
import Derived.Test.YtljcdjggjphedaaDoorZB
import Derived.IntWalk
import Derived.Test.YtljcdjggjphedaaDoorZC
import Derived.Deep.RegionHeld3
import Derived.Deep.QuietTactic
import Derived.BigQuiet
import Derived.StillTailTactics
namespace Go.Proofs.YtljcdjggjphedaaDoor.Pm
open Go.RowKit Go.Maps Go.Proofs.YtljcdjggjphedaaDoorW.PrintWords Go.Proofs.YtljcdjggjphedaaDoor.Hd
set_option linter.unusedVariables false
/-- A pointer to the head of a block reads as the block's number. -/
def ptrR (v : Value) : Option (DataW Unit × List MemPlace) := match v with
  | .pointer none => some (.nil, [])
  | .pointer (some a) => if a = ⟨a.block, 0, none⟩ then some (.lit (.int .i64 a.block), []) else none
  | _ => none
def ptrD : Option Nat → DataW Unit
  | none => .nil
  | some b => .lit (.int .i64 b)
def ptrV : Option Nat → Value
  | none => .pointer none
  | some b => .pointer (some ⟨b, 0, none⟩)
theorem ptrR_mk (x : Option Nat) : ptrR (ptrV x) = some (ptrD x, []) := by
  cases x <;> simp [ptrV, ptrR, ptrD]
theorem ptrD_inj {x y : Option Nat} (h : ptrD x = ptrD y) : x = y := by
  cases x <;> cases y <;> simp [ptrD] at h ⊢
  · exact_mod_cast h
theorem ptrR_inv {v : Value} {x : Option Nat} {ps : List MemPlace} (h : ptrR v = some (ptrD x, ps)) : v = ptrV x := by
  unfold ptrR at h
  split at h
  · simp only [Option.some.injEq, Prod.mk.injEq] at h
    have := ptrD_inj (x := none) h.1
    rw [← this]; rfl
  · rename_i a
    split at h
    · rename_i hc
      simp only [Option.some.injEq, Prod.mk.injEq] at h
      have := ptrD_inj (x := some a.block) h.1
      rw [← this]
      rw [hc]
      rfl
    · cases h
  · cases h
section
variable {P : Program} {k : TypeId} {w w1 : World} {b n : Nat} {f : Lit → Option Nat}
open Classical in
/-- The function, turned at a key. -/
noncomputable def upK (f : Lit → Option Nat) (kl : Lit) (g : Option Nat) : Lit → Option Nat := fun x => if x = kl then g else f x
theorem upK_same (f : Lit → Option Nat) (kl : Lit) (g : Option Nat) : upK f kl g kl = g := by simp [upK]
theorem upK_other (f : Lit → Option Nat) {kl x : Lit} (h : x ≠ kl) (g : Option Nat) : upK f kl g x = f x := by simp [upK, h]
/-- Block b is a map of at most n entries; what a key leads to. -/
def PMap (P : Program) (k : TypeId) (w : World) (b n : Nat) (f : Lit → Option Nat) : Prop := ∃ D : DataW Unit, w.ownsMap P k ptrR b n D ∧ ∀ kl, WideAt.IsKeyLit kl → D.atKey kl .nil = ptrD (f kl)
theorem PMap.lt (h : PMap P k w b n f) : b < w.heap.size := by
  obtain ⟨D, ho, _⟩ := h
  exact ho.lt
theorem PMap.isObj (h : PMap P k w b n f) : ∃ es clock, w.heap[b]? = some (.map es clock) := by
  obtain ⟨D, ⟨es, clock, hb, _⟩, _⟩ := h
  exact ⟨es, clock, hb⟩
theorem PMap.same (h : PMap P k w b n f) (hb : w1.heap[b]? = w.heap[b]?) : PMap P k w1 b n f := by
  obtain ⟨D, ⟨es, clock, h0, r⟩, hf⟩ := h
  exact ⟨D, ⟨es, clock, hb.trans h0, r⟩, hf⟩
theorem PMap.moves {S : Nat → Prop} (h : PMap P k w b n f) (hM : Moves S w w1) (hn : ¬ S b) : PMap P k w1 b n f := h.same (hM.block b h.lt hn)
theorem PMap.below (h : PMap P k w b n f) (hb : Below w.heap.size w w1) : PMap P k w1 b n f := h.same (hb.block b h.lt)
theorem PMap.made (w : World) : PMap P k (w.alloc (.map #[] 0)) w.heap.size 0 (fun _ => none) :=
  ⟨.map [], World.ownsMap_made w P k ptrR, fun kl _ => rfl⟩
theorem PMap.mono {n' : Nat} (h : PMap P k w b n f) (hn : n ≤ n') : PMap P k w b n' f := by
  obtain ⟨D, ho, hf⟩ := h
  exact ⟨D, ho.mono hn, hf⟩
/-- What is asked for by a key. -/
theorem PMap.look {t e : TypeId} (h : PMap P k w b n f) (K : Keyed P k) (ht : P.underlying t = some (.map k e)) (hz : (zeroValue e).run P w = .ok (.pointer none) w) {key : Value} {kl : Lit} (hkey : keyOf P k key = some kl) (hkl : WideAt.IsKeyLit kl) :
    (Instr.lookup t (.map (some b)) key false).run P w = .ok (ptrV (f kl)) w := by
  obtain ⟨D, ho, hf⟩ := h
  obtain ⟨v, ps, hrun, hv⟩ := ho.lookup K ht hz (zd := .nil) (zp := []) (by rfl) hkey
  rw [hf kl hkl] at hv
  rw [hrun, ptrR_inv hv]
theorem PMap.put {t e : TypeId} (h : PMap P k w b n f) (K : Keyed P k) (ht : P.underlying t = some (.map k e)) (hn : n < maxLen) {key : Value} {kl : Lit} (hkey : keyOf P k key = some kl) (hkl : WideAt.IsKeyLit kl) (g : Nat) :
    ∃ w', (Instr.mapUpdate t (.map (some b)) key (.pointer (some ⟨g, 0, none⟩))).run P w = .ok () w' ∧ PMap P k w' b (n + 1) (upK f kl (some g)) ∧ w.grownBy w' (some b) := by
  obtain ⟨D, ho, hf⟩ := h
  obtain ⟨w', hrun, ho', hg⟩ := ho.update K ht hn hkey (ptrR_mk (some g))
  have hD : IsMap D := by
    obtain ⟨es, clock, _, _, _, e⟩ := ho
    exact ⟨_, e⟩
  refine ⟨w', hrun, ⟨_, ho', fun x hx => ?_⟩, hg⟩
  by_cases e : x = kl
  · subst e
    rw [atKey_put_same hD hx, upK_same]
  · rw [atKey_put_other e, hf x hx, upK_other f e]
end
end Go.Proofs.YtljcdjggjphedaaDoor.Pm
namespace Go.Proofs.YtljcdjggjphedaaDoor.Ms
open Go.RowKit Go.Maps Go.Proofs.YtljcdjggjphedaaDoorW.PrintWords Go.Proofs.YtljcdjggjphedaaDoorW.PrintLast Go.Proofs.YtljcdjggjphedaaDoorW.PrintMore Go.Proofs.YtljcdjggjphedaaDoor.Hd Go.Proofs.YtljcdjggjphedaaDoor.Pm Go.Proofs.YtljcdjggjphedaaDoor.PFnHandleScript
set_option linter.unusedVariables false
set_option linter.unusedSimpArgs false
structure S42 where
  f0 : Bool
  f1 : Int
  f2 : (List Int)
  f3 : Int
  f4 : ByteArray
def z42 : S42 := ⟨false, (0 : Int), ([] : List Int), (0 : Int), (⟨#[]⟩ : ByteArray)⟩
def k42 : Kd S42 := Kd.iso (Kd.pair Kd.bool (Kd.pair (Kd.int .i64) (Kd.pair (Kd.slice 5 (Kd.int .u8)) (Kd.pair (Kd.int .i64) Kd.string)))) (fun x : S42 => (x.f0, x.f1, x.f2, x.f3, x.f4))
theorem k42_open {w : World} {x : S42} {cs : List Value} (h : k42.K w x cs) : ∃ A2 c2, cs = [.bool x.f0, .int .i64 x.f1, .slice A2 x.f2.length c2, .int .i64 x.f3, .string x.f4] ∧ x.f2.length ≤ c2 ∧ (Kd.int .u8).C w A2 x.f2.length x.f2 := by
  obtain ⟨_, _, rfl, rfl, ⟨_, _, rfl, rfl, ⟨_, _, rfl, ⟨A2, c2, rfl, l2, g2⟩, ⟨_, _, rfl, rfl, rfl⟩⟩⟩⟩ := h
  exact ⟨A2, c2, rfl, l2, g2⟩
theorem k42_openM {w : World} {base : Nat} {ok : Nat → Prop} {x : S42} {cs : List Value} (h : k42.M w base ok x cs) : ∃ v2, cs = [.bool x.f0, .int .i64 x.f1, v2, .int .i64 x.f3, .string x.f4] ∧ (Kd.int .u8).R 5 w base ok v2 x.f2 := by
  obtain ⟨_, _, rfl, rfl, ⟨_, _, rfl, rfl, ⟨_, _, rfl, ⟨v2, rfl, g2⟩, ⟨_, _, rfl, rfl, rfl⟩⟩⟩⟩ := h
  exact ⟨v2, rfl, g2⟩
theorem k42_mkM (w : World) (base : Nat) (ok : Nat → Prop) (x : S42) {v2 : Value} (g2 : (Kd.int .u8).R 5 w base ok v2 x.f2) : k42.M w base ok x [.bool x.f0, .int .i64 x.f1, v2, .int .i64 x.f3, .string x.f4] := ⟨[.bool x.f0], [.int .i64 x.f1, v2, .int .i64 x.f3, .string x.f4], rfl, rfl, ⟨[.int .i64 x.f1], [v2, .int .i64 x.f3, .string x.f4], rfl, rfl, ⟨[v2], [.int .i64 x.f3, .string x.f4], rfl, ⟨v2, rfl, g2⟩, ⟨[.int .i64 x.f3], [.string x.f4], rfl, rfl, rfl⟩⟩⟩⟩
def rd_T42 (xs : List S42) (i : Int) : S42 := xs.getD i.toNat z42
theorem at_T42 {w : World} {A : Option Addr} {n : Nat} {xs : List S42} (h : Kd.C k42 w A n xs) (i : Int) (h0 : 0 ≤ i) (h1 : i < n) : ∃ ad A2 c2, A = some ad ∧ w.cell? (ad.add (i.toNat * 5)) = some (.bool (rd_T42 xs i).f0) ∧ w.cell? ⟨(ad.add (i.toNat * 5)).block, (ad.add (i.toNat * 5)).off + 1, none⟩ = some (.int .i64 (rd_T42 xs i).f1) ∧ w.cell? ⟨(ad.add (i.toNat * 5)).block, (ad.add (i.toNat * 5)).off + 2, none⟩ = some (.slice A2 (rd_T42 xs i).f2.length c2) ∧ w.cell? ⟨(ad.add (i.toNat * 5)).block, (ad.add (i.toNat * 5)).off + 3, none⟩ = some (.int .i64 (rd_T42 xs i).f3) ∧ w.cell? ⟨(ad.add (i.toNat * 5)).block, (ad.add (i.toNat * 5)).off + 4, none⟩ = some (.string (rd_T42 xs i).f4) ∧ (rd_T42 xs i).f2.length ≤ c2 ∧ (Kd.int .u8).C w A2 (rd_T42 xs i).f2.length (rd_T42 xs i).f2 := by
  obtain ⟨ad, c, e, _, hK, hc0⟩ := Kd.C_get h z42 i h0 h1
  have hc : ∀ j u, c[j]? = some u → w.cell? (ad.add (i.toNat * 5 + j)) = some u := hc0
  obtain ⟨A2, c2, rfl, l2, g2⟩ := k42_open hK
  exact ⟨ad, A2, c2, e, hc 0 _ rfl, by rw [← add_field _ _ 1 (by omega)]; exact hc 1 _ rfl, by rw [← add_field _ _ 2 (by omega)]; exact hc 2 _ rfl, by rw [← add_field _ _ 3 (by omega)]; exact hc 3 _ rfl, by rw [← add_field _ _ 4 (by omega)]; exact hc 4 _ rfl, l2, g2⟩
theorem info42 : (Tryd.prog.info? 42).map (fun i => (i.zero, i.size, i.bytes)) = some (some (.agg #[.bool false, .int .i64 0, .slice none 0 0, .int .i64 0, .string ⟨#[]⟩]), 5, 64) := by kernel_rfl
theorem info3 : (Tryd.prog.info? 3).map (fun i => (i.zero, i.size, i.bytes)) = some (some (.int .i64 0), 1, 8) := by kernel_rfl
structure SHnd where
  node : Int
  pos : Int
  listed : Int
  closed : Bool
  ro : Bool
structure SMem where
  names : List ByteArray
  ats : List Int
  nodes : List S42
  hs : Lit → Option SHnd
def shcs (h : SHnd) : Array Value := #[.int .i64 h.node, .int .i64 h.pos, .int .i64 h.listed, .bool h.closed, .bool h.ro]
/-- A handle's block, and what lies there. -/
def HndAt (w : World) (base : Nat) (ft : Nat → Prop) : Option Nat → Option SHnd → Prop
  | none, x => x = none
  | some g, x => ∃ h, x = some h ∧ w.heap[g]? = some (.cells (shcs h) 49 (0, 0)) ∧ ft g ∧ base ≤ g
structure IsMem (w : World) (base : Nat) (ft : Nat → Prop) (m : Nat) (vN vA vD : Value) (mb n : Nat) (f : Lit → Option Nat) (X : SMem) : Prop where
  blk : w.heap[m]? = some (.cells #[vN, vA, vD, .map (some mb)] 47 (0, 0))
  ftm : ft m ∧ base ≤ m
  rN : Kd.string.R 9 w base ft vN X.names
  rA : (Kd.int .i64).R 3 w base ft vA X.ats
  rD : k42.R 42 w base ft vD X.nodes
  pm : PMap Tryd.prog 3 w mb n f
  ftb : ft mb ∧ base ≤ mb
  hnd : ∀ kl, WideAt.IsKeyLit kl → HndAt w base ft (f kl) (X.hs kl)
  inj : ∀ k1 k2 g, WideAt.IsKeyLit k1 → WideAt.IsKeyLit k2 → f k1 = some g → f k2 = some g → k1 = k2
section
variable {w w1 : World} {base : Nat} {ft : Nat → Prop} {m : Nat} {vN vA vD : Value} {mb n : Nat} {f : Lit → Option Nat} {X : SMem}
theorem HndAt.below {g : Option Nat} {x : Option SHnd} (h : HndAt w base ft g x) (hb : Below w.heap.size w w1) : HndAt w1 base ft g x := by
  cases g with
  | none => exact h
  | some g =>
    obtain ⟨q, e, hq, r⟩ := h
    exact ⟨q, e, blk_below hq hb, r⟩
theorem IsMem.below (M : IsMem w base ft m vN vA vD mb n f X) (hb : Below w.heap.size w w1) : IsMem w1 base ft m vN vA vD mb n f X :=
  ⟨blk_below M.blk hb, M.ftm, Kd.R_below M.rN hb, Kd.R_below M.rA hb, Kd.R_below M.rD hb, M.pm.below hb, M.ftb, fun kl hk => (M.hnd kl hk).below hb, M.inj⟩
theorem IsMem.c0 (M : IsMem w base ft m vN vA vD mb n f X) : w.cell? ⟨m, 0, none⟩ = some vN := blk_cell M.blk 0
theorem IsMem.c1 (M : IsMem w base ft m vN vA vD mb n f X) : w.cell? ⟨m, 1, none⟩ = some vA := blk_cell M.blk 1
theorem IsMem.c2 (M : IsMem w base ft m vN vA vD mb n f X) : w.cell? ⟨m, 2, none⟩ = some vD := blk_cell M.blk 2
theorem IsMem.c3 (M : IsMem w base ft m vN vA vD mb n f X) : w.cell? ⟨m, 3, none⟩ = some (.map (some mb)) := blk_cell M.blk 3
end
/-- A cell of a row of one-cell elements. -/
theorem C_cell {α : Type} {enc : α → Value} {h1 : ∀ x, (enc x).oneCell' = true} {w : World} {A : Option Addr} {n : Nat} {xs : List α} (h : (Kd.scalar enc h1).C w A n xs) (i : Nat) (x : α) (hx : xs[i]? = some x) : ∃ ad, A = some ad ∧ w.cell? (ad.add i) = some (enc x) := by
  have hi : i < xs.length := (List.getElem?_eq_some_iff.1 hx).1
  obtain ⟨ad, e, hc⟩ := h.2.2 (by have := h.1; omega)
  obtain ⟨c, h1, h2, h3⟩ := hc i x hx
  have h2' : c = [enc x] := h2
  subst h2'
  refine ⟨ad, e, ?_⟩
  have h4 := h3 0 _ rfl
  have e1 : i * (Kd.scalar enc ‹_›).sz + 0 = i := by show i * 1 + 0 = i; omega
  rw [e1] at h4
  exact h4
/-- Where a name stands, or would stand; whether it is there. -/
def placeAt (name : ByteArray) : List ByteArray → Nat × Bool
  | [] => (0, false)
  | x :: r => if Op.bytesLess x.toList name.toList = true then ((placeAt name r).1 + 1, (placeAt name r).2) else (0, x.toList == name.toList)
theorem placeAt_lt {name x : ByteArray} {r : List ByteArray} (h : Op.bytesLess x.toList name.toList = true) : placeAt name (x :: r) = ((placeAt name r).1 + 1, (placeAt name r).2) := by
  rw [placeAt, if_pos h]
theorem placeAt_ge {name x : ByteArray} {r : List ByteArray} (h : ¬ Op.bytesLess x.toList name.toList = true) : placeAt name (x :: r) = (0, x.toList == name.toList) := by
  rw [placeAt, if_neg h]
set_option maxHeartbeats 1000000 in
theorem place_any {w : World} {base : Nat} {ft : Nat → Prop} {m : Nat} {vN vA vD : Value} {mb n : Nat} {f : Lit → Option Nat} {X : SMem} (M : IsMem w base ft m vN vA vD mb n f X) (name : ByteArray) :
    Calls Tryd.prog 93 #[.pointer (some ⟨m, 0, none⟩), .string name] w fun e w' => e = .returned (.tuple #[.int .i64 (placeAt name X.names).1, .bool (placeAt name X.names).2]) ∧ w = w' := by
  obtain ⟨A, c, hv, hlc, hC⟩ := Kd.R_reads M.rN
  have c0 := M.c0
  rw [hv] at c0
  have hm := hC.2.1
  have HC := Lib.hid hC
  clear M hC hv
  generalize X.names = L at *
  obtain ⟨q, hq⟩ : ∃ q, q = placeAt name L := ⟨_, rfl⟩
  rw [← hq]
  have HQ := Lib.hid hq
  clear hq
  go_enter Tryd.func93, Tryd.ntmps93
  go_wp2_with fail
  go_loop [13, 6, 7] (fun v13 v6 v7 => ∃ i : Nat, v13 = .int .i64 i ∧ i ≤ L.length ∧ Hid (q = ((placeAt name (L.drop i)).1 + i, (placeAt name (L.drop i)).2))) (fun v13 _ _ => L.length - (intOf v13).toNat)
  case atStart => exact ⟨0, rfl, by omega, Lib.hid (by rw [HQ.out]; rfl)⟩
  case round =>
    obtain ⟨i, rfl, hi, HI⟩ := hrel
    by_cases hlt : i < L.length
    · obtain ⟨x, hx⟩ : ∃ x, L[i]? = some x := ⟨_, List.getElem?_eq_getElem hlt⟩
      have hd : L.drop i = x :: L.drop (i + 1) := by
        rw [List.drop_eq_getElem_cons hlt]
        congr 1
        rw [List.getElem?_eq_getElem hlt] at hx
        exact Option.some.inj hx
      obtain ⟨ad, rfl, hcell⟩ := C_cell HC.out i x hx
      have HI2 := Lib.hid (show q = ((placeAt name (x :: L.drop (i + 1))).1 + i, (placeAt name (x :: L.drop (i + 1))).2) by rw [← hd]; exact HI.out)
      clear hx hd HI
      by_cases hb : Op.bytesLess x.toList name.toList = true
      · have HN := Lib.hid (show q = ((placeAt name (L.drop (i + 1))).1 + (i + 1), (placeAt name (L.drop (i + 1))).2) by
          rw [HI2.out, placeAt_lt hb, Nat.add_assoc, Nat.add_comm 1 i])
        go_wp2_with fail
        go_round
        case rel => exact ⟨i + 1, by push_cast; rfl, hlt, HN⟩
        case measure => simp only [intOf]; omega
      · have HN := Lib.hid (show q = (i, x.toList == name.toList) by
          rw [HI2.out, placeAt_ge hb, Nat.zero_add])
        have hb' : Op.bytesLess x.toList name.toList = false := by simpa using hb
        clear hb
        go_wp2_with fail
        go_ret2
        rw [HN.out]
        exact ⟨rfl, rfl⟩
    · obtain rfl : i = L.length := by omega
      have HN := Lib.hid (show q = (L.length, false) by
        rw [HI.out, List.drop_length, placeAt, Nat.zero_add])
      clear hlt
      go_wp2_with fail
      go_ret2
      rw [HN.out]
      exact ⟨rfl, rfl⟩
end Go.Proofs.YtljcdjggjphedaaDoor.Ms
namespace Go.Proofs.YtljcdjggjphedaaDoor.Mf
open Go.RowKit Go.Proofs.YtljcdjggjphedaaDoorW.PrintWords Go.Proofs.YtljcdjggjphedaaDoorW.PrintLast Go.Proofs.YtljcdjggjphedaaDoorW.PrintMore Go.Proofs.YtljcdjggjphedaaDoor.PFnHandleScript Go.Proofs.YtljcdjggjphedaaDoor.Hd
set_option linter.unusedVariables false
set_option linter.unusedSimpArgs false
theorem zero_row {α : Type} (d : Kd α) {W : World} {base e : Nat} {ok : Nat → Prop} (hfresh : ok W.heap.size) (hbase : base ≤ W.heap.size) :
    d.R e (W.alloc (.cells #[] e)) base ok (.slice (some ⟨W.heap.size, 0, none⟩) 0 0) [] := by
  refine ⟨fun k hk => ?_, [], ?_, ⟨by simp, fun j p hj => by simp at hj⟩⟩
  · have : W.heap.size = k := by simpa [Value.ownBlock] using hk
    subst this
    exact hfresh
  · have h2 := World.ownsRow_lit (base := base) (e := e) (size := d.sz) W #[] 0 hbase (by simp [maxLen]) (by simp)
    simpa using h2
section
variable {ops : Array Oper} {rest : List Oper} {o : Oper} {a : Act} {Q : Exit → Act → World → Prop}
theorem app_u8 {W wb : World} (base : Nat) (hgd : o.guard = none) (s x : Operand) (ho : o.op = .call { callee := .builtin .append, args := #[s, x], argTypes := #[22, 22] })
    (v : Value) (xs : List Int) (p : Int) {ok : Nat → Prop} (hs : a.eval s = v) {g : Nat} (hx : a.eval x = .slice (some ⟨g, 0, none⟩) 1 1) (hgs : W.heap.size = g) (hfresh : ∀ k, W.heap.size ≤ k → ok k)
    (HO : (Kd.int .u8).R 5 W base ok v xs) (HB : Below base wb W) (hbase : base ≤ W.heap.size) (hl : xs.length ≤ 100000000)
    (h : ∀ A1 c1 w1, (Kd.int .u8).R 5 w1 base ok (.slice A1 (xs.length + 1) c1) (xs ++ [p]) → Below base wb w1 → W.grownBy w1 v.ownBlock → wpList Tryd.prog ops Q rest (a.put o.dst (.slice A1 (xs.length + 1) c1)) w1) :
    wpList Tryd.prog ops Q (o :: rest) a (W.alloc (.cells #[.int .u8 p] 5)) := by
  subst hgs
  refine Kd.R_append (Kd.int .u8) (w0 := wb) base hgd s x 22 5 _ 1 ho Tryd.underlying22 PFnHandleScript.info5 rfl (by decide) (by decide) v xs p [.int .u8 p] ok (fun _ => False) hs hx rfl (fun _ hk => hk.elim) hfresh HO HB hbase (by omega) ?_
  intro v1 w1 h1 hb h2 _
  obtain ⟨A1, c1, e1, _, _⟩ := Kd.R_reads h1
  subst e1
  have e : (xs ++ [p]).length = xs.length + 1 := by simp
  rw [e] at h1 ⊢
  exact h _ _ _ h1 hb h2
/-- copy into the midst of a row of one's own. -/
theorem copy_mid {W : World} {base : Nat} (hgd : o.guard = none) (s x : Operand) (ho : o.op = .call { callee := .builtin .copy, args := #[s, x], argTypes := #[22, 22] })
    {A As : Option Addr} {n cap p m c : Nat} {xs ys : List Int} {ok : Nat → Prop} (hs : a.eval s = .slice As (n - p) (cap - p)) (hAs : As = if cap = p then A else A.map (·.add (p * 1))) (hx : ∃ Ax, a.eval x = .slice Ax m c ∧ (Kd.int .u8).C W Ax m ys)
    (HO : (Kd.int .u8).R 5 W base ok (.slice A n cap) xs) (hpm : p + m ≤ n)
    (h : ∀ w1 r, (Kd.int .u8).R 5 w1 base ok (.slice A n cap) (xs.take p ++ ys ++ xs.drop (p + m)) → W.grownBy w1 (Value.slice A n cap).ownBlock → wpList Tryd.prog ops Q rest (a.put o.dst r) w1) :
    wpList Tryd.prog ops Q (o :: rest) a W := by
  obtain ⟨Ax, hx, HR⟩ := hx
  have hR := Kd.reads_of_C (enc := Value.int .u8) (d := (0 : Int)) (h1 := enc1 .u8) HR
  have hm : ys.length = m := hR.1
  obtain ⟨hn, hcap, _⟩ := Kd.R_reads' HO
  have fin : ∀ w1 r, (Builtin.copy_ #[22, 22] o.type #[.slice As (n - p) (cap - p), .slice Ax m c]).run Tryd.prog W = .ok r w1 → (Kd.int .u8).R 5 w1 base ok (.slice A n cap) (xs.take p ++ ys ++ xs.drop (p + m)) → W.grownBy w1 (Value.slice A n cap).ownBlock → wpList Tryd.prog ops Q (o :: rest) a W := by
    intro w1 r hr hrow hg
    refine Kd.event_run hgd ?_ (h w1 r hrow hg)
    unfold execOp
    simp only [ho, resolve, invoke, builtin, Sem.run_bind, Sem.run_pure, Result.andThen_ok, List.map_toArray, List.map_cons, List.map_nil, hs, hx, hr]
  have hinfo : (Tryd.prog.info? 5).map (·.size) = some 1 := by
    have := PFnHandleScript.info5
    obtain ⟨i0, hi, hz⟩ := Option.map_eq_some_iff.1 this
    simp only [Prod.mk.injEq] at hz
    rw [hi]
    simp [hz.2.1]
  rcases Nat.eq_zero_or_pos m with h0 | hp
  · subst h0
    obtain rfl : ys = [] := List.eq_nil_of_length_eq_zero hm
    exact fin W _ (run_copy_none W 22 22 o.type 5 As Ax (n - p) (cap - p) 0 c Tryd.underlying22 hinfo (by simp)) (by simpa using HO) (World.grownBy.refl W _)
  · obtain ⟨ad, hA, hc⟩ := hR.2.2 hp
    obtain ⟨g, cap', hf, _, _, _⟩ := Kd.R_form HO (by omega)
    injection hf with hf1 hf2 hf3
    subst hf1
    subst hf3
    have hAs' : As = some ⟨g, p, none⟩ := by
      rw [hAs, if_neg (by omega)]
      simp [Addr.add]
      omega
    subst hAs'
    have hlaid := row_laid HO p ys (by omega)
    have hsrc : ∀ j u, (encs (Value.int .u8) ys)[j]? = some u → W.cell? (ad.add j) = some u := by
      intro j u hu
      have hj : j < ys.length := by
        rcases Nat.lt_or_ge j ys.length with h | h
        · exact h
        · rw [List.getElem?_eq_none (by rw [encs_length]; exact h)] at hu
          cases hu
      rw [encs_get (d := (0 : Int)) _ j hj] at hu
      rw [hc j (by omega), ← hu]
    have hcell : ∀ j, j < xs.length → (W.cell? ⟨g, j, none⟩).isSome = true ∧ W.frozen? ⟨g, j, none⟩ = false := by
      intro j hj
      have := Kd.R_celln (h1 := enc1 .u8) (0 : Int) HO (j : Int) (by omega) (by omega)
      rw [Int.toNat_natCast] at this
      exact ⟨by rw [this.1]; rfl, this.2⟩
    have hmin : Nat.min m (n - p) = m := Nat.min_eq_left (by omega)
    have hr := run_copy_cells (P := Tryd.prog) W 22 22 o.type 5 g p (n - p) (cap - p) ad m c (encs (Value.int .u8) ys) Tryd.underlying22 hinfo (by rw [encs_length, hm]; exact hmin.symm) hsrc
      (fun j hj => by rw [encs_length] at hj; exact (hcell (p + j) (by omega)).1) (fun j hj => by rw [encs_length] at hj; exact (hcell (p + j) (by omega)).2) (by intro u hu; simp only [encs, List.mem_map] at hu; obtain ⟨q, _, rfl⟩ := hu; rfl)
    rw [hA] at fin
    refine fin _ _ hr ?_ ?_
    · have := hlaid.1
      rw [hm] at this
      exact this
    · exact hlaid.2
end
def slen : Value → Nat
  | .slice _ n _ => n
  | _ => 0
def fillTo (l : List Int) (size : Int) : List Int := l ++ List.replicate (size.toNat - l.length) 0
theorem fillTo_len (l : List Int) (size : Int) : (fillTo l size).length = max l.length size.toNat := by
  unfold fillTo; simp; omega
set_option maxHeartbeats 1000000 in
set_option maxRecDepth 100000 in
theorem grown_any (w : World) (l : List Int) (A : Option Addr) (m c : Nat) (hC : (Kd.int .u8).C w A m l) (hm : m ≤ 10000000) (size : Int) (hs : size ≤ 10000000) :
    Calls Tryd.prog 67 #[.slice A m c, .int .i64 size] w fun e w' => ∃ A1 c1, e = .returned (.slice A1 (fillTo l size).length c1) ∧ (Kd.int .u8).R 5 w' w.heap.size (fun _ => True) (.slice A1 (fillTo l size).length c1) (fillTo l size) ∧ Below w.heap.size w w' := by
  obtain rfl := hC.1
  have HC := Lib.hid hC
  clear hC
  go_enter Tryd.func67, Tryd.ntmps67
  go_upto_region 2 with (first | ((with_reducible refine gate_builtin (b := .append) (xs := #[.tmp 6, .tmp 7]) rfl ?_); at_builtin; refine app_bytes w.heap.size rfl _ _ rfl (.slice (some ⟨w.heap.size, 0, none⟩) 0 0) [] l A _ c rfl rfl (zero_row (Kd.int .u8) trivial (Nat.le_refl _)) (Kd.C_below HC.out (below_alloc (Below.refl _ _) _)) (by simp) (by simp; omega) ?_; intro A1 m' c1 wm hr1 hg1; have R1 := Lib.hid hr1; have G1 := Lib.hid hg1; clear hr1 hg1))
  have r1 := R1.out
  rw [List.nil_append] at r1
  have hm' := (Kd.R_reads' r1).1
  subst hm'
  have BW : Below w.heap.size w wm := ⟨G1.out.os, G1.out.tape, G1.out.output, Nat.le_trans (Nat.le_of_lt (by simp)) G1.out.size, fun k hk => (G1.out.block k (by simp; omega) (by simp [Value.ownBlock]; omega)).trans (Below.heap_alloc w _ k hk)⟩
  have RR := Lib.hid r1
  have BB := Lib.hid BW
  clear r1 BW R1 G1 HC
  go_loopw [5] (fun v5 wr => ∃ (A2 : Option Addr) (c2 j : Nat), v5 = .slice A2 (l.length + j) c2 ∧ j ≤ size.toNat - l.length ∧ Hid ((Kd.int .u8).R 5 wr w.heap.size (fun _ => True) (.slice A2 (l.length + j) c2) (l ++ List.replicate j 0)) ∧ Hid (Below w.heap.size w wr)) (fun v5 _ => size.toNat - slen v5)
  case atStart => exact ⟨A1, c1, 0, rfl, Nat.zero_le _, Lib.hid (by simpa using RR.out), BB⟩
  case round =>
    obtain ⟨A2, c2, j, rfl, hj, RJ, BJ⟩ := hrel
    by_cases hlt : ((l.length + j : Nat) : Int) < size
    · have hsz := BJ.out.size
      go_wp2_with (first | ((with_reducible refine gate_builtin (b := .append) (xs := #[.tmp 13, .tmp 14]) rfl ?_); at_builtin; refine app_u8 (wb := w) w.heap.size rfl (.tmp 13) (.tmp 14) rfl _ _ 0 rfl rfl rfl (fun _ _ => trivial) RJ.out BJ.out hsz (by simp; omega) ?_; intro A3 c3 wn hr hb hg; have RN := Lib.hid hr; have BN := Lib.hid hb; clear hr hb hg))
      go_roundw
      case rel => exact ⟨A3, c3, j + 1, by simp [Nat.add_assoc], by omega, Lib.hid (by have := RN.out; simpa [Nat.add_assoc, List.replicate_succ'] using this), BN⟩
      case measure => simp [slen]; omega
    · have hje : j = size.toNat - l.length := by omega
      subst hje
      obtain ⟨L, hL⟩ : ∃ L, L = l.length + (size.toNat - l.length) := ⟨_, rfl⟩
      have hfin := RJ.out
      rw [← hL] at hfin ⊢
      have hge : ¬ ((L : Int) < size) := by omega
      have HLN := Lib.hid (show L = (fillTo l size).length by rw [hL]; unfold fillTo; simp)
      have HF := Lib.hid hfin
      clear hfin hL RJ hj hlt
      go_wp2_with fail
      go_ret
      have hf := HF.out
      have hl := HLN.out
      subst hl
      exact ⟨A2, c2, rfl, hf, BJ.out⟩
theorem over_eq (data b : List Int) (p : Nat) : (fillTo data ((p + b.length : Nat) : Int)).take p ++ b ++ (fillTo data ((p + b.length : Nat) : Int)).drop (p + b.length) = overB data p b := by
  unfold fillTo overB
  rw [Int.toNat_natCast]
  by_cases h : data.length ≤ p
  · have e1 : (data ++ List.replicate (p + b.length - data.length) (0 : Int)).take p = data ++ List.replicate (p - data.length) 0 := by
      rw [List.take_append, List.take_of_length_le h, List.take_replicate]
      congr 2
      omega
    have e2 : (data ++ List.replicate (p + b.length - data.length) (0 : Int)).drop (p + b.length) = [] := List.drop_eq_nil_of_le (by simp; omega)
    have e3 : data.take p = data := List.take_of_length_le h
    have e4 : data.drop (p + b.length) = [] := List.drop_eq_nil_of_le (by omega)
    rw [e1, e2, e3, e4]
    simp
  · have e1 : (data ++ List.replicate (p + b.length - data.length) (0 : Int)).take p = data.take p := List.take_append_of_le_length (by omega)
    have e0 : (List.replicate (p + b.length - data.length) (0 : Int)).drop (p + b.length - data.length) = [] := List.drop_eq_nil_of_le (by simp)
    have e2 : (data ++ List.replicate (p + b.length - data.length) (0 : Int)).drop (p + b.length) = data.drop (p + b.length) := by
      rw [List.drop_append, e0, List.append_nil]
    rw [e1, e2, show p - data.length = 0 by omega]
    simp
set_option maxHeartbeats 1000000 in
set_option maxRecDepth 100000 in
theorem over_any (w : World) (l b : List Int) (A Ab : Option Addr) (m c mb cb : Nat) (hC : (Kd.int .u8).C w A m l) (hB : (Kd.int .u8).C w Ab mb b) (hm : m ≤ 1000000) (hmb : mb ≤ 1000000) (p : Nat) (hp : p ≤ 2000000) :
    Calls Tryd.prog 68 #[.slice A m c, .int .i64 p, .slice Ab mb cb] w fun e w' => ∃ A1 c1, e = .returned (.slice A1 (overB l p b).length c1) ∧ (Kd.int .u8).R 5 w' w.heap.size (fun _ => True) (.slice A1 (overB l p b).length c1) (overB l p b) ∧ Below w.heap.size w w' := by
  obtain rfl := hB.1
  obtain ⟨q, hq⟩ : ∃ q, q = p + b.length := ⟨_, rfl⟩
  have HG := Lib.hid (grown_any w l A m c hC (by omega) (q : Int) (by omega))
  have HB := Lib.hid hB
  have he := over_eq l b p
  rw [← hq] at he
  obtain ⟨out, hout⟩ : ∃ out, out = fillTo l (q : Int) := ⟨_, rfl⟩
  rw [← hout] at HG he
  have hol : out.length = max l.length q := by rw [hout, fillTo_len]; simp
  have hol2 : (overB l p b).length = out.length := by
    rw [← he]
    simp
    omega
  have HE := Lib.hid he
  have HO2 := Lib.hid hol2
  have hqo : q ≤ out.length := by omega
  have hpo : (p : Int) ≤ (out.length : Int) := by omega
  have HQ := Lib.hid hq
  have hsum : (p : Int) + (b.length : Int) = (q : Int) := by omega
  clear hC hB he hout hol hol2 hq
  go_enter Tryd.func68, Tryd.ntmps68
  go_upto_region 2 with (first | (go_at_call 67; (refine (HG.out).mono ?_); rintro e w1 ⟨A1, c1, rfl, hr, hb⟩; have RG := Lib.hid hr; have BG := Lib.hid hb; clear hr hb))
  obtain ⟨i5, hi5, hz5⟩ := Option.map_eq_some_iff.1 PFnHandleScript.info5
  simp only [Prod.mk.injEq] at hz5
  have cut := cut_from (P := Tryd.prog) 22 5 .i64 Tryd.underlying22 hi5 1 hz5.2.1 A1 out.length c1 (p : Int) (by omega) hpo
  rw [Int.toNat_natCast] at cut
  obtain ⟨As, hAs⟩ : ∃ As, As = (if c1 = p then A1 else Option.map (fun x => x.add (p * 1)) A1) := ⟨_, rfl⟩
  rw [← hAs] at cut
  have HAS := Lib.hid hAs
  have HB1 := Lib.hid (Kd.C_below HB.out BG.out)
  clear hAs hz5 hi5
  go_wp2_with (first | ((with_reducible refine gate_builtin (b := .copy) (xs := #[.tmp 16, .tmp 17]) rfl ?_); refine copy_mid (A := A1) (n := out.length) (cap := c1) (p := p) (m := b.length) rfl (.tmp 16) (.tmp 17) rfl rfl HAS.out ⟨Ab, rfl, HB1.out⟩ RG.out (by have := HQ.out; omega) ?_; intro w2 r hr2 hg2; have R2 := Lib.hid hr2; have G2 := Lib.hid hg2; clear hr2 hg2))
  go_ret
  have r2 := R2.out
  have e2 := HE.out
  rw [HQ.out] at e2
  rw [e2] at r2
  have h2 := HO2.out
  rw [← h2] at r2
  refine ⟨A1, c1, by rw [h2]; rfl, r2, ?_⟩
  have gb := G2.out
  refine ⟨gb.os.trans BG.out.os, gb.tape.trans BG.out.tape, gb.output.trans BG.out.output, Nat.le_trans BG.out.size gb.size, fun k hk => (gb.block k (Nat.lt_of_lt_of_le hk BG.out.size) (fun e => ?_)).trans (BG.out.block k hk)⟩
  have := Kd.R_base RG.out k e.symm
  omega
theorem rd_mid (l : List Int) (p n : Nat) (h : p ≤ l.length) : (l.take (min l.length (p + n))).drop p = (l.drop p).take n := by
  rw [List.drop_take]
  apply List.take_eq_take_iff.2
  rw [List.length_drop]
  omega
set_option maxHeartbeats 1000000 in
set_option maxRecDepth 100000 in
theorem read_any (w : World) (l : List Int) (A : Option Addr) (m c : Nat) (hC : (Kd.int .u8).C w A m l) (hc : m ≤ c) (hm : m ≤ 1000000) (p n : Nat) (hp : p ≤ 4611686018427387904) (hn : n ≤ 1000000) :
    Calls Tryd.prog 66 #[.slice A m c, .int .i64 p, .int .i64 n] w fun e w' => ∃ A1 c1, e = .returned (.tuple #[.slice A1 (rdD false l p n).length c1, .int .i64 (rdE false l.length p n)]) ∧ (Kd.int .u8).R 5 w' w.heap.size (fun _ => True) (.slice A1 (rdD false l p n).length c1) (rdD false l p n) ∧ Below w.heap.size w w' := by
  obtain rfl := hC.1
  have hmx : (if (n : Int) < 0 then 0 else (n : Int)) = (n : Int) := by rw [if_neg (by omega)]
  by_cases h1 : 0 < n ∧ p = l.length
  · have hE : rdE false l.length p n = 4 := by unfold rdE; simp; omega
    have hR : rdD false l p n = [] := by unfold rdD; rw [hE]; rfl
    rw [hE, hR]
    obtain ⟨h1, rfl⟩ := h1
    clear hC hE hR
    have q1 : (0 : Int) < (n : Int) := by omega
    go_enter Tryd.func66, Tryd.ntmps66
    go_wp2_with fail
    go_ret2
    exact ⟨none, 0, rfl, Kd.R_nil _ _ _ _ _, Below.refl _ _⟩
  · by_cases h2 : l.length < p
    · have hE : rdE false l.length p n = 5 := by unfold rdE; simp; omega
      have hR : rdD false l p n = [] := by unfold rdD; rw [hE]; rfl
      rw [hE, hR]
      clear hC hE hR h1
      have q1 : ¬ ((p : Int) = (l.length : Int)) := by omega
      have q2 : (l.length : Int) < (p : Int) := by omega
      go_enter Tryd.func66, Tryd.ntmps66
      go_wp2_with fail
      all_goals
        go_ret2
        exact ⟨none, 0, rfl, Kd.R_nil _ _ _ _ _, Below.refl _ _⟩
    · have hE : rdE false l.length p n = 0 := by unfold rdE; simp; omega
      have hR : rdD false l p n = (l.drop p).take n := by unfold rdD; rw [hE]; rfl
      rw [hE, hR]
      obtain ⟨hi, hhi⟩ : ∃ hi, hi = min l.length (p + n) := ⟨_, rfl⟩
      have hx : (if ((p : Int) + n) < l.length then ((p : Int) + n) else (l.length : Int)) = (hi : Int) := by split <;> omega
      obtain ⟨i5, hi5, hz5⟩ := Option.map_eq_some_iff.1 PFnHandleScript.info5
      simp only [Prod.mk.injEq] at hz5
      have cut := cut_mid (P := Tryd.prog) 22 5 .i64 .i64 Tryd.underlying22 hi5 1 hz5.2.1 A l.length c (p : Int) (hi : Int) (by omega) (by omega) (by omega) hc
      rw [Int.toNat_natCast, Int.toNat_natCast] at cut
      have hCM := Kd.C_mid (lo := p) (hi := hi) (c := c) hC (by omega) (by omega) hc
      have hmid : (l.take hi).drop p = (l.drop p).take n := by rw [hhi]; exact rd_mid l p n (by omega)
      rw [hmid] at hCM
      have hlen : ((l.drop p).take n).length = hi - p := by rw [List.length_take, List.length_drop]; omega
      rw [hlen] at hCM
      have hCM' : (Kd.int .u8).C w (if c = p then A else Option.map (fun x => x.add (p * 1)) A) (hi - p) ((l.drop p).take n) := hCM
      obtain ⟨As, hAs⟩ : ∃ As, As = (if c = p then A else Option.map (fun x => x.add (p * 1)) A) := ⟨_, rfl⟩
      rw [← hAs] at cut hCM'
      have HCM := Lib.hid hCM'
      generalize (l.drop p).take n = d at *
      rw [hlen]
      have HLN := Lib.hid hlen
      have hk : hi - p ≤ 1000000 := by omega
      clear hCM hCM' hAs hmid hE hR hz5 hi5 hC hlen hhi
      have q2 : ¬ ((l.length : Int) < (p : Int)) := by omega
      have q3 : (0 < (n : Int) ∧ ¬ ((p : Int) = (l.length : Int))) ∨ ¬ (0 < (n : Int)) := by omega
      clear h1 h2
      rcases q3 with ⟨q4, q5⟩ | q4
      all_goals
        go_enter Tryd.func66, Tryd.ntmps66
        go_wp2_with (first | ((with_reducible refine gate_builtin (b := .append) (xs := #[.tmp 27, .tmp 36]) rfl ?_); at_builtin; refine app_bytes w.heap.size rfl _ _ rfl (.slice (some ⟨w.heap.size, 0, none⟩) 0 0) [] d As (hi - p) (c - p) rfl rfl (zero_row (Kd.int .u8) trivial (Nat.le_refl _)) (Kd.C_below HCM.out (below_alloc (Below.refl _ _) _)) (by simp) (by simp; omega) ?_; intro A1 m' c1 wm hr1 hg1; have R1 := Lib.hid hr1; have G1 := Lib.hid hg1; clear hr1 hg1))
        go_ret2
        have r1 := R1.out
        rw [List.nil_append] at r1
        have hm' := (Kd.R_reads' r1).1
        rw [HLN.out] at hm'
        subst hm'
        exact ⟨A1, c1, rfl, r1, ⟨G1.out.os, G1.out.tape, G1.out.output, Nat.le_trans (Nat.le_of_lt (by simp)) G1.out.size, fun k hk => (G1.out.block k (by simp; omega) (by simp [Value.ownBlock]; omega)).trans (Below.heap_alloc w _ k hk)⟩⟩
end Go.Proofs.YtljcdjggjphedaaDoor.Mf
namespace Go.Proofs.YtljcdjggjphedaaDoor.Mn
open Go.RowKit Go.Proofs.YtljcdjggjphedaaDoorW.PrintWords Go.Proofs.YtljcdjggjphedaaDoorW.PrintLast Go.Proofs.YtljcdjggjphedaaDoorW.PrintMore Go.Proofs.YtljcdjggjphedaaDoor.PFnHandleScript
set_option linter.unusedVariables false
set_option linter.unusedSimpArgs false
def lst (l : List ByteArray) : List UInt8 := (rdOf ByteArray.empty l ((l.length : Int) - 1)).toList
def mstep (rt : Bool) (l : List ByteArray) (e : ByteArray) : List ByteArray :=
  if e.toList = ([] : List UInt8) then l else if e.toList = ([46] : List UInt8) then l else
  if e.toList = ([46, 46] : List UInt8) then (if 0 < l.length ∧ lst l ≠ ([46, 46] : List UInt8) then l.take (l.length - 1) else if rt = true then l else l ++ [e]) else l ++ [e]
/-- Where the element ends that begins at i. -/
def eend (s : ByteArray) : Nat → Nat → Nat
  | 0, i => i
  | f + 1, i => if i < s.size then (if bt s i = 47 then i else eend s f (i + 1)) else i
/-- The elements that are kept, from i on. -/
def mels (s : ByteArray) (rt : Bool) : Nat → Nat → List ByteArray → List ByteArray
  | 0, _, l => l
  | f + 1, i, l => if i < s.size then mels s rt f (eend s (s.size - i) i + 1) (mstep rt l (s.extract i (eend s (s.size - i) i))) else l
def mjoin (rt : Bool) : Bool → ByteArray → List ByteArray → ByteArray
  | _, out, [] => out
  | p, out, e :: r => mjoin rt true (if p = true ∨ rt = true then (out ++ (⟨#[47]⟩ : ByteArray)) ++ e else out ++ e) r
def mfin (out : ByteArray) : ByteArray := if out.toList = ([] : List UInt8) then ⟨#[47]⟩ else if out.toList = ([46, 46] : List UInt8) then ⟨#[47]⟩ else out
def rooted (s : ByteArray) : Bool := if 0 < s.size then bt s 0 == 47 else false
/-- The form of a name that is kept. -/
def memName (s : ByteArray) : ByteArray := mfin (mjoin (rooted s) false ⟨#[]⟩ (mels s (rooted s) s.size 0 []))
theorem eend_ge (s : ByteArray) : ∀ f i, i ≤ eend s f i
  | 0, i => Nat.le_refl _
  | f + 1, i => by
    unfold eend
    split
    · split
      · exact Nat.le_refl _
      · exact Nat.le_trans (Nat.le_succ i) (eend_ge s f (i + 1))
    · exact Nat.le_refl _
theorem eend_le (s : ByteArray) : ∀ f i, i ≤ s.size → eend s f i ≤ s.size
  | 0, i, h => h
  | f + 1, i, h => by
    unfold eend
    split
    · split
      · exact h
      · exact eend_le s f (i + 1) (by omega)
    · exact h
theorem ev_succ {α : Type} {g h : Nat → Option α} {r : α} (e : Ev h r) (hg : ∀ k, g (k + 1) = h k) : Ev g r := by
  obtain ⟨K, hK⟩ := e
  refine ⟨K + 1, fun k hk => ?_⟩
  obtain ⟨k, rfl⟩ : ∃ j, k = j + 1 := ⟨k - 1, by omega⟩
  rw [hg]
  exact hK k (by omega)
theorem ev_now {α : Type} {g : Nat → Option α} {r : α} (hg : ∀ k, g (k + 1) = some r) : Ev g r := ⟨1, fun k hk => by
  obtain ⟨k, rfl⟩ : ∃ j, k = j + 1 := ⟨k - 1, by omega⟩
  exact hg k⟩
theorem w1 {x : Nat} (h : x < 9223372036854775807) : wrap64 ((x : Int) + 1) = ((x + 1 : Nat) : Int) := by unfold wrap64; omega
theorem ev_l1 (s : ByteArray) (hs : s.size ≤ 1000000) (l : List ByteArray) (rt : Bool) (i : Nat) (R : ByteArray) : ∀ (f k : Nat), f = s.size - k → Ev (fun g => spec_MemName.j3 g s l rt i (eend s f k)) R → Ev (fun g => spec_MemName.l1 g s l rt i k) R
  | 0, k, hf, e => ev_succ e (fun g => by
      unfold spec_MemName.l1
      rw [if_neg (by omega)]
      rfl)
  | f + 1, k, hf, e => by
    have hk : k < s.size := by omega
    by_cases hb : bt s k = 47
    · have he : eend s (f + 1) k = k := by unfold eend; rw [if_pos hk, if_pos hb]
      rw [he] at e
      exact ev_succ e (fun g => by
        unfold spec_MemName.l1
        rw [if_pos (by omega), if_pos (by omega), if_pos hb])
    · have he : eend s (f + 1) k = eend s f (k + 1) := by rw [eend, if_pos hk, if_neg hb]
      rw [he] at e
      exact ev_succ (ev_l1 s hs l rt i R f (k + 1) (by omega) e) (fun g => by
        show spec_MemName.l1 (g + 1) s l rt i k = _
        rw [spec_MemName.l1, if_pos (by omega), if_pos (by omega), if_neg hb, w1 (by omega)])
theorem ev_j3 (s : ByteArray) (hs : s.size ≤ 1000000) (l : List ByteArray) (hl : l.length ≤ 1000001) (rt : Bool) (i k : Nat) (hik : i ≤ k) (hk : k ≤ s.size) (R : ByteArray) (e : Ev (fun g => spec_MemName.l0 g s (mstep rt l (s.extract i k)) rt ((k + 1 : Nat) : Int)) R) : Ev (fun g => spec_MemName.j3 g s l rt i k) R := by
  have hw : wrap64 ((k : Int) + 1) = ((k + 1 : Nat) : Int) := w1 (by omega)
  have hx : ((i : Int)).toNat = i := Int.toNat_natCast i
  have hy : ((k : Int)).toNat = k := Int.toNat_natCast k
  by_cases h1 : (s.extract i k).toList = ([] : List UInt8)
  · refine ev_succ (h := fun g => spec_MemName.j4 g s l rt k (s.extract i k) true) (ev_succ e (fun g => ?_)) (fun g => ?_)
    · rw [spec_MemName.j4, if_pos rfl, hw, mstep, if_pos h1]
    · rw [spec_MemName.j3, if_pos (by omega), if_pos (by omega), if_pos (by omega), hx, hy, if_pos h1]
  · by_cases h2 : (s.extract i k).toList = ([46] : List UInt8)
    · refine ev_succ (h := fun g => spec_MemName.j4 g s l rt k (s.extract i k) true) (ev_succ e (fun g => ?_)) (fun g => ?_)
      · rw [spec_MemName.j4, if_pos rfl, hw, mstep, if_neg h1, if_pos h2]
      · rw [spec_MemName.j3, if_pos (by omega), if_pos (by omega), if_pos (by omega), hx, hy, if_neg h1, h2]
        rfl
    · have hb : ((s.extract i k).toList == ([46] : List UInt8)) = false := by simpa using h2
      refine ev_succ (h := fun g => spec_MemName.j4 g s l rt k (s.extract i k) false) ?_ (fun g => ?_)
      · by_cases h3 : (s.extract i k).toList = ([46, 46] : List UInt8)
        · by_cases h4 : 0 < l.length
          · have hw2 : wrap64 ((l.length : Int) - 1) = (l.length : Int) - 1 := by unfold wrap64; omega
            by_cases h5 : lst l = ([46, 46] : List UInt8)
            · have hm : mstep rt l (s.extract i k) = if rt = true then l else l ++ [s.extract i k] := by
                rw [mstep, if_neg h1, if_neg h2, if_pos h3, if_neg (by simp [h5])]
              rw [hm] at e
              refine ev_succ (h := fun g => spec_MemName.j5 g s l rt k (s.extract i k) false) (ev_succ e (fun g => ?_)) (fun g => ?_)
              · rw [spec_MemName.j5, if_neg (by simp)]
                by_cases h6 : rt = true
                · rw [if_pos h6, if_pos h6, hw]
                · rw [if_neg h6, if_neg h6, if_pos (by omega), hw]
              · rw [spec_MemName.j4, if_neg (by simp), if_pos h3, if_pos (by omega), hw2, if_pos (by omega), if_pos (by omega)]
                have : ((rdOf ByteArray.empty l ((l.length : Int) - 1)).toList != ([46, 46] : List UInt8)) = false := by
                  have := h5; unfold lst at this; rw [this]; rfl
                rw [this]
            · have hm : mstep rt l (s.extract i k) = l.take (l.length - 1) := by
                rw [mstep, if_neg h1, if_neg h2, if_pos h3, if_pos ⟨h4, h5⟩]
              rw [hm] at e
              refine ev_succ (h := fun g => spec_MemName.j5 g s l rt k (s.extract i k) true) (ev_succ e (fun g => ?_)) (fun g => ?_)
              · rw [spec_MemName.j5, if_pos rfl, hw2, if_pos (by omega), if_pos (by omega), hw, show ((l.length : Int) - 1).toNat = l.length - 1 by omega]
              · rw [spec_MemName.j4, if_neg (by simp), if_pos h3, if_pos (by omega), hw2, if_pos (by omega), if_pos (by omega)]
                have : ((rdOf ByteArray.empty l ((l.length : Int) - 1)).toList != ([46, 46] : List UInt8)) = true := by
                  have := h5; unfold lst at this; simpa using this
                rw [this]
          · have hm : mstep rt l (s.extract i k) = if rt = true then l else l ++ [s.extract i k] := by
              rw [mstep, if_neg h1, if_neg h2, if_pos h3, if_neg (by simp [h4])]
            rw [hm] at e
            refine ev_succ (h := fun g => spec_MemName.j5 g s l rt k (s.extract i k) false) (ev_succ e (fun g => ?_)) (fun g => ?_)
            · rw [spec_MemName.j5, if_neg (by simp)]
              by_cases h6 : rt = true
              · rw [if_pos h6, if_pos h6, hw]
              · rw [if_neg h6, if_neg h6, if_pos (by omega), hw]
            · rw [spec_MemName.j4, if_neg (by simp), if_pos h3, if_neg (by omega)]
        · have hm : mstep rt l (s.extract i k) = l ++ [s.extract i k] := by
            rw [mstep, if_neg h1, if_neg h2, if_neg h3]
          rw [hm] at e
          exact ev_succ e (fun g => by rw [spec_MemName.j4, if_neg (by simp), if_neg h3, if_pos (by omega), hw])
      · rw [spec_MemName.j3, if_pos (by omega), if_pos (by omega), if_pos (by omega), hx, hy, if_neg h1, hb]
theorem mstep_len (rt : Bool) (l : List ByteArray) (e : ByteArray) : (mstep rt l e).length ≤ l.length + 1 := by
  unfold mstep
  repeat' split
  all_goals (simp <;> omega)
theorem mstep_mem (rt : Bool) (l : List ByteArray) (e : ByteArray) (n : Nat) (hl : ∀ x ∈ l, x.size ≤ n) (he : e.size ≤ n) : ∀ x ∈ mstep rt l e, x.size ≤ n := by
  have ha : ∀ x ∈ l ++ [e], x.size ≤ n := fun x hx => by
    rcases List.mem_append.1 hx with h | h
    · exact hl x h
    · rw [List.mem_singleton.1 h]; exact he
  unfold mstep
  split
  · exact hl
  · split
    · exact hl
    · split
      · split
        · exact fun x hx => hl x (List.mem_of_mem_take hx)
        · split
          · exact hl
          · exact ha
      · exact ha
theorem ext_size (s : ByteArray) (i k : Nat) : (s.extract i k).size ≤ s.size := by
  rw [ByteArray.size_extract]; omega
theorem mels_mem (s : ByteArray) (rt : Bool) : ∀ f i l, (∀ x ∈ l, x.size ≤ s.size) → ∀ x ∈ mels s rt f i l, x.size ≤ s.size
  | 0, _, l, h => h
  | f + 1, i, l, h => by
    unfold mels
    split
    · exact mels_mem s rt f _ _ (mstep_mem rt l _ _ h (ext_size _ _ _))
    · exact h
theorem mels_len (s : ByteArray) (rt : Bool) : ∀ f i l, (mels s rt f i l).length ≤ l.length + f
  | 0, _, l => Nat.le_refl _
  | f + 1, i, l => by
    unfold mels
    split
    · have h1 := mels_len s rt f (eend s (s.size - i) i + 1) (mstep rt l (s.extract i (eend s (s.size - i) i)))
      have h2 := mstep_len rt l (s.extract i (eend s (s.size - i) i))
      omega
    · omega
theorem ev_l0 (s : ByteArray) (hs : s.size ≤ 1000000) (rt : Bool) (R : ByteArray) : ∀ (f i : Nat) (l : List ByteArray), s.size - i ≤ f → l.length ≤ i → i ≤ s.size + 1 →
    Ev (fun g => spec_MemName.l2 g rt (⟨#[]⟩ : ByteArray) (mels s rt f i l) ((mels s rt f i l).length : Int) 0) R → Ev (fun g => spec_MemName.l0 g s l rt i) R
  | f, i, l, hf, hl, hi, e => by
    by_cases hlt : i < s.size
    · obtain ⟨f, rfl⟩ : ∃ f', f = f' + 1 := ⟨f - 1, by omega⟩
      rw [show mels s rt (f + 1) i l = mels s rt f (eend s (s.size - i) i + 1) (mstep rt l (s.extract i (eend s (s.size - i) i))) by rw [mels, if_pos hlt]] at e
      have hk1 := eend_ge s (s.size - i) i
      have hk2 := eend_le s (s.size - i) i (by omega)
      have h2 := mstep_len rt l (s.extract i (eend s (s.size - i) i))
      have e2 := ev_l0 s hs rt R f _ _ (by omega) (by omega) (by omega) e
      refine ev_succ (ev_l1 s hs l rt i R (s.size - i) i rfl (ev_j3 s hs l (by omega) rt i _ hk1 hk2 R e2)) (fun g => ?_)
      rw [spec_MemName.l0, if_pos (by omega)]
    · have hm : mels s rt f i l = l := by
        cases f with
        | zero => rfl
        | succ f => rw [mels, if_neg hlt]
      rw [hm] at e
      refine ev_succ e (fun g => ?_)
      rw [spec_MemName.l0, if_neg (by omega)]
theorem ev_l2 (rt : Bool) (L : List ByteArray) (hL : L.length ≤ 1000001) (hx : ∀ x ∈ L, x.size ≤ 1000000) : ∀ (d j : Nat) (out : ByteArray), j + d = L.length → out.size ≤ j * 1000001 →
    Ev (fun g => spec_MemName.l2 g rt out L (L.length : Int) j) (mfin (mjoin rt (decide (0 < j)) out (L.drop j)))
  | 0, j, out, hd, ho => by
    rw [List.drop_eq_nil_of_le (by omega)]
    refine ev_now (fun g => ?_)
    rw [spec_MemName.l2, if_neg (by omega)]
    unfold mjoin mfin
    split
    · rfl
    · split <;> rfl
  | d + 1, j, out, hd, ho => by
    have hj : j < L.length := by omega
    have hdr : L.drop j = L[j] :: L.drop (j + 1) := List.drop_eq_getElem_cons hj
    have hrd : rdOf ByteArray.empty L (j : Int) = L[j] := by
      unfold rdOf
      rw [Int.toNat_natCast, List.getD_eq_getElem?_getD, List.getElem?_eq_getElem hj]
      rfl
    have hsz := hx L[j] (List.getElem_mem hj)
    have hw : wrap64 ((j : Int) + 1) = ((j + 1 : Nat) : Int) := w1 (by omega)
    have s1 : (out ++ (⟨#[47]⟩ : ByteArray)).size = out.size + 1 := by rw [ByteArray.size_append]; rfl
    have s2 : ((out ++ (⟨#[47]⟩ : ByteArray)) ++ L[j]).size = out.size + 1 + L[j].size := by rw [ByteArray.size_append, s1]
    have s3 : (out ++ L[j]).size = out.size + L[j].size := ByteArray.size_append
    have hbd : out.size ≤ 1000001 * 1000001 := Nat.le_trans ho (Nat.mul_le_mul_right _ (by omega))
    have hnx : out.size + 1 + L[j].size ≤ (j + 1) * 1000001 := by rw [Nat.succ_mul]; omega
    rw [hdr, mjoin]
    by_cases h0 : 0 < j
    · rw [if_pos (.inl (by simpa using h0))]
      have ih := ev_l2 rt L hL hx d (j + 1) ((out ++ (⟨#[47]⟩ : ByteArray)) ++ L[j]) (by omega) (by rw [s2]; exact hnx)
      rw [show decide (0 < j + 1) = true by simp] at ih
      refine ev_succ ih (fun g => ?_)
      rw [spec_MemName.l2, if_pos (by omega), if_pos (by omega), if_pos (by omega), if_pos (by omega), if_pos (by omega), hrd, if_pos (by omega), hw]
    · by_cases h1 : rt = true
      · rw [if_pos (.inr h1)]
        have ih := ev_l2 rt L hL hx d (j + 1) ((out ++ (⟨#[47]⟩ : ByteArray)) ++ L[j]) (by omega) (by rw [s2]; exact hnx)
        rw [show decide (0 < j + 1) = true by simp] at ih
        refine ev_succ ih (fun g => ?_)
        rw [spec_MemName.l2, if_pos (by omega), if_pos (by omega), if_pos (by omega), if_neg (by omega), if_pos h1, if_pos (by omega), hrd, if_pos (by omega), hw]
      · rw [if_neg (by simp [h0, h1])]
        have ih := ev_l2 rt L hL hx d (j + 1) (out ++ L[j]) (by omega) (by rw [s3]; omega)
        rw [show decide (0 < j + 1) = true by simp] at ih
        refine ev_succ ih (fun g => ?_)
        rw [spec_MemName.l2, if_pos (by omega), if_pos (by omega), if_pos (by omega), if_neg (by omega), if_neg h1, hrd, if_pos (by omega), hw]
theorem memName_f (s : ByteArray) (hs : s.size ≤ 1000000) : ∃ k, spec_MemName.f k s = some (memName s) := by
  have hl := mels_len s (rooted s) s.size 0 []
  have e2 := ev_l2 (rooted s) (mels s (rooted s) s.size 0 []) (by simp at hl; omega) (fun x hx => by have := mels_mem s (rooted s) s.size 0 [] (fun x hx => by simp at hx) x hx; omega) _ 0 ⟨#[]⟩ (Nat.zero_add _) (by decide)
  rw [List.drop_zero, show decide (0 < 0) = false from rfl] at e2
  have e0 := ev_l0 s hs (rooted s) _ s.size 0 [] (by omega) (by simp) (by omega) e2
  have ej : Ev (fun g => spec_MemName.j0 g s [] (rooted s)) (memName s) := ev_succ e0 (fun g => by rw [spec_MemName.j0]; rfl)
  obtain ⟨k, hk⟩ := ej.rounds
  refine ⟨k, ?_⟩
  unfold spec_MemName.f
  simp only [Option.bind_some]
  by_cases h : 0 < s.size
  · rw [if_pos (by omega), if_pos (by omega)]
    have : rooted s = (bt s 0 == 47) := by unfold rooted; rw [if_pos h]
    rw [← this]
    exact hk
  · rw [if_neg (by omega)]
    have : rooted s = false := by unfold rooted; rw [if_neg h]
    rw [this] at hk
    exact hk
theorem memName_any (s : ByteArray) (hs : s.size ≤ 1000000) (w : World) : Calls Tryd.prog 57 #[.string s] w fun e w' => e = .returned (.string (memName s)) ∧ Below w.heap.size w w' := by
  obtain ⟨k, hk⟩ := memName_f s hs
  exact spec_MemName.calls k s (memName s) w hk
end Go.Proofs.YtljcdjggjphedaaDoor.Mn
namespace Go.Proofs.YtljcdjggjphedaaDoor.Mq
open Go.RowKit Go.Maps Go.Proofs.YtljcdjggjphedaaDoorW.PrintWords Go.Proofs.YtljcdjggjphedaaDoorW.PrintLast Go.Proofs.YtljcdjggjphedaaDoorW.PrintMore Go.Proofs.YtljcdjggjphedaaDoor.PFnHandleScript Go.Proofs.YtljcdjggjphedaaDoor.Hd Go.Proofs.YtljcdjggjphedaaDoor.Ms Go.Proofs.YtljcdjggjphedaaDoor.Mn Go.Proofs.YtljcdjggjphedaaDoor.Pm Go.Proofs.YtljcdjggjphedaaDoor.Mf
set_option linter.unusedVariables false
set_option linter.unusedSimpArgs false
/-- The last slash at or ahead of i, but not the first byte; 0 if none. -/
def parI (s : ByteArray) : Nat → Nat
  | 0 => 0
  | i + 1 => if bt s ((i + 1 : Nat) : Int) = 47 then i + 1 else parI s i
def memParent (s : ByteArray) : ByteArray := if parI s (s.size - 1) = 0 then ⟨#[47]⟩ else s.extract 0 (parI s (s.size - 1))
theorem parI_le (s : ByteArray) : ∀ i, parI s i ≤ i
  | 0 => Nat.le_refl _
  | i + 1 => by
    unfold parI
    split
    · exact Nat.le_refl _
    · exact Nat.le_trans (parI_le s i) (Nat.le_succ i)
theorem bt_at (s : ByteArray) (i : Nat) (h : i < s.size) : bt s (i : Int) = (s[i].toNat : Int) := by
  unfold bt
  simp [h]
set_option maxHeartbeats 1000000 in
theorem par_any (s : ByteArray) (w : World) (hs : s.size ≤ 9223372036854775807) :
    Calls Tryd.prog 94 #[.string s] w fun e w' => e = .returned (.string (memParent s)) ∧ w = w' := by
  obtain ⟨q, hq⟩ : ∃ q, q = parI s (s.size - 1) := ⟨_, rfl⟩
  have HQ := Lib.hid hq
  obtain ⟨r, hr⟩ : ∃ r, r = memParent s := ⟨_, rfl⟩
  have HR := Lib.hid (show r = if q = 0 then ⟨#[47]⟩ else s.extract 0 q by rw [hr, hq]; rfl)
  rw [← hr]
  clear hq hr
  go_enter Tryd.func94, Tryd.ntmps94
  go_wp2_with fail
  go_loop [3] (fun i => ∃ z : Int, -1 ≤ z ∧ z + 1 ≤ s.size ∧ i = .int .i64 z ∧ Hid (q = parI s z.toNat)) (fun i => (intOf i + 1).toNat)
  case atStart => exact ⟨(s.size : Int) - 1, by omega, by omega, rfl, Lib.hid (by rw [HQ.out]; congr 1; omega)⟩
  case round =>
    obtain ⟨z, hz1, hz2, rfl, HZ⟩ := hrel
    by_cases hp : 0 < z
    · obtain ⟨k, rfl⟩ : ∃ k : Nat, z = ((k + 1 : Nat) : Int) := ⟨(z - 1).toNat, by omega⟩
      have hk : k + 1 < s.size := by omega
      have hbt := bt_at s (k + 1) hk
      have hz := HZ.out
      rw [Int.toNat_natCast, parI, hbt] at hz
      by_cases h47 : (s[k + 1].toNat : Int) = 47
      · rw [if_pos h47] at hz
        have h5 : ((s[k + 1].toNat : Int) == 47) = true := by rw [h47]; rfl
        have HZ2 := Lib.hid hz
        clear hz hbt h47 HZ
        go_wp2_with fail
        go_ret
        refine ⟨?_, rfl⟩
        rw [HR.out, HZ2.out, if_neg (by omega)]
        rfl
      · rw [if_neg h47] at hz
        have h5 : ((s[k + 1].toNat : Int) == 47) = false := by simpa using h47
        have HZ2 := Lib.hid hz
        clear hz hbt h47 HZ
        go_wp2_with fail
        go_round
        case rel => exact ⟨(k : Int), by omega, by omega, by first | rfl | go_num, Lib.hid (by rw [Int.toNat_natCast]; exact HZ2.out)⟩
        case measure => (simp [intOf] <;> omega)
    · have hz0 : z.toNat = 0 := by omega
      have hz := HZ.out
      rw [hz0, parI] at hz
      have HZ2 := Lib.hid hz
      have hz' : z ≤ 0 := by omega
      clear hz hz0 HZ hp
      go_wp2_with fail
      go_ret
      refine ⟨?_, rfl⟩
      rw [HR.out, HZ2.out, if_pos rfl]
      rfl
/-- What stands behind the last slash. -/
def basI (s : ByteArray) : Nat → Nat
  | 0 => 0
  | i + 1 => if bt s (i : Int) = 47 then i + 1 else basI s i
def memBase (s : ByteArray) : ByteArray := if basI s s.size = 0 then s else s.extract (basI s s.size) s.size
set_option maxHeartbeats 1000000 in
theorem base_any (s : ByteArray) (w : World) (hs : s.size ≤ 9223372036854775806) :
    Calls Tryd.prog 96 #[.string s] w fun e w' => e = .returned (.string (memBase s)) ∧ w = w' := by
  obtain ⟨q, hq⟩ : ∃ q, q = basI s s.size := ⟨_, rfl⟩
  have HQ := Lib.hid hq
  obtain ⟨r, hr⟩ : ∃ r, r = memBase s := ⟨_, rfl⟩
  have HR := Lib.hid (show r = if q = 0 then s else s.extract q s.size by rw [hr, hq]; rfl)
  rw [← hr]
  clear hq hr
  go_enter Tryd.func96, Tryd.ntmps96
  go_wp2_with fail
  go_loop [3] (fun i => ∃ z : Nat, z ≤ s.size ∧ i = .int .i64 ((z : Int) - 1) ∧ Hid (q = basI s z)) (fun i => (intOf i + 1).toNat)
  case atStart => exact ⟨s.size, by omega, rfl, HQ⟩
  case round =>
    obtain ⟨z, hz2, rfl, HZ⟩ := hrel
    by_cases hp : 0 < z
    · obtain ⟨k, rfl⟩ : ∃ k : Nat, z = k + 1 := ⟨z - 1, by omega⟩
      rw [show ((k + 1 : Nat) : Int) - 1 = (k : Int) by omega]
      have hk : k < s.size := by omega
      have hbt := bt_at s k hk
      have hz := HZ.out
      rw [basI, hbt] at hz
      by_cases h47 : (s[k].toNat : Int) = 47
      · rw [if_pos h47] at hz
        have h5 : ((s[k].toNat : Int) == 47) = true := by rw [h47]; rfl
        have HZ2 := Lib.hid hz
        clear hz hbt h47 HZ hp
        go_wp2_with fail
        go_ret
        refine ⟨?_, rfl⟩
        rw [HR.out, HZ2.out, if_neg (by omega)]
        rfl
      · rw [if_neg h47] at hz
        have h5 : ((s[k].toNat : Int) == 47) = false := by simpa using h47
        have HZ2 := Lib.hid hz
        clear hz hbt h47 HZ hp
        go_wp2_with fail
        go_round
        case rel => exact ⟨k, by omega, by first | rfl | go_num, HZ2⟩
        case measure => (simp [intOf] <;> omega)
    · obtain rfl : z = 0 := by omega
      have hz := HZ.out
      rw [basI] at hz
      have HZ2 := Lib.hid hz
      rw [show ((0 : Nat) : Int) - 1 = -1 by omega]
      clear hz HZ hp
      go_wp2_with fail
      go_ret
      refine ⟨?_, rfl⟩
      rw [HR.out, HZ2.out, if_pos rfl]
      rfl
def memNamed (s : ByteArray) : Bool := !(decide (2 < (memName s).size) && ((memName s).extract 0 3).toList == ([46, 46, 47] : List UInt8))
set_option maxHeartbeats 1000000 in
/-- Whether a name is spoken of. -/
theorem named_any (s : ByteArray) (w : World) (hs : s.size ≤ 400) : Calls Tryd.prog 89 #[.string s] w fun e w' => e = .returned (.bool (memNamed s)) ∧ Below w.heap.size w w' := by
  have HM := Lib.hid (memName_any s (by omega) w)
  unfold memNamed
  generalize memName s = t at *
  have b1 : (s.size : Int) ≤ 400 := by omega
  by_cases h : 2 < t.size
  · have h' : (2 : Int) < (t.size : Int) := by omega
    have hd : decide (2 < t.size) = true := by simpa using h
    rw [hd]
    clear hd
    go_enter Tryd.func89, Tryd.ntmps89
    go_wp2_with (first | (go_at_call 57; (refine (HM.out).mono ?_); rintro e w1 ⟨rfl, hb⟩; have BB := Lib.hid hb; clear hb))
    go_ret
    exact ⟨rfl, BB.out⟩
  · have h' : ¬ ((2 : Int) < (t.size : Int)) := by omega
    have hd : decide (2 < t.size) = false := by simpa using h
    rw [hd]
    clear hd
    go_enter Tryd.func89, Tryd.ntmps89
    go_wp2_with (first | (go_at_call 57; (refine (HM.out).mono ?_); rintro e w1 ⟨rfl, hb⟩; have BB := Lib.hid hb; clear hb))
    go_ret
    exact ⟨rfl, BB.out⟩
section
variable {w : World} {base : Nat} {ft : Nat → Prop} {m : Nat} {vN vA vD : Value} {mb n : Nat} {f : Lit → Option Nat} {X : SMem}
/-- The nodes' numbers fit the names. -/
structure MGood (X : SMem) : Prop where
  len : X.names.length = X.ats.length
  small : X.names.length ≤ 100000
  nsmall : X.nodes.length ≤ 100000
  nsz : ∀ x ∈ X.names, x.size ≤ 1000000
  at_ : ∀ (i : Nat) (x : Int), X.ats[i]? = some x → 0 ≤ x ∧ x < X.nodes.length
def memFind (X : SMem) (name : ByteArray) : Int × Bool := if (placeAt name X.names).2 = true then (rd X.ats ((placeAt name X.names).1 : Int), true) else (0, false)
theorem placeAt_lt_len (name : ByteArray) : ∀ l : List ByteArray, (placeAt name l).2 = true → (placeAt name l).1 < l.length
  | [], h => by simp [placeAt] at h
  | x :: r, h => by
    by_cases hb : Op.bytesLess x.toList name.toList = true
    · rw [placeAt_lt hb] at h ⊢
      have := placeAt_lt_len name r h
      simp; omega
    · rw [placeAt_ge hb]
      simp
set_option maxHeartbeats 1000000 in
theorem find_any (M : IsMem w base ft m vN vA vD mb n f X) (G : MGood X) (name : ByteArray) :
    Calls Tryd.prog 58 #[.pointer (some ⟨m, 0, none⟩), .string name] w fun e w' => e = .returned (.tuple #[.int .i64 (memFind X name).1, .bool (memFind X name).2]) ∧ w = w' := by
  have HP := Lib.hid (place_any M name)
  obtain ⟨p, hp⟩ : ∃ p, p = placeAt name X.names := ⟨_, rfl⟩
  have hlt := placeAt_lt_len name X.names
  unfold memFind
  rw [← hp] at HP hlt ⊢
  obtain ⟨i, b⟩ := p
  clear hp
  cases b with
  | false =>
    clear M G hlt
    rw [if_neg (by simp)]
    go_enter Tryd.func58, Tryd.ntmps58
    go_wp2_with (first | (go_at_call 93; (refine (HP.out).mono ?_); rintro e w1 ⟨rfl, rfl⟩))
    go_ret2
    exact ⟨rfl, rfl⟩
  | true =>
    have hi : i < X.ats.length := by rw [← G.len]; exact hlt rfl
    rw [if_pos rfl]
    obtain ⟨A, c, hv, hlc, hC⟩ := Kd.R_reads M.rA
    have hm := hC.2.1
    have c1 := M.c1
    rw [hv] at c1
    obtain ⟨ad, rfl, hcell⟩ := Kd.at_int hC (i : Int) (by omega) (by omega)
    rw [Int.toNat_natCast] at hcell
    clear M G hlt hv hC
    generalize rd X.ats (i : Int) = x at *
    generalize X.ats.length = L at *
    go_enter Tryd.func58, Tryd.ntmps58
    go_wp2_with (first | (go_at_call 93; (refine (HP.out).mono ?_); rintro e w1 ⟨rfl, rfl⟩))
    go_ret2
    exact ⟨rfl, rfl⟩
theorem find_ok (G : MGood X) (name : ByteArray) (h : (memFind X name).2 = true) : 0 ≤ (memFind X name).1 ∧ (memFind X name).1 < X.nodes.length := by
  unfold memFind at h ⊢
  by_cases hb : (placeAt name X.names).2 = true
  · rw [if_pos hb]
    have hlt := placeAt_lt_len name X.names hb
    have hi : (placeAt name X.names).1 < X.ats.length := by rw [← G.len]; exact hlt
    have := G.at_ _ _ (List.getElem?_eq_getElem hi)
    have e : rd X.ats ((placeAt name X.names).1 : Int) = X.ats[(placeAt name X.names).1] := by
      unfold rd
      rw [Int.toNat_natCast, List.getD_eq_getElem?_getD, List.getElem?_eq_getElem hi]
      rfl
    rw [e]
    exact this
  · rw [if_neg hb] at h
    cases h
def nodeOf (X : SMem) (i : Int) : S42 := rd_T42 X.nodes i
def memIsDir (X : SMem) (name : ByteArray) : Bool := (memFind X name).2 && (nodeOf X (memFind X name).1).f0
theorem node_cells (M : IsMem w base ft m vN vA vD mb n f X) (i : Nat) (hi : i < X.nodes.length) : ∃ ad A2 c2 c, vD = .slice (some ad) X.nodes.length c ∧ X.nodes.length ≤ c ∧ w.cell? (ad.add (i * 5)) = some (.bool (nodeOf X i).f0) ∧ w.cell? ⟨(ad.add (i * 5)).block, (ad.add (i * 5)).off + 1, none⟩ = some (.int .i64 (nodeOf X i).f1) ∧ w.cell? ⟨(ad.add (i * 5)).block, (ad.add (i * 5)).off + 2, none⟩ = some (.slice A2 (nodeOf X i).f2.length c2) ∧ w.cell? ⟨(ad.add (i * 5)).block, (ad.add (i * 5)).off + 3, none⟩ = some (.int .i64 (nodeOf X i).f3) ∧ w.cell? ⟨(ad.add (i * 5)).block, (ad.add (i * 5)).off + 4, none⟩ = some (.string (nodeOf X i).f4) ∧ (nodeOf X i).f2.length ≤ c2 ∧ (Kd.int .u8).C w A2 (nodeOf X i).f2.length (nodeOf X i).f2 := by
  obtain ⟨A, c, hv, hlc, hC⟩ := Kd.R_reads M.rD
  obtain ⟨ad, A2, c2, e, p0, p1, p2, p3, p4, l2, g2⟩ := at_T42 hC (i : Int) (by omega) (by omega)
  subst e
  rw [Int.toNat_natCast] at p0 p1 p2 p3 p4
  exact ⟨ad, A2, c2, c, hv, hlc, p0, p1, p2, p3, p4, l2, g2⟩
set_option maxHeartbeats 1000000 in
theorem isDir_any (M : IsMem w base ft m vN vA vD mb n f X) (G : MGood X) (name : ByteArray) :
    Calls Tryd.prog 90 #[.pointer (some ⟨m, 0, none⟩), .string name] w fun e w' => e = .returned (.bool (memIsDir X name)) ∧ w = w' := by
  have HP := Lib.hid (find_any M G name)
  have hok := find_ok G name
  unfold memIsDir
  obtain ⟨p, hp⟩ : ∃ p, p = memFind X name := ⟨_, rfl⟩
  rw [← hp] at HP hok ⊢
  obtain ⟨i, b⟩ := p
  clear hp
  cases b with
  | false =>
    clear M G hok
    go_enter Tryd.func90, Tryd.ntmps90
    go_wp2_with (first | (go_at_call 58; (refine (HP.out).mono ?_); rintro e w1 ⟨rfl, rfl⟩))
    go_ret
    exact ⟨rfl, rfl⟩
  | true =>
    obtain ⟨h0, h1⟩ := hok rfl
    obtain ⟨i, rfl⟩ := Int.eq_ofNat_of_zero_le h0
    obtain ⟨ad, A2, c2, c, hv, hlc, p0, _⟩ := node_cells M i (by simpa using h1)
    have c2' := M.c2
    rw [hv] at c2'
    have hs := G.nsmall
    simp only at h1 HP ⊢
    clear M G hok hv h0
    generalize (nodeOf X (i : Int)).f0 = x at *
    generalize X.nodes.length = L at *
    go_enter Tryd.func90, Tryd.ntmps90
    go_wp2_with (first | (go_at_call 58; (refine (HP.out).mono ?_); rintro e w1 ⟨rfl, rfl⟩))
    go_ret
    exact ⟨by simp, rfl⟩
theorem slash_list : (⟨#[47]⟩ : ByteArray).toList = ([47] : List UInt8) := by decide +kernel
/-- Nothing above a name is a file. -/
def memClear (X : SMem) : Nat → ByteArray → Bool
  | 0, _ => true
  | k + 1, name => if name.toList = ([47] : List UInt8) then true else
    if (memFind X (memParent name)).2 = true ∧ (nodeOf X (memFind X (memParent name)).1).f0 = false then false else memClear X k (memParent name)
theorem parent_lt (s : ByteArray) : (memParent s).size < s.size ∨ (memParent s).toList = ([47] : List UInt8) := by
  unfold memParent
  split
  · right; exact slash_list
  · left
    have := parI_le s (s.size - 1)
    rw [ByteArray.size_extract]
    omega
def nmeas (s : ByteArray) : Nat := if s.toList = ([47] : List UInt8) then 0 else s.size + 1
def vmeas : Value → Nat
  | .string s => nmeas s
  | _ => 0
theorem nmeas_lt (s : ByteArray) (h : s.toList ≠ ([47] : List UInt8)) : nmeas (memParent s) < nmeas s := by
  have hp := parent_lt s
  unfold nmeas
  rw [if_neg h]
  split
  · omega
  · rename_i h2
    rcases hp with hp | hp
    · omega
    · exact absurd hp h2
theorem clear_more (X : SMem) : ∀ k s, nmeas s < k → memClear X k s = memClear X (nmeas s + 1) s
  | 0, s, h => absurd h (Nat.not_lt_zero _)
  | k + 1, s, h => by
    by_cases hs : s.toList = ([47] : List UInt8)
    · rw [memClear, if_pos hs, memClear, if_pos hs]
    · have hl := nmeas_lt s hs
      obtain ⟨j, hj⟩ : ∃ j, nmeas s = j + 1 := ⟨nmeas s - 1, by omega⟩
      rw [hj]
      rw [memClear, if_neg hs, memClear, if_neg hs, clear_more X k (memParent s) (by omega), clear_more X (j + 1) (memParent s) (by omega)]
def memClr (X : SMem) (s : ByteArray) : Bool := memClear X (nmeas s + 1) s
theorem clr_root (X : SMem) (s : ByteArray) (h : s.toList = ([47] : List UInt8)) : memClr X s = true := by
  unfold memClr
  rw [memClear, if_pos h]
theorem clr_step (X : SMem) (s : ByteArray) (h : ¬ s.toList = ([47] : List UInt8)) : memClr X s = if (memFind X (memParent s)).2 = true ∧ (nodeOf X (memFind X (memParent s)).1).f0 = false then false else memClr X (memParent s) := by
  have hl := nmeas_lt s h
  unfold memClr
  rw [memClear, if_neg h, clear_more X (nmeas s) (memParent s) hl]
theorem parent_le (s : ByteArray) (n : Nat) (h : s.size ≤ n) (hn : 1 ≤ n) : (memParent s).size ≤ n := by
  unfold memParent
  split
  · exact hn
  · rw [ByteArray.size_extract]; omega
set_option maxHeartbeats 2000000 in
set_option maxRecDepth 100000 in
theorem clear_any (M : IsMem w base ft m vN vA vD mb n f X) (G : MGood X) (name : ByteArray) (hn : name.size ≤ 1000000) :
    Calls Tryd.prog 91 #[.pointer (some ⟨m, 0, none⟩), .string name] w fun e w' => e = .returned (.bool (memClr X name)) ∧ w = w' := by
  have HF := Lib.hid (fun s => find_any M G s)
  have HP := Lib.hid (fun s w (h : s.size ≤ 1000000) => par_any s w (by omega))
  have HOK := Lib.hid (fun s => find_ok G s)
  have HN := Lib.hid (fun i hi => node_cells M i hi)
  have HC2 := Lib.hid M.c2
  have hs := G.nsmall
  obtain ⟨r, hr⟩ : ∃ r, r = memClr X name := ⟨_, rfl⟩
  have HR := Lib.hid hr
  rw [← hr]
  clear hr M G
  go_enter Tryd.func91, Tryd.ntmps91
  go_wp2_with fail
  go_loop [1, 5, 6, 11] (fun v1 _ _ _ => ∃ s : ByteArray, v1 = .string s ∧ s.size ≤ 1000000 ∧ Hid (r = memClr X s)) (fun v1 _ _ _ => vmeas v1)
  case atStart => exact ⟨name, rfl, hn, HR⟩
  case round =>
    obtain ⟨s, rfl, hsz, HS⟩ := hrel
    by_cases hroot : s.toList = ([47] : List UInt8)
    · have HT := Lib.hid (show r = true by rw [HS.out, clr_root X s hroot])
      have hb : (s.toList == ([47] : List UInt8)) = true := by simpa using hroot
      have hb2 : (!(s.toList == ([47] : List UInt8))) = false := by simpa using hroot
      clear hroot HS
      go_wp2_with fail
      go_ret
      exact ⟨by rw [HT.out]; rfl, rfl⟩
    · have hb : (s.toList == ([47] : List UInt8)) = false := by simpa using hroot
      have HM := Lib.hid (nmeas_lt s hroot)
      have hstep := clr_step X s hroot
      have hpl := parent_le s 1000000 hsz (by omega)
      have hok := HOK.out (memParent s)
      have hfind := HF.out (memParent s)
      have HPC := Lib.hid (HP.out s w hsz)
      have HSS := Lib.hid (HS.out.trans hstep)
      obtain ⟨p, hp⟩ : ∃ p, p = memFind X (memParent s) := ⟨_, rfl⟩
      rw [← hp] at hok hfind HSS
      generalize hpar : memParent s = s2 at *
      obtain ⟨i, b⟩ := p
      have HFC := Lib.hid hfind
      have HSPAR := Lib.hid hpar
      clear hroot HS hstep hp hfind hpar
      cases b with
      | false =>
        have HS2 := Lib.hid (show r = memClr X s2 by rw [HSS.out, if_neg (by simp)])
        clear hok HSS
        go_wp2_with (first | (go_at_call 94; (refine (HPC.out).mono ?_); rintro e w1 ⟨rfl, rfl⟩) | (go_at_call 58; (refine (HFC.out).mono ?_); rintro e w1 ⟨rfl, rfl⟩))
        go_round
        case rel => exact ⟨s2, rfl, hpl, HS2⟩
        case measure => exact HM.out
      | true =>
        obtain ⟨h0, h1⟩ := hok rfl
        obtain ⟨i, rfl⟩ := Int.eq_ofNat_of_zero_le h0
        obtain ⟨ad, A2, c2, c, hv, hlc, p0, _⟩ := HN.out i (by simpa using h1)
        have c2' := HC2.out
        rw [hv] at c2'
        simp only at h1 HFC HSS
        clear hv h0 hok
        cases hx : (nodeOf X (i : Int)).f0 with
        | false =>
          have HS2 := Lib.hid (show r = false by rw [HSS.out, if_pos ⟨trivial, hx⟩])
          rw [hx] at p0
          clear HSS hx
          generalize X.nodes.length = L at *
          go_wp2_with (first | (go_at_call 94; (refine (HPC.out).mono ?_); rintro e w1 ⟨rfl, rfl⟩) | (go_at_call 58; (refine (HFC.out).mono ?_); rintro e w1 ⟨rfl, rfl⟩))
          go_ret
          exact ⟨by rw [HS2.out]; rfl, rfl⟩
        | true =>
          have HS2 := Lib.hid (show r = memClr X s2 by rw [HSS.out, if_neg (by rw [hx]; simp)])
          rw [hx] at p0
          clear HSS hx
          generalize X.nodes.length = L at *
          go_wp2_with (first | (go_at_call 94; (refine (HPC.out).mono ?_); rintro e w1 ⟨rfl, rfl⟩) | (go_at_call 58; (refine (HFC.out).mono ?_); rintro e w1 ⟨rfl, rfl⟩))
          go_round
          case rel => exact ⟨s2, rfl, hpl, HS2⟩
          case measure => exact HM.out
end
section
variable {ops : Array Oper} {rest : List Oper} {o : Oper} {a : Act} {Q : Exit → Act → World → Prop}
theorem app_str {W wb : World} (base : Nat) (hgd : o.guard = none) (s x : Operand) (ho : o.op = .call { callee := .builtin .append, args := #[s, x], argTypes := #[30, 30] })
    (v : Value) (xs : List ByteArray) (p : ByteArray) {ok : Nat → Prop} (hs : a.eval s = v) {g : Nat} (hx : a.eval x = .slice (some ⟨g, 0, none⟩) 1 1) (hgs : W.heap.size = g) (hfresh : ∀ k, W.heap.size ≤ k → ok k)
    (HO : Kd.string.R 9 W base ok v xs) (HB : Below base wb W) (hbase : base ≤ W.heap.size) (hl : xs.length ≤ 1000000)
    (h : ∀ A1 c1 w1, Kd.string.R 9 w1 base ok (.slice A1 (xs.length + 1) c1) (xs ++ [p]) → Below base wb w1 → W.grownBy w1 v.ownBlock → wpList Tryd.prog ops Q rest (a.put o.dst (.slice A1 (xs.length + 1) c1)) w1) :
    wpList Tryd.prog ops Q (o :: rest) a (W.alloc (.cells #[.string p] 9)) := by
  subst hgs
  refine Kd.R_append Kd.string (w0 := wb) base hgd s x 30 9 _ 16 ho Tryd.underlying30 PFnHandleScript.info9 rfl (by decide) (by decide) v xs p [.string p] ok (fun _ => False) hs hx rfl (fun _ hk => hk.elim) hfresh HO HB hbase (by omega) ?_
  intro v1 w1 h1 hb h2 _
  obtain ⟨A1, c1, e1, _, _⟩ := Kd.R_reads h1
  subst e1
  have e : (xs ++ [p]).length = xs.length + 1 := by simp
  rw [e] at h1 ⊢
  exact h _ _ _ h1 hb h2
end
section
variable {w : World} {base : Nat} {ft : Nat → Prop} {m : Nat} {vN vA vD : Value} {mb n : Nat} {f : Lit → Option Nat} {X : SMem}
def isChild (dir x : ByteArray) : Bool := !(x.toList == ([47] : List UInt8)) && ((memParent x).toList == dir.toList)
/-- The names directly below a directory. -/
def memChildren (X : SMem) (dir : ByteArray) : List ByteArray := X.names.filter (isChild dir)
theorem filter_take {α : Type} (q : α → Bool) (l : List α) (i : Nat) (x : α) (h : l[i]? = some x) : (l.take (i + 1)).filter q = (l.take i).filter q ++ (if q x = true then [x] else []) := by
  have hi := (List.getElem?_eq_some_iff.1 h).1
  rw [List.take_succ_eq_append_getElem hi]
  rw [List.getElem?_eq_getElem hi] at h
  rw [Option.some.inj h, List.filter_append]
  congr 1
  by_cases hq : q x = true
  · rw [if_pos hq]; simp [hq]
  · rw [if_neg hq]; simp [hq]
set_option maxHeartbeats 2000000 in
set_option maxRecDepth 100000 in
theorem children_any (M : IsMem w base ft m vN vA vD mb n f X) (G : MGood X) (dir : ByteArray) :
    Calls Tryd.prog 92 #[.pointer (some ⟨m, 0, none⟩), .string dir] w fun e w' => ∃ A1 c1, e = .returned (.slice A1 (memChildren X dir).length c1) ∧ Kd.string.R 9 w' w.heap.size (fun _ => True) (.slice A1 (memChildren X dir).length c1) (memChildren X dir) ∧ Below w.heap.size w w' := by
  obtain ⟨A, c, hv, hlc, hC⟩ := Kd.R_reads M.rN
  have c0 := M.c0
  rw [hv] at c0
  have hm := hC.2.1
  have hsm := G.small
  have HC := Lib.hid hC
  have HS := Lib.hid G.nsz
  have HP := Lib.hid (fun s w (h : s.size ≤ 1000000) => par_any s w (by omega))
  unfold memChildren
  clear M G hC hv
  generalize X.names = L at *
  obtain ⟨out, hout⟩ : ∃ out, out = L.filter (isChild dir) := ⟨_, rfl⟩
  have HO := Lib.hid hout
  rw [← hout]
  clear hout
  have c0' : (w.alloc (.cells #[] 9)).cell? ⟨m, 0, none⟩ = some (.slice A L.length c) := cellb c0 (below_alloc (Below.refl _ _) _)
  go_enter Tryd.func92, Tryd.ntmps92
  go_wp2_with fail
  have RZ := Lib.hid (zero_row Kd.string (W := w) (base := w.heap.size) (e := 9) (ok := fun _ => True) trivial (Nat.le_refl _))
  have BZ := Lib.hid (below_alloc (Below.refl w.heap.size w) (.cells #[] 9))
  go_loopw [5, 14, 7] (fun v5 v14 _ wr => ∃ (i : Nat) (A2 : Option Addr) (k c2 : Nat), v14 = .int .i64 i ∧ i ≤ L.length ∧ v5 = .slice A2 k c2 ∧ k ≤ i ∧ Hid (k = ((L.take i).filter (isChild dir)).length) ∧ Hid (Kd.string.R 9 wr w.heap.size (fun _ => True) (.slice A2 k c2) ((L.take i).filter (isChild dir))) ∧ Hid (Below w.heap.size w wr)) (fun _ v14 _ _ => L.length - (intOf v14).toNat)
  case atStart => exact ⟨0, _, 0, _, rfl, by omega, rfl, Nat.le_refl _, Lib.hid (by simp), RZ, BZ⟩
  case round =>
    obtain ⟨i, A2, k, c2, rfl, hi, rfl, hki, KL, RI, BI⟩ := hrel
    by_cases hlt : i < L.length
    · obtain ⟨x, hx⟩ : ∃ x, L[i]? = some x := ⟨_, List.getElem?_eq_getElem hlt⟩
      obtain ⟨ad, rfl, hcell0⟩ := C_cell HC.out i x hx
      have hcell := cellb hcell0 BI.out
      have hsx := HS.out x (List.mem_of_getElem? hx)
      have HT := Lib.hid (filter_take (isChild dir) L i x hx)
      have hsz := BI.out.size
      have hb0 := BI.out
      clear hx hcell0
      by_cases hroot : x.toList = ([47] : List UInt8)
      · have hb : (x.toList == ([47] : List UInt8)) = true := by simpa using hroot
        have hch : isChild dir x = false := by unfold isChild; rw [hb]; rfl
        have HN := Lib.hid (show (L.take (i + 1)).filter (isChild dir) = (L.take i).filter (isChild dir) by rw [HT.out, hch]; simp)
        clear hroot hch hb0
        go_wp2_with fail
        go_roundw
        case rel => exact ⟨i + 1, A2, k, c2, by push_cast; rfl, hlt, rfl, by omega, Lib.hid (by rw [HN.out]; exact KL.out), Lib.hid (by rw [HN.out]; exact RI.out), BI⟩
        case measure => simp only [intOf]; omega
      · have hb : (x.toList == ([47] : List UInt8)) = false := by simpa using hroot
        have HPC := Lib.hid (fun W => HP.out x W hsx)
        have hch : isChild dir x = ((memParent x).toList == dir.toList) := by unfold isChild; rw [hb]; rfl
        by_cases hd : (memParent x).toList = dir.toList
        · have hd' : ((memParent x).toList == dir.toList) = true := by simpa using hd
          have HN := Lib.hid (show (L.take (i + 1)).filter (isChild dir) = (L.take i).filter (isChild dir) ++ [x] by rw [HT.out, hch, hd']; simp)
          clear hroot hch hd hb0
          generalize memParent x = px at *
          have hkl : ((L.take i).filter (isChild dir)).length ≤ 1000000 := by rw [← KL.out]; omega
          have HKL := Lib.hid hkl
          clear hkl
          go_wp2_with (first | (go_at_call 94; (refine (HPC.out _).mono ?_); rintro e w1 ⟨rfl, rfl⟩) | ((with_reducible refine gate_builtin (b := .append) (xs := #[.tmp 26, .tmp 28]) rfl ?_); at_builtin; refine app_str (wb := w) w.heap.size rfl (.tmp 26) (.tmp 28) rfl _ _ x rfl rfl rfl (fun _ _ => trivial) RI.out BI.out hsz HKL.out ?_; intro A3 c3 wn hr hbn hg; have RN := Lib.hid hr; have BN := Lib.hid hbn; clear hr hbn hg))
          go_roundw
          case rel => exact ⟨i + 1, A3, k + 1, c3, by push_cast; rfl, hlt, by rw [KL.out], by omega, Lib.hid (by rw [HN.out, KL.out]; simp), Lib.hid (by rw [HN.out, KL.out]; exact RN.out), BN⟩
          case measure => simp only [intOf]; omega
        · have hd' : ((memParent x).toList == dir.toList) = false := by simpa using hd
          have HN := Lib.hid (show (L.take (i + 1)).filter (isChild dir) = (L.take i).filter (isChild dir) by rw [HT.out, hch, hd']; simp)
          clear hroot hch hd hb0
          generalize memParent x = px at *
          go_wp2_with (first | (go_at_call 94; (refine (HPC.out _).mono ?_); rintro e w1 ⟨rfl, rfl⟩))
          go_roundw
          case rel => exact ⟨i + 1, A2, k, c2, by push_cast; rfl, hlt, rfl, by omega, Lib.hid (by rw [HN.out]; exact KL.out), Lib.hid (by rw [HN.out]; exact RI.out), BI⟩
          case measure => simp only [intOf]; omega
    · obtain rfl : i = L.length := by omega
      have hfin := RI.out
      have hkl := KL.out
      rw [List.take_length, ← HO.out] at hfin hkl
      have HF := Lib.hid hfin
      have HK := Lib.hid hkl
      clear hfin hkl hlt
      go_wp2_with fail
      go_ret
      have hf := HF.out
      have hk := HK.out
      subst hk
      exact ⟨A2, c2, rfl, hf, BI.out⟩
end
end Go.Proofs.YtljcdjggjphedaaDoor.Mq
namespace Go.Proofs.YtljcdjggjphedaaDoor.Mr
open Go.RowKit Go.Maps Go.Proofs.YtljcdjggjphedaaDoorW.PrintWords Go.Proofs.YtljcdjggjphedaaDoorW.PrintLast Go.Proofs.YtljcdjggjphedaaDoorW.PrintMore Go.Proofs.YtljcdjggjphedaaDoor.PFnHandleScript Go.Proofs.YtljcdjggjphedaaDoor.Hd Go.Proofs.YtljcdjggjphedaaDoor.Ms Go.Proofs.YtljcdjggjphedaaDoor.Mn Go.Proofs.YtljcdjggjphedaaDoor.Pm Go.Proofs.YtljcdjggjphedaaDoor.Mf Go.Proofs.YtljcdjggjphedaaDoor.Mq Go.Proofs.YtljcdjggjphedaaDoor.Bq
set_option linter.unusedVariables false
set_option linter.unusedSimpArgs false
/-- A step, as it is handed on. -/
def stepA (s : S26) (A6 : Option Addr) (c6 : Nat) : Value := .agg #[.int .i64 s.f0, .string s.f1, .string s.f2, .int .i64 s.f3, .int .i64 s.f4, .int .i64 s.f5, .slice A6 s.f6.length c6, .int .i64 s.f7, .int .i64 s.f8, .int .i64 s.f9]
/-- What is asked of a step on a file, by its kind. -/
def spkKind (h : SHnd) (s : S26) : Bool :=
  if s.f0 = 12 then (h.closed || decide (0 ≤ h.pos)) else if s.f0 = 13 then decide (0 ≤ s.f7) else if s.f0 = 14 then (decide (0 ≤ h.pos) && decide (h.pos ≤ 4096)) else
  if s.f0 = 15 then (decide (0 ≤ s.f7) && decide (s.f7 ≤ 4096)) else if s.f0 = 17 then decide (s.f7 ≤ 4096) else if s.f0 = 16 then (decide (h.pos < 2199023255552) && decide (-2199023255552 < h.pos)) else true
def spkBad (dir : Bool) (s : S26) : Bool := dir || decide (4096 < (s.f6.length : Int)) || decide (s.f9 < 0) || decide (4096 < s.f9) || decide (1099511627776 < s.f7) || decide (s.f7 < -1099511627776)
def spkList (X : SMem) (h : SHnd) : Bool := !(nodeOf X h.node).f0 || (((memFind X (nodeOf X h.node).f4).2 && decide ((memFind X (nodeOf X h.node).f4).1 = h.node)) && decide (h.listed ≤ ((memChildren X (nodeOf X h.node).f4).length : Int)))
def spkFile (X : SMem) (h : SHnd) (s : S26) : Bool :=
  if s.f0 = 19 ∨ s.f0 = 20 then spkList X h else if s.f0 = 18 ∨ s.f0 = 21 ∨ s.f0 = 22 ∨ s.f0 = 23 then true else if spkBad (nodeOf X h.node).f0 s = true then false else spkKind h s
theorem spk_cases (op : Int) : op = 19 ∨ op = 20 ∨ op = 18 ∨ op = 21 ∨ op = 22 ∨ op = 23 ∨ (op ≠ 19 ∧ op ≠ 20 ∧ op ≠ 18 ∧ op ≠ 21 ∧ op ≠ 22 ∧ op ≠ 23) := by omega
section
variable {w : World} {base : Nat} {ft : Nat → Prop} {m : Nat} {vN vA vD : Value} {mb n : Nat} {f : Lit → Option Nat} {X : SMem}
theorem bad_cases (dir : Bool) (len : Nat) (N off : Int) : dir = true ∨ (dir = false ∧ 4096 < (len : Int)) ∨ (dir = false ∧ (len : Int) ≤ 4096 ∧ N < 0) ∨ (dir = false ∧ (len : Int) ≤ 4096 ∧ 0 ≤ N ∧ 4096 < N) ∨ (dir = false ∧ (len : Int) ≤ 4096 ∧ 0 ≤ N ∧ N ≤ 4096 ∧ 1099511627776 < off) ∨ (dir = false ∧ (len : Int) ≤ 4096 ∧ 0 ≤ N ∧ N ≤ 4096 ∧ off ≤ 1099511627776 ∧ off < -1099511627776) ∨ (dir = false ∧ (len : Int) ≤ 4096 ∧ 0 ≤ N ∧ N ≤ 4096 ∧ off ≤ 1099511627776 ∧ -1099511627776 ≤ off) := by
  cases dir
  · simp; omega
  · simp
theorem kind_cases (op : Int) : op = 12 ∨ op = 13 ∨ op = 14 ∨ op = 15 ∨ op = 17 ∨ op = 16 ∨ (op ≠ 12 ∧ op ≠ 13 ∧ op ≠ 14 ∧ op ≠ 15 ∧ op ≠ 17 ∧ op ≠ 16) := by omega
def SpkPost (w : World) (r : Bool) (e : Ending) (w' : World) : Prop := e = .returned (.bool r) ∧ Below w.heap.size w w'
set_option maxHeartbeats 4000000 in
set_option maxRecDepth 100000 in
theorem speaksFile_any (M : IsMem w base ft m vN vA vD mb n f X) (G : MGood X) (g : Nat) (h : SHnd) (hg : w.heap[g]? = some (.cells (shcs h) 49 (0, 0))) (hn0 : 0 ≤ h.node) (hn1 : h.node < X.nodes.length) (s : S26) (A6 : Option Addr) (c6 : Nat) :
    Calls Tryd.prog 56 #[.pointer (some ⟨m, 0, none⟩), .pointer (some ⟨g, 0, none⟩), stepA s A6 c6] w (SpkPost w (spkFile X h s)) := by
  obtain ⟨i, hi⟩ := Int.eq_ofNat_of_zero_le hn0
  obtain ⟨ad, A2, c2, c, hv, hlc, p0, p1, p2, p3, p4, l2, g2⟩ := node_cells M i (by omega)
  have c2' := M.c2
  rw [hv] at c2'
  have h0 := blk_cell hg 0
  have h1 := blk_cell hg 1
  have h2 := blk_cell hg 2
  have h3 := blk_cell hg 3
  have y0 := World.new_ne w _ c2'
  have y1 := World.new_ne w _ h0
  have y2 := World.new_ne w _ p0
  have HFI := Lib.hid (fun W (hb : Below w.heap.size w W) => find_any (M.below hb) G (nodeOf X h.node).f4)
  have HCH := Lib.hid (fun W (hb : Below w.heap.size w W) => children_any (M.below hb) G (nodeOf X h.node).f4)
  have hs := G.nsmall
  have hil : (i : Int) < (X.nodes.length : Int) := by omega
  have HL := Lib.hid (show spkFile X h s = if s.f0 = 19 ∨ s.f0 = 20 then spkList X h else if s.f0 = 18 ∨ s.f0 = 21 ∨ s.f0 = 22 ∨ s.f0 = 23 then true else if spkBad (nodeOf X h.node).f0 s = true then false else spkKind h s from rfl)
  generalize hr : spkFile X h s = r at *
  obtain ⟨no, po, li, cl, ro⟩ := h
  obtain ⟨op, nm, ot, fl, pe, hh, dat, off, wh, N⟩ := s
  simp only [shcs] at h0 h1 h2 h3
  simp only at hi hn0 hn1 HL
  subst hi
  unfold stepA
  have HND := Lib.hid (show spkList X ⟨(i : Int), po, li, cl, ro⟩ = (!(nodeOf X (i : Int)).f0 || (((memFind X (nodeOf X (i : Int)).f4).2 && decide ((memFind X (nodeOf X (i : Int)).f4).1 = (i : Int))) && decide (li ≤ ((memChildren X (nodeOf X (i : Int)).f4).length : Int)))) from rfl)
  generalize spkList X ⟨(i : Int), po, li, cl, ro⟩ = rl at *
  generalize hnd : nodeOf X (i : Int) = nd at *
  obtain ⟨dir, mode, data, time, name⟩ := nd
  simp only at p0 p1 p2 p3 p4 l2 g2 HFI HCH HND HL
  generalize X.nodes.length = L at *
  clear hv g2 M G hr hnd
  have hsz := blk_lt hg
  clear hg
  go_enter Tryd.func56, Tryd.ntmps56
  go_wp2_with fail
  go_region_held3 (fun w' => w'.cell? ⟨m, 2, none⟩ = some (.slice (some ad) L c) ∧ w'.cell? ⟨g, 0, none⟩ = some (.int .i64 i) ∧ w'.cell? (ad.add (i * 5)) = some (.bool dir) ∧ w'.cell? ⟨(ad.add (i * 5)).block, (ad.add (i * 5)).off + 1, none⟩ = some (.int .i64 mode) ∧ w'.cell? ⟨(ad.add (i * 5)).block, (ad.add (i * 5)).off + 2, none⟩ = some (.slice A2 data.length c2) ∧ w'.cell? ⟨(ad.add (i * 5)).block, (ad.add (i * 5)).off + 3, none⟩ = some (.int .i64 time) ∧ w'.cell? ⟨(ad.add (i * 5)).block, (ad.add (i * 5)).off + 4, none⟩ = some (.string name)) (go_keep) (fail)
  obtain ⟨W2, hW2⟩ : ∃ W2, W2 = ((w.alloc (.cells #[.int .i64 op, .string nm, .string ot, .int .i64 fl, .int .i64 pe, .int .i64 hh, .slice A6 dat.length c6, .int .i64 off, .int .i64 wh, .int .i64 N] 26)).alloc (.cells #[.bool dir, .int .i64 mode, .slice A2 data.length c2, .int .i64 time, .string name] 42)).drew := ⟨_, rfl⟩
  rw [← hW2]
  have BW : Below w.heap.size w W2 := by rw [hW2]; exact below_drew (below_alloc (below_alloc (Below.refl _ _) _) _)
  have b1 : W2.heap[w.heap.size]? = some (.cells #[.int .i64 op, .string nm, .string ot, .int .i64 fl, .int .i64 pe, .int .i64 hh, .slice A6 dat.length c6, .int .i64 off, .int .i64 wh, .int .i64 N] 26 (0, 0)) := by rw [hW2]; exact blk_drew (blk_alloc (blk_new _ _) _)
  have b2 : W2.heap[w.heap.size + 1]? = some (.cells #[.bool dir, .int .i64 mode, .slice A2 data.length c2, .int .i64 time, .string name] 42 (0, 0)) := by rw [hW2]; exact blk_drew (blk_at_ (by simp))
  have k0 := blk_cell b1 0
  have k6 := blk_cell b1 6
  have k7 := blk_cell b1 7
  have k9 := blk_cell b1 9
  have q0 := blk_cell b2 0
  have q4 := blk_cell b2 4
  have h0 := cellb h0 BW
  have h1 := cellb h1 BW
  have h2 := cellb h2 BW
  have h3 := cellb h3 BW
  have HB := Lib.hid BW
  have HFF := Lib.hid (HFI.out W2 BW)
  have HCC := Lib.hid (fun W (hb : Below W2.heap.size W2 W) => HCH.out W (below_then BW BW.size hb))
  clear hW2 BW b1 b2 y0 y1 y2 c2' p0 p1 p2 p3 p4 HFI HCH
  simp at k0 k6 k7 k9 q0 q4 h0 h1 h2 h3
  rcases spk_cases op with rfl | rfl | rfl | rfl | rfl | rfl | ⟨e1, e2, e3, e4, e5, e6⟩
  case inl | inr.inl =>
    have hrl : r = rl := by rw [HL.out]; simp
    have HN := Lib.hid (hrl.trans HND.out)
    clear HL HND hrl
    generalize memChildren X name = chl at *
    generalize memFind X name = p at *
    obtain ⟨j, b⟩ := p
    simp only at HN HFF
    cases dir with
    | false =>
      have HR := Lib.hid (show r = true by rw [HN.out]; rfl)
      clear HN
      go_upto_region 6 with (first | (go_at_call 58; (refine (HFF.out).mono ?_); rintro e w1 ⟨rfl, rfl⟩))
      go_quiet (fail)
      go_wp2_with fail
      go_ret
      rw [HR.out]
      exact ⟨rfl, pw_below_drewN HB.out _⟩
    | true =>
      cases b with
      | false =>
        have HR := Lib.hid (show r = false by rw [HN.out]; rfl)
        clear HN
        go_upto_region 6 with (first | (go_at_call 58; (refine (HFF.out).mono ?_); rintro e w1 ⟨rfl, rfl⟩))
        go_quiet (fail)
        go_wp2_with fail
        go_ret
        rw [HR.out]
        exact ⟨rfl, pw_below_drewN HB.out _⟩
      | true =>
        by_cases hji : j = (i : Int)
        · have HR := Lib.hid (show r = decide (li ≤ (chl.length : Int)) by rw [HN.out]; simp [hji])
          subst hji
          clear HN
          go_upto_region 6 with (first | (go_at_call 58; (refine (HFF.out).mono ?_); rintro e w1 ⟨rfl, rfl⟩))
          go_region_held3 (fun w' => w'.cell? ⟨w.heap.size + 1, 0, none⟩ = some (.bool true) ∧ w'.cell? ⟨w.heap.size + 1, 4, none⟩ = some (.string name) ∧ w'.cell? ⟨g, 0, none⟩ = some (.int .i64 i) ∧ w'.cell? ⟨g, 2, none⟩ = some (.int .i64 li)) (go_keep)
            ((go_at_call 92; (refine (HCC.out _ (below_drew (Below.refl _ _))).mono ?_); rintro e w1 ⟨A1, c1, rfl, hr, hb⟩; have z0 := cellb (W := W2.drew) q0 hb; have z4 := cellb (W := W2.drew) q4 hb; have z1 := cellb (W := W2.drew) h0 hb; have z2 := cellb (W := W2.drew) h2 hb; have HB2 := Lib.hid hb; clear hr hb))
          go_wp2_with fail
          go_ret
          rw [HR.out]
          exact ⟨rfl, below_then HB.out HB.out.size (below_then (below_drew (Below.refl _ _)) (Nat.le_refl _) HB2.out)⟩
        · have HR := Lib.hid (show r = false by rw [HN.out]; simp [hji])
          clear HN
          go_upto_region 6 with (first | (go_at_call 58; (refine (HFF.out).mono ?_); rintro e w1 ⟨rfl, rfl⟩))
          go_quiet (fail)
          go_wp2_with fail
          go_ret
          rw [HR.out]
          exact ⟨rfl, pw_below_drewN HB.out _⟩
  case inr.inr.inl | inr.inr.inr.inl | inr.inr.inr.inr.inl | inr.inr.inr.inr.inr.inl =>
    have HR := Lib.hid (show r = true by rw [HL.out]; simp)
    clear HL HND
    go_wp2_with fail
    go_ret
    rw [HR.out]
    exact ⟨rfl, HB.out⟩
  case inr.inr.inr.inr.inr.inr =>
    have HK := Lib.hid (show r = if spkBad dir ⟨op, nm, ot, fl, pe, hh, dat, off, wh, N⟩ = true then false else spkKind ⟨(i : Int), po, li, cl, ro⟩ ⟨op, nm, ot, fl, pe, hh, dat, off, wh, N⟩ by rw [HL.out, if_neg (by omega), if_neg (by omega)])
    clear HL HND
    rcases bad_cases dir dat.length N off with d0 | ⟨d0, d1⟩ | ⟨d0, d1, d2⟩ | ⟨d0, d1, d2, d3⟩ | ⟨d0, d1, d2, d3, d4⟩ | ⟨d0, d1, d2, d3, d4, d5⟩ | ⟨d0, d1, d2, d3, d4, d5⟩
    case inr.inr.inr.inr.inr.inr =>
      have HK2 := Lib.hid (show r = spkKind ⟨(i : Int), po, li, cl, ro⟩ ⟨op, nm, ot, fl, pe, hh, dat, off, wh, N⟩ by
        rw [HK.out, if_neg]
        unfold spkBad
        simp only [d0]
        simp
        omega)
      subst d0
      clear HK
      rcases kind_cases op with rfl | rfl | rfl | rfl | rfl | rfl | ⟨f1, f2, f3, f4, f5, f6⟩
      case inr.inr.inr.inr.inr.inr =>
        have HR := Lib.hid (show r = true by rw [HK2.out]; unfold spkKind; simp [f1, f2, f3, f4, f5, f6])
        clear HK2
        go_wp2_with fail
        all_goals
          go_ret
          rw [HR.out]
          exact ⟨rfl, HB.out⟩
      all_goals
        have HR := Lib.hid HK2.out
        clear HK2
        go_wp2_with fail
        all_goals
          go_ret
          rw [HR.out]
          refine ⟨?_, HB.out⟩
          simp [spkKind]
          try (first | omega | (cases cl <;> simp_all))
    all_goals
      have HR := Lib.hid (show r = false by
        rw [HK.out, if_pos]
        unfold spkBad
        simp only [d0]
        simp
        try omega)
      subst d0
      clear HK
      go_wp2_with fail
      all_goals
        go_ret
        rw [HR.out]
        exact ⟨rfl, HB.out⟩
end
end Go.Proofs.YtljcdjggjphedaaDoor.Mr
namespace Go.Proofs.YtljcdjggjphedaaDoor.Mt
open Go.RowKit Go.Maps Go.Proofs.YtljcdjggjphedaaDoorW.PrintWords Go.Proofs.YtljcdjggjphedaaDoorW.PrintLast Go.Proofs.YtljcdjggjphedaaDoorW.PrintMore Go.Proofs.YtljcdjggjphedaaDoor.PFnHandleScript Go.Proofs.YtljcdjggjphedaaDoor.Hd Go.Proofs.YtljcdjggjphedaaDoor.Ms Go.Proofs.YtljcdjggjphedaaDoor.Mn Go.Proofs.YtljcdjggjphedaaDoor.Pm Go.Proofs.YtljcdjggjphedaaDoor.Mf Go.Proofs.YtljcdjggjphedaaDoor.Mq Go.Proofs.YtljcdjggjphedaaDoor.Bq Go.Proofs.YtljcdjggjphedaaDoor.Mr
set_option linter.unusedVariables false
set_option linter.unusedSimpArgs false
theorem mjoin_size (rt : Bool) (n : Nat) : ∀ (L : List ByteArray) (p : Bool) (out : ByteArray), (∀ x ∈ L, x.size ≤ n) → (mjoin rt p out L).size ≤ out.size + L.length * (n + 1)
  | [], p, out, h => by simp [mjoin]
  | e :: r, p, out, h => by
    have he := h e (by simp)
    have hr := fun x hx => h x (List.mem_cons_of_mem _ hx)
    rw [mjoin]
    have ih := mjoin_size rt n r true (if p = true ∨ rt = true then (out ++ (⟨#[47]⟩ : ByteArray)) ++ e else out ++ e) hr
    have hs : (if p = true ∨ rt = true then (out ++ (⟨#[47]⟩ : ByteArray)) ++ e else out ++ e).size ≤ out.size + n + 1 := by
      split
      · rw [ByteArray.size_append, ByteArray.size_append]
        have : (⟨#[47]⟩ : ByteArray).size = 1 := rfl
        omega
      · rw [ByteArray.size_append]
        omega
    rw [List.length_cons, Nat.succ_mul]
    omega
theorem memName_size (s : ByteArray) (hs : s.size ≤ 900) : (memName s).size ≤ 1000000 := by
  have hl := mels_len s (rooted s) s.size 0 []
  have hm := mels_mem s (rooted s) s.size 0 [] (fun x hx => by simp at hx)
  have hj := mjoin_size (rooted s) 900 (mels s (rooted s) s.size 0 []) false ⟨#[]⟩ (fun x hx => Nat.le_trans (hm x hx) hs)
  have h0 : (⟨#[]⟩ : ByteArray).size = 0 := rfl
  have hl2 : (mels s (rooted s) s.size 0 []).length ≤ 900 := by simp at hl; omega
  have hmul : (mels s (rooted s) s.size 0 []).length * (900 + 1) ≤ 900 * (900 + 1) := Nat.mul_le_mul_right _ hl2
  unfold memName mfin
  have h1 : (⟨#[47]⟩ : ByteArray).size = 1 := rfl
  split
  · omega
  · split
    · omega
    · omega
theorem box10 {w1 : World} {g t : Nat} {v0 v1 v2 v3 v4 v5 v6 v7 v8 v9 : Value} (h : w1.heap[g]? = some (.cells #[v0, v1, v2, v3, v4, v5, v6, v7, v8, v9] t (0, 0))) :
    w1.cell? ⟨g, 0, none⟩ = some v0 ∧ w1.cell? ⟨g, 1, none⟩ = some v1 ∧ w1.cell? ⟨g, 2, none⟩ = some v2 ∧ w1.cell? ⟨g, 3, none⟩ = some v3 ∧ w1.cell? ⟨g, 4, none⟩ = some v4 ∧ w1.cell? ⟨g, 5, none⟩ = some v5 ∧ w1.cell? ⟨g, 6, none⟩ = some v6 ∧ w1.cell? ⟨g, 7, none⟩ = some v7 ∧ w1.cell? ⟨g, 8, none⟩ = some v8 ∧ w1.cell? ⟨g, 9, none⟩ = some v9 := by
  have k := fun i => (blk_cell h i)
  exact ⟨k 0, k 1, k 2, k 3, k 4, k 5, k 6, k 7, k 8, k 9⟩
section
variable {w : World} {base : Nat} {ft : Nat → Prop} {m : Nat} {vN vA vD : Value} {mb n : Nat} {f : Lit → Option Nat} {X : SMem}
def spkOpen (X : SMem) (s : S26) : Bool := if memNamed s.f1 = false then false else if s.f0 = 0 then (!memIsDir X (memName s.f1) && memClr X (memName s.f1)) else if s.f0 = 1 then true else
  (decide (bits BinOp.andNot IntKind.i64 s.f3 1731 = 0) && ((memFind X (memName s.f1)).2 || decide (bits BinOp.and IntKind.i64 s.f3 64 = 0) || memClr X (memName s.f1)) && !(memIsDir X (memName s.f1) && !decide (bits BinOp.and IntKind.i64 s.f3 512 = 0)))
set_option maxHeartbeats 4000000 in
set_option maxRecDepth 100000 in
theorem speaksOpen_any (M : IsMem w base ft m vN vA vD mb n f X) (G : MGood X) (s : S26) (hs : s.f1.size ≤ 400) (A6 : Option Addr) (c6 : Nat) :
    Calls Tryd.prog 54 #[.pointer (some ⟨m, 0, none⟩), stepA s A6 c6] w (SpkPost w (spkOpen X s)) := by
  have HM := Lib.hid (fun W => memName_any s.f1 (by omega) W)
  have HNM := Lib.hid (fun W => named_any s.f1 W hs)
  have HFI := Lib.hid (fun W (hb : Below w.heap.size w W) => find_any (M.below hb) G (memName s.f1))
  have HID := Lib.hid (fun W (hb : Below w.heap.size w W) => isDir_any (M.below hb) G (memName s.f1))
  have HCL := Lib.hid (fun W (hb : Below w.heap.size w W) => clear_any (M.below hb) G (memName s.f1) (memName_size s.f1 (by omega)))
  obtain ⟨op, nm, ot, fl, pe, hh, dat, off, wh, N⟩ := s
  simp only at hs HM HNM HFI HID HCL
  unfold stepA
  clear M G
  have HL := Lib.hid (show spkOpen X ⟨op, nm, ot, fl, pe, hh, dat, off, wh, N⟩ = if memNamed nm = false then false else if op = 0 then (!memIsDir X (memName nm) && memClr X (memName nm)) else if op = 1 then true else (decide (bits BinOp.andNot IntKind.i64 fl 1731 = 0) && ((memFind X (memName nm)).2 || decide (bits BinOp.and IntKind.i64 fl 64 = 0) || memClr X (memName nm)) && !(memIsDir X (memName nm) && !decide (bits BinOp.and IntKind.i64 fl 512 = 0))) from rfl)
  generalize spkOpen X ⟨op, nm, ot, fl, pe, hh, dat, off, wh, N⟩ = r at *
  generalize memName nm = kn at *
  generalize memFind X kn = fp at *
  generalize memIsDir X kn = isd at *
  generalize memClr X kn = clr at *
  generalize memNamed nm = nmd at *
  obtain ⟨fi, has⟩ := fp
  simp only at HFI
  cases nmd with
  | false =>
    have HR := Lib.hid (show r = false by rw [HL.out]; rfl)
    clear HL
    go_enter Tryd.func54, Tryd.ntmps54
    go_upto_region 5 with (first | (go_at_call 57; (refine (HM.out _).mono ?_); rintro e w1 ⟨rfl, hb1⟩; have B1 := Lib.hid (below_then (below_alloc (Below.refl w.heap.size w) _) (Nat.le_of_lt (by simp)) hb1); have X1 := Lib.hid (blk_below (blk_new w _) hb1); obtain ⟨ka0, ka1, _, ka3, _⟩ := box10 X1.out; clear hb1) | (go_at_call 58; (refine (HFI.out _ B1.out).mono ?_); rintro e w2 ⟨rfl, rfl⟩) | (go_at_call 89; (refine (HNM.out _).mono ?_); rintro e w3 ⟨rfl, hb3⟩; have B3 := Lib.hid (below_then B1.out B1.out.size hb3); have X3 := Lib.hid (blk_below X1.out hb3); obtain ⟨kc0, kc1, _, kc3, _⟩ := box10 X3.out; clear hb3))
    go_ret
    rw [HR.out]
    exact ⟨rfl, B3.out⟩
  | true =>
    have HL2 := Lib.hid (HL.out.trans (if_neg (by simp)))
    clear HL
    go_enter Tryd.func54, Tryd.ntmps54
    go_upto_region 5 with (first | (go_at_call 57; (refine (HM.out _).mono ?_); rintro e w1 ⟨rfl, hb1⟩; have B1 := Lib.hid (below_then (below_alloc (Below.refl w.heap.size w) _) (Nat.le_of_lt (by simp)) hb1); have X1 := Lib.hid (blk_below (blk_new w _) hb1); obtain ⟨ka0, ka1, _, ka3, _⟩ := box10 X1.out; clear hb1) | (go_at_call 58; (refine (HFI.out _ B1.out).mono ?_); rintro e w2 ⟨rfl, rfl⟩) | (go_at_call 89; (refine (HNM.out _).mono ?_); rintro e w3 ⟨rfl, hb3⟩; have B3 := Lib.hid (below_then B1.out B1.out.size hb3); have X3 := Lib.hid (blk_below X1.out hb3); obtain ⟨kc0, kc1, _, kc3, _⟩ := box10 X3.out; clear hb3))
    by_cases o0 : op = 0
    · subst o0
      have HR := Lib.hid (show r = (!isd && clr) by rw [HL2.out]; rfl)
      clear HL2
      cases isd with
      | false =>
        go_wp2_with (first | (go_at_call 90; (refine (HID.out _ B3.out).mono ?_); rintro e w4 ⟨rfl, rfl⟩) | (go_at_call 91; (refine (HCL.out _ B3.out).mono ?_); rintro e w5 ⟨rfl, rfl⟩))
        go_ret
        rw [HR.out]
        exact ⟨rfl, B3.out⟩
      | true =>
        go_wp2_with (first | (go_at_call 90; (refine (HID.out _ B3.out).mono ?_); rintro e w4 ⟨rfl, rfl⟩))
        go_ret
        rw [HR.out]
        exact ⟨rfl, B3.out⟩
    · by_cases o1 : op = 1
      · subst o1
        have HR := Lib.hid (show r = true by rw [HL2.out]; rfl)
        clear HL2
        go_wp2_with fail
        go_ret
        rw [HR.out]
        exact ⟨rfl, B3.out⟩
      · have HR := Lib.hid (show r = (decide (bits BinOp.andNot IntKind.i64 fl 1731 = 0) && (has || decide (bits BinOp.and IntKind.i64 fl 64 = 0) || clr) && !(isd && !decide (bits BinOp.and IntKind.i64 fl 512 = 0))) by rw [HL2.out, if_neg o0, if_neg o1])
        clear HL2
        cases isd <;> cases has <;> cases clr
        all_goals
          go_wp2_with (first | (go_at_call 90; (refine (HID.out _ B3.out).mono ?_); rintro e w4 ⟨rfl, rfl⟩) | (go_at_call 91; (refine (HCL.out _ B3.out).mono ?_); rintro e w5 ⟨rfl, rfl⟩))
          all_goals
            go_ret
            rw [HR.out]
            refine ⟨?_, B3.out⟩
            simp [*]
            try rfl
end
theorem len_eq {α : Type} (l : List α) : ((l.length : Int) == 0) = decide (l.length = 0) := by
  cases l
  · rfl
  · simp; omega
def memBelow (x d : ByteArray) : Bool := if d.toList = ([47] : List UInt8) then !(x.toList == ([47] : List UInt8)) else (decide (d.size < x.size) && ((x.extract 0 d.size).toList == d.toList)) && (bt x (d.size : Int) == 47)
set_option maxHeartbeats 1000000 in
theorem below_any (x d : ByteArray) (hx : x.size ≤ 1000000) (hd : d.size ≤ 1000000) (w : World) : Calls Tryd.prog 61 #[.string x, .string d] w fun e w' => e = .returned (.bool (memBelow x d)) ∧ w = w' := by
  unfold memBelow
  by_cases h0 : d.toList = ([47] : List UInt8)
  · rw [if_pos h0]
    have hb : (d.toList == ([47] : List UInt8)) = true := by simpa using h0
    clear h0
    go_enter Tryd.func61, Tryd.ntmps61
    go_wp2_with fail
    go_ret
    exact ⟨rfl, rfl⟩
  · rw [if_neg h0]
    have hb : (d.toList == ([47] : List UInt8)) = false := by simpa using h0
    clear h0
    by_cases h1 : d.size < x.size
    · have h1' : (d.size : Int) < (x.size : Int) := by omega
      have hd1 : decide (d.size < x.size) = true := by simpa using h1
      rw [hd1, Mq.bt_at x d.size h1]
      clear hd1
      by_cases h2 : (x.extract 0 d.size).toList = d.toList
      · have hb2 : ((x.extract 0 d.size).toList == d.toList) = true := by simpa using h2
        rw [hb2]
        clear h2
        go_enter Tryd.func61, Tryd.ntmps61
        go_wp2_with fail
        go_ret
        exact ⟨by simp, rfl⟩
      · have hb2 : ((x.extract 0 d.size).toList == d.toList) = false := by simpa using h2
        rw [hb2]
        clear h2
        go_enter Tryd.func61, Tryd.ntmps61
        go_wp2_with fail
        go_ret
        exact ⟨by simp, rfl⟩
    · have h1' : ¬ ((d.size : Int) < (x.size : Int)) := by omega
      have hd1 : decide (d.size < x.size) = false := by simpa using h1
      rw [hd1]
      clear hd1 h1
      go_enter Tryd.func61, Tryd.ntmps61
      go_wp2_with fail
      go_ret
      exact ⟨by simp, rfl⟩
def spkRen (X : SMem) (kn ot : ByteArray) : Bool := memNamed ot && ((kn.toList == (memName ot).toList) || ((((!(kn.toList == ([47] : List UInt8)) && !((memName ot).toList == ([47] : List UInt8))) && !memBelow (memName ot) kn) && !memIsDir X (memName ot)) && memClr X (memName ot)))
def spkNames (X : SMem) (s : S26) : Bool := if memNamed s.f1 = false then false else if s.f0 = 3 ∨ s.f0 = 4 then ((memFind X (memName s.f1)).2 || memClr X (memName s.f1)) else
  if s.f0 = 5 then (!((memName s.f1).toList == ([47] : List UInt8)) && decide ((memChildren X (memName s.f1)).length = 0)) else if s.f0 = 6 then !((memName s.f1).toList == ([47] : List UInt8)) else
  if s.f0 = 7 then spkRen X (memName s.f1) s.f2 else if s.f0 = 10 then ((memFind X (memName s.f1)).2 && (s.f1.toList == (memName s.f1).toList)) else if s.f0 = 11 then (decide (-1099511627776 ≤ s.f7) && decide (s.f7 ≤ 1099511627776)) else true
section
variable {w : World} {base : Nat} {ft : Nat → Prop} {m : Nat} {vN vA vD : Value} {mb n : Nat} {f : Lit → Option Nat} {X : SMem}
set_option maxHeartbeats 4000000 in
set_option maxRecDepth 100000 in
theorem speaksNames_any (M : IsMem w base ft m vN vA vD mb n f X) (G : MGood X) (s : S26) (hs : s.f1.size ≤ 400) (ho : s.f2.size ≤ 400) (A6 : Option Addr) (c6 : Nat) :
    Calls Tryd.prog 55 #[.pointer (some ⟨m, 0, none⟩), stepA s A6 c6] w (SpkPost w (spkNames X s)) := by
  have HM := Lib.hid (fun W => memName_any s.f1 (by omega) W)
  have HNM := Lib.hid (fun W => named_any s.f1 W hs)
  have HM2 := Lib.hid (fun W => memName_any s.f2 (by omega) W)
  have HNM2 := Lib.hid (fun W => named_any s.f2 W ho)
  have HFI := Lib.hid (fun W (hb : Below w.heap.size w W) => find_any (M.below hb) G (memName s.f1))
  have HCH := Lib.hid (fun W (hb : Below w.heap.size w W) => children_any (M.below hb) G (memName s.f1))
  have HCL := Lib.hid (fun W (hb : Below w.heap.size w W) => clear_any (M.below hb) G (memName s.f1) (memName_size s.f1 (by omega)))
  have HID2 := Lib.hid (fun W (hb : Below w.heap.size w W) => isDir_any (M.below hb) G (memName s.f2))
  have HCL2 := Lib.hid (fun W (hb : Below w.heap.size w W) => clear_any (M.below hb) G (memName s.f2) (memName_size s.f2 (by omega)))
  have HBE := Lib.hid (fun W => below_any (memName s.f2) (memName s.f1) (memName_size s.f2 (by omega)) (memName_size s.f1 (by omega)) W)
  have HL := Lib.hid (show spkNames X s = if memNamed s.f1 = false then false else if s.f0 = 3 ∨ s.f0 = 4 then ((memFind X (memName s.f1)).2 || memClr X (memName s.f1)) else
  if s.f0 = 5 then (!((memName s.f1).toList == ([47] : List UInt8)) && decide ((memChildren X (memName s.f1)).length = 0)) else if s.f0 = 6 then !((memName s.f1).toList == ([47] : List UInt8)) else
  if s.f0 = 7 then (memNamed s.f2 && (((memName s.f1).toList == (memName s.f2).toList) || ((((!((memName s.f1).toList == ([47] : List UInt8)) && !((memName s.f2).toList == ([47] : List UInt8))) && !memBelow (memName s.f2) (memName s.f1)) && !memIsDir X (memName s.f2)) && memClr X (memName s.f2)))) else if s.f0 = 10 then ((memFind X (memName s.f1)).2 && (s.f1.toList == (memName s.f1).toList)) else if s.f0 = 11 then (decide (-1099511627776 ≤ s.f7) && decide (s.f7 ≤ 1099511627776)) else true from rfl)
  generalize spkNames X s = r at *
  obtain ⟨op, nm, ot, fl, pe, hh, dat, off, wh, N⟩ := s
  simp only at hs ho HM HNM HM2 HNM2 HFI HCH HCL HID2 HCL2 HBE HL
  unfold stepA
  clear M G
  generalize memName nm = kn at *
  generalize memName ot = ko at *
  generalize memFind X kn = fp at *
  generalize memClr X kn = clr at *
  generalize memIsDir X ko = isd2 at *
  generalize memClr X ko = clr2 at *
  generalize memNamed nm = nmd at *
  generalize memNamed ot = nmd2 at *
  generalize memBelow ko kn = bel at *
  generalize memChildren X kn = chl at *
  obtain ⟨fi, has⟩ := fp
  simp only at HFI HL
  cases nmd with
  | false =>
    have HR := Lib.hid (show r = false by rw [HL.out]; rfl)
    clear HL
    go_enter Tryd.func55, Tryd.ntmps55
    go_upto_region 5 with (first | (go_at_call 57; (refine (HM.out _).mono ?_); rintro e w1 ⟨rfl, hb1⟩; have B1 := Lib.hid (below_then (below_alloc (Below.refl w.heap.size w) _) (Nat.le_of_lt (by simp)) hb1); have X1 := Lib.hid (blk_below (blk_new w _) hb1); obtain ⟨ka0, ka1, ka2, _, _, _, _, ka7, _⟩ := box10 X1.out; clear hb1) | (go_at_call 58; (refine (HFI.out _ B1.out).mono ?_); rintro e w2 ⟨rfl, rfl⟩) | (go_at_call 89; (refine (HNM.out _).mono ?_); rintro e w3 ⟨rfl, hb3⟩; have B3 := Lib.hid (below_then B1.out B1.out.size hb3); have X3 := Lib.hid (blk_below X1.out hb3); obtain ⟨kc0, kc1, kc2, _, _, _, _, kc7, _⟩ := box10 X3.out; clear hb3))
    go_ret
    rw [HR.out]
    exact ⟨rfl, B3.out⟩
  | true =>
    have HL2 := Lib.hid (HL.out.trans (if_neg (by simp)))
    clear HL
    go_enter Tryd.func55, Tryd.ntmps55
    go_upto_region 5 with (first | (go_at_call 57; (refine (HM.out _).mono ?_); rintro e w1 ⟨rfl, hb1⟩; have B1 := Lib.hid (below_then (below_alloc (Below.refl w.heap.size w) _) (Nat.le_of_lt (by simp)) hb1); have X1 := Lib.hid (blk_below (blk_new w _) hb1); obtain ⟨ka0, ka1, ka2, _, _, _, _, ka7, _⟩ := box10 X1.out; clear hb1) | (go_at_call 58; (refine (HFI.out _ B1.out).mono ?_); rintro e w2 ⟨rfl, rfl⟩) | (go_at_call 89; (refine (HNM.out _).mono ?_); rintro e w3 ⟨rfl, hb3⟩; have B3 := Lib.hid (below_then B1.out B1.out.size hb3); have X3 := Lib.hid (blk_below X1.out hb3); obtain ⟨kc0, kc1, kc2, _, _, _, _, kc7, _⟩ := box10 X3.out; clear hb3))
    have hroot : (kn.toList == ([47] : List UInt8)) = true ∨ (kn.toList == ([47] : List UInt8)) = false := by cases (kn.toList == ([47] : List UInt8)) <;> simp
    by_cases o3 : op = 3 ∨ op = 4
    · have HR := Lib.hid (show r = (has || clr) by rw [HL2.out, if_pos o3])
      clear HL2
      rcases o3 with rfl | rfl
      all_goals
        cases has
        all_goals
          go_wp2_with (first | (go_at_call 91; (refine (HCL.out _ B3.out).mono ?_); rintro e w5 ⟨rfl, rfl⟩))
          go_ret
          rw [HR.out]
          exact ⟨rfl, B3.out⟩
    · have HL3 := Lib.hid (HL2.out.trans (if_neg o3))
      clear HL2
      have n3 : ¬ op = 3 := fun e => o3 (.inl e)
      have n4 : ¬ op = 4 := fun e => o3 (.inr e)
      clear o3
      by_cases o5 : op = 5
      · have HR := Lib.hid (show r = (!(kn.toList == ([47] : List UInt8)) && decide (chl.length = 0)) by rw [HL3.out, if_pos o5])
        subst o5
        clear HL3 n3 n4
        rcases hroot with hr | hr
        · go_wp2_with fail
          go_ret
          rw [HR.out, hr]
          exact ⟨rfl, B3.out⟩
        · go_wp2_with (first | (go_at_call 92; (refine (HCH.out _ B3.out).mono ?_); rintro e w5 ⟨A1, c1, rfl, hx, hb5⟩; have B5 := Lib.hid hb5; clear hx hb5))
          go_ret
          rw [HR.out, hr]
          refine ⟨?_, below_then B3.out B3.out.size B5.out⟩
          rw [← len_eq]
          simp
      · have HL4 := Lib.hid (HL3.out.trans (if_neg o5))
        clear HL3
        by_cases o6 : op = 6
        · have HR := Lib.hid (show r = (!(kn.toList == ([47] : List UInt8))) by rw [HL4.out, if_pos o6])
          subst o6
          clear HL4 n3 n4 o5
          go_wp2_with fail
          go_ret
          rw [HR.out]
          exact ⟨rfl, B3.out⟩
        · have HL5 := Lib.hid (HL4.out.trans (if_neg o6))
          clear HL4
          by_cases o7 : op = 7
          · have HR := Lib.hid (show r = (nmd2 && ((kn.toList == ko.toList) || ((((!(kn.toList == ([47] : List UInt8)) && !(ko.toList == ([47] : List UInt8))) && !bel) && !isd2) && clr2))) by rw [HL5.out, if_pos o7])
            subst o7
            clear HL5 n3 n4 o5 o6
            have HR2 := Lib.hid (show r = if nmd2 = true then ((kn.toList == ko.toList) || ((((!(kn.toList == ([47] : List UInt8)) && !(ko.toList == ([47] : List UInt8))) && !bel) && !isd2) && clr2)) else false by rw [HR.out]; cases nmd2 <;> rfl)
            have hq : (kn.toList == ko.toList) = true ∨ (kn.toList == ko.toList) = false := by cases (kn.toList == ko.toList) <;> simp
            have hro : (ko.toList == ([47] : List UInt8)) = true ∨ (ko.toList == ([47] : List UInt8)) = false := by cases (ko.toList == ([47] : List UInt8)) <;> simp
            clear HR
            rcases hq with hq | hq
            case inl =>
              cases nmd2
              all_goals
                go_wp2_with (first | (go_at_call 57; (refine (HM2.out _).mono ?_); rintro e w5 ⟨rfl, hb5⟩; have B5 := Lib.hid (below_then B3.out B3.out.size hb5); have X5 := Lib.hid (blk_below X3.out hb5); obtain ⟨kd0, kd1, kd2, _⟩ := box10 X5.out; clear hb5) | (go_at_call 89; (refine (HNM2.out _).mono ?_); rintro e w6 ⟨rfl, hb6⟩; have B6 := Lib.hid (below_then B5.out B5.out.size hb6); clear hb6) | (go_at_call 61; (refine (HBE.out _).mono ?_); rintro e w7 ⟨rfl, rfl⟩) | (go_at_call 90; (refine (HID2.out _ B6.out).mono ?_); rintro e w8 ⟨rfl, rfl⟩) | (go_at_call 91; (refine (HCL2.out _ B6.out).mono ?_); rintro e w9 ⟨rfl, rfl⟩))
                go_ret
                rw [HR2.out, hq]
                exact ⟨rfl, B6.out⟩
            case inr =>
              rcases hroot with hr | hr
              case inl =>
                cases nmd2
                all_goals
                  go_wp2_with (first | (go_at_call 57; (refine (HM2.out _).mono ?_); rintro e w5 ⟨rfl, hb5⟩; have B5 := Lib.hid (below_then B3.out B3.out.size hb5); have X5 := Lib.hid (blk_below X3.out hb5); obtain ⟨kd0, kd1, kd2, _⟩ := box10 X5.out; clear hb5) | (go_at_call 89; (refine (HNM2.out _).mono ?_); rintro e w6 ⟨rfl, hb6⟩; have B6 := Lib.hid (below_then B5.out B5.out.size hb6); clear hb6) | (go_at_call 61; (refine (HBE.out _).mono ?_); rintro e w7 ⟨rfl, rfl⟩) | (go_at_call 90; (refine (HID2.out _ B6.out).mono ?_); rintro e w8 ⟨rfl, rfl⟩) | (go_at_call 91; (refine (HCL2.out _ B6.out).mono ?_); rintro e w9 ⟨rfl, rfl⟩))
                  go_ret
                  rw [HR2.out, hq, hr]
                  exact ⟨rfl, B6.out⟩
              case inr =>
                rcases hro with hr2 | hr2
                case inl =>
                  cases nmd2
                  all_goals
                    go_wp2_with (first | (go_at_call 57; (refine (HM2.out _).mono ?_); rintro e w5 ⟨rfl, hb5⟩; have B5 := Lib.hid (below_then B3.out B3.out.size hb5); have X5 := Lib.hid (blk_below X3.out hb5); obtain ⟨kd0, kd1, kd2, _⟩ := box10 X5.out; clear hb5) | (go_at_call 89; (refine (HNM2.out _).mono ?_); rintro e w6 ⟨rfl, hb6⟩; have B6 := Lib.hid (below_then B5.out B5.out.size hb6); clear hb6) | (go_at_call 61; (refine (HBE.out _).mono ?_); rintro e w7 ⟨rfl, rfl⟩) | (go_at_call 90; (refine (HID2.out _ B6.out).mono ?_); rintro e w8 ⟨rfl, rfl⟩) | (go_at_call 91; (refine (HCL2.out _ B6.out).mono ?_); rintro e w9 ⟨rfl, rfl⟩))
                    go_ret
                    rw [HR2.out, hq, hr, hr2]
                    exact ⟨rfl, B6.out⟩
                case inr =>
                  cases nmd2 with
                  | false =>
                    go_wp2_with (first | (go_at_call 57; (refine (HM2.out _).mono ?_); rintro e w5 ⟨rfl, hb5⟩; have B5 := Lib.hid (below_then B3.out B3.out.size hb5); have X5 := Lib.hid (blk_below X3.out hb5); obtain ⟨kd0, kd1, kd2, _⟩ := box10 X5.out; clear hb5) | (go_at_call 89; (refine (HNM2.out _).mono ?_); rintro e w6 ⟨rfl, hb6⟩; have B6 := Lib.hid (below_then B5.out B5.out.size hb6); clear hb6) | (go_at_call 61; (refine (HBE.out _).mono ?_); rintro e w7 ⟨rfl, rfl⟩) | (go_at_call 90; (refine (HID2.out _ B6.out).mono ?_); rintro e w8 ⟨rfl, rfl⟩) | (go_at_call 91; (refine (HCL2.out _ B6.out).mono ?_); rintro e w9 ⟨rfl, rfl⟩))
                    go_ret
                    rw [HR2.out]
                    exact ⟨rfl, B6.out⟩
                  | true =>
                    cases bel <;> cases isd2
                    all_goals
                      go_wp2_with (first | (go_at_call 57; (refine (HM2.out _).mono ?_); rintro e w5 ⟨rfl, hb5⟩; have B5 := Lib.hid (below_then B3.out B3.out.size hb5); have X5 := Lib.hid (blk_below X3.out hb5); obtain ⟨kd0, kd1, kd2, _⟩ := box10 X5.out; clear hb5) | (go_at_call 89; (refine (HNM2.out _).mono ?_); rintro e w6 ⟨rfl, hb6⟩; have B6 := Lib.hid (below_then B5.out B5.out.size hb6); clear hb6) | (go_at_call 61; (refine (HBE.out _).mono ?_); rintro e w7 ⟨rfl, rfl⟩) | (go_at_call 90; (refine (HID2.out _ B6.out).mono ?_); rintro e w8 ⟨rfl, rfl⟩) | (go_at_call 91; (refine (HCL2.out _ B6.out).mono ?_); rintro e w9 ⟨rfl, rfl⟩))
                      go_ret
                      rw [HR2.out, hq, hr, hr2]
                      exact ⟨rfl, B6.out⟩
          · have HL6 := Lib.hid (HL5.out.trans (if_neg o7))
            clear HL5
            by_cases o10 : op = 10
            · have HR := Lib.hid (show r = (has && (nm.toList == kn.toList)) by rw [HL6.out, if_pos o10])
              subst o10
              clear HL6 n3 n4 o5 o6 o7
              cases has
              all_goals
                go_wp2_with fail
                go_ret
                rw [HR.out]
                exact ⟨rfl, B3.out⟩
            · have HL7 := Lib.hid (HL6.out.trans (if_neg o10))
              clear HL6
              by_cases o11 : op = 11
              · have HR := Lib.hid (show r = (decide (-1099511627776 ≤ off) && decide (off ≤ 1099511627776)) by rw [HL7.out, if_pos o11])
                subst o11
                clear HL7 n3 n4 o5 o6 o7 o10
                go_wp2_with fail
                all_goals
                  go_ret
                  rw [HR.out]
                  refine ⟨?_, B3.out⟩
                  simp
                  try omega
              · have HR := Lib.hid (show r = true by rw [HL7.out, if_neg o11])
                have m3 : (op == 3) = false := by simpa using n3
                have m4 : (op == 4) = false := by simpa using n4
                clear HL7
                go_wp2_with fail
                all_goals
                  go_ret
                  rw [HR.out]
                  exact ⟨rfl, B3.out⟩
end
end Go.Proofs.YtljcdjggjphedaaDoor.Mt
namespace Go.Proofs.YtljcdjggjphedaaDoor.Mu
open Go.RowKit Go.Maps Go.Proofs.YtljcdjggjphedaaDoorW.PrintWords Go.Proofs.YtljcdjggjphedaaDoorW.PrintLast Go.Proofs.YtljcdjggjphedaaDoorW.PrintMore Go.Proofs.YtljcdjggjphedaaDoor.PFnHandleScript Go.Proofs.YtljcdjggjphedaaDoor.Hd Go.Proofs.YtljcdjggjphedaaDoor.Ms Go.Proofs.YtljcdjggjphedaaDoor.Mn Go.Proofs.YtljcdjggjphedaaDoor.Pm Go.Proofs.YtljcdjggjphedaaDoor.Mf Go.Proofs.YtljcdjggjphedaaDoor.Mq Go.Proofs.YtljcdjggjphedaaDoor.Bq Go.Proofs.YtljcdjggjphedaaDoor.Mr Go.Proofs.YtljcdjggjphedaaDoor.Mt
set_option linter.unusedVariables false
set_option linter.unusedSimpArgs false
def keyI (k : Int) : Lit := .int .i64 k
def spkLong (s : S26) : Prop := 400 < (s.f1.size : Int) ∨ 400 < (s.f2.size : Int) ∨ 4096 < (s.f6.length : Int)
instance (s : S26) : Decidable (spkLong s) := by unfold spkLong; infer_instance
def memSpeaks (X : SMem) (s : S26) : Bool :=
  if spkLong s then false else if 0 ≤ s.f0 ∧ s.f0 ≤ 2 then spkOpen X s else if 3 ≤ s.f0 ∧ s.f0 ≤ 11 then spkNames X s else
  match X.hs (keyI s.f5) with
  | none => true
  | some h => spkFile X h s
/-- The open files' nodes are there. -/
def HGood (X : SMem) : Prop := ∀ kl h, WideAt.IsKeyLit kl → X.hs kl = some h → 0 ≤ h.node ∧ h.node < X.nodes.length
section
variable {w : World} {base : Nat} {ft : Nat → Prop} {m : Nat} {vN vA vD : Value} {mb n : Nat} {f : Lit → Option Nat} {X : SMem}
theorem zeroH (w : World) : (zeroValue 36).run Tryd.prog w = .ok (.pointer none) w := by kernel_rfl
theorem look_any (M : IsMem w base ft m vN vA vD mb n f X) (k : Int) (hk : (Lit.int .i64 k).wf = true) :
    (Instr.lookup 45 (.map (some mb)) (.int .i64 k) false).run Tryd.prog w = .ok (ptrV (f (keyI k))) w :=
  M.pm.look (int_keyed Tryd.underlying3) Tryd.underlying45 (zeroH w) (keyOf_int_mk Tryd.underlying3 hk) trivial
theorem long_cases (a b c : Int) : 400 < a ∨ (a ≤ 400 ∧ 400 < b) ∨ (a ≤ 400 ∧ b ≤ 400 ∧ 4096 < c) ∨ (a ≤ 400 ∧ b ≤ 400 ∧ c ≤ 4096) := by omega
set_option maxHeartbeats 4000000 in
set_option maxRecDepth 100000 in
theorem speaks_any (M : IsMem w base ft m vN vA vD mb n f X) (G : MGood X) (HG : HGood X) (s : S26) (hk : (Lit.int .i64 s.f5).wf = true) (A6 : Option Addr) (c6 : Nat) :
    Calls Tryd.prog 29 #[.pointer (some ⟨m, 0, none⟩), stepA s A6 c6] w (SpkPost w (memSpeaks X s)) := by
  rcases long_cases s.f1.size s.f2.size s.f6.length with h1 | ⟨h1, h2⟩ | ⟨h1, h2, h3⟩ | ⟨h1, h2, h3⟩
  case inr.inr.inr =>
    have HO := Lib.hid (fun W (hb : Below w.heap.size w W) => speaksOpen_any (M.below hb) G s (by omega) A6 c6)
    have HN := Lib.hid (fun W (hb : Below w.heap.size w W) => speaksNames_any (M.below hb) G s (by omega) (by omega) A6 c6)
    have HS := Lib.hid (show memSpeaks X s = if 0 ≤ s.f0 ∧ s.f0 ≤ 2 then spkOpen X s else if 3 ≤ s.f0 ∧ s.f0 ≤ 11 then spkNames X s else (match X.hs (keyI s.f5) with | none => true | some h => spkFile X h s) by
      unfold memSpeaks
      rw [if_neg (by unfold spkLong; omega)])
    generalize memSpeaks X s = r at *
    by_cases o1 : 0 ≤ s.f0 ∧ s.f0 ≤ 2
    · have HR := Lib.hid (show r = spkOpen X s by rw [HS.out, if_pos o1])
      obtain ⟨o1, o2⟩ := o1
      clear HS HN M G HG hk
      generalize spkOpen X s = r2 at *
      obtain ⟨op, nm, ot, fl, pe, hh, dat, off, wh, N⟩ := s
      unfold stepA at *
      simp only at *
      go_enter Tryd.func29, Tryd.ntmps29
      go_wp2_with (first | (go_at_call 54; (refine (HO.out _ (below_alloc (Below.refl _ _) _)).mono ?_); rintro e w1 ⟨rfl, hb1⟩; have B1 := Lib.hid (below_then (below_alloc (Below.refl w.heap.size w) _) (Nat.le_of_lt (by simp)) hb1); clear hb1))
      go_ret
      rw [HR.out]
      exact ⟨rfl, B1.out⟩
    · have HS2 := Lib.hid (HS.out.trans (if_neg o1))
      have o1' : (0 ≤ s.f0 ∧ 2 < s.f0) ∨ s.f0 < 0 := by omega
      clear HS HO o1
      by_cases o3 : 3 ≤ s.f0 ∧ s.f0 ≤ 11
      · have HR := Lib.hid (show r = spkNames X s by rw [HS2.out, if_pos o3])
        obtain ⟨o1, o2⟩ := o3
        have o4 : ¬ s.f0 ≤ 2 := by omega
        clear HS2 M G HG hk o1'
        generalize spkNames X s = r2 at *
        obtain ⟨op, nm, ot, fl, pe, hh, dat, off, wh, N⟩ := s
        unfold stepA at *
        simp only at *
        go_enter Tryd.func29, Tryd.ntmps29
        go_wp2_with (first | (go_at_call 55; (refine (HN.out _ (below_alloc (Below.refl _ _) _)).mono ?_); rintro e w1 ⟨rfl, hb1⟩; have B1 := Lib.hid (below_then (below_alloc (Below.refl w.heap.size w) _) (Nat.le_of_lt (by simp)) hb1); clear hb1))
        go_ret
        rw [HR.out]
        exact ⟨rfl, B1.out⟩
      · have HS3 := Lib.hid (HS2.out.trans (if_neg o3))
        have o5 : s.f0 < 0 ∨ (0 ≤ s.f0 ∧ 2 < s.f0 ∧ 3 ≤ s.f0 ∧ 11 < s.f0) := by omega
        clear HS2 HN o1' o3
        have HLK := Lib.hid (fun W (hb : Below w.heap.size w W) => look_any (M.below hb) s.f5 hk)
        have HH := M.hnd (keyI s.f5) trivial
        have c3 := M.c3
        cases hf : f (keyI s.f5) with
        | none =>
          rw [hf] at HLK HH
          have hx : X.hs (keyI s.f5) = none := HH
          have HR := Lib.hid (show r = true by rw [HS3.out, hx])
          clear HS3 M G HG hk HH hf hx
          obtain ⟨op, nm, ot, fl, pe, hh, dat, off, wh, N⟩ := s
          unfold stepA at *
          simp only [ptrV] at *
          rcases o5 with o5 | ⟨o5, o6, o7, o8⟩
          all_goals
            go_enter Tryd.func29, Tryd.ntmps29
            go_wp2_with fail
            have c3' := cellb c3 (below_alloc (Below.refl w.heap.size w) (.cells #[.int .i64 op, .string nm, .string ot, .int .i64 fl, .int .i64 pe, .int .i64 hh, .slice A6 dat.length c6, .int .i64 off, .int .i64 wh, .int .i64 N] 26))
            have L1 := fun q => HLK.out _ (pw_below_drewN (below_alloc (Below.refl w.heap.size w) (.cells #[.int .i64 op, .string nm, .string ot, .int .i64 fl, .int .i64 pe, .int .i64 hh, .slice A6 dat.length c6, .int .i64 off, .int .i64 wh, .int .i64 N] 26)) q)
            go_quiet (fail)
            go_wp2_with fail
            go_ret
            rw [HR.out]
            exact ⟨rfl, pw_below_drewN (below_alloc (Below.refl _ _) _) _⟩
        | some g =>
          rw [hf] at HLK HH
          obtain ⟨h, hx, hg, _, _⟩ := HH
          obtain ⟨hn0, hn1⟩ := HG (keyI s.f5) h trivial hx
          have HR := Lib.hid (show r = spkFile X h s by rw [HS3.out, hx])
          have HF := Lib.hid (fun W (hb : Below w.heap.size w W) => speaksFile_any (M.below hb) G g h (blk_below hg hb) hn0 hn1 s A6 c6)
          clear HS3 M G HG hk hf hx hg hn0 hn1
          generalize spkFile X h s = r2 at *
          obtain ⟨op, nm, ot, fl, pe, hh, dat, off, wh, N⟩ := s
          unfold stepA at *
          simp only [ptrV] at *
          rcases o5 with o5 | ⟨o5, o6, o7, o8⟩
          all_goals
            go_enter Tryd.func29, Tryd.ntmps29
            go_wp2_with fail
            have c3' := cellb c3 (below_alloc (Below.refl w.heap.size w) (.cells #[.int .i64 op, .string nm, .string ot, .int .i64 fl, .int .i64 pe, .int .i64 hh, .slice A6 dat.length c6, .int .i64 off, .int .i64 wh, .int .i64 N] 26))
            have L1 := fun q => HLK.out _ (pw_below_drewN (below_alloc (Below.refl w.heap.size w) (.cells #[.int .i64 op, .string nm, .string ot, .int .i64 fl, .int .i64 pe, .int .i64 hh, .slice A6 dat.length c6, .int .i64 off, .int .i64 wh, .int .i64 N] 26)) q)
            go_quiet (fail)
            go_wp2_with (first | (go_at_call 56; (refine (HF.out _ (pw_below_drewN (below_alloc (Below.refl _ _) _) _)).mono ?_); rintro e w1 ⟨rfl, hb1⟩; have B1 := Lib.hid (below_then (pw_below_drewN (below_alloc (Below.refl w.heap.size w) _) _) (Nat.le_of_lt (by simp)) hb1); clear hb1))
            go_ret
            rw [HR.out]
            exact ⟨rfl, B1.out⟩
  all_goals
    have HR := Lib.hid (show memSpeaks X s = false by
      unfold memSpeaks
      rw [if_pos (by unfold spkLong; omega)])
    generalize memSpeaks X s = r at *
    clear M G HG hk
    obtain ⟨op, nm, ot, fl, pe, hh, dat, off, wh, N⟩ := s
    unfold stepA at *
    simp only at *
    go_enter Tryd.func29, Tryd.ntmps29
    go_wp2_with fail
    go_ret
    rw [HR.out]
    exact ⟨rfl, below_alloc (Below.refl _ _) _⟩
end
end Go.Proofs.YtljcdjggjphedaaDoor.Mu
namespace Go.Proofs.YtljcdjggjphedaaDoor.Mv
open Go.RowKit Go.Maps Go.Proofs.YtljcdjggjphedaaDoorW.PrintWords Go.Proofs.YtljcdjggjphedaaDoorW.PrintLast Go.Proofs.YtljcdjggjphedaaDoorW.PrintMore Go.Proofs.YtljcdjggjphedaaDoor.PFnHandleScript Go.Proofs.YtljcdjggjphedaaDoor.Hd Go.Proofs.YtljcdjggjphedaaDoor.Ms Go.Proofs.YtljcdjggjphedaaDoor.Mn Go.Proofs.YtljcdjggjphedaaDoor.Pm Go.Proofs.YtljcdjggjphedaaDoor.Mf Go.Proofs.YtljcdjggjphedaaDoor.Mq Go.Proofs.YtljcdjggjphedaaDoor.Bq Go.Proofs.YtljcdjggjphedaaDoor.Mr Go.Proofs.YtljcdjggjphedaaDoor.Mt Go.Proofs.YtljcdjggjphedaaDoor.Mu
set_option linter.unusedVariables false
set_option linter.unusedSimpArgs false
open Classical in
noncomputable def upS (hs : Lit → Option SHnd) (kl : Lit) (h : SHnd) : Lit → Option SHnd := fun x => if x = kl then some h else hs x
theorem upS_same (hs : Lit → Option SHnd) (kl : Lit) (h : SHnd) : upS hs kl h kl = some h := by simp [upS]
theorem upS_other (hs : Lit → Option SHnd) {kl x : Lit} (e : x ≠ kl) (h : SHnd) : upS hs kl h x = hs x := by simp [upS, e]
section
variable {w w1 : World} {base : Nat} {ft ft' : Nat → Prop} {m : Nat} {vN vA vD : Value} {mb n : Nat} {f : Lit → Option Nat} {X : SMem}
theorem types_str {t : Nat} (ht : t = 49 ∨ t = 47 ∨ t = 42 ∨ t = 3 ∨ t = 5) : ∀ q, q ∈ 9 :: (Kd.string).E → q ≠ t := by
  intro q hq
  have : q = 9 := by simpa [Kd.string, Kd.scalar] using hq
  omega
theorem types_int {t : Nat} (ht : t = 49 ∨ t = 47 ∨ t = 42 ∨ t = 9 ∨ t = 5) : ∀ q, q ∈ 3 :: (Kd.int .i64).E → q ≠ t := by
  intro q hq
  have : q = 3 := by simpa [Kd.int, Kd.scalar] using hq
  omega
theorem types_node {t : Nat} (ht : t = 49 ∨ t = 47 ∨ t = 3 ∨ t = 9) : ∀ q, q ∈ 42 :: (k42).E → q ≠ t := by
  intro q hq
  have : q = 42 ∨ q = 5 := by
    have h : q ∈ 42 :: ([] ++ ([] ++ ((5 :: []) ++ ([] ++ [])))) := hq
    simpa using h
  omega
/-- A cell of a block that is none of its own is written. -/
theorem IsMem.far (M : IsMem w base ft m vN vA vD mb n f X) {p : Addr} (hp : ¬ ft p.block) (u : Value) : IsMem (w.setCell p u) base ft m vN vA vD mb n f X := by
  have hh : ∀ k, ft k → (w.setCell p u).heap[k]? = w.heap[k]? := fun k hk => Below.heap_setCell w p u k (fun e => hp (e ▸ hk))
  refine ⟨(hh m M.ftm.1).trans M.blk, M.ftm, Kd.R_step M.rN (fun k hk _ => hh k hk), Kd.R_step M.rA (fun k hk _ => hh k hk), Kd.R_step M.rD (fun k hk _ => hh k hk), M.pm.same (hh mb M.ftb.1), M.ftb, fun kl hk => ?_, M.inj⟩
  have := M.hnd kl hk
  cases hf : f kl with
  | none => rw [hf] at this; exact this
  | some g =>
    rw [hf] at this
    obtain ⟨h, e, hg, h1, h2⟩ := this
    exact ⟨h, e, (hh g h1).trans hg, h1, h2⟩
/-- Any mover that leaves its own blocks. -/
theorem IsMem.step (M : IsMem w base ft m vN vA vD mb n f X) (hh : ∀ k, ft k → w1.heap[k]? = w.heap[k]?) : IsMem w1 base ft m vN vA vD mb n f X := by
  refine ⟨(hh m M.ftm.1).trans M.blk, M.ftm, Kd.R_step M.rN (fun k hk _ => hh k hk), Kd.R_step M.rA (fun k hk _ => hh k hk), Kd.R_step M.rD (fun k hk _ => hh k hk), M.pm.same (hh mb M.ftb.1), M.ftb, fun kl hk => ?_, M.inj⟩
  have := M.hnd kl hk
  cases hf : f kl with
  | none => rw [hf] at this; exact this
  | some g =>
    rw [hf] at this
    obtain ⟨h, e, hg, h1, h2⟩ := this
    exact ⟨h, e, (hh g h1).trans hg, h1, h2⟩
theorem IsMem.mono (M : IsMem w base ft m vN vA vD mb n f X) (h : ∀ k, ft k → ft' k) : IsMem w base ft' m vN vA vD mb n f X := by
  refine ⟨M.blk, ⟨h _ M.ftm.1, M.ftm.2⟩, Kd.R_mono M.rN h, Kd.R_mono M.rA h, Kd.R_mono M.rD h, M.pm, ⟨h _ M.ftb.1, M.ftb.2⟩, fun kl hk => ?_, M.inj⟩
  have := M.hnd kl hk
  cases hf : f kl with
  | none => rw [hf] at this; exact this
  | some g =>
    rw [hf] at this
    obtain ⟨q, e, hg, h1, h2⟩ := this
    exact ⟨q, e, hg, h _ h1, h2⟩
/-- A cell of a handle is written. -/
theorem IsMem.hset (M : IsMem w base ft m vN vA vD mb n f X) {kl : Lit} (hkl : WideAt.IsKeyLit kl) {g : Nat} {h h' : SHnd} (hf : f kl = some g) (hg : w.heap[g]? = some (.cells (shcs h) 49 (0, 0))) (j : Nat) (u : Value) (e : (shcs h).setIfInBounds j u = shcs h') :
    IsMem (w.setCell ⟨g, j, none⟩ u) base ft m vN vA vD mb n f { X with hs := upS X.hs kl h' } := by
  have hne : m ≠ g := fun e => by rw [← e, M.blk] at hg; injection hg with hg; injection hg with _ hg; exact absurd hg (by decide)
  have hmb : mb ≠ g := fun e => by
    obtain ⟨es, cl, ho⟩ := M.pm.isObj
    rw [e, hg] at ho
    cases ho
  refine ⟨blk_far M.blk (p := ⟨g, j, none⟩) hne u, M.ftm, Kd.R_set M.rN hg (types_str (.inl rfl)) j u, Kd.R_set M.rA hg (types_int (.inl rfl)) j u, Kd.R_set M.rD hg (types_node (.inl rfl)) j u, M.pm.same (Below.heap_setCell w ⟨g, j, none⟩ u mb hmb), M.ftb, fun x hx => ?_, M.inj⟩
  have hold := M.hnd x hx
  by_cases hxk : x = kl
  · subst hxk
    rw [hf] at hold ⊢
    obtain ⟨q, eq, hq, h1, h2⟩ := hold
    exact ⟨h', upS_same _ _ _, blk_put hg j u e, h1, h2⟩
  · show HndAt _ base ft (f x) (upS X.hs kl h' x)
    rw [upS_other _ hxk]
    cases hfx : f x with
    | none => rw [hfx] at hold; exact hold
    | some g2 =>
      rw [hfx] at hold
      obtain ⟨q, eq, hq, h1, h2⟩ := hold
      have hg2 : g2 ≠ g := fun e2 => hxk (M.inj x kl g hx hkl (by rw [hfx, e2]) hf)
      exact ⟨q, eq, blk_far hq (p := ⟨g, j, none⟩) hg2 u, h1, h2⟩
/-- A cell of a node is written. -/
theorem IsMem.nset (M : IsMem w base ft m vN vA vD mb n f X) {gd cap : Nat} (hv : vD = .slice (some ⟨gd, 0, none⟩) X.nodes.length cap) (i : Nat) (hi : i < X.nodes.length) (j : Nat) (u : Value) (x' : S42) {okp : Nat → Prop}
    (hM : ∀ c : List Value, c.length = 5 → k42.M w base (fun k => ft k ∧ k ≠ gd) (nodeOf X i) c → k42.M w base okp x' (c.take j ++ [u] ++ c.drop (j + 1))) (hj : j < 5) (hokp : ∀ k, okp k → ft k ∧ k ≠ gd) :
    IsMem (w.setCell ⟨gd, i * 5 + j, none⟩ u) base ft m vN vA vD mb n f { X with nodes := X.nodes.set i x' } := by
  have hR := M.rD
  rw [hv] at hR
  obtain ⟨c, hcl, hMc, hcell, _⟩ := Kd.R_elem hR z42 (i : Int) (by omega) (by omega)
  have hsz : k42.sz = 5 := rfl
  rw [Int.toNat_natCast] at hcell hMc
  have hseg := Kd.R_seg (okp := okp) hR (i : Int) (by omega) (by omega) (c := c) (seg := [u]) (j := j) hcl (by rw [Int.toNat_natCast]; exact hcell) (by rw [hsz]; simp; omega) (x' := x') (hM c hcl hMc) hokp
  rw [Int.toNat_natCast, hsz] at hseg
  have hset : w.setCells gd (i * 5 + j) [u] = w.setCell ⟨gd, i * 5 + j, none⟩ u := rfl
  rw [hset] at hseg
  obtain ⟨hR2, hg2⟩ := hseg
  obtain ⟨g', cap', ef, hb', hlt', cells, hblk⟩ := Kd.R_form hR (by omega)
  injection ef with ef1 _ _
  have eg : gd = g' := by injection ef1 with ef1; injection ef1
  subst eg
  have hne : m ≠ gd := fun e => by rw [← e, M.blk] at hblk; injection hblk with hblk; injection hblk with _ hblk; exact absurd hblk (by decide)
  have hmb : mb ≠ gd := fun e => by
    obtain ⟨es, cl, ho⟩ := M.pm.isObj
    rw [e, hblk] at ho
    cases ho
  refine ⟨blk_far M.blk (p := ⟨gd, i * 5 + j, none⟩) hne u, M.ftm, Kd.R_set M.rN hblk (types_str (.inr (.inr (.inl rfl)))) _ u, Kd.R_set M.rA hblk (types_int (.inr (.inr (.inl rfl)))) _ u, by rw [hv]; exact hR2, M.pm.same (Below.heap_setCell w ⟨gd, i * 5 + j, none⟩ u mb hmb), M.ftb, fun x hx => ?_, M.inj⟩
  have hold := M.hnd x hx
  cases hfx : f x with
  | none => rw [hfx] at hold; exact hold
  | some g2 =>
    rw [hfx] at hold
    obtain ⟨q, eq, hq, h1, h2⟩ := hold
    have hg2' : g2 ≠ gd := fun e2 => by rw [e2, hblk] at hq; injection hq with hq; injection hq with _ hq; exact absurd hq (by decide)
    exact ⟨q, eq, blk_far hq (p := ⟨gd, i * 5 + j, none⟩) hg2' u, h1, h2⟩
end
end Go.Proofs.YtljcdjggjphedaaDoor.Mv
namespace Go.Proofs.YtljcdjggjphedaaDoor.Ml
open Go.RowKit Go.Maps Go.Proofs.YtljcdjggjphedaaDoorW.PrintWords Go.Proofs.YtljcdjggjphedaaDoorW.PrintLast Go.Proofs.YtljcdjggjphedaaDoorW.PrintMore Go.Proofs.YtljcdjggjphedaaDoor.PFnHandleScript Go.Proofs.YtljcdjggjphedaaDoor.Hd Go.Proofs.YtljcdjggjphedaaDoor.Ms Go.Proofs.YtljcdjggjphedaaDoor.Mn Go.Proofs.YtljcdjggjphedaaDoor.Pm Go.Proofs.YtljcdjggjphedaaDoor.Mf Go.Proofs.YtljcdjggjphedaaDoor.Mq Go.Proofs.YtljcdjggjphedaaDoor.Bq Go.Proofs.YtljcdjggjphedaaDoor.Mr Go.Proofs.YtljcdjggjphedaaDoor.Mt Go.Proofs.YtljcdjggjphedaaDoor.Mu Go.Proofs.YtljcdjggjphedaaDoor.Mv
set_option linter.unusedVariables false
set_option linter.unusedSimpArgs false
section
variable {w : World} {base : Nat} {ft : Nat → Prop} {m : Nat} {vN vA vD : Value} {mb n : Nat} {f : Lit → Option Nat} {X : SMem}
def ListNo (w : World) (e : Ending) (w' : World) : Prop := e = .returned (.agg #[.int .i64 8, .int .i64 0, .int .i64 0, .slice none 0 0, .slice none 0 0, .slice none 0 0]) ∧ Below w.heap.size w w'
set_option maxHeartbeats 4000000 in
set_option maxRecDepth 100000 in
theorem list_nondir (M : IsMem w base ft m vN vA vD mb n f X) (g : Nat) (h : SHnd) (hg : w.heap[g]? = some (.cells (shcs h) 49 (0, 0))) (i : Nat) (hi : h.node = i) (hn1 : i < X.nodes.length) (hs : X.nodes.length ≤ 100000) (hdf : (nodeOf X i).f0 = false) (s : S26) (A6 : Option Addr) (c6 : Nat) :
    Calls Tryd.prog 65 #[.pointer (some ⟨m, 0, none⟩), .pointer (some ⟨g, 0, none⟩), stepA s A6 c6] w (ListNo w) := by
  obtain ⟨ad, A2, c2, c, hv, hlc, p0, p1, p2, p3, p4, l2, g2⟩ := node_cells M i (by omega)
  have c2' := M.c2
  rw [hv] at c2'
  have h0 := blk_cell hg 0
  have h2 := blk_cell hg 2
  have hil : (i : Int) < (X.nodes.length : Int) := by omega
  obtain ⟨no, po, li, cl, ro⟩ := h
  obtain ⟨op, nm, ot, fl, pe, hh, dat, off, wh, N⟩ := s
  simp only [shcs] at h0 h2
  simp only at hi
  subst hi
  unfold stepA
  generalize hnd : nodeOf X (i : Int) = nd at *
  obtain ⟨dir, mode, data, time, name⟩ := nd
  simp only at p0 p1 p2 p3 p4 l2 g2 hdf
  subst hdf
  generalize X.nodes.length = L at *
  clear hv g2 M hnd
  have hsz := blk_lt hg
  clear hg
  simp at h0 h2
  go_enter Tryd.func65, Tryd.ntmps65
  go_wp2_with fail
  obtain ⟨W1, hW1⟩ : ∃ W1, W1 = (w.alloc (.cells #[.int .i64 op, .string nm, .string ot, .int .i64 fl, .int .i64 pe, .int .i64 hh, .slice A6 dat.length c6, .int .i64 off, .int .i64 wh, .int .i64 N] 26)).alloc (.cells #[.int .i64 0, .int .i64 0, .int .i64 0, .slice none 0 0, .slice none 0 0, .slice none 0 0] 33) := ⟨_, rfl⟩
  rw [← hW1]
  have BW : Below w.heap.size w W1 := by rw [hW1]; exact below_alloc (below_alloc (Below.refl _ _) _) _
  have b2 : W1.heap[w.heap.size + 1]? = some (.cells #[.int .i64 0, .int .i64 0, .int .i64 0, .slice none 0 0, .slice none 0 0, .slice none 0 0] 33 (0, 0)) := by rw [hW1]; exact blk_at_ (by simp)
  have hs1 : W1.heap.size = w.heap.size + 2 := by rw [hW1]; simp
  have c2' := cellb c2' BW
  have h0 := cellb h0 BW
  have p0 := cellb p0 BW
  have p1 := cellb p1 BW
  have p2 := cellb p2 BW
  have p3 := cellb p3 BW
  have p4 := cellb p4 BW
  have y0 := World.new_ne W1 _ c2'
  have y1 := World.new_ne W1 _ h0
  have y2 := World.new_ne W1 _ p0
  have HB := Lib.hid BW
  have HO := Lib.hid b2
  clear hW1 BW b2
  go_region_held3 (fun w' => w'.cell? ⟨m, 2, none⟩ = some (.slice (some ad) L c) ∧ w'.cell? ⟨g, 0, none⟩ = some (.int .i64 i) ∧ w'.cell? (ad.add (i * 5)) = some (.bool false) ∧ w'.cell? ⟨(ad.add (i * 5)).block, (ad.add (i * 5)).off + 1, none⟩ = some (.int .i64 mode) ∧ w'.cell? ⟨(ad.add (i * 5)).block, (ad.add (i * 5)).off + 2, none⟩ = some (.slice A2 data.length c2) ∧ w'.cell? ⟨(ad.add (i * 5)).block, (ad.add (i * 5)).off + 3, none⟩ = some (.int .i64 time) ∧ w'.cell? ⟨(ad.add (i * 5)).block, (ad.add (i * 5)).off + 4, none⟩ = some (.string name)) (go_keep) (fail)
  obtain ⟨W2, hW2⟩ : ∃ W2, W2 = (W1.alloc (.cells #[.bool false, .int .i64 mode, .slice A2 data.length c2, .int .i64 time, .string name] 42)).drew := ⟨_, rfl⟩
  rw [← hW2]
  have bo := blk_below HO.out (show Below W1.heap.size W1 W2 by rw [hW2]; exact below_drew (below_alloc (Below.refl _ _) _))
  have bn : W2.heap[w.heap.size + 2]? = some (.cells #[.bool false, .int .i64 mode, .slice A2 data.length c2, .int .i64 time, .string name] 42 (0, 0)) := by rw [hW2, ← hs1]; exact blk_drew (blk_new _ _)
  have B2 : Below w.heap.size w W2 := by rw [hW2]; exact below_drew (below_alloc HB.out _)
  have HB2 := Lib.hid B2
  have HO2 := Lib.hid bo
  have u0 := blk_cell bn 0
  have q0 := blk_cell bo 0
  have q1 := blk_cell bo 1
  have q2 := blk_cell bo 2
  have q3 := blk_cell bo 3
  have q4 := blk_cell bo 4
  have q5 := blk_cell bo 5
  have zq := blk_frozen bo
  clear hW2 bn bo B2 y0 y1 y2 c2' h0 p0 p1 p2 p3 p4
  simp at u0 q0 q1 q2 q3 q4 q5
  go_wp2_with fail
  refine bodyPost_ret (v := .agg #[.int .i64 8, .int .i64 0, .int .i64 0, .slice none 0 0, .slice none 0 0, .slice none 0 0]) (by simp [results, Tryd.results65, go_sem, q0, q1, q2, q3, q4, q5]) rfl ?_
  refine ⟨rfl, ?_⟩
  repeat with_reducible refine Below.setCell (p := ⟨w.heap.size + 1, _, none⟩) ?_ (Nat.le_succ _) _
  exact HB2.out
end
end Go.Proofs.YtljcdjggjphedaaDoor.Ml
