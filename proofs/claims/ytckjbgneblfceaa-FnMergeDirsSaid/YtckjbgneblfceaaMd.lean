/- Two rows of infos woven by a map. -/
import Derived.Test.YtckjbgneblfceaaMc
import Derived.Test.YtckjbgneblfceaaMs
import Derived.Maps.OwnSet
import Derived.Maps.RangeWalk
import Derived.Sort.KeysCollected
import Derived.StringKeys
namespace Go.Proofs.Ytckjbgneblfceaa.Ma
open Go.RowKit Go.Maps Go.Proofs.YtckjbgneblfceaaW.PrintWords Go.Proofs.YtckjbgneblfceaaW.PrintLast Go.Proofs.YtckjbgneblfceaaW.PrintMore
open Go.Proofs.Ytckjbgneblfceaa.PFnMergeDirs
set_option linter.unusedVariables false
set_option linter.unusedSimpArgs false
/-- A pointer to the head of a block reads as the block's number. -/
def ptrR (v : Value) : Option (DataW Unit × List MemPlace) := match v with
  | .pointer none => some (.nil, [])
  | .pointer (some a) => if a = ⟨a.block, 0, none⟩ then some (.lit (.int .i64 a.block), []) else none
  | _ => none
def ptrD : Option Nat → DataW Unit
  | none => .nil
  | some b => .lit (.int .i64 b)
def ptrV : Option Nat → Value
  | none => .pointer none
  | some b => .pointer (some ⟨b, 0, none⟩)
theorem ptrR_mk (x : Option Nat) : ptrR (ptrV x) = some (ptrD x, []) := by
  cases x <;> simp [ptrV, ptrR, ptrD]
theorem ptrD_inj {x y : Option Nat} (h : ptrD x = ptrD y) : x = y := by
  cases x <;> cases y <;> simp [ptrD] at h ⊢
  · exact_mod_cast h
theorem ptrR_inv {v : Value} {x : Option Nat} {ps : List MemPlace} (h : ptrR v = some (ptrD x, ps)) : v = ptrV x := by
  unfold ptrR at h
  split at h
  · simp only [Option.some.injEq, Prod.mk.injEq] at h
    have := ptrD_inj (x := none) h.1
    rw [← this]; rfl
  · rename_i a
    split at h
    · rename_i hc
      simp only [Option.some.injEq, Prod.mk.injEq] at h
      have := ptrD_inj (x := some a.block) h.1
      rw [← this]
      rw [hc]
      rfl
    · cases h
  · cases h
theorem ptrR_shape {v : Value} {y : DataW Unit × List MemPlace} (h : ptrR v = some y) : ∃ c, v = ptrV c := by
  unfold ptrR at h
  split at h
  · exact ⟨none, rfl⟩
  · rename_i a
    split at h
    · rename_i hc
      exact ⟨some a.block, by rw [hc]; rfl⟩
    · cases h
  · cases h
theorem key9 : Keyed Try.prog 9 := string_keyed Try.underlying9
def keyL (s : ByteArray) : Lit := .string s.data.toList
theorem key_mk (s : ByteArray) (h : s.size ≤ maxLen) : keyOf Try.prog 9 (.string s) = some (keyL s) := WideMaps.keyOf_string_mk Try.underlying9 h
/-- The key of an entry. -/
def kof (x : S30) : List UInt8 := (baseOf x.f0).data.toList
theorem base_size (a : ByteArray) : (baseOf a).size ≤ a.size := by
  unfold baseOf
  split
  · exact Nat.le_refl _
  · rw [ByteArray.size_extract]; omega
def updE (f : List UInt8 → Option S30) (s : List UInt8) (x : S30) : List UInt8 → Option S30 := fun t => if t = s then some x else f t
/-- A map of names to infos, as the entries that they stand for. -/
structure MapIs (b n : Nat) (D : DataW Unit) (ef : List UInt8 → Option S30) (w : World) : Prop where
  own : w.ownsMap Try.prog 9 ptrR b n D
  ent : ∀ s x, ef s = some x → ∃ p, has D (.string s) = true ∧ D.atKey (.string s) .nil = ptrD (some p) ∧ Fi p x w
  non : ∀ s, ef s = none → has D (.string s) = false
theorem grown_of_below {w W : World} (hb : Below w.heap.size w W) (row : Option Nat) : w.grownBy W row := ⟨hb.os, hb.tape, hb.output, hb.size, fun i hi _ => hb.block i hi⟩
theorem MapIs.later {b n : Nat} {D : DataW Unit} {ef : List UInt8 → Option S30} {w W : World} (h : MapIs b n D ef w) (hb : Below w.heap.size w W) : MapIs b n D ef W :=
  ⟨h.own.kept (grown_of_below hb none) (by simp), fun s x hs => by obtain ⟨p, h1, h2, h3⟩ := h.ent s x hs; exact ⟨p, h1, h2, h3.later hb⟩, h.non⟩
theorem MapIs.obj {b n : Nat} {D : DataW Unit} {ef : List UInt8 → Option S30} {w : World} (h : MapIs b n D ef w) : ∃ es c, w.heap[b]? = some (.map es c) := by
  obtain ⟨es, clock, hb, _⟩ := h.own
  exact ⟨es, clock, hb⟩
theorem Fi.map {p : Nat} {x : S30} {w W : World} {b : Nat} (h : Fi p x w) (hm : ∃ es c, w.heap[b]? = some (.map es c)) (hg : w.grownBy W (some b)) : Fi p x W := by
  obtain ⟨es, c0, hb⟩ := hm
  obtain ⟨q, A, c, h1, h2⟩ := h.out
  have hne : ∀ {g : Nat} {cs : Array Value} {t : TypeId}, w.heap[g]? = some (.cells cs t (0, 0)) → W.heap[g]? = some (.cells cs t (0, 0)) := by
    intro g cs t hg0
    rw [hg.block _ (blk_ltM hg0) (fun e => by obtain rfl := Option.some.inj e; rw [hb] at hg0; cases hg0)]
    exact hg0
  exact ⟨q, A, c, hne h1, hne h2⟩
theorem Fis.map {ps : List Nat} {l : List S30} {w W : World} {b : Nat} (h : Fis ps l w) (hm : ∃ es c, w.heap[b]? = some (.map es c)) (hg : w.grownBy W (some b)) : Fis ps l W := ⟨h.len, fun j p x hp hx => (h.ent j p x hp hx).map hm hg⟩
theorem MapIs.put {b n : Nat} {D : DataW Unit} {ef : List UInt8 → Option S30} {w W : World} (h : MapIs b n D ef w) {p : Nat} {x : S30} (hp : Fi p x w) (ho : W.ownsMap Try.prog 9 ptrR b (n + 1) (D.put (.string (kof x)) (ptrD (some p)))) (hg : w.grownBy W (some b)) :
    MapIs b (n + 1) (D.put (.string (kof x)) (ptrD (some p))) (updE ef (kof x) x) W := by
  have hm := h.obj
  have hD : IsMap D := by
    obtain ⟨es, clock, _, _, _, e⟩ := h.own
    exact ⟨_, e⟩
  have hk : WideAt.IsKeyLit (.string (kof x)) := trivial
  refine ⟨ho, fun s y hs => ?_, fun s hs => ?_⟩
  · unfold updE at hs
    by_cases e : s = kof x
    · subst e
      rw [if_pos rfl] at hs
      obtain rfl := Option.some.inj hs
      exact ⟨p, has_put_same hD hk _, atKey_put_same hD hk _ _, hp.map hm hg⟩
    · rw [if_neg e] at hs
      have e' : (Lit.string s) ≠ Lit.string (kof x) := fun h' => e (by injection h')
      obtain ⟨q, h1, h2, h3⟩ := h.ent s y hs
      exact ⟨q, by rw [has_put_other e']; exact h1, by rw [atKey_put_other e']; exact h2, h3.map hm hg⟩
  · unfold updE at hs
    by_cases e : s = kof x
    · rw [if_pos e] at hs; cases hs
    · rw [if_neg e] at hs
      have e' : (Lit.string s) ≠ Lit.string (kof x) := fun h' => e (by injection h')
      rw [has_put_other e']
      exact h.non s hs
theorem zero46 (w : World) : (zeroValue 46).run Try.prog w = .ok (.pointer none) w := by kernel_rfl
/-- What is looked for by a name, and whether it is there. -/
theorem MapIs.look {b n : Nat} {D : DataW Unit} {ef : List UInt8 → Option S30} {w : World} (h : MapIs b n D ef w) (s : ByteArray) (hs : s.size ≤ maxLen) :
    (∃ x p, ef s.data.toList = some x ∧ Fi p x w ∧ (Instr.lookup 51 (.map (some b)) (.string s) true).run Try.prog w = .ok (.tuple #[.pointer (some ⟨p, 0, none⟩), .bool true]) w ∧ (Instr.lookup 51 (.map (some b)) (.string s) false).run Try.prog w = .ok (.pointer (some ⟨p, 0, none⟩)) w) ∨
    (ef s.data.toList = none ∧ ∃ v, (Instr.lookup 51 (.map (some b)) (.string s) true).run Try.prog w = .ok (.tuple #[v, .bool false]) w) := by
  obtain ⟨v, ps, h1, h2⟩ := h.own.look_ok key9 Try.underlying51 (zero46 w) (zd := .nil) (zp := []) rfl (key_mk s hs)
  obtain ⟨v', ps', h3, h4⟩ := h.own.lookup key9 Try.underlying51 (zero46 w) (zd := .nil) (zp := []) rfl (key_mk s hs)
  cases he : ef s.data.toList with
  | some x =>
    obtain ⟨p, e1, e2, e3⟩ := h.ent _ _ he
    unfold keyL at h1 h2 h4
    rw [e1] at h1
    rw [e2] at h2 h4
    obtain rfl := ptrR_inv h2
    obtain rfl := ptrR_inv h4
    exact .inl ⟨x, p, rfl, e3, h1, h3⟩
  | none =>
    unfold keyL at h1
    rw [h.non _ he] at h1
    exact .inr ⟨rfl, v, h1⟩
/-- The entries of a row by their names, the last one first; behind them those of another row, the first one first. -/
def ovr (f : List UInt8 → Option S30) (l : List S30) : List UInt8 → Option S30 := l.foldl (fun g x => updE g (kof x) x) f
def und (f : List UInt8 → Option S30) (l : List S30) : List UInt8 → Option S30 := l.foldl (fun g x => if (g (kof x)).isSome then g else updE g (kof x) x) f
theorem ovr_snoc (f : List UInt8 → Option S30) (l : List S30) (x : S30) : ovr f (l ++ [x]) = updE (ovr f l) (kof x) x := by simp [ovr]
theorem und_snoc (f : List UInt8 → Option S30) (l : List S30) (x : S30) : und f (l ++ [x]) = if (und f l (kof x)).isSome then und f l else updE (und f l) (kof x) x := by
  unfold und
  rw [List.foldl_append]
  rfl
theorem take_snoc {α : Type} {l : List α} {i : Nat} {x : α} (h : l[i]? = some x) : l.take (i + 1) = l.take i ++ [x] := by rw [List.take_add_one, h]; rfl
/-- What the woven rows are: by increasing names, each name once, what the map told. -/
def Woven (es : List S30) (ef : List UInt8 → Option S30) : Prop := es.Pairwise (fun x y => Op.bytesLess (kof x) (kof y) = true) ∧ ∀ s x, ef s = some x ↔ (x ∈ es ∧ kof x = s)
/-- A row of pointers as it is read. -/
def PRow (v : Value) (ps : List Nat) (w : World) : Prop := ∃ A k c, v = .slice A k c ∧ k ≤ c ∧ k ≤ 2000 ∧ ps.length = k ∧ ∀ i, i < k → ∃ ad p, A = some ad ∧ ps[i]? = some p ∧ w.cell? (ad.add i) = some (.pointer (some ⟨p, 0, none⟩))
theorem make51 (w : World) : (Instr.makeMap 51 none).run Try.prog w = .ok (.map (some w.heap.size)) (w.alloc (.map #[] 0)) := by kernel_rfl
theorem MapIs.look_some {b n : Nat} {D : DataW Unit} {ef : List UInt8 → Option S30} {w : World} (h : MapIs b n D ef w) (s : ByteArray) (hs : s.size ≤ maxLen) (hk : (ef s.data.toList).isSome = true) : ∃ v, (Instr.lookup 51 (.map (some b)) (.string s) true).run Try.prog w = .ok (.tuple #[v, .bool true]) w := by
  rcases h.look s hs with ⟨x, p, _, _, h1, _⟩ | ⟨h1, _⟩
  · exact ⟨_, h1⟩
  · rw [h1] at hk; cases hk
theorem MapIs.look_none {b n : Nat} {D : DataW Unit} {ef : List UInt8 → Option S30} {w : World} (h : MapIs b n D ef w) (s : ByteArray) (hs : s.size ≤ maxLen) (hk : (ef s.data.toList).isSome = false) : ∃ v, (Instr.lookup 51 (.map (some b)) (.string s) true).run Try.prog w = .ok (.tuple #[v, .bool false]) w := by
  rcases h.look s hs with ⟨x, p, h1, _⟩ | ⟨_, h1⟩
  · rw [h1] at hk; cases hk
  · exact h1
theorem info9 : (Try.prog.info? 9).map (fun i => (i.zero, i.size, i.bytes)) = some (some (.string ⟨#[]⟩), 1, 16) := by kernel_rfl
def bytesOf (s : ByteArray) : List UInt8 := s.data.toList
theorem bytesOf_mk (x : List UInt8) : bytesOf ⟨x.toArray⟩ = x := by simp [bytesOf]
theorem inv_key {key : Value} {kl : Lit} (h : keyOf Try.prog 9 key = some kl) : ∃ x : List UInt8, key = .string ⟨x.toArray⟩ := by
  obtain ⟨x, hx, _⟩ := Maps.keyOf_str Try.underlying9 h
  exact ⟨x, hx⟩
theorem key_lit {x : List UInt8} {kl : Lit} (h : keyOf Try.prog 9 (.string ⟨x.toArray⟩) = some kl) : kl = .string x := by
  obtain ⟨y, hy, rfl, _⟩ := Maps.keyOf_str Try.underlying9 h
  have : x = y := by simpa using hy
  rw [this]
theorem inv_ptr {v : Value} {y : DataW Unit × List MemPlace} (h : ptrR v = some y) : ∃ c, v = ptrV c := ptrR_shape h
theorem ne_iter9 {w : World} {b r n : Nat} {D : DataW Unit} {left : Lit → Bool} {cnt base : Nat} {e : TypeId} {size : Nat} {v : Value} {m : Nat} {xs : List Value}
    (h : w.ownsRow base e size v m xs) (hr : w.ranges Try.prog 9 ptrR b r n D left cnt) : some r ≠ v.ownBlock := by
  obtain ⟨_, _, _, _, _, _, _, _, _, hit, _⟩ := hr
  rcases h.2 with ⟨rfl, _⟩ | ⟨g, cap, cur, rfl, _, hb, _⟩
  · simp [Value.ownBlock]
  · intro e1
    have : r = g := by simpa [Value.ownBlock] using e1
    subst this
    rw [hit] at hb
    cases hb
theorem ne_low9 {w : World} {base : Nat} {e : TypeId} {size : Nat} {v : Value} {n : Nat} {xs : List Value} (h : w.ownsRow base e size v n xs) {b : Nat} (hb : b < base) : some b ≠ v.ownBlock := fun e1 => by
  have := (h.lt b e1.symm).1
  omega
/-- A row of pointers, some of them nil. -/
def ko : Kd (Option Nat) := Kd.scalar ptrV (fun x => by cases x <;> rfl)
theorem Fi.grownO {p : Nat} {x : S30} {W w1 : World} {v : Value} {ps : List (Option Nat)} {base : Nat} {ok : Nat → Prop} (h : Fi p x W) (hR : ko.R 46 W base ok v ps) (hg : W.grownBy w1 v.ownBlock) : Fi p x w1 := by
  obtain ⟨q, A, c, h1, h2⟩ := h.out
  refine ⟨q, A, c, ?_, ?_⟩
  · rw [hg.block _ (blk_ltM h1) (Kd.R_ne hR h1 (by decide))]; exact h1
  · rw [hg.block _ (blk_ltM h2) (Kd.R_ne hR h2 (by decide))]; exact h2
theorem Fis.grownO {ps : List Nat} {qs : List (Option Nat)} {l : List S30} {W w1 : World} {v : Value} {base : Nat} {ok : Nat → Prop} (h : Fis ps l W) (hR : ko.R 46 W base ok v qs) (hg : W.grownBy w1 v.ownBlock) : Fis ps l w1 := ⟨h.len, fun j p x hp hx => (h.ent j p x hp hx).grownO hR hg⟩
theorem str_at {w : World} {A : Option Addr} {n : Nat} {ss : List ByteArray} (h : Kd.string.C w A n ss) (i : Nat) (hi : i < n) : ∃ ad s, A = some ad ∧ ss[i]? = some s ∧ w.cell? (ad.add i) = some (.string s) := by
  have hl : ss.length = n := Kd.C_len h
  obtain ⟨ad, c, e, _, hK, hc0⟩ := Kd.C_get h ByteArray.empty (i : Int) (by omega) (by omega)
  rw [Int.toNat_natCast] at hK hc0
  have hp : ss[i]? = some (ss.getD i ByteArray.empty) := by rw [List.getD_eq_getElem?_getD, List.getElem?_eq_getElem (by omega)]; rfl
  refine ⟨ad, ss.getD i ByteArray.empty, e, hp, ?_⟩
  have h1 : c = [Value.string (ss.getD i ByteArray.empty)] := hK
  have h2 := hc0 0 (Value.string (ss.getD i ByteArray.empty)) (by rw [h1]; rfl)
  have h3 : i * Kd.string.sz + 0 = i := by show i * 1 + 0 = i; omega
  rw [h3] at h2
  exact h2
theorem filterMap_all {α β : Type} (f : α → Option β) : ∀ l : List α, (∀ s ∈ l, (f s).isSome = true) → (l.filterMap f).length = l.length ∧ ∀ (i : Nat) (s : α), l[i]? = some s → (l.filterMap f)[i]? = f s
  | [], _ => ⟨rfl, fun i s h => by simp at h⟩
  | a :: l, h => by
    obtain ⟨ih1, ih2⟩ := filterMap_all f l (fun s hs => h s (List.mem_cons_of_mem _ hs))
    obtain ⟨b, hb⟩ := Option.isSome_iff_exists.1 (h a (List.mem_cons_self ..))
    rw [List.filterMap_cons_some hb]
    refine ⟨by rw [List.length_cons, List.length_cons, ih1], fun i s hi => ?_⟩
    cases i with
    | zero => obtain rfl := Option.some.inj hi; rw [hb]; rfl
    | succ i => exact ih2 i s hi
theorem toL (s : ByteArray) : s.toList = bytesOf s := ByteArray.toList_eq s
theorem keys_len {D : DataW Unit} {w : World} {b n : Nat} (h : w.ownsMap Try.prog 9 ptrR b n D) : (strKeys D).length = Maps.size D := by
  obtain ⟨es, rfl, _⟩ := h.entries key9
  simp [strKeys, Maps.size]
theorem ovr_key : ∀ (l : List S30) (f : List UInt8 → Option S30), (∀ s x, f s = some x → kof x = s) → ∀ s x, ovr f l s = some x → kof x = s
  | [], f, h, s, x, hs => h s x hs
  | y :: l, f, h, s, x, hs => by
    refine ovr_key l (updE f (kof y) y) (fun t z hz => ?_) s x hs
    unfold updE at hz
    by_cases e : t = kof y
    · rw [if_pos e] at hz; obtain rfl := Option.some.inj hz; exact e.symm
    · rw [if_neg e] at hz; exact h t z hz
theorem und_key : ∀ (l : List S30) (f : List UInt8 → Option S30), (∀ s x, f s = some x → kof x = s) → ∀ s x, und f l s = some x → kof x = s
  | [], f, h, s, x, hs => h s x hs
  | y :: l, f, h, s, x, hs => by
    refine und_key l (if (f (kof y)).isSome then f else updE f (kof y) y) (fun t z hz => ?_) s x hs
    by_cases hy : (f (kof y)).isSome = true
    · rw [if_pos hy] at hz; exact h t z hz
    · rw [if_neg hy] at hz
      unfold updE at hz
      by_cases e : t = kof y
      · rw [if_pos e] at hz; obtain rfl := Option.some.inj hz; exact e.symm
      · rw [if_neg e] at hz; exact h t z hz
theorem woven_of {ef : List UInt8 → Option S30} {ns : List ByteArray} (hk : ∀ s x, ef s = some x → kof x = s) (hs : ∀ s ∈ ns, (ef (bytesOf s)).isSome = true) (hm : ∀ t, (ef t).isSome = true → t ∈ ns.map bytesOf) (ho : ns.Pairwise (fun a b => lessB a b = true)) : Woven (ns.filterMap (fun s => ef (bytesOf s))) ef := by
  refine ⟨?_, fun t x => ⟨fun h => ?_, fun h => ?_⟩⟩
  · refine List.Pairwise.filterMap (R := fun a b => lessB a b = true) _ (fun a a' haa b hb b' hb' => ?_) ho
    rw [hk _ _ hb, hk _ _ hb']
    have := haa
    unfold lessB at this
    rw [toL, toL] at this
    exact this
  · obtain ⟨s, hs1, rfl⟩ := List.mem_map.1 (hm t (by rw [h]; rfl))
    exact ⟨List.mem_filterMap.2 ⟨s, hs1, h⟩, hk _ _ h⟩
  · obtain ⟨h1, h2⟩ := h
    obtain ⟨s, hs1, hs2⟩ := List.mem_filterMap.1 h1
    have := hk _ _ hs2
    rw [← h2, this]
    exact hs2
theorem size46 : (Try.prog.info? 46).map (·.size) = some 1 := by kernel_rfl
theorem ko_get {W : World} {A : Option Addr} {n : Nat} {xs : List (Option Nat)} (h : ko.C W A n xs) (i : Nat) (y : Option Nat) (hi : xs[i]? = some y) : ∃ ad, A = some ad ∧ W.cell? (ad.add i) = some (ptrV y) := by
  have hl : xs.length = n := Kd.C_len h
  have hlt := (List.getElem?_eq_some_iff.1 hi).1
  obtain ⟨ad, c, e, _, hK, hc0⟩ := Kd.C_get h none (i : Int) (by omega) (by omega)
  rw [Int.toNat_natCast] at hK hc0
  refine ⟨ad, e, ?_⟩
  have h1 : c = [ptrV (xs.getD i none)] := hK
  rw [List.getD_eq_getElem?_getD, hi] at h1
  have h2 := hc0 0 (ptrV y) (by rw [h1]; rfl)
  have h3 : i * ko.sz + 0 = i := by show i * 1 + 0 = i; omega
  rw [h3] at h2
  exact h2
theorem ko_at {W : World} {base g N cap : Nat} {ok : Nat → Prop} {xs : List (Option Nat)} (h : ko.R 46 W base ok (.slice (some ⟨g, 0, none⟩) N cap) xs) (i : Nat) (y : Option Nat) (hi : xs[i]? = some y) : W.cell? ⟨g, i, none⟩ = some (ptrV y) := by
  obtain ⟨A, c, e, _, hC⟩ := Kd.R_reads h
  simp only [Value.slice.injEq] at e
  obtain ⟨rfl, e2, rfl⟩ := e
  obtain ⟨ad, ha, hc⟩ := ko_get hC i y hi
  obtain rfl := Option.some.inj ha
  have h2 : (⟨g, 0, none⟩ : Addr).add i = ⟨g, i, none⟩ := by
    unfold Addr.add
    by_cases hi0 : i = 0
    · subst hi0; rfl
    · rw [if_neg hi0, Nat.zero_add]
  rw [h2] at hc
  exact hc
theorem prow_of {W : World} {base : Nat} {ok : Nat → Prop} {v : Value} {ps : List Nat} (h : ko.R 46 W base ok v (ps.map some)) (hl : ps.length ≤ 2000) : PRow v ps W := by
  obtain ⟨A, c, rfl, hc, hC⟩ := Kd.R_reads h
  rw [List.length_map] at hc hC ⊢
  refine ⟨A, ps.length, c, rfl, hc, hl, rfl, fun i hi => ?_⟩
  obtain ⟨ad, ha, hcell⟩ := ko_get hC i (some (ps[i]'hi)) (by rw [List.getElem?_map, List.getElem?_eq_getElem hi]; rfl)
  exact ⟨ad, ps[i]'hi, ha, List.getElem?_eq_getElem hi, hcell⟩
theorem fill_step (ps : List Nat) (N i p : Nat) (hp : ps.length = i) (hi : i < N) : (ps.map some ++ List.replicate (N - i) (none : Option Nat)).set i (some p) = (ps ++ [p]).map some ++ List.replicate (N - (i + 1)) none := by
  have e : List.replicate (N - i) (none : Option Nat) = none :: List.replicate (N - (i + 1)) none := by
    rw [show N - i = (N - (i + 1)) + 1 by omega]; rfl
  rw [e, List.set_append_right _ _ (by rw [List.length_map]; omega), List.length_map, hp, Nat.sub_self]
  simp
theorem fill_at (ps : List Nat) (N i : Nat) (hp : ps.length = i) (hi : i < N) : (ps.map some ++ List.replicate (N - i) (none : Option Nat))[i]? = some none := by
  rw [List.getElem?_append_right (by rw [List.length_map]; omega), List.length_map, hp, Nat.sub_self, List.getElem?_replicate, if_pos (by omega)]
set_option maxHeartbeats 8000000 in
set_option maxRecDepth 100000 in
theorem merge17 (A : Option Addr) (n c : Nat) (qs : List Nat) (la : List S30) (B : Option Addr) (m d : Nat) (rs : List Nat) (lb : List S30) (w : World) (hA : kp.C w A n qs) (hnc : n ≤ c) (hn : n ≤ 1000) (hB : kp.C w B m rs) (hmd : m ≤ d) (hm : m ≤ 1000) (hFa : Fis qs la w) (hFb : Fis rs lb w) (hla : ∀ x ∈ la, x.f0.size ≤ 4294967296) (hlb : ∀ x ∈ lb, x.f0.size ≤ 4294967296) :
    Calls Try.prog 17 #[.slice A n c, .slice B m d] w fun e w' => ∃ v ps es, e = .returned (.tuple #[v, .nilIface]) ∧ PRow v ps w' ∧ Fis ps es w' ∧ Woven es (und (ovr (fun _ => none) la) lb) ∧ Below w.heap.size w w' := by
  have CA := Lib.hid hA
  have CB := Lib.hid hB
  have FA := Lib.hid hFa
  have FB := Lib.hid hFb
  have LA := Lib.hid (show qs.length = n from Kd.C_len hA)
  have LB := Lib.hid (show rs.length = m from Kd.C_len hB)
  have NA := Lib.hid hla
  have NB := Lib.hid hlb
  clear hA hB hFa hFb hla hlb
  have M0 := Lib.hid (show MapIs w.heap.size 0 (.map []) (fun _ => none) (w.alloc (.map #[] 0)) from ⟨World.ownsMap_made w Try.prog 9 ptrR, fun s x h => by simp at h, fun s _ => rfl⟩)
  have B0 := Lib.hid (below_alloc (Below.refl w.heap.size w) (.map #[] 0))
  have hmk := make51 w
  go_enter Try.func17, Try.ntmps17
  go_upto_block 0 with (fail)
  go_cut [8] (fun v8 wc => ∃ (D : DataW Unit), Hid (MapIs w.heap.size n D (ovr (fun _ => none) la) wc) ∧ Hid (Below w.heap.size w wc))
  case first =>
   go_wp2
   go_loopw [8, 21] (fun v8 v21 wr => ∃ (i : Nat) (D : DataW Unit), v21 = .int .i64 i ∧ i ≤ n ∧ Hid (MapIs w.heap.size i D (ovr (fun _ => none) (la.take i)) wr) ∧ Hid (Below w.heap.size w wr)) (fun _ v21 _ => n - (intOf v21).toNat)
   case atStart => exact ⟨0, _, rfl, Nat.zero_le _, M0, B0⟩
   case round =>
     obtain ⟨i, D, rfl, hin, M1, B1⟩ := hrel
     by_cases hlt : i < n
     · have hlt' : (i : Int) < (n : Int) := by omega
       have j1 : decide ((i : Int) < (n : Int)) = true := decide_eq_true hlt'
       have j2 : (0 ≤ (i : Int)) = True := eq_true (by omega)
       have j3 : ((i : Int) < (n : Int)) = True := eq_true hlt'
       have j4 : IntKind.i64.wrap ((i : Int) + 1) = (i : Int) + 1 := IntWalk.i64_in _ (by omega)
       obtain ⟨ad, p, eA, hp, k0⟩ := ptr_at CA.out i hlt
       have k0 := cellb0 k0 B1.out
       obtain ⟨x, hxl⟩ : ∃ x, la[i]? = some x := ⟨_, List.getElem?_eq_getElem (by have := FA.out.len; have := LA.out; omega)⟩
       have PX := Lib.hid ((FA.out.ent i p x hp hxl).later B1.out)
       have hlx := NA.out x (List.mem_of_getElem? hxl)
       have hbx : (baseOf x.f0).size ≤ maxLen := Nat.le_trans (Nat.le_trans (base_size x.f0) hlx) (by decide)
       have T := Lib.hid (take_snoc hxl)
       subst eA
       clear hp hxl
       go_wp2_with (first | (go_at_call 21; (with_reducible refine (name21 PX.out hlx).mono ?_); rintro e w2 ⟨rfl, hb2⟩; have M2 := Lib.hid (M1.out.later hb2); have P2 := Lib.hid (PX.out.later hb2); have B2 := Lib.hid (below_then B1.out B1.out.size hb2); clear hb2) | (at_mapUpdate; refine wpList_mapUpdate_own w2 rfl _ _ _ 51 rfl 9 46 key9 Try.underlying51 ptrR w.heap.size i D rfl M2.out.own (by unfold maxLen; omega) _ _ (.string (kof x)) rfl rfl (key_mk _ hbx) (ptrD (some p)) [] (ptrR_mk (some p)) ?_; intro w3 ho hg; have M3 := Lib.hid (M2.out.put P2.out ho hg); have B3 := Lib.hid (show Below w.heap.size w w3 from B2.out.grown hg B2.out.size (fun k hk => by obtain rfl := Option.some.inj hk; exact Nat.le_refl _)); clear ho hg))
       go_roundw
       case rel => exact ⟨i + 1, _, by push_cast; rfl, hlt, Lib.hid (by rw [T.out, ovr_snoc]; exact M3.out), B3⟩
       case measure => simp only [intOf]; omega
     · obtain rfl : i = n := by omega
       have j1 : decide ((i : Int) < (i : Int)) = false := decide_eq_false (by omega)
       have e1 : la.take i = la := List.take_of_length_le (by have := FA.out.len; have := LA.out; omega)
       rw [e1] at M1
       go_wp2
       go_meet
       case rel => exact ⟨D, M1, B1⟩
  case rest =>
    obtain ⟨D, MM, BB⟩ := hcut
    go_upto_block 2 with (fail)
    go_cut [10, 11, 12] (fun v10 v11 v12 wc => ∃ (D : DataW Unit), Hid (MapIs w.heap.size (n + m) D (und (ovr (fun _ => none) la) lb) wc) ∧ Hid (Below w.heap.size w wc))
    case first =>
     go_wp2
     go_loopw [10, 11, 12, 32] (fun v10 v11 v12 v32 wr => ∃ (i : Nat) (D : DataW Unit), v32 = .int .i64 i ∧ i ≤ m ∧ Hid (MapIs w.heap.size (n + i) D (und (ovr (fun _ => none) la) (lb.take i)) wr) ∧ Hid (Below w.heap.size w wr)) (fun _ _ _ v32 _ => m - (intOf v32).toNat)
     case atStart => exact ⟨0, _, rfl, Nat.zero_le _, MM, BB⟩
     case round =>
       obtain ⟨i, D, rfl, hin, M1, B1⟩ := hrel
       by_cases hlt : i < m
       · have hlt' : (i : Int) < (m : Int) := by omega
         have j1 : decide ((i : Int) < (m : Int)) = true := decide_eq_true hlt'
         have j2 : (0 ≤ (i : Int)) = True := eq_true (by omega)
         have j3 : ((i : Int) < (m : Int)) = True := eq_true hlt'
         have j4 : IntKind.i64.wrap ((i : Int) + 1) = (i : Int) + 1 := IntWalk.i64_in _ (by omega)
         obtain ⟨ad, p, eA, hp, k0⟩ := ptr_at CB.out i hlt
         have k0 := cellb0 k0 B1.out
         obtain ⟨x, hxl⟩ : ∃ x, lb[i]? = some x := ⟨_, List.getElem?_eq_getElem (by have := FB.out.len; have := LB.out; omega)⟩
         have PX := Lib.hid ((FB.out.ent i p x hp hxl).later B1.out)
         have hlx := NB.out x (List.mem_of_getElem? hxl)
         have hbx : (baseOf x.f0).size ≤ maxLen := Nat.le_trans (Nat.le_trans (base_size x.f0) hlx) (by decide)
         have T := Lib.hid (take_snoc hxl)
         subst eA
         clear hp hxl
         cases hk : (und (ovr (fun _ => none) la) (lb.take i) (kof x)).isSome with
         | true =>
           have HK := Lib.hid hk
           clear hk
           go_wp2_with (first | (go_at_call 21; (with_reducible refine (name21 PX.out hlx).mono ?_); rintro e w2 ⟨rfl, hb2⟩; have M2 := Lib.hid (M1.out.later hb2); have P2 := Lib.hid (PX.out.later hb2); have B2 := Lib.hid (below_then B1.out B1.out.size hb2); obtain ⟨u, hu⟩ := M2.out.look_some (baseOf x.f0) hbx HK.out; clear hb2))
           go_roundw
           case rel => exact ⟨i + 1, _, by push_cast; rfl, hlt, Lib.hid (by rw [T.out, und_snoc, if_pos HK.out]; exact ⟨M2.out.own.mono (by omega), M2.out.ent, M2.out.non⟩), B2⟩
           case measure => simp only [intOf]; omega
         | false =>
           have HK := Lib.hid hk
           clear hk
           go_wp2_with (first | (go_at_call 21; (fail_if_success (have := M2)); (with_reducible refine (name21 PX.out hlx).mono ?_); rintro e w2 ⟨rfl, hb2⟩; have M2 := Lib.hid (M1.out.later hb2); have P2 := Lib.hid (PX.out.later hb2); have B2 := Lib.hid (below_then B1.out B1.out.size hb2); obtain ⟨u, hu⟩ := M2.out.look_none (baseOf x.f0) hbx HK.out; clear hb2) | (go_at_call 21; (with_reducible refine (name21 P2.out hlx).mono ?_); rintro e w3 ⟨rfl, hb2⟩; have M3 := Lib.hid (M2.out.later hb2); have P3 := Lib.hid (P2.out.later hb2); have B3 := Lib.hid (below_then B2.out B2.out.size hb2); clear hb2) | (at_mapUpdate; refine wpList_mapUpdate_own w3 rfl _ _ _ 51 rfl 9 46 key9 Try.underlying51 ptrR w.heap.size (n + i) D rfl M3.out.own (by unfold maxLen; omega) _ _ (.string (kof x)) rfl rfl (key_mk _ hbx) (ptrD (some p)) [] (ptrR_mk (some p)) ?_; intro w4 ho hg; have M4 := Lib.hid (M3.out.put P3.out ho hg); have B4 := Lib.hid (show Below w.heap.size w w4 from B3.out.grown hg B3.out.size (fun k hk => by obtain rfl := Option.some.inj hk; exact Nat.le_refl _)); clear ho hg))
           go_roundw
           case rel => exact ⟨i + 1, _, by push_cast; rfl, hlt, Lib.hid (by rw [T.out, und_snoc, if_neg (by rw [HK.out]; decide)]; exact M4.out), B4⟩
           case measure => simp only [intOf]; omega
       · obtain rfl : i = m := by omega
         have j1 : decide ((i : Int) < (i : Int)) = false := decide_eq_false (by omega)
         have e1 : lb.take i = lb := List.take_of_length_le (by have := FB.out.len; have := LB.out; omega)
         rw [e1] at M1
         go_wp2
         go_meet
         case rel => exact ⟨D, M1, B1⟩
    case rest =>
      rename World => wm
      obtain ⟨D, MM, BB⟩ := hcut
      go_upto_block 4 with (first | (at_range; refine wpList_range_own _ rfl _ 51 rfl 9 46 key9 Try.underlying51 ptrR w.heap.size (n + m) D rfl MM.out.own ?_; intro w0 hrg0 hg0 hs0; have G0 := Lib.hid hrg0; have H0 := Lib.hid (show Below wm.heap.size wm w0 from ⟨hg0.os, hg0.tape, hg0.output, hg0.size, fun k hk => hg0.block k hk (by simp)⟩); clear hrg0 hg0 hs0))
      go_frame
      have hrw : w.heap.size < wm.heap.size := MM.out.own.lt
      go_cut [13, 14] (fun v13 v14 wd => ∃ ss : List ByteArray, Hid (Kd.string.R 9 wd wm.heap.size (fun _ => True) v13 ss) ∧ Hid (Below wm.heap.size wm wd) ∧ Hid ((ss.map bytesOf).Nodup ∧ (∀ x, x ∈ ss.map bytesOf ↔ has D (.string x) = true) ∧ (ss.map bytesOf).Perm (strKeys D)) ∧ Hid (ss.length ≤ 2000))
      case first =>
       go_wp2
       go_loopw [13] (fun v13 wr => ∃ (ss : List ByteArray) (left : Lit → Bool) (cnt : Nat), Hid (Kd.string.R 9 wr wm.heap.size (fun _ => True) v13 ss) ∧ Hid (Below wm.heap.size wm wr) ∧ Hid (wr.ranges Try.prog 9 ptrR w.heap.size wm.heap.size (n + m) D left cnt) ∧ Hid (Collected D left (ss.map bytesOf)) ∧ Hid (ss.length + cnt ≤ 2000)) (fun _ wr => wr.rangeLeft w.heap.size wm.heap.size)
       case atStart => exact ⟨[], _, _, Lib.hid (Kd.R_nil _ _ _ _ _), H0, G0, Lib.hid (Collected.start D), Lib.hid (by have := MM.out.own.size_le; simp; omega)⟩
       case round =>
        obtain ⟨ss, left, cnt, R1, B1, G1, C1, N1⟩ := hrel
        go_wp2_with (first | (at_next; refine wpList_next_ranges wr rfl _ rfl 9 key9 ptrR (fun x : List UInt8 => Value.string ⟨x.toArray⟩) ptrV (fun key kl h => inv_key h) (fun v y h => inv_ptr h) w.heap.size wm.heap.size (n + m) D left cnt rfl G1.out ?_ ?_))
        · intro hc0 hl0
          go_wp2
          go_meet
          case rel => exact ⟨ss, R1, B1, Lib.hid ⟨C1.out.1, fun x => by rw [C1.out.2 x, hl0]; simp, C1.out.perm G1.out.owns key9 Try.underlying9 hl0⟩, Lib.hid (by have := N1.out; omega)⟩
        · intro x pv kl y1 y2 w1 cnt1 hkey hlk hRv hat hrg1 hlt hg1 hs1 hen
          obtain rfl := key_lit hkey
          have G2 := Lib.hid hrg1
          have C2 := Lib.hid (show Collected D (fun z => left z && !z.sameKey (.string x)) ((ss ++ [(⟨x.toArray⟩ : ByteArray)]).map bytesOf) from by rw [List.map_append, List.map_singleton, bytesOf_mk]; exact C1.out.step hlk hat)
          obtain ⟨inner, ho1⟩ := Kd.R_own R1.out
          have NRr := ne_iter9 ho1 G1.out
          have R2 := Lib.hid (Kd.R_grown2 R1.out rfl hg1 (fun k hk => by rw [← hk]; exact NRr))
          have B2 := Lib.hid (show Below wm.heap.size wm w1 from B1.out.grown hg1 B1.out.size (fun k hk => by obtain rfl := Option.some.inj hk; exact Nat.le_refl _))
          obtain ⟨inner2, ho2⟩ := Kd.R_own R2.out
          have NR1 := Lib.hid (ne_iter9 ho2 G2.out)
          have NB1 := Lib.hid (ne_low9 ho2 hrw)
          have N2 := Lib.hid (show (ss ++ [(⟨x.toArray⟩ : ByteArray)]).length + cnt1 ≤ 2000 from by have := N1.out; rw [List.length_append, List.length_singleton]; omega)
          have L1 := Lib.hid hlt
          clear hkey hlk hRv hat hrg1 hg1 hs1 ho1 NRr ho2 hlt
          go_wp2_with (first | ((with_reducible refine gate_builtin (b := .append) (xs := #[.tmp 56, .tmp 58]) rfl ?_); at_builtin; refine Kd.R_append Kd.string (w0 := wm) (W := w1) wm.heap.size rfl (.tmp 56) (.tmp 58) 45 9 (.string ⟨#[]⟩) 16 rfl Try.underlying45 info9 rfl (by decide) (by decide) u13 ss ⟨x.toArray⟩ [.string ⟨x.toArray⟩] (fun _ => True) (fun _ => False) rfl rfl rfl (fun _ hk => hk.elim) (fun _ _ => trivial) R2.out B2.out B2.out.size (by have := N1.out; omega) ?_; intro v4 w4 hr4 hb4 hg4 _; have R4 := Lib.hid hr4; have B4 := Lib.hid hb4; have G4 := Lib.hid (G2.out.kept hg4 (NB1.out) (NR1.out)); clear hr4 hb4 hg4))
          go_roundw
          case rel => exact ⟨ss ++ [⟨x.toArray⟩], _, cnt1, R4, B4, G4, C2, N2⟩
          case measure => rw [G4.out.left_eq, G1.out.left_eq]; exact L1.out
      case rest =>
        rename World => wn
        obtain ⟨ss, R3, B3, K3, N3⟩ := hcut
        obtain ⟨kf, ns, hs1, hs2, hs3⟩ := sort_law ss (by have := K3.out.1; rw [show ss.map ByteArray.toList = ss.map bytesOf from List.map_congr_left (fun s _ => toL s)]; exact this) (by have := N3.out; omega)
        obtain ⟨ef, hef⟩ : ∃ ef, ef = und (ovr (fun _ => none) la) lb := ⟨_, rfl⟩
        have EK := Lib.hid (show ∀ s x, ef s = some x → kof x = s from by rw [hef]; exact und_key _ _ (ovr_key _ _ (fun s x h => by simp at h)))
        rw [← hef] at MM
        have HE := Lib.hid hef
        clear hef
        have hmem : ∀ t, t ∈ ns.map bytesOf ↔ has D (.string t) = true := fun t => by rw [(hs2.map bytesOf).mem_iff]; exact K3.out.2.1 t
        have hsome : ∀ s ∈ ns, (ef (bytesOf s)).isSome = true := fun s hs => by
          cases he : ef (bytesOf s) with
          | some x => rfl
          | none =>
            have h1 := (hmem (bytesOf s)).1 (List.mem_map.2 ⟨s, hs, rfl⟩)
            rw [MM.out.non _ he] at h1
            cases h1
        have hall : ∀ t, (ef t).isSome = true → t ∈ ns.map bytesOf := fun t ht => by
          obtain ⟨x, hx⟩ := Option.isSome_iff_exists.1 ht
          obtain ⟨p, h1, _⟩ := MM.out.ent t x hx
          exact (hmem t).2 h1
        have hlenN : ns.length = Maps.size D := by rw [hs2.length_eq, ← keys_len MM.out.own, ← K3.out.2.2.length_eq, List.length_map]
        have hkl : ∀ s ∈ ns, s.size ≤ maxLen := fun s hs => by
          have h1 : bytesOf s ∈ ss.map bytesOf := (hs2.map bytesOf).mem_iff.1 (List.mem_map.2 ⟨s, hs, rfl⟩)
          have h2 := strKeys_le MM.out.own Try.underlying9 _ (K3.out.2.2.mem_iff.1 h1)
          unfold bytesOf at h2
          rw [Array.length_toList] at h2
          exact h2
        obtain ⟨N, hN⟩ : ∃ N, N = ns.length := ⟨_, rfl⟩
        have hN2 : N ≤ 2000 := by rw [hN, hs2.length_eq]; exact N3.out
        have WV := Lib.hid (woven_of EK.out hsome hall hs3)
        obtain ⟨fm1, fm2⟩ := filterMap_all (fun s => ef (bytesOf s)) ns hsome
        obtain ⟨es, hes⟩ : ∃ es, es = ns.filterMap (fun s => ef (bytesOf s)) := ⟨_, rfl⟩
        rw [← hes] at WV fm1 fm2
        have E1 := Lib.hid (show es.length = N from by rw [hN]; exact fm1)
        have E2 := Lib.hid fm2
        have HS := Lib.hid hs1
        have HK := Lib.hid hkl
        have HN := Lib.hid (show Maps.size D = N from by rw [hN]; exact hlenN.symm)
        have HN1 := Lib.hid hN
        clear hs1 hs2 hs3 hmem hsome hall hlenN hkl hes fm1 fm2 hN
        go_upto_block 6 with (first | (go_at_call 22; refine (afero_zzSort.calls kf (fun _ => True) u13 ss ns wm wn B3.out R3.out HS.out).mono ?_; rintro e w5 ⟨rfl, hR5, hB5, _⟩; have R5 := Lib.hid (Kd.R_mono hR5 (fun _ _ => trivial) : Kd.string.R 9 w5 wm.heap.size (fun _ => True) u13 ns); have B5 := Lib.hid hB5; have M5 := Lib.hid (MM.out.later hB5); obtain ⟨A5, c5, e5, hc5, g5⟩ := Kd.R_reads R5.out; rw [← HN1.out] at e5 hc5 g5; subst e5; have C5 := Lib.hid g5; clear hR5 hB5 g5) | (at_len; refine wpList_len_own _ rfl _ 51 rfl 9 46 Try.underlying51 ptrR w.heap.size (n + m) D rfl M5.out.own ?_; rw [HN.out]) | ((with_reducible refine gate_dst (N := 64) rfl ?_); refine Kd.R_make ko (w0 := w5) (W := w5) w5.heap.size 46 rfl (N := 64) rfl 36 (.tmp 63) (.tmp 63) rfl (N : Int) rfl rfl Try.underlying36 (.pointer none) 8 info46 rfl (by decide) (by decide) none (ok := fun _ => True) (okp := fun _ => False) rfl (fun _ _ => trivial) trivial (by omega) (by rw [Int.toNat_natCast]; omega) (Below.refl _ _) (Nat.le_refl _) ?_; intro vR w6 hR6 hB6 _ _; rw [Int.toNat_natCast] at hR6; have R6 := Lib.hid hR6; have B6 := Lib.hid hB6; clear hR6 hB6))
        go_wp2
        go_loopw [67] (fun v67 wr => ∃ (i : Nat) (ps : List Nat), v67 = .int .i64 i ∧ i ≤ N ∧ Hid (ko.R 46 wr w5.heap.size (fun _ => True) vR (ps.map some ++ List.replicate (N - i) none)) ∧ Hid (Fis ps (es.take i) wr) ∧ Hid (Below w5.heap.size w5 wr)) (fun v67 _ => N - (intOf v67).toNat)
        case atStart => exact ⟨0, [], rfl, Nat.zero_le _, Lib.hid (by simpa using R6.out), Lib.hid ⟨by simp, fun j p x hj => by simp at hj⟩, B6⟩
        case round =>
          obtain ⟨i, ps, rfl, hin, R1, F1, B1⟩ := hrel
          have hpl : ps.length = i := by rw [F1.out.len, List.length_take, E1.out]; omega
          by_cases hlt : i < N
          · have hlt' : (i : Int) < (N : Int) := by omega
            have j1 : decide ((i : Int) < (N : Int)) = true := decide_eq_true hlt'
            have j2 : (0 ≤ (i : Int)) = True := eq_true (by omega)
            have j3 : ((i : Int) < (N : Int)) = True := eq_true hlt'
            have j4 : IntKind.i64.wrap ((i : Int) + 1) = (i : Int) + 1 := IntWalk.i64_in _ (by omega)
            obtain ⟨ad, s, eA, hs, k0⟩ := str_at C5.out i hlt
            have k0 := cellb0 k0 B1.out
            have hsz := HK.out s (List.mem_of_getElem? hs)
            have M1 := Lib.hid (M5.out.later B1.out)
            have hes := E2.out i s hs
            rcases M1.out.look s hsz with ⟨x, p, hx, hp, hr1, hr2⟩ | ⟨hx, _⟩
            · have PX := Lib.hid hp
              have HX := Lib.hid (show es[i]? = some x from by rw [hes]; exact hx)
              obtain ⟨g, cap, eR⟩ : ∃ g cap, vR = .slice (some ⟨g, 0, none⟩) N cap := by
                obtain ⟨inner, ho⟩ := Kd.R_own R1.out
                have hl : (ps.map some ++ List.replicate (N - i) (none : Option Nat)).length = N := by simp; omega
                rw [hl] at ho
                obtain ⟨g, cap, hf, _, _⟩ := ho.form (by omega)
                exact ⟨g, cap, hf⟩
              subst eR
              subst eA
              have HCC := Lib.hid (show ∀ j u, ([.pointer none] : List Value)[j]? = some u → wr.cell? ⟨g, (i : Int).toNat * ko.sz + j, none⟩ = some u from by
                intro j u hu
                match j, hu with
                | 0, hu =>
                  obtain rfl := Option.some.inj hu
                  rw [Int.toNat_natCast, show i * ko.sz + 0 = i from (by show i * 1 + 0 = i; omega)]
                  exact ko_at R1.out i none (fill_at ps N i hpl hlt)
                | j + 1, hu => simp at hu)
              clear hp hx hes hs hr1
              go_wp2_with (first | ((with_reducible refine gate_ (.store 46 (.tmp 77) (.tmp 76)) rfl ?_); refine Kd.R_store ko (w0 := w5) (W := wr) w5.heap.size rfl rfl 46 (.tmp 77) (.tmp 76) rfl 46 (g := g) (n := N) (cap := cap) (o' := i) (i : Int) 0 _ (some p) (.pointer (some ⟨p, 0, none⟩)) [.pointer (some ⟨p, 0, none⟩)] [.pointer none] (fun _ => True) (fun _ => False) rfl (by rw [Int.toNat_natCast]; show i = i * 1 + 0; omega) rfl rfl size46 (by intro q hq; obtain rfl := List.mem_singleton.1 hq; rfl) R1.out (by omega) (by omega) rfl HCC.out (Nat.le_refl 1) rfl (fun _ hk => hk.elim) B1.out ?_; intro w8 hR8 hB8 hg8; have R8 := Lib.hid hR8; have B8 := Lib.hid hB8; have F8 := Lib.hid ((F1.out.snoc HX.out PX.out).grownO R1.out hg8); clear hR8 hB8 hg8))
              go_roundw
              case rel => exact ⟨i + 1, ps ++ [p], by push_cast; rfl, hlt, Lib.hid (by rw [← fill_step ps N i p hpl hlt]; have := R8.out; rw [Int.toNat_natCast] at this; exact this), F8, B8⟩
              case measure => simp only [intOf]; omega
            · exfalso
              have h1 : es[i]? = none := by rw [hes]; exact hx
              rw [List.getElem?_eq_none_iff, E1.out] at h1
              omega
          · obtain rfl : i = N := by omega
            have j1 : decide ((i : Int) < (i : Int)) = false := decide_eq_false (by omega)
            go_wp2
            go_returns
            have e1 : es.take i = es := List.take_of_length_le (by rw [E1.out]; exact Nat.le_refl _)
            have r1 := R1.out
            have f1 := F1.out
            rw [e1] at f1
            rw [Nat.sub_self, List.replicate_zero, List.append_nil] at r1
            rw [← HE.out]
            exact ⟨_, ps, es, rfl, prow_of r1 (by omega), f1, WV.out, below_then (below_then BB.out BB.out.size B5.out) (by have := BB.out.size; have := B5.out.size; omega) B1.out⟩
end Go.Proofs.Ytckjbgneblfceaa.Ma
