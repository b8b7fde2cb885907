/- The reference's weaving is the caller's. -/
import Derived.Test.YtckjbgneblfceaaMp
namespace Go.Proofs.Ytckjbgneblfceaa.Ma
open Go.RowKit Go.Maps Go.Proofs.YtckjbgneblfceaaW.PrintWords Go.Proofs.YtckjbgneblfceaaW.PrintLast Go.Proofs.YtckjbgneblfceaaW.PrintMore
open Go.Proofs.Ytckjbgneblfceaa.PFnMergeDirs
set_option linter.unusedVariables false
set_option linter.unusedSimpArgs false
theorem ev_succ {α : Type} {g h : Nat → Option α} {r : α} (e : Ev h r) (hg : ∀ k, g (k + 1) = h k) : Ev g r := by
  obtain ⟨K, hK⟩ := e
  refine ⟨K + 1, fun k hk => ?_⟩
  obtain ⟨k, rfl⟩ : ∃ j, k = j + 1 := ⟨k - 1, by omega⟩
  rw [hg]
  exact hK k (by omega)
theorem told_ev (out : List S35) (y : S35) (h : out.length ≤ 50000) : Ev (fun k => spec_told.f k out y.f0 y.f1 y.f2 y.f3 y.f4) (toldL y false out) := by
  obtain ⟨k, hk⟩ := told_go y out [] [] false (by simp; omega) (by simp; omega)
  refine Ev.of (fun k => spec_told.mono _ _ _ _ _ _ k) (k := k) ?_
  unfold spec_told.f
  simpa using hk
theorem entry_ev (e : S30) (hs : e.f0.size ≤ 4294967296) : Ev (fun k => spec_entryInfo.f k e.f0 e.f1 e.f2 e.f3 e.f4) ((tell e).f0, (tell e).f1, (tell e).f2, (tell e).f3, (tell e).f4) := by
  refine Ev.of (fun k => spec_entryInfo.mono _ _ _ _ _ k) (k := e.f0.size + 1) ?_
  unfold spec_entryInfo.f
  rw [base_law e.f0 hs, Option.bind_some]
  unfold tell sizeOf
  cases e.f2 <;> rfl
def lay (out : List S35) (e : S30) : List S35 := toldL (tell e) false out
theorem lay_len (out : List S35) (e : S30) : (lay out e).length ≤ out.length + 1 := toldL_len _ _ _
theorem rd30 (P r : List S30) (z : S30) (i : Int) (hi : i = (P.length : Int)) : rd_T30 (P ++ z :: r) i = z := by
  subst hi
  unfold rd_T30
  rw [Int.toNat_natCast, List.getD_eq_getElem?_getD, List.getElem?_append_right (Nat.le_refl _), Nat.sub_self]; rfl
theorem ev_l1 : ∀ (r P : List S30) (out : List S35), (∀ x ∈ r, x.f0.size ≤ 4294967296) → P.length + r.length ≤ 10000 → out.length + r.length ≤ 40000 → Ev (fun k => spec_Merged.l1 k out (P ++ r) ((P ++ r).length : Int) (P.length : Int)) (r.foldl lay out)
  | [], P, out, _, _, _ => ev_succ (Ev.now out) (fun k => by rw [spec_Merged.l1, List.append_nil, if_neg (by omega)])
  | e :: r, P, out, hs, hl, ho => by
    rw [List.length_cons] at hl ho
    have e1 : P ++ e :: r = (P ++ [e]) ++ r := by simp
    have hw : wrap64 ((P.length : Int) + 1) = (((P ++ [e]).length : Nat) : Int) := by rw [w64s _ (by omega) (by omega)]; simp
    have ih := ev_l1 r (P ++ [e]) (lay out e) (fun x hx => hs x (List.mem_cons_of_mem _ hx)) (by simp; omega) (by have := lay_len out e; omega)
    rw [← e1] at ih
    have h2 := Ev.bind (f := fun n t => spec_Merged.l1 n t (P ++ e :: r) ((P ++ e :: r).length : Int) ((P ++ [e]).length : Int)) (told_ev out (tell e) (by omega)) ih
    have h3 := Ev.bind (f := fun n (bt : ByteArray × Int × Int × Bool × Int) => (spec_told.f n out bt.1 bt.2.1 bt.2.2.1 bt.2.2.2.1 bt.2.2.2.2).bind fun t => spec_Merged.l1 n t (P ++ e :: r) ((P ++ e :: r).length : Int) ((P ++ [e]).length : Int)) (entry_ev e (hs e (List.mem_cons_self ..))) h2
    refine ev_succ h3 (fun k => ?_)
    have hn : (((P ++ e :: r).length : Nat) : Int) = (P.length : Int) + 1 + r.length := by simp; omega
    rw [spec_Merged.l1, rd30 P r e _ rfl, if_pos (by omega), if_pos (by omega), if_pos (by omega), hw]
theorem ev_l0 (la : List S30) (hla : ∀ x ∈ la, x.f0.size ≤ 4294967296) (hll : la.length ≤ 10000) : ∀ (rq S : List S30) (out : List S35), (∀ x ∈ rq, x.f0.size ≤ 4294967296) → rq.length + S.length ≤ 10000 → out.length + rq.length ≤ 20000 → Ev (fun k => spec_Merged.l0 k la (rq.reverse ++ S) out ((rq.length : Int) - 1)) (la.foldl lay (rq.foldl lay out))
  | [], S, out, _, _, ho => by
    have h1 := ev_l1 la [] out hla (by simp; omega) (by simp at ho; omega)
    rw [List.nil_append] at h1
    refine ev_succ h1 (fun k => ?_)
    rw [spec_Merged.l0, if_neg (by simp)]
    rfl
  | e :: rq, S, out, hs, hl, ho => by
    rw [List.length_cons] at hl ho
    have e1 : (e :: rq).reverse ++ S = rq.reverse ++ e :: S := by simp
    have hi : (((e :: rq).length : Nat) : Int) - 1 = (rq.length : Int) := by simp
    have hw : wrap64 ((rq.length : Int) - 1) = (rq.length : Int) - 1 := w64s _ (by omega) (by omega)
    have ih := ev_l0 la hla hll rq (e :: S) (lay out e) (fun x hx => hs x (List.mem_cons_of_mem _ hx)) (by simp; omega) (by have := lay_len out e; omega)
    have hl' : ((rq.reverse ++ e :: S).length : Int) = (rq.length : Int) + 1 + S.length := by simp; omega
    have h2 := Ev.bind (f := fun n t => spec_Merged.l0 n la (rq.reverse ++ e :: S) t ((rq.length : Int) - 1)) (told_ev out (tell e) (by omega)) ih
    have h3 := Ev.bind (f := fun n (bt : ByteArray × Int × Int × Bool × Int) => (spec_told.f n out bt.1 bt.2.1 bt.2.2.1 bt.2.2.2.1 bt.2.2.2.2).bind fun t => spec_Merged.l0 n la (rq.reverse ++ e :: S) t ((rq.length : Int) - 1)) (entry_ev e (hs e (List.mem_cons_self ..))) h2
    refine ev_succ h3 (fun k => ?_)
    rw [hi, e1, spec_Merged.l0, rd30 rq.reverse S e _ (by simp), if_pos (by omega), if_pos (by omega), if_pos (by omega), hw]
/-- What the reference tells, as a fold. -/
def merged (la lb : List S30) : List S35 := la.foldl lay (lb.reverse.foldl lay [])
theorem merged_law (la lb : List S30) (hla : ∀ x ∈ la, x.f0.size ≤ 4294967296) (hlb : ∀ x ∈ lb, x.f0.size ≤ 4294967296) (h1 : la.length ≤ 1000) (h2 : lb.length ≤ 1000) : ∃ k, spec_Merged.f k la lb = some (merged la lb) := by
  have h := ev_l0 la hla (by omega) lb.reverse [] [] (fun x hx => hlb x (List.mem_reverse.1 hx)) (by simp; omega) (by simp; omega)
  rw [List.reverse_reverse, List.append_nil, List.length_reverse] at h
  obtain ⟨k, hk⟩ := h.rounds
  refine ⟨k, ?_⟩
  unfold spec_Merged.f
  rw [w64s _ (by omega) (by omega)]
  exact hk
/-- In order, and just what the entries tell. -/
def Holds (R : List S35) (ef : List UInt8 → Option S30) : Prop := OrdI R ∧ ∀ z, z ∈ R ↔ ∃ s x, ef s = some x ∧ z = tell x
theorem key_tell (x : S30) : ks (tell x) = kof x := toL _
theorem holds_lay {R : List S35} {ef : List UInt8 → Option S30} (h : Holds R ef) (hk : ∀ s x, ef s = some x → kof x = s) (e : S30) : Holds (lay R e) (updE ef (kof e) e) := by
  obtain ⟨i1, i2⟩ := toldL_false (tell e) R h.1
  refine ⟨i1, fun z => ?_⟩
  show z ∈ toldL (tell e) false R ↔ _
  rw [i2 z]
  constructor
  · rintro (rfl | ⟨hz, hn⟩)
    · exact ⟨kof e, e, by unfold updE; rw [if_pos rfl], rfl⟩
    · obtain ⟨s, x, hx, rfl⟩ := (h.2 z).1 hz
      refine ⟨s, x, ?_, rfl⟩
      unfold updE
      rw [if_neg (fun he => hn (by rw [key_tell, key_tell, hk s x hx, he]))]
      exact hx
  · rintro ⟨s, x, hx, rfl⟩
    unfold updE at hx
    by_cases he : s = kof e
    · rw [if_pos he] at hx
      obtain rfl := Option.some.inj hx
      exact .inl rfl
    · rw [if_neg he] at hx
      exact .inr ⟨(h.2 _).2 ⟨s, x, hx, rfl⟩, fun hh => he (by rw [key_tell, key_tell, hk s x hx] at hh; exact hh)⟩
theorem holds_fold : ∀ (l : List S30) (R : List S35) (ef : List UInt8 → Option S30), Holds R ef → (∀ s x, ef s = some x → kof x = s) → Holds (l.foldl lay R) (ovr ef l)
  | [], R, ef, h, _ => h
  | e :: l, R, ef, h, hk => holds_fold l (lay R e) (updE ef (kof e) e) (holds_lay h hk e) (ovr_key [e] ef hk)
theorem ovr_find : ∀ (l : List S30) (f : List UInt8 → Option S30) (s : List UInt8), ovr f l s = (l.reverse.find? (fun x => decide (kof x = s))).or (f s)
  | [], f, s => rfl
  | y :: l, f, s => by
    show ovr (updE f (kof y) y) l s = _
    rw [ovr_find l, List.reverse_cons, List.find?_append]
    cases (l.reverse.find? (fun x => decide (kof x = s))) with
    | some x => rfl
    | none =>
      simp only [Option.none_or]
      unfold updE
      by_cases e : s = kof y
      · rw [if_pos e, List.find?_cons_of_pos (by simp [e])]; rfl
      · rw [if_neg e, List.find?_cons_of_neg (by simpa using fun h => e h.symm)]; rfl
theorem und_find : ∀ (l : List S30) (f : List UInt8 → Option S30) (s : List UInt8), und f l s = (f s).or (l.find? (fun x => decide (kof x = s)))
  | [], f, s => by simp [und]
  | y :: l, f, s => by
    show und (if (f (kof y)).isSome then f else updE f (kof y) y) l s = _
    rw [und_find l]
    by_cases hy : (f (kof y)).isSome = true
    · rw [if_pos hy]
      by_cases e : kof y = s
      · rw [e] at hy
        obtain ⟨x, hx⟩ := Option.isSome_iff_exists.1 hy
        rw [hx]; rfl
      · rw [List.find?_cons_of_neg (by simpa using e)]
    · rw [if_neg hy]
      unfold updE
      by_cases e : s = kof y
      · rw [if_pos e, List.find?_cons_of_pos (by simp [e])]
        have : f s = none := by rw [e]; simpa using hy
        rw [this]; rfl
      · rw [if_neg e, List.find?_cons_of_neg (by simpa using fun h => e h.symm)]
theorem same_map (la lb : List S30) : ovr (ovr (fun _ => none) lb.reverse) la = woven la lb := by
  funext s
  unfold woven
  rw [ovr_find, ovr_find, und_find, ovr_find, List.reverse_reverse]
  simp
theorem eq_of_ordI : ∀ {l₁ l₂ : List S35}, OrdI l₁ → OrdI l₂ → (∀ p, p ∈ l₁ ↔ p ∈ l₂) → l₁ = l₂
  | [], [], _, _, _ => rfl
  | [], b :: s, _, _, h => by have := (h b).2 (by simp); simp at this
  | a :: r, [], _, _, h => by have := (h a).1 (by simp); simp at this
  | a :: r, b :: s, h1, h2, h => by
    obtain ⟨a1, a2⟩ := List.pairwise_cons.1 h1
    obtain ⟨b1, b2⟩ := List.pairwise_cons.1 h2
    have hab : a = b := by
      rcases List.mem_cons.1 ((h a).1 (by simp)) with e | ha
      · exact e
      · rcases List.mem_cons.1 ((h b).2 (by simp)) with e | hb
        · exact e.symm
        · have := less_trans _ _ _ (a1 b hb) (b1 a ha)
          rw [less_irr] at this
          cases this
    subst hab
    rw [eq_of_ordI a2 b2 (fun p => ⟨fun hp => by
      rcases List.mem_cons.1 ((h p).1 (by simp [hp])) with e | hp'
      · have := a1 p hp
        rw [e, less_irr] at this
        cases this
      · exact hp', fun hp => by
      rcases List.mem_cons.1 ((h p).2 (by simp [hp])) with e | hp'
      · have := b1 p hp
        rw [e, less_irr] at this
        cases this
      · exact hp'⟩)]
/-- What the reference tells is what the woven entries tell. -/
theorem merged_woven {la lb es : List S30} (h : Woven es (woven la lb)) : merged la lb = es.map tell := by
  have k0 : ∀ (s : List UInt8) (x : S30), (fun _ => none : List UInt8 → Option S30) s = some x → kof x = s := fun s x h => by simp at h
  have h0 : Holds [] (fun _ => none) := ⟨List.Pairwise.nil, fun z => by simp⟩
  have h1 := holds_fold lb.reverse [] _ h0 k0
  have h2 := holds_fold la _ _ h1 (ovr_key _ _ k0)
  rw [same_map] at h2
  refine eq_of_ordI h2.1 ?_ (fun z => ?_)
  · refine List.pairwise_map.2 (h.1.imp (fun {a b} hab => ?_))
    rw [key_tell, key_tell]; exact hab
  · rw [List.mem_map]
    refine (h2.2 z).trans ⟨?_, ?_⟩
    · rintro ⟨s, x, hx, rfl⟩
      exact ⟨x, ((h.2 s x).1 hx).1, rfl⟩
    · rintro ⟨x, hx, rfl⟩
      exact ⟨kof x, x, (h.2 _ _).2 ⟨hx, rfl⟩, rfl⟩
/-- Two equal rows of infos are told to be the same. -/
theorem same_go : ∀ (r P : List S35), P.length + r.length ≤ 100000 → ∃ k, laws_sameInfos.l0 k (P ++ r) (P ++ r) ((P ++ r).length : Int) (P.length : Int) = some true
  | [], P, _ => ⟨1, by rw [laws_sameInfos.l0, List.append_nil, if_neg (by omega)]⟩
  | z :: r, P, hl => by
    rw [List.length_cons] at hl
    have e1 : P ++ z :: r = (P ++ [z]) ++ r := by simp
    have hw : wrap64 ((P.length : Int) + 1) = (((P ++ [z]).length : Nat) : Int) := by rw [w64s _ (by omega) (by omega)]; simp
    have hn : (((P ++ z :: r).length : Nat) : Int) = (P.length : Int) + 1 + r.length := by simp; omega
    obtain ⟨k, hk⟩ := same_go r (P ++ [z]) (by simp; omega)
    rw [← e1] at hk
    refine ⟨k + 1, ?_⟩
    rw [laws_sameInfos.l0, rd_at P r z _ rfl, if_pos (by omega), if_pos (by omega), if_pos (by omega), if_pos (by omega), if_neg (by simp), hw]
    exact hk
theorem same_law (l : List S35) (h : l.length ≤ 100000) : ∃ k, laws_sameInfos.f k l l = some true := by
  obtain ⟨k, hk⟩ := same_go l [] (by simpa using h)
  refine ⟨k, ?_⟩
  unfold laws_sameInfos.f
  rw [if_pos rfl]
  simpa using hk
end Go.Proofs.Ytckjbgneblfceaa.Ma
