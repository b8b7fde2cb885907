/- A region that draws its order: a law by the values that each operation yields, whatever order is picked. -/
import Derived.OrdersHeld
import Derived.Deep.RegionHeld
import Derived.KernelRfl
namespace Go.Proofs.YtckjbgneblfceaaDoor.Dr
open Go
section
variable {P : Program} {ops : Array Oper} {Q : Exit → Act → World → Prop} {md : Region.Mode}
theorem countP_lt {α : Type} {p q : α → Bool} (h : ∀ x, q x = true → p x = true) : ∀ (l : List α) (x : α), x ∈ l → p x = true → q x = false → l.countP q < l.countP p
  | y :: l, x, hx, hp, hq => by
    have hle : l.countP q ≤ l.countP p := List.countP_mono_left (fun z _ hz => h z hz)
    rcases List.mem_cons.1 hx with rfl | hx
    · rw [List.countP_cons_of_pos hp, List.countP_cons_of_neg (by simp [hq])]; omega
    · have ih := countP_lt h l x hx hp hq
      rw [List.countP_cons, List.countP_cons]
      have : (if q y = true then 1 else 0) ≤ (if p y = true then 1 else 0) := by
        by_cases hy : q y = true
        · rw [if_pos hy, if_pos (h y hy)]; exact Nat.le_refl _
        · rw [if_neg hy]; omega
      omega
def left (ops : Array Oper) (listed : Array Bool) : Nat := (List.range ops.size).countP fun i => !listed.getD i true
/-- What is kept whatever comes up. -/
theorem wpAny_inv (I : Array Bool → Act → World → Prop)
    (hstep : ∀ listed a w i, I listed a w → i ∈ Region.ready md ops listed → wpOp P ops Q i (fun a' w' => I (listed.setIfInBounds i true) a' w') a w)
    (hdone : ∀ listed a w, I listed a w → Region.ready md ops listed = [] → Q .normal a w) :
    ∀ (fuel : Nat) (listed : Array Bool) (a : Act) (w : World), left ops listed ≤ fuel → I listed a w → wpAny P md ops Q fuel listed a w := by
  intro fuel
  induction fuel with
  | zero =>
    intro listed a w hl hI
    have hr : Region.ready md ops listed = [] := by
      apply List.eq_nil_iff_forall_not_mem.2
      intro i hi
      obtain ⟨h0, o, ho, _⟩ := mem_ready.1 hi
      have : 0 < (List.range ops.size).countP fun i => !listed.getD i true := List.countP_pos_iff.2 ⟨i, List.mem_range.2 (Array.getElem?_eq_some_iff.1 ho).1, by simp [h0]⟩
      unfold left at hl
      omega
    exact ⟨hr, hdone _ _ _ hI hr⟩
  | succ fuel ih =>
    intro listed a w hl hI
    refine ⟨fun h => hdone _ _ _ hI h, fun i hi => ?_⟩
    refine wpOp_mono (fun a' w' hI' => ih _ a' w' ?_ hI') (hstep listed a w i hI hi)
    obtain ⟨h0, o, ho, _⟩ := mem_ready.1 hi
    have hlt := (Array.getElem?_eq_some_iff.1 ho).1
    have : left ops (listed.setIfInBounds i true) < left ops listed := by
      unfold left
      refine countP_lt (fun x hx => ?_) _ i (List.mem_range.2 hlt) (by simp [h0]) ?_
      · by_cases hxi : i = x
        · subst hxi; simp [h0]
        · rw [getD_set_ne true hxi] at hx; exact hx
      · have hs : i < listed.size := by
          rcases Nat.lt_or_ge i listed.size with h' | h'
          · exact h'
          · simp [Array.getElem?_eq_none h'] at h0
        simp [hs]
    omega
def Known (ops : Array Oper) (listed : Array Bool) (t : Nat) : Prop := ∀ i o, ops[i]? = some o → o.dst = some t → listed.getD i false = true
/-- Each operand's makers are waited for; edges go back. -/
def edgesB (md : Region.Mode) (ops : Array Oper) : Bool := (List.range ops.size).all fun i => match ops[i]? with
  | some o => o.after.all fun e => !Region.binds md e || decide (e.on < i)
  | none => true
def depsB (md : Region.Mode) (ops : Array Oper) (deps : List (List Nat)) : Bool := (List.range ops.size).all fun i => match ops[i]? with
  | some o => (deps.getD i []).all fun t => (List.range ops.size).all fun j => match ops[j]? with
      | some oj => oj.dst != some t || o.after.any (fun e => Region.binds md e && e.on == j)
      | none => true
  | none => true
theorem all_listed (he : edgesB md ops = true) {listed : Array Bool} (hs : listed.size = ops.size) (h : Region.ready md ops listed = []) : ∀ i, i < ops.size → listed.getD i false = true := by
  intro i
  induction i using Nat.strongRecOn with
  | _ i ih =>
    intro hi
    rcases Bool.eq_false_or_eq_true (listed.getD i true) with h1 | h1
    · have : i < listed.size := by omega
      simp [this] at h1 ⊢; exact h1
    · exfalso
      have hm : i ∈ Region.ready md ops listed := by
        refine mem_ready.2 ⟨h1, ops[i], Array.getElem?_eq_getElem hi, fun e hee hb => ?_⟩
        unfold edgesB at he
        rw [List.all_eq_true] at he
        have h2 := he i (List.mem_range.2 hi)
        simp only [Array.getElem?_eq_getElem hi] at h2
        have h3 := Array.all_eq_true_iff_forall_mem.1 h2 e hee
        simp only [hb, Bool.not_true, Bool.false_or, decide_eq_true_eq] at h3
        exact ih e.on h3 (by omega)
      rw [h] at hm
      cases hm
theorem eval_put (a : Act) (o : Option Tmp) (v : Value) (t : Nat) (ht : t < a.tmps.size) : (a.put o v).eval (.tmp t) = if o = some t then v else a.eval (.tmp t) := by
  cases o with
  | none => simp [Act.put]
  | some d =>
    simp only [Act.put, Act.eval]
    by_cases h : d = t
    · subst h; simp [ht]
    · rw [if_neg (by simpa using h)]
      simp [Array.getElem?_setIfInBounds_ne h]
theorem put_size (a : Act) (o : Option Tmp) (v : Value) : (a.put o v).tmps.size = a.tmps.size := by cases o <;> simp [Act.put]
theorem put_defers (a : Act) (o : Option Tmp) (v : Value) : (a.put o v).defers = a.defers := by cases o <;> rfl
/-- Values by temporaries: each is fixed, or told by a relation to the world, or as it was. -/
def Val (upd : List (Nat × Value)) (junk : List Nat) (F : Nat → Value → World → Prop) (a0 : Act) (t : Nat) (v : Value) (w : World) : Prop :=
  match upd.lookup t with
  | some x => v = x
  | none => if junk.contains t = true then F t v w else v = a0.eval (.tmp t)
def putAll (a : Act) : List (Nat × Value) → Act
  | [] => a
  | p :: l => putAll (a.put (some p.1) p.2) l
theorem putAll_size : ∀ (l : List (Nat × Value)) (a : Act), (putAll a l).tmps.size = a.tmps.size
  | [], _ => rfl
  | p :: l, a => by rw [putAll, putAll_size l, put_size]
theorem putAll_defers : ∀ (l : List (Nat × Value)) (a : Act), (putAll a l).defers = a.defers
  | [], _ => rfl
  | p :: l, a => by rw [putAll, putAll_defers l, put_defers]
theorem putAll_eval : ∀ (l : List (Nat × Value)) (a : Act) (t : Nat), t < a.tmps.size → (l.map (·.1)).Nodup → (putAll a l).eval (.tmp t) = ((l.lookup t).getD (a.eval (.tmp t)))
  | [], a, t, _, _ => rfl
  | (d, v) :: l, a, t, ht, hn => by
    rw [List.map_cons, List.nodup_cons] at hn
    rw [putAll, putAll_eval l _ t (by rw [put_size]; exact ht) hn.2, eval_put _ _ _ _ ht, List.lookup_cons]
    by_cases h : t = d
    · subst h
      have hl : l.lookup t = none := by
        rw [List.lookup_eq_none_iff]
        intro p hp
        have := hn.1
        simp only [List.mem_map, not_exists, not_and] at this
        have := this p hp
        simp; exact fun e => this e.symm
      rw [hl, if_pos rfl, beq_self_eq_true]; rfl
    · rw [if_neg (by simpa using fun e => h e.symm), beq_false_of_ne h]
theorem act_ext {a b : Act} (hd : a.defers = b.defers) (hs : a.tmps.size = b.tmps.size) (h : ∀ t, t < a.tmps.size → a.eval (.tmp t) = b.eval (.tmp t)) : a = b := by
  cases a; cases b
  simp only at hd hs h
  subst hd
  congr 1
  refine Array.ext hs (fun i h1 h2 => ?_)
  have := h i h1
  simp only [Act.eval] at this
  simpa [h1, h2] using this
theorem guard_wanted {o : Oper} (h : o.guard = none) (f : Nat → Option Bool) : Region.wanted o f = true := by unfold Region.wanted; rw [h]
/-- The law. -/
theorem wpAny_rel {a0 : Act} {w0 : World} (C : World → Prop) (R : World → World → Prop) (upd : List (Nat × Value)) (junk : List Nat) (F : Nat → Value → World → Prop) (deps : List (List Nat))
    (hstab : ∀ t v w w', C w → R w w' → F t v w → F t v w')
    (hedge : edgesB md ops = true) (hdeps : depsB md ops deps = true)
    (hkeys : ((upd.map (·.1) ++ junk).all fun t => decide (t < a0.tmps.size) && ops.any fun o => o.dst == some t) = true)
    (hnd : (upd.map (·.1) ++ junk).Nodup)
    (hgd : (ops.all fun o => o.guard.isNone) = true)
    (hdl : (deps.all fun l => l.all fun t => decide (t < a0.tmps.size)) = true)
    (hC : C w0)
    (hob : ∀ i o, ops[i]? = some o → ∀ a w, C w → (∀ t ∈ deps.getD i [], Val upd junk F a0 t (a.eval (.tmp t)) w) → ∀ K : Act → World → Prop,
      Shut (∀ v w', C w' → R w w' → (∀ t, o.dst = some t → Val upd junk F a0 t v w') → K (a.put o.dst v) w') → Oper.wp P o a w K Q)
    (hdone : ∀ (a : Act) (w : World), C w → (∀ t ∈ junk, F t (a.eval (.tmp t)) w) → Q .normal (putAll a0 (upd ++ junk.map fun t => (t, a.eval (.tmp t)))) w) :
    wpAny P md ops Q ops.size (Array.replicate ops.size false) a0 w0 := by
  have hval : ∀ t v w w', C w → R w w' → Val upd junk F a0 t v w → Val upd junk F a0 t v w' := fun t v w w' hc hr h => by
    unfold Val at h ⊢
    split
    · rename_i x hx; rw [hx] at h; exact h
    · rename_i hx
      rw [hx] at h
      simp only at h
      split
      · rename_i hj; rw [if_pos hj] at h; exact hstab t v w w' hc hr h
      · rename_i hj; rw [if_neg hj] at h; exact h
  refine wpAny_inv (fun listed a w => C w ∧ a.defers = a0.defers ∧ a.tmps.size = a0.tmps.size ∧ listed.size = ops.size ∧ ∀ t, t < a0.tmps.size → Known ops listed t → Val upd junk F a0 t (a.eval (.tmp t)) w) ?_ ?_ _ _ _ _ ?_ ?_
  · rintro listed a w i ⟨hc, hd, hs, hls, hv⟩ hi
    obtain ⟨h0, o, ho, hall⟩ := mem_ready.1 hi
    have hilt := (Array.getElem?_eq_some_iff.1 ho).1
    have hmem : o ∈ ops := Array.mem_of_getElem? ho
    have hg : o.guard = none := by
      have := Array.all_eq_true_iff_forall_mem.1 hgd o hmem
      simpa using this
    unfold wpOp
    simp only [ho, guard_wanted hg, if_true]
    refine .inl (hob i o ho a w hc (fun t ht => ?_) _ ?_)
    · refine hv t ?_ (fun j oj hj hdj => ?_)
      · rw [List.all_eq_true] at hdl
        have hmem2 : deps.getD i [] ∈ deps := by
          rw [List.getD_eq_getElem?_getD] at ht ⊢
          rcases Nat.lt_or_ge i deps.length with h' | h'
          · rw [List.getElem?_eq_getElem h']; exact List.getElem_mem h'
          · rw [List.getElem?_eq_none h'] at ht; simp at ht
        have := List.all_eq_true.1 (hdl _ hmem2) t ht
        simpa using this
      · unfold depsB at hdeps
        rw [List.all_eq_true] at hdeps
        have h1 := hdeps i (List.mem_range.2 hilt)
        simp only [ho] at h1
        have h2 := List.all_eq_true.1 (List.all_eq_true.1 h1 t ht) j (List.mem_range.2 (Array.getElem?_eq_some_iff.1 hj).1)
        simp only [hj, hdj, bne_self_eq_false, Bool.false_or] at h2
        obtain ⟨e, hee, hb⟩ := Array.any_eq_true'.1 h2
        simp only [Bool.and_eq_true, beq_iff_eq] at hb
        have := hall e hee hb.1
        rwa [hb.2] at this
    · intro v w' hc' hr hvv
      refine ⟨hc', by rw [put_defers]; exact hd, by rw [put_size]; exact hs, by simpa using hls, fun t ht hk => ?_⟩
      rw [eval_put _ _ _ _ (by omega)]
      by_cases hdt : o.dst = some t
      · rw [if_pos hdt]; exact hvv t hdt
      · rw [if_neg hdt]
        refine hval t _ w w' hc hr (hv t ht (fun j oj hj hdj => ?_))
        have hji : i ≠ j := fun e => by subst e; rw [ho] at hj; injection hj with hj; exact hdt (hj ▸ hdj)
        have := hk j oj hj hdj
        rwa [getD_set_ne false hji] at this
  · rintro listed a w ⟨hc, hd, hs, hls, hv⟩ hr
    have hL := all_listed hedge hls hr
    have hV : ∀ t, t < a0.tmps.size → Val upd junk F a0 t (a.eval (.tmp t)) w := fun t ht => hv t ht (fun i o ho _ => hL i (Array.getElem?_eq_some_iff.1 ho).1)
    have hjk : ∀ t ∈ junk, upd.lookup t = none := fun t ht => by
      rw [List.lookup_eq_none_iff]
      intro p hp
      have := (List.nodup_append.1 hnd).2.2 p.1 (List.mem_map.2 ⟨p, hp, rfl⟩) t ht
      simp; exact fun e => this e.symm
    have hjs : ∀ t ∈ junk, t < a0.tmps.size := fun t ht => by
      have := List.all_eq_true.1 hkeys t (List.mem_append.2 (.inr ht))
      simp only [Bool.and_eq_true, decide_eq_true_eq] at this
      exact this.1
    have ha : a = putAll a0 (upd ++ junk.map fun t => (t, a.eval (.tmp t))) := by
      refine act_ext (by rw [putAll_defers]; exact hd) (by rw [putAll_size]; exact hs) (fun t ht => ?_)
      rw [hs] at ht
      rw [putAll_eval _ _ t ht (by
        rw [List.map_append, List.map_map]
        have : (List.map ((fun x => x.1) ∘ fun t => (t, a.eval (.tmp t))) junk) = junk := by
          conv => rhs; rw [← List.map_id junk]
          exact List.map_congr_left (fun x _ => rfl)
        rw [this]; exact hnd)]
      have h1 := hV t ht
      unfold Val at h1
      rw [List.lookup_append]
      cases hu : upd.lookup t with
      | some x => rw [hu] at h1; simp only at h1; rw [h1]; rfl
      | none =>
        rw [hu] at h1
        simp only at h1
        by_cases hj : junk.contains t = true
        · have hm : ∀ (l : List Nat), t ∈ l → (l.map fun t => (t, a.eval (.tmp t))).lookup t = some (a.eval (.tmp t)) := fun l => by
            induction l with
            | nil => intro h; cases h
            | cons y l ih =>
              intro h
              rw [List.map_cons, List.lookup_cons]
              by_cases hy : t = y
              · subst hy; rw [beq_self_eq_true]
              · rw [beq_false_of_ne hy]
                rcases List.mem_cons.1 h with h | h
                · exact absurd h hy
                · exact ih h
          rw [hm junk (by simpa using hj)]; rfl
        · rw [if_neg hj] at h1
          have hn : (junk.map fun t => (t, a.eval (.tmp t))).lookup t = none := by
            rw [List.lookup_eq_none_iff]
            intro p hp
            obtain ⟨y, hy, rfl⟩ := List.mem_map.1 hp
            simp only [bne_iff_ne, ne_eq]
            intro e
            exact hj (by rw [e]; simpa using hy)
          rw [hn, h1]; rfl
    rw [ha]
    refine hdone a w hc (fun t ht => ?_)
    have h1 := hV t (hjs t ht)
    unfold Val at h1
    rw [hjk t ht] at h1
    simp only at h1
    rwa [if_pos (by simpa using ht)] at h1
  · unfold left
    exact Nat.le_trans List.countP_le_length (by simp)
  · refine ⟨hC, rfl, rfl, by simp, fun t ht hk => ?_⟩
    have hno : ∀ o ∈ ops, o.dst ≠ some t := fun o ho hd => by
      obtain ⟨i, hi⟩ := Array.getElem?_of_mem ho
      have := hk i o hi hd
      have hlt := (Array.getElem?_eq_some_iff.1 hi).1
      simp [hlt] at this
    have hnk : t ∉ upd.map (·.1) ++ junk := fun h => by
      have := List.all_eq_true.1 hkeys t h
      simp only [Bool.and_eq_true] at this
      obtain ⟨o, ho, hb⟩ := Array.any_eq_true'.1 this.2
      exact hno o ho (by simpa using hb)
    unfold Val
    have hl : upd.lookup t = none := by
      rw [List.lookup_eq_none_iff]
      intro p hp
      simp only [bne_iff_ne, ne_eq]
      intro e
      exact hnk (List.mem_append.2 (.inl (List.mem_map.2 ⟨p, hp, e.symm⟩)))
    rw [hl]
    show (if junk.contains t = true then _ else _)
    rw [if_neg (fun h => hnk (List.mem_append.2 (.inr (by simpa using h))))]
end
end Go.Proofs.YtckjbgneblfceaaDoor.Dr
