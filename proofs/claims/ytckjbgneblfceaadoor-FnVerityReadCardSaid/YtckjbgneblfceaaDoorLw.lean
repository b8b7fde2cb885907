/- A region that draws its order, under a condition that holds until one operation, the gate, has come up: a cell that is loaded and then stored. -/
import Derived.OrdersHeld
import Derived.Deep.RegionHeld
import Derived.KernelRfl
namespace Go.Proofs.YtckjbgneblfceaaDoor.Lw
open Go
section
variable {P : Program} {ops : Array Oper} {Q : Exit → Act → World → Prop} {md : Region.Mode} {S0 S1 : World → Prop} {k : Nat}
/-- What is held: S1 always, S0 until number k has come up. -/
def Gate (S0 S1 : World → Prop) (k : Nat) (L : Array Bool) (w : World) : Prop := S1 w ∧ (L.getD k false = false → S0 w)
/-- Whatever order is picked from here on, and the gated condition holds behind every operation. -/
def wpAnyL (P : Program) (md : Region.Mode) (ops : Array Oper) (Q : Exit → Act → World → Prop) (S0 S1 : World → Prop) (k : Nat) : Nat → Array Bool → Act → World → Prop
  | 0, listed, a, w => Region.ready md ops listed = [] ∧ Q .normal a w
  | fuel + 1, listed, a, w =>
    (Region.ready md ops listed = [] → Q .normal a w) ∧
    ∀ i ∈ Region.ready md ops listed, wpOp P ops Q i (fun a' w' => Gate S0 S1 k (listed.setIfInBounds i true) w' ∧ wpAnyL P md ops Q S0 S1 k fuel (listed.setIfInBounds i true) a' w') a w
theorem wpAny_of_L : ∀ (fuel : Nat) (listed : Array Bool) (a : Act) (w : World), wpAnyL P md ops Q S0 S1 k fuel listed a w → wpAny P md ops Q fuel listed a w
  | 0, _, _, _, h => h
  | fuel + 1, _, _, _, h => ⟨h.1, fun i hi => wpOp_mono (fun a' w' h' => wpAny_of_L fuel _ a' w' h'.2) (h.2 i hi)⟩
theorem getD_ff {L : Array Bool} {i : Nat} (h : L.getD i true = false) : L.getD i false = false := by
  rcases Nat.lt_or_ge i L.size with h' | h'
  · simp [h'] at h ⊢; exact h
  · simp [Array.getElem?_eq_none h']
theorem getD_ne {L : Array Bool} {i j : Nat} (d : Bool) (h : i ≠ j) : (L.setIfInBounds i true).getD j d = L.getD j d := by
  simp [Array.getElem?_setIfInBounds_ne h]
/-- An operation that the gate waits for may be taken first. -/
theorem wpAnyL_first {i : Nat} {oi ok : Oper} {v : Value} (hi : ops[i]? = some oi) (hok : ops[k]? = some ok) (hki : i ≠ k) (hwait : ∃ e ∈ ok.after, Region.binds md e = true ∧ e.on = i)
    (hsel : ∀ (j : Nat) (o : Oper) cs b, ops[j]? = some o → o.op ≠ .select cs b)
    (hQ : ∀ c a w, Q (.panic c) (a.put oi.dst v) w → Q (.panic c) a w) :
    ∀ (fuel : Nat) (listed : Array Bool) (a : Act) (w : World),
      (∀ j oj, ops[j]? = some oj → j ≠ i → listed.getD j true = false → (∀ e ∈ oj.after, Region.binds md e = true → e.on ≠ i) → oi.apart ops oj = true) →
      i ∈ Region.ready md ops listed → listed.getD k false = false → YieldsIf P ops S0 oi v a → S0 w → S1 w →
      wpAnyL P md ops Q S0 S1 k fuel (listed.setIfInBounds i true) (a.put oi.dst v) w → wpAnyL P md ops Q S0 S1 k (fuel + 1) listed a w := by
  intro fuel
  have gate : ∀ {L : Array Bool} {j : Nat}, i ∈ Region.ready md ops L → j ∈ Region.ready md ops L → j ≠ k := fun hr hj hjk => by
    obtain ⟨e, he, hb, hon⟩ := hwait
    obtain ⟨_, oj, hoj, hall⟩ := mem_ready.1 hj
    rw [hjk, hok] at hoj
    injection hoj with hoj
    have h1 := hall e (hoj ▸ he) hb
    rw [hon] at h1
    rw [getD_ff (mem_ready.1 hr).1] at h1
    cases h1
  induction fuel with
  | zero =>
    intro listed a w _ hr hk hy hS hS1 H
    refine ⟨fun h => (by rw [h] at hr; cases hr), fun j hj => ?_⟩
    by_cases hji : j = i
    · subst hji; exact hy.wpOp hi hS ⟨⟨hS1, fun _ => hS⟩, H⟩
    · have := ready_mono hj hji
      rw [H.1] at this
      cases this
  | succ fuel ih =>
    intro listed a w hfree hr hk hy hS hS1 H
    refine ⟨fun h => (by rw [h] at hr; cases hr), fun j hj => ?_⟩
    by_cases hji : j = i
    · subst hji; exact hy.wpOp hi hS ⟨⟨hS1, fun _ => hS⟩, H⟩
    · have hjk : j ≠ k := gate hr hj
      have h1 := H.2 j (ready_mono hj hji)
      obtain ⟨hjun, oj, hoj, hall⟩ := mem_ready.1 hj
      have hnot : ∀ e ∈ oj.after, Region.binds md e = true → e.on ≠ i := fun e he hb heq => by
        have h1 := hall e he hb
        rw [heq, getD_ff (mem_ready.1 hr).1] at h1
        cases h1
      have h2 := wpOp_putIf hoj (hfree j oj hoj hji hjun hnot) (fun cs b => hsel i oi cs b hi) (fun cs b => hsel j oj cs b hoj) hQ hy h1
      have hfree' : ∀ n on, ops[n]? = some on → n ≠ i → (listed.setIfInBounds j true).getD n true = false →
          (∀ e ∈ on.after, Region.binds md e = true → e.on ≠ i) → oi.apart ops on = true := fun n on hn hni hun hno => by
        refine hfree n on hn hni ?_ hno
        by_cases hjn : j = n
        · subst hjn; exact hjun
        · rw [getD_set_ne true hjn] at hun; exact hun
      refine wpOp_mono (fun a' w' h3 => ?_) h2
      obtain ⟨hy3, hG, hH⟩ := h3
      have hS' : S0 w' := hG.2 (by rw [getD_ne false hjk, getD_ne false hki]; exact hk)
      refine ⟨⟨hG.1, fun _ => hS'⟩, ih (listed.setIfInBounds j true) a' w' hfree' (ready_mono hr (Ne.symm hji)) (by rw [getD_ne false hjk]; exact hk) hy3 hS' hG.1 ?_⟩
      rw [Array.setIfInBounds_comm _ _ hji]
      exact hH
/-- Take number i first: a load that the gate waits for. -/
theorem wpAnyL_take {i : Nat} {oi ok : Oper} {v : Value} {fuel : Nat} {listed : Array Bool} {a : Act} {w : World} (hi : ops[i]? = some oi) (hok : ops[k]? = some ok)
    (hw : (decide (i ≠ k) && ok.after.any (fun e => Region.binds md e && decide (e.on = i)) && !listed.getD k false) = true)
    (hs : Region.noSelect ops = true) (hf : Region.free md ops listed i = true) (hr : (Region.ready md ops listed).contains i = true)
    (hQ : ∀ c a w, Q (.panic c) (a.put oi.dst v) w → Q (.panic c) a w) (hy : YieldsIf P ops S0 oi v a) (hS : S0 w) (hS1 : S1 w)
    (h : wpAnyL P md ops Q S0 S1 k fuel (listed.setIfInBounds i true) (a.put oi.dst v) w) : wpAnyL P md ops Q S0 S1 k (fuel + 1) listed a w := by
  simp only [Bool.and_eq_true, decide_eq_true_eq, Array.any_eq_true, Bool.not_eq_true'] at hw
  obtain ⟨⟨h1, n, hn, h2, h3⟩, h4⟩ := hw
  exact wpAnyL_first hi hok h1 ⟨_, Array.getElem_mem hn, h2, h3⟩ (Region.noSelect_spec hs) hQ fuel listed a w (Region.free_spec hi hf) (by simpa using hr) h4 hy hS hS1 h
/-- An operation that yields in whatever world may be taken first, though the gate does not wait for it. -/
theorem wpAnyL_first0 {i : Nat} {oi : Oper} {v : Value} (hi : ops[i]? = some oi) (hki : i ≠ k)
    (hsel : ∀ (j : Nat) (o : Oper) cs b, ops[j]? = some o → o.op ≠ .select cs b)
    (hQ : ∀ c a w, Q (.panic c) (a.put oi.dst v) w → Q (.panic c) a w) :
    ∀ (fuel : Nat) (listed : Array Bool) (a : Act) (w : World),
      (∀ j oj, ops[j]? = some oj → j ≠ i → listed.getD j true = false → (∀ e ∈ oj.after, Region.binds md e = true → e.on ≠ i) → oi.apart ops oj = true) →
      i ∈ Region.ready md ops listed → YieldsIf P ops (fun _ => True) oi v a → Gate S0 S1 k listed w →
      wpAnyL P md ops Q S0 S1 k fuel (listed.setIfInBounds i true) (a.put oi.dst v) w → wpAnyL P md ops Q S0 S1 k (fuel + 1) listed a w := by
  intro fuel
  have same : ∀ {L : Array Bool} {w : World}, Gate S0 S1 k L w → Gate S0 S1 k (L.setIfInBounds i true) w := fun h => ⟨h.1, fun h0 => h.2 (by rw [getD_ne false hki] at h0; exact h0)⟩
  have back : ∀ {L : Array Bool} {w : World}, Gate S0 S1 k (L.setIfInBounds i true) w → Gate S0 S1 k L w := fun h => ⟨h.1, fun h0 => h.2 (by rw [getD_ne false hki]; exact h0)⟩
  induction fuel with
  | zero =>
    intro listed a w _ hr hy hS H
    refine ⟨fun h => (by rw [h] at hr; cases hr), fun j hj => ?_⟩
    by_cases hji : j = i
    · subst hji; exact hy.wpOp hi trivial ⟨same hS, H⟩
    · have := ready_mono hj hji
      rw [H.1] at this
      cases this
  | succ fuel ih =>
    intro listed a w hfree hr hy hS H
    refine ⟨fun h => (by rw [h] at hr; cases hr), fun j hj => ?_⟩
    by_cases hji : j = i
    · subst hji; exact hy.wpOp hi trivial ⟨same hS, H⟩
    · have h1 := H.2 j (ready_mono hj hji)
      obtain ⟨hjun, oj, hoj, hall⟩ := mem_ready.1 hj
      have hnot : ∀ e ∈ oj.after, Region.binds md e = true → e.on ≠ i := fun e he hb heq => by
        have h1 := hall e he hb
        rw [heq, getD_ff (mem_ready.1 hr).1] at h1
        cases h1
      have h2 := wpOp_putIf hoj (hfree j oj hoj hji hjun hnot) (fun cs b => hsel i oi cs b hi) (fun cs b => hsel j oj cs b hoj) hQ hy h1
      have hfree' : ∀ n on, ops[n]? = some on → n ≠ i → (listed.setIfInBounds j true).getD n true = false →
          (∀ e ∈ on.after, Region.binds md e = true → e.on ≠ i) → oi.apart ops on = true := fun n on hn hni hun hno => by
        refine hfree n on hn hni ?_ hno
        by_cases hjn : j = n
        · subst hjn; exact hjun
        · rw [getD_set_ne true hjn] at hun; exact hun
      refine wpOp_mono (fun a' w' h3 => ?_) h2
      obtain ⟨hy3, hG, hH⟩ := h3
      rw [Array.setIfInBounds_comm _ _ (Ne.symm hji)] at hG hH
      exact ⟨back hG, ih (listed.setIfInBounds j true) a' w' hfree' (ready_mono hr (Ne.symm hji)) hy3 (back hG) hH⟩
theorem wpAnyL_take0 {i : Nat} {oi : Oper} {v : Value} {fuel : Nat} {listed : Array Bool} {a : Act} {w : World} (hi : ops[i]? = some oi) (hki : i ≠ k)
    (hs : Region.noSelect ops = true) (hf : Region.free md ops listed i = true) (hr : (Region.ready md ops listed).contains i = true)
    (hQ : ∀ c a w, Q (.panic c) (a.put oi.dst v) w → Q (.panic c) a w) (hy : YieldsIf P ops (fun _ => True) oi v a) (hS : Gate S0 S1 k listed w)
    (h : wpAnyL P md ops Q S0 S1 k fuel (listed.setIfInBounds i true) (a.put oi.dst v) w) : wpAnyL P md ops Q S0 S1 k (fuel + 1) listed a w :=
  wpAnyL_first0 hi hki (Region.noSelect_spec hs) hQ fuel listed a w (Region.free_spec hi hf) (by simpa using hr) hy hS h
/-- Whichever may come up comes up: behind it the gated condition is to be shown anew. -/
theorem wpAnyL_all {rs : List Nat} {fuel : Nat} {listed : Array Bool} {a : Act} {w : World} (hr : Region.ready md ops listed = rs) (hne : rs ≠ [])
    (h : ∀ i ∈ rs, wpOp P ops Q i (fun a' w' => Gate S0 S1 k (listed.setIfInBounds i true) w' ∧ wpAnyL P md ops Q S0 S1 k fuel (listed.setIfInBounds i true) a' w') a w) : wpAnyL P md ops Q S0 S1 k (fuel + 1) listed a w :=
  ⟨fun h0 => absurd (hr ▸ h0) hne, hr ▸ h⟩
/-- One alone may come up: it is carried out, and behind it the gated condition is shown. -/
theorem wpAnyL_one {i : Nat} {o : Oper} {fuel : Nat} {listed : Array Bool} {a : Act} {w : World} (hr : Region.ready md ops listed = [i]) (ho : ops[i]? = some o)
    (h : ∀ K' : Act → World → Prop, Shut (∀ a w, Gate S0 S1 k (listed.setIfInBounds i true) w → wpAnyL P md ops Q S0 S1 k fuel (listed.setIfInBounds i true) a w → K' a w) → if Region.wanted o (yielded ops a.tmps) = true then Oper.wp P o a w K' Q else K' (a.put o.dst undef) w) :
    wpAnyL P md ops Q S0 S1 k (fuel + 1) listed a w :=
  wpAnyL_all hr (by simp) (fun j hj => by
    have hj := List.mem_singleton.1 hj
    subst hj
    exact wpOp_step ho (fun K' hK => h K' (fun a w hG hW => hK a w ⟨hG, hW⟩)))
theorem wpAnyL_done {listed : Array Bool} {a : Act} {w : World} (hr : Region.ready md ops listed = []) (h : Q .normal a w) :
    ∀ fuel, wpAnyL P md ops Q S0 S1 k fuel listed a w
  | 0 => ⟨hr, h⟩
  | _ + 1 => ⟨fun _ => h, by rw [hr]; simp⟩
/-- The beginning. -/
theorem wp_region_gate {id : Nat} {a : Act} {w : World} (hm : P.follows .mixedOrders = true)
    (h : wpAnyL P .any ops Q S0 S1 k ops.size (Array.replicate ops.size false) a { w with drawn := w.drawn + 1 }) : (Code.region id ops true).wp P Q a w :=
  wp_region_any hm (wpAny_of_L _ _ _ _ h)
end
end Go.Proofs.YtckjbgneblfceaaDoor.Lw
