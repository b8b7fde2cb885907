/- A part of the proof that FnHandleScript answers true for every file and all steps. -/
import Derived.OrdersHeld
import Derived.Deep.RegionHeld
import Derived.KernelRfl
import Derived.Test.YtljcdjggjphedaaDoorZE
import Derived.Deep.RegionHeld3
import Derived.StillTailTactics
import Derived.IntWalk
namespace Go.Proofs.YtljcdjggjphedaaDoor.Lw
open Go
section
variable {P : Program} {ops : Array Oper} {Q : Exit → Act → World → Prop} {md : Region.Mode} {S0 S1 : World → Prop} {k : Nat}
/-- What is held: S1 always, S0 until number k has come up. -/
def Gate (S0 S1 : World → Prop) (k : Nat) (L : Array Bool) (w : World) : Prop := S1 w ∧ (L.getD k false = false → S0 w)
/-- Whatever order is picked from here on, and the gated condition holds behind every operation. -/
def wpAnyL (P : Program) (md : Region.Mode) (ops : Array Oper) (Q : Exit → Act → World → Prop) (S0 S1 : World → Prop) (k : Nat) : Nat → Array Bool → Act → World → Prop
  | 0, listed, a, w => Region.ready md ops listed = [] ∧ Q .normal a w
  | fuel + 1, listed, a, w =>
    (Region.ready md ops listed = [] → Q .normal a w) ∧
    ∀ i ∈ Region.ready md ops listed, wpOp P ops Q i (fun a' w' => Gate S0 S1 k (listed.setIfInBounds i true) w' ∧ wpAnyL P md ops Q S0 S1 k fuel (listed.setIfInBounds i true) a' w') a w
theorem wpAny_of_L : ∀ (fuel : Nat) (listed : Array Bool) (a : Act) (w : World), wpAnyL P md ops Q S0 S1 k fuel listed a w → wpAny P md ops Q fuel listed a w
  | 0, _, _, _, h => h
  | fuel + 1, _, _, _, h => ⟨h.1, fun i hi => wpOp_mono (fun a' w' h' => wpAny_of_L fuel _ a' w' h'.2) (h.2 i hi)⟩
theorem getD_ff {L : Array Bool} {i : Nat} (h : L.getD i true = false) : L.getD i false = false := by
  rcases Nat.lt_or_ge i L.size with h' | h'
  · simp [h'] at h ⊢; exact h
  · simp [Array.getElem?_eq_none h']
theorem getD_ne {L : Array Bool} {i j : Nat} (d : Bool) (h : i ≠ j) : (L.setIfInBounds i true).getD j d = L.getD j d := by
  simp [Array.getElem?_setIfInBounds_ne h]
/-- An operation that the gate waits for may be taken first. -/
theorem wpAnyL_first {i : Nat} {oi ok : Oper} {v : Value} (hi : ops[i]? = some oi) (hok : ops[k]? = some ok) (hki : i ≠ k) (hwait : ∃ e ∈ ok.after, Region.binds md e = true ∧ e.on = i)
    (hsel : ∀ (j : Nat) (o : Oper) cs b, ops[j]? = some o → o.op ≠ .select cs b)
    (hQ : ∀ c a w, Q (.panic c) (a.put oi.dst v) w → Q (.panic c) a w) :
    ∀ (fuel : Nat) (listed : Array Bool) (a : Act) (w : World),
      (∀ j oj, ops[j]? = some oj → j ≠ i → listed.getD j true = false → (∀ e ∈ oj.after, Region.binds md e = true → e.on ≠ i) → oi.apart ops oj = true) →
      i ∈ Region.ready md ops listed → listed.getD k false = false → YieldsIf P ops S0 oi v a → S0 w → S1 w →
      wpAnyL P md ops Q S0 S1 k fuel (listed.setIfInBounds i true) (a.put oi.dst v) w → wpAnyL P md ops Q S0 S1 k (fuel + 1) listed a w := by
  intro fuel
  have gate : ∀ {L : Array Bool} {j : Nat}, i ∈ Region.ready md ops L → j ∈ Region.ready md ops L → j ≠ k := fun hr hj hjk => by
    obtain ⟨e, he, hb, hon⟩ := hwait
    obtain ⟨_, oj, hoj, hall⟩ := mem_ready.1 hj
    rw [hjk, hok] at hoj
    injection hoj with hoj
    have h1 := hall e (hoj ▸ he) hb
    rw [hon] at h1
    rw [getD_ff (mem_ready.1 hr).1] at h1
    cases h1
  induction fuel with
  | zero =>
    intro listed a w _ hr hk hy hS hS1 H
    refine ⟨fun h => (by rw [h] at hr; cases hr), fun j hj => ?_⟩
    by_cases hji : j = i
    · subst hji; exact hy.wpOp hi hS ⟨⟨hS1, fun _ => hS⟩, H⟩
    · have := ready_mono hj hji
      rw [H.1] at this
      cases this
  | succ fuel ih =>
    intro listed a w hfree hr hk hy hS hS1 H
    refine ⟨fun h => (by rw [h] at hr; cases hr), fun j hj => ?_⟩
    by_cases hji : j = i
    · subst hji; exact hy.wpOp hi hS ⟨⟨hS1, fun _ => hS⟩, H⟩
    · have hjk : j ≠ k := gate hr hj
      have h1 := H.2 j (ready_mono hj hji)
      obtain ⟨hjun, oj, hoj, hall⟩ := mem_ready.1 hj
      have hnot : ∀ e ∈ oj.after, Region.binds md e = true → e.on ≠ i := fun e he hb heq => by
        have h1 := hall e he hb
        rw [heq, getD_ff (mem_ready.1 hr).1] at h1
        cases h1
      have h2 := wpOp_putIf hoj (hfree j oj hoj hji hjun hnot) (fun cs b => hsel i oi cs b hi) (fun cs b => hsel j oj cs b hoj) hQ hy h1
      have hfree' : ∀ n on, ops[n]? = some on → n ≠ i → (listed.setIfInBounds j true).getD n true = false →
          (∀ e ∈ on.after, Region.binds md e = true → e.on ≠ i) → oi.apart ops on = true := fun n on hn hni hun hno => by
        refine hfree n on hn hni ?_ hno
        by_cases hjn : j = n
        · subst hjn; exact hjun
        · rw [getD_set_ne true hjn] at hun; exact hun
      refine wpOp_mono (fun a' w' h3 => ?_) h2
      obtain ⟨hy3, hG, hH⟩ := h3
      have hS' : S0 w' := hG.2 (by rw [getD_ne false hjk, getD_ne false hki]; exact hk)
      refine ⟨⟨hG.1, fun _ => hS'⟩, ih (listed.setIfInBounds j true) a' w' hfree' (ready_mono hr (Ne.symm hji)) (by rw [getD_ne false hjk]; exact hk) hy3 hS' hG.1 ?_⟩
      rw [Array.setIfInBounds_comm _ _ hji]
      exact hH
/-- Take number i first: a load that the gate waits for. -/
theorem wpAnyL_take {i : Nat} {oi ok : Oper} {v : Value} {fuel : Nat} {listed : Array Bool} {a : Act} {w : World} (hi : ops[i]? = some oi) (hok : ops[k]? = some ok)
    (hw : (decide (i ≠ k) && ok.after.any (fun e => Region.binds md e && decide (e.on = i)) && !listed.getD k false) = true)
    (hs : Region.noSelect ops = true) (hf : Region.free md ops listed i = true) (hr : (Region.ready md ops listed).contains i = true)
    (hQ : ∀ c a w, Q (.panic c) (a.put oi.dst v) w → Q (.panic c) a w) (hy : YieldsIf P ops S0 oi v a) (hS : S0 w) (hS1 : S1 w)
    (h : wpAnyL P md ops Q S0 S1 k fuel (listed.setIfInBounds i true) (a.put oi.dst v) w) : wpAnyL P md ops Q S0 S1 k (fuel + 1) listed a w := by
  simp only [Bool.and_eq_true, decide_eq_true_eq, Array.any_eq_true, Bool.not_eq_true'] at hw
  obtain ⟨⟨h1, n, hn, h2, h3⟩, h4⟩ := hw
  exact wpAnyL_first hi hok h1 ⟨_, Array.getElem_mem hn, h2, h3⟩ (Region.noSelect_spec hs) hQ fuel listed a w (Region.free_spec hi hf) (by simpa using hr) h4 hy hS hS1 h
/-- An operation that yields in whatever world may be taken first, though the gate does not wait for it. -/
theorem wpAnyL_first0 {i : Nat} {oi : Oper} {v : Value} (hi : ops[i]? = some oi) (hki : i ≠ k)
    (hsel : ∀ (j : Nat) (o : Oper) cs b, ops[j]? = some o → o.op ≠ .select cs b)
    (hQ : ∀ c a w, Q (.panic c) (a.put oi.dst v) w → Q (.panic c) a w) :
    ∀ (fuel : Nat) (listed : Array Bool) (a : Act) (w : World),
      (∀ j oj, ops[j]? = some oj → j ≠ i → listed.getD j true = false → (∀ e ∈ oj.after, Region.binds md e = true → e.on ≠ i) → oi.apart ops oj = true) →
      i ∈ Region.ready md ops listed → YieldsIf P ops (fun _ => True) oi v a → Gate S0 S1 k listed w →
      wpAnyL P md ops Q S0 S1 k fuel (listed.setIfInBounds i true) (a.put oi.dst v) w → wpAnyL P md ops Q S0 S1 k (fuel + 1) listed a w := by
  intro fuel
  have same : ∀ {L : Array Bool} {w : World}, Gate S0 S1 k L w → Gate S0 S1 k (L.setIfInBounds i true) w := fun h => ⟨h.1, fun h0 => h.2 (by rw [getD_ne false hki] at h0; exact h0)⟩
  have back : ∀ {L : Array Bool} {w : World}, Gate S0 S1 k (L.setIfInBounds i true) w → Gate S0 S1 k L w := fun h => ⟨h.1, fun h0 => h.2 (by rw [getD_ne false hki]; exact h0)⟩
  induction fuel with
  | zero =>
    intro listed a w _ hr hy hS H
    refine ⟨fun h => (by rw [h] at hr; cases hr), fun j hj => ?_⟩
    by_cases hji : j = i
    · subst hji; exact hy.wpOp hi trivial ⟨same hS, H⟩
    · have := ready_mono hj hji
      rw [H.1] at this
      cases this
  | succ fuel ih =>
    intro listed a w hfree hr hy hS H
    refine ⟨fun h => (by rw [h] at hr; cases hr), fun j hj => ?_⟩
    by_cases hji : j = i
    · subst hji; exact hy.wpOp hi trivial ⟨same hS, H⟩
    · have h1 := H.2 j (ready_mono hj hji)
      obtain ⟨hjun, oj, hoj, hall⟩ := mem_ready.1 hj
      have hnot : ∀ e ∈ oj.after, Region.binds md e = true → e.on ≠ i := fun e he hb heq => by
        have h1 := hall e he hb
        rw [heq, getD_ff (mem_ready.1 hr).1] at h1
        cases h1
      have h2 := wpOp_putIf hoj (hfree j oj hoj hji hjun hnot) (fun cs b => hsel i oi cs b hi) (fun cs b => hsel j oj cs b hoj) hQ hy h1
      have hfree' : ∀ n on, ops[n]? = some on → n ≠ i → (listed.setIfInBounds j true).getD n true = false →
          (∀ e ∈ on.after, Region.binds md e = true → e.on ≠ i) → oi.apart ops on = true := fun n on hn hni hun hno => by
        refine hfree n on hn hni ?_ hno
        by_cases hjn : j = n
        · subst hjn; exact hjun
        · rw [getD_set_ne true hjn] at hun; exact hun
      refine wpOp_mono (fun a' w' h3 => ?_) h2
      obtain ⟨hy3, hG, hH⟩ := h3
      rw [Array.setIfInBounds_comm _ _ (Ne.symm hji)] at hG hH
      exact ⟨back hG, ih (listed.setIfInBounds j true) a' w' hfree' (ready_mono hr (Ne.symm hji)) hy3 (back hG) hH⟩
theorem wpAnyL_take0 {i : Nat} {oi : Oper} {v : Value} {fuel : Nat} {listed : Array Bool} {a : Act} {w : World} (hi : ops[i]? = some oi) (hki : i ≠ k)
    (hs : Region.noSelect ops = true) (hf : Region.free md ops listed i = true) (hr : (Region.ready md ops listed).contains i = true)
    (hQ : ∀ c a w, Q (.panic c) (a.put oi.dst v) w → Q (.panic c) a w) (hy : YieldsIf P ops (fun _ => True) oi v a) (hS : Gate S0 S1 k listed w)
    (h : wpAnyL P md ops Q S0 S1 k fuel (listed.setIfInBounds i true) (a.put oi.dst v) w) : wpAnyL P md ops Q S0 S1 k (fuel + 1) listed a w :=
  wpAnyL_first0 hi hki (Region.noSelect_spec hs) hQ fuel listed a w (Region.free_spec hi hf) (by simpa using hr) hy hS h
/-- Whichever may come up comes up: behind it the gated condition is to be shown anew. -/
theorem wpAnyL_all {rs : List Nat} {fuel : Nat} {listed : Array Bool} {a : Act} {w : World} (hr : Region.ready md ops listed = rs) (hne : rs ≠ [])
    (h : ∀ i ∈ rs, wpOp P ops Q i (fun a' w' => Gate S0 S1 k (listed.setIfInBounds i true) w' ∧ wpAnyL P md ops Q S0 S1 k fuel (listed.setIfInBounds i true) a' w') a w) : wpAnyL P md ops Q S0 S1 k (fuel + 1) listed a w :=
  ⟨fun h0 => absurd (hr ▸ h0) hne, hr ▸ h⟩
/-- One alone may come up: it is carried out, and behind it the gated condition is shown. -/
theorem wpAnyL_one {i : Nat} {o : Oper} {fuel : Nat} {listed : Array Bool} {a : Act} {w : World} (hr : Region.ready md ops listed = [i]) (ho : ops[i]? = some o)
    (h : ∀ K' : Act → World → Prop, Shut (∀ a w, Gate S0 S1 k (listed.setIfInBounds i true) w → wpAnyL P md ops Q S0 S1 k fuel (listed.setIfInBounds i true) a w → K' a w) → if Region.wanted o (yielded ops a.tmps) = true then Oper.wp P o a w K' Q else K' (a.put o.dst undef) w) :
    wpAnyL P md ops Q S0 S1 k (fuel + 1) listed a w :=
  wpAnyL_all hr (by simp) (fun j hj => by
    have hj := List.mem_singleton.1 hj
    subst hj
    exact wpOp_step ho (fun K' hK => h K' (fun a w hG hW => hK a w ⟨hG, hW⟩)))
theorem wpAnyL_done {listed : Array Bool} {a : Act} {w : World} (hr : Region.ready md ops listed = []) (h : Q .normal a w) :
    ∀ fuel, wpAnyL P md ops Q S0 S1 k fuel listed a w
  | 0 => ⟨hr, h⟩
  | _ + 1 => ⟨fun _ => h, by rw [hr]; simp⟩
/-- The beginning. -/
theorem wp_region_gate {id : Nat} {a : Act} {w : World} (hm : P.follows .mixedOrders = true)
    (h : wpAnyL P .any ops Q S0 S1 k ops.size (Array.replicate ops.size false) a { w with drawn := w.drawn + 1 }) : (Code.region id ops true).wp P Q a w :=
  wp_region_any hm (wpAny_of_L _ _ _ _ h)
end
end Go.Proofs.YtljcdjggjphedaaDoor.Lw
namespace Go.Proofs.YtljcdjggjphedaaDoor.Mw
open Go.RowKit Go.Maps Go.Proofs.YtljcdjggjphedaaDoorW.PrintWords Go.Proofs.YtljcdjggjphedaaDoorW.PrintLast Go.Proofs.YtljcdjggjphedaaDoorW.PrintMore Go.Proofs.YtljcdjggjphedaaDoor.PFnHandleScript Go.Proofs.YtljcdjggjphedaaDoor.Hd Go.Proofs.YtljcdjggjphedaaDoor.Ms Go.Proofs.YtljcdjggjphedaaDoor.Mn Go.Proofs.YtljcdjggjphedaaDoor.Pm Go.Proofs.YtljcdjggjphedaaDoor.Mf Go.Proofs.YtljcdjggjphedaaDoor.Mq Go.Proofs.YtljcdjggjphedaaDoor.Bq Go.Proofs.YtljcdjggjphedaaDoor.Mr Go.Proofs.YtljcdjggjphedaaDoor.Mt Go.Proofs.YtljcdjggjphedaaDoor.Mu Go.Proofs.YtljcdjggjphedaaDoor.Mv Go.Proofs.YtljcdjggjphedaaDoor.Ml
set_option linter.unusedVariables false
set_option linter.unusedSimpArgs false
/-- What a step on a file leaves: its answer, and the file system turned. -/
def FilePost (w : World) (base : Nat) (ft : Nat → Prop) (m : Nat) (vN vA : Value) (mb n : Nat) (f : Lit → Option Nat) (X' : SMem) (x : S33) (e : Ending) (w' : World) : Prop :=
  ∃ v3 v4 v5 vD' ft', e = .returned (.agg #[.int .i64 x.f0, .int .i64 x.f1, .int .i64 x.f2, v3, v4, v5]) ∧ (Kd.int .u8).R 5 w' w.heap.size (fun k => ¬ ft' k) v3 x.f3 ∧ Kd.string.R 9 w' w.heap.size (fun k => ¬ ft' k) v4 x.f4 ∧ k75.R 75 w' w.heap.size (fun k => ¬ ft' k) v5 x.f5 ∧
    IsMem w' base ft' m vN vA vD' mb n f X' ∧ Moves ft w w' ∧ (∀ k, ft' k → ft k ∨ w.heap.size ≤ k) ∧ (∀ k, ft' k → k < w'.heap.size)
section
variable {w W2 : World} {base : Nat} {ft : Nat → Prop} {m : Nat} {vN vA vD : Value} {mb n : Nat} {f : Lit → Option Nat} {X : SMem} {g : Nat} {h : SHnd} {gd cap i : Nat} {s : S26} {A6 : Option Addr} {c6 : Nat}
theorem node_at (M : IsMem w base ft m vN vA vD mb n f X) (i : Nat) (hi : i < X.nodes.length) : ∃ gd cap A2 c2, vD = .slice (some ⟨gd, 0, none⟩) X.nodes.length cap ∧ X.nodes.length ≤ cap ∧ ft gd ∧ w.cell? ⟨gd, i * 5, none⟩ = some (.bool (nodeOf X i).f0) ∧ w.cell? ⟨gd, i * 5 + 1, none⟩ = some (.int .i64 (nodeOf X i).f1) ∧ w.cell? ⟨gd, i * 5 + 2, none⟩ = some (.slice A2 (nodeOf X i).f2.length c2) ∧ w.cell? ⟨gd, i * 5 + 3, none⟩ = some (.int .i64 (nodeOf X i).f3) ∧ w.cell? ⟨gd, i * 5 + 4, none⟩ = some (.string (nodeOf X i).f4) ∧ (nodeOf X i).f2.length ≤ c2 ∧ (Kd.int .u8).C w A2 (nodeOf X i).f2.length (nodeOf X i).f2 ∧ (∀ j, w.frozen? ⟨gd, i * 5 + j, none⟩ = false) ∧ ∃ cells, w.heap[gd]? = some (.cells cells 42 (0, 0)) := by
  have hR := M.rD
  obtain ⟨gd, cap, hv, hb, hlt, cells, hblk⟩ := Kd.R_form hR (by omega)
  rw [hv] at hR
  obtain ⟨hn, hcap, _⟩ := Kd.R_reads' hR
  obtain ⟨c, hcl, hM, hcell, hfz⟩ := Kd.R_elem hR z42 (i : Int) (by omega) (by omega)
  rw [Int.toNat_natCast] at hcell hfz hM
  obtain ⟨A2, c2, hc, l2, g2⟩ := k42_open (k42.K_of_M hM)
  subst hc
  exact ⟨gd, cap, A2, c2, hv, hcap, hR.1 gd (by simp [Value.ownBlock]), hcell 0 _ rfl, hcell 1 _ rfl, hcell 2 _ rfl, hcell 3 _ rfl, hcell 4 _ rfl, l2, g2, hfz, cells, hblk⟩
noncomputable def hX (X : SMem) (kl : Lit) (h' : SHnd) : SMem := ⟨X.names, X.ats, X.nodes, upS X.hs kl h'⟩
def nX (X : SMem) (i : Nat) (x' : S42) : SMem := ⟨X.names, X.ats, X.nodes.set i x', X.hs⟩
theorem nX_same (X : SMem) (i : Nat) (hi : i < X.nodes.length) : nX X i (nodeOf X i) = X := by
  unfold nX nodeOf rd_T42
  rw [Int.toNat_natCast, List.getD_eq_getElem?_getD, List.getElem?_eq_getElem hi]
  simp
theorem IsMem.hsetX (M : IsMem w base ft m vN vA vD mb n f X) {kl : Lit} (hkl : WideAt.IsKeyLit kl) {g : Nat} {h h' : SHnd} (hf : f kl = some g) (hg : w.heap[g]? = some (.cells (shcs h) 49 (0, 0))) (j : Nat) (u : Value) (e : (shcs h).setIfInBounds j u = shcs h') :
    IsMem (w.setCell ⟨g, j, none⟩ u) base ft m vN vA vD mb n f (hX X kl h') := IsMem.hset M hkl hf hg j u e
/-- A node's time. -/
theorem IsMem.nset3 (M : IsMem w base ft m vN vA vD mb n f X) {gd cap : Nat} (hv : vD = .slice (some ⟨gd, 0, none⟩) X.nodes.length cap) (i : Nat) (hi : i < X.nodes.length) (t : Int) :
    IsMem (w.setCell ⟨gd, i * 5 + 3, none⟩ (.int .i64 t)) base ft m vN vA vD mb n f (nX X i { nodeOf X i with f3 := t }) :=
  IsMem.nset M hv i hi 3 (.int .i64 t) _ (okp := fun k => ft k ∧ k ≠ gd) (fun c hc hM => by
    obtain ⟨v2, rfl, g2⟩ := k42_openM hM
    exact k42_mkM w base _ { nodeOf X i with f3 := t } g2) (by omega) (fun k hk => hk)
/-- A node's bytes: another row. -/
theorem IsMem.nset2 (M : IsMem w base ft m vN vA vD mb n f X) {gd cap : Nat} (hv : vD = .slice (some ⟨gd, 0, none⟩) X.nodes.length cap) (i : Nat) (hi : i < X.nodes.length) (v' : Value) (data' : List Int) {ok : Nat → Prop} (hR : (Kd.int .u8).R 5 w base ok v' data') :
    IsMem (w.setCell ⟨gd, i * 5 + 2, none⟩ v') base (fun k => ft k ∨ some k = v'.ownBlock) m vN vA vD mb n f (nX X i { nodeOf X i with f2 := data' }) := by
  have hRD := M.rD
  rw [hv] at hRD
  obtain ⟨g', cap', ef, _, _, cells, hblk⟩ := Kd.R_form hRD (by omega)
  injection ef with ef1 _ _
  have eg : gd = g' := by injection ef1 with ef1; injection ef1
  subst eg
  have hne := Kd.R_ne hR hblk (by decide)
  exact IsMem.nset (IsMem.mono M (ft' := fun k => ft k ∨ some k = v'.ownBlock) (fun k hk => .inl hk)) hv i hi 2 v' _ (okp := fun k => (ft k ∨ some k = v'.ownBlock) ∧ k ≠ gd) (fun c hc hM => by
    obtain ⟨v2, rfl, g2⟩ := k42_openM hM
    exact k42_mkM w base _ { nodeOf X i with f2 := data' } (Kd.R_mono (ok' := fun k => (ft k ∨ some k = v'.ownBlock) ∧ k ≠ gd) (Kd.R_tight rfl hR) (fun k hk => ⟨.inr hk, fun e => hne (by rw [← e]; exact hk)⟩))) (by omega) (fun k hk => hk)
end
section
variable {w : World} {base : Nat} {ft : Nat → Prop} {m : Nat} {vN vA vD : Value} {mb n : Nat} {f : Lit → Option Nat} {X : SMem}
set_option maxHeartbeats 4000000 in
set_option maxRecDepth 100000 in
theorem file_close (M : IsMem w base ft m vN vA vD mb n f X) (hft : ∀ k, ft k → k < w.heap.size) (kl : Lit) (hkl : WideAt.IsKeyLit kl) (g : Nat) (h : SHnd) (hf : f kl = some g) (hg : w.heap[g]? = some (.cells (shcs h) 49 (0, 0))) (hfg : ft g) (i : Nat) (hi : h.node = i) (hil : i < X.nodes.length) (hL : X.nodes.length ≤ 100000) (s : S26) (A6 : Option Addr) (c6 : Nat) (hl6 : s.f6.length ≤ c6) (hC6 : (Kd.int .u8).C w A6 s.f6.length s.f6) (hop : s.f0 = 18) :
    Calls Tryd.prog 34 #[.pointer (some ⟨m, 0, none⟩), .pointer (some ⟨g, 0, none⟩), stepA s A6 c6] w (FilePost w base ft m vN vA mb n f (nX (hX X kl { h with closed := true }) i { nodeOf X i with f3 := if h.ro then (nodeOf X i).f3 else 0 }) (ans 0 0 0 [])) := by
  obtain ⟨X', hX'⟩ : ∃ X', X' = (nX (hX X kl { h with closed := true }) i { nodeOf X i with f3 := if h.ro then (nodeOf X i).f3 else 0 }) := ⟨_, rfl⟩
  obtain ⟨a', ha'⟩ : ∃ a', a' = (ans 0 0 0 []) := ⟨_, rfl⟩
  rw [← ha', ← hX']
  have HX := Lib.hid hX'
  have HA := Lib.hid ha'
  clear hX' ha'
  obtain ⟨gd, cap, A2, c2, hv, hlc, hgd, p0o, p1o, p2o, p3o, p4o, l2, g2, pz, ncs, hnb⟩ := node_at M i hil
  have c2' := M.c2
  rw [hv] at c2'
  have h0 := blk_cell hg 0
  have h1o := blk_cell hg 1
  have h2o := blk_cell hg 2
  have h3o := blk_cell hg 3
  have h4o := blk_cell hg 4
  have hg1 := blk_lt hg
  have n9 : ¬ (g = gd) := fun e => by rw [← e, hg] at hnb; injection hnb with hnb; injection hnb with _ hnb; exact absurd hnb (by decide)
  have n10 : ¬ (gd = g) := fun e => n9 e.symm
  clear hnb
  have hgd1 := hft gd hgd
  have hil' : (i : Int) < (X.nodes.length : Int) := by omega
  obtain ⟨no, po, li, cl, ro⟩ := h
  obtain ⟨op, nm, ot, fl, pe, hh, dat, off, wh, N⟩ := s
  simp only [shcs] at h0 h1o h2o h3o h4o
  simp only at hi hop hl6 hC6
  subst hi
  subst hop
  unfold stepA
  have c2b := cellb c2' (below_alloc (below_alloc (Below.refl w.heap.size w) (.cells #[.int .i64 18, .string nm, .string ot, .int .i64 fl, .int .i64 pe, .int .i64 hh, .slice A6 dat.length c6, .int .i64 off, .int .i64 wh, .int .i64 N] 26)) (.cells #[.int .i64 0, .int .i64 0, .int .i64 0, .slice none 0 0, .slice none 0 0, .slice none 0 0] 33))
  have h0b := cellb h0 (below_alloc (below_alloc (Below.refl w.heap.size w) (.cells #[.int .i64 18, .string nm, .string ot, .int .i64 fl, .int .i64 pe, .int .i64 hh, .slice A6 dat.length c6, .int .i64 off, .int .i64 wh, .int .i64 N] 26)) (.cells #[.int .i64 0, .int .i64 0, .int .i64 0, .slice none 0 0, .slice none 0 0, .slice none 0 0] 33))
  have HM := Lib.hid M
  have HF := Lib.hid hf
  have HG := Lib.hid hg
  have HFT := Lib.hid hft
  have HV := Lib.hid hv
  have HC6 := Lib.hid hC6
  have HG2 := Lib.hid g2
  have HPZ := Lib.hid pz
  have HND := Lib.hid (show nodeOf X (i : Int) = nodeOf X (i : Int) from rfl)
  clear M hf hg hft hv hC6 g2 pz c2' h0
  generalize hLn : X.nodes.length = L at *
  have HLN := Lib.hid hLn
  clear hLn
  generalize hnd : nodeOf X (i : Int) = nd at *
  have HNO := Lib.hid hnd
  clear hnd HND
  obtain ⟨dir, mode, data, time, name⟩ := nd
  simp only at p0o p1o p2o p3o p4o l2 HG2
  go_enter Tryd.func34, Tryd.ntmps34
  go_wp2_with fail
  go_quiet (fail)
  obtain ⟨W2, hW2⟩ : ∃ W2, W2 = World.drewN ((w.alloc (.cells #[.int .i64 18, .string nm, .string ot, .int .i64 fl, .int .i64 pe, .int .i64 hh, .slice A6 dat.length c6, .int .i64 off, .int .i64 wh, .int .i64 N] 26)).alloc (.cells #[.int .i64 0, .int .i64 0, .int .i64 0, .slice none 0 0, .slice none 0 0, .slice none 0 0] 33)) nq := ⟨_, rfl⟩
  rw [← hW2]
  have BW : Below w.heap.size w W2 := by rw [hW2]; exact pw_below_drewN (below_alloc (below_alloc (Below.refl _ _) _) _) _
  have b1 : W2.heap[w.heap.size]? = some (.cells #[.int .i64 18, .string nm, .string ot, .int .i64 fl, .int .i64 pe, .int .i64 hh, .slice A6 dat.length c6, .int .i64 off, .int .i64 wh, .int .i64 N] 26 (0, 0)) := by rw [hW2]; exact blk_drewN (blk_alloc (blk_new _ _) _) _
  have b2 : W2.heap[w.heap.size + 1]? = some (.cells #[.int .i64 0, .int .i64 0, .int .i64 0, .slice none 0 0, .slice none 0 0, .slice none 0 0] 33 (0, 0)) := by rw [hW2]; exact blk_drewN (blk_at_ (by simp)) _
  have hsz2 : W2.heap.size = w.heap.size + 2 := by rw [hW2]; simp [World.drewN]
  have k0 := blk_cell b1 0
  have k1 := blk_cell b1 1
  have k2 := blk_cell b1 2
  have k3 := blk_cell b1 3
  have k4 := blk_cell b1 4
  have k5 := blk_cell b1 5
  have k6 := blk_cell b1 6
  have k7 := blk_cell b1 7
  have k8 := blk_cell b1 8
  have k9 := blk_cell b1 9
  have q0 := blk_cell b2 0
  have q1 := blk_cell b2 1
  have q2 := blk_cell b2 2
  have q3 := blk_cell b2 3
  have q4 := blk_cell b2 4
  have q5 := blk_cell b2 5
  have zq := blk_frozen b2
  have zg := blk_frozen (blk_below HG.out BW)
  have zd := fun j => (show W2.frozen? ⟨gd, i * 5 + j, none⟩ = false by rw [← HPZ.out j]; exact BW.frozen (p := ⟨gd, i * 5 + j, none⟩) hgd1)
  have h1 := cellb h1o BW
  have h2 := cellb h2o BW
  have h3 := cellb h3o BW
  have h4 := cellb h4o BW
  have p0 := cellb p0o BW
  have p1 := cellb p1o BW
  have p2 := cellb p2o BW
  have p3 := cellb p3o BW
  have p4 := cellb p4o BW
  have HB := Lib.hid BW
  have HM2 := Lib.hid (HM.out.below BW)
  have HGH := Lib.hid (blk_below HG.out BW)
  have HO := Lib.hid b2
  have HS2 := Lib.hid hsz2
  have n1 : ¬ (g = w.heap.size + 1) := by omega
  have n2 : ¬ (gd = w.heap.size + 1) := by omega
  have n3 : ¬ (w.heap.size + 1 = g) := by omega
  have n4 : ¬ (w.heap.size + 1 = gd) := by omega
  have n5 : ¬ (g = w.heap.size) := by omega
  have n6 : ¬ (gd = w.heap.size) := by omega
  have n7 : ¬ (w.heap.size = g) := by omega
  have n8 : ¬ (w.heap.size = gd) := by omega
  clear hW2 BW b1 b2 c2b h0b hsz2 hg1 hgd1 h1o h2o h3o h4o p0o p1o p2o p3o p4o
  simp at k0 k1 k2 k3 k4 k5 k6 k7 k8 k9 q0 q1 q2 q3 q4 q5 h1 h2 h3 h4
  cases ro with
  | true =>
    go_wp2_with fail
    have hX2 := HX.out
    have hA2 := HA.out
    try simp only [if_true, if_false, Bool.false_eq_true, reduceIte] at hX2 hA2
    rw [hX2, hA2]
    have hfar : ¬ ft (w.heap.size + 1) := fun hk => absurd (HFT.out _ hk) (by omega)
    have hM2 : Moves ft w W2 := Moves.of_below HB.out ft
    have E0 := IsMem.hsetX HM2.out hkl HF.out HGH.out 3 (.bool true) (h' := ⟨(i : Int), po, li, true, true⟩) rfl
    have E1 : IsMem (W2.setCell ⟨g, 3, none⟩ (.bool true)) base ft m vN vA vD mb n f (nX (hX X kl ⟨(i : Int), po, li, true, true⟩) i ⟨dir, mode, data, time, name⟩) := by
      have e := nX_same (hX X kl ⟨(i : Int), po, li, true, true⟩) i (by show i < X.nodes.length; have := HLN.out; omega)
      have e2 : nodeOf (hX X kl ⟨(i : Int), po, li, true, true⟩) (i : Int) = ⟨dir, mode, data, time, name⟩ := HNO.out
      rw [e2] at e
      rw [e]
      exact E0
    refine bodyPost_ret (v := .agg #[.int .i64 0, .int .i64 0, .int .i64 0, .slice none 0 0, .slice none 0 0, .slice none 0 0]) (by simp [results, Tryd.results34, go_sem, n1, n2, n3, n4, q0, q1, q2, q3, q4, q5]) rfl ?_
    refine ⟨_, _, _, vD, ft, rfl, Kd.R_nil _ _ _ _ _, Kd.R_nil _ _ _ _ _, Kd.R_nil _ _ _ _ _, ?_, ?_, fun k hk => .inl hk, fun k hk => ?_⟩
    · repeat (first | with_reducible exact E1 | with_reducible refine IsMem.far (p := ⟨w.heap.size + 1, _, none⟩) ?_ hfar _)
    · repeat (first | with_reducible exact hM2 | with_reducible refine Moves.setCell (p := ⟨g, _, none⟩) ?_ (.inl hfg) _ | with_reducible refine Moves.setCell (p := ⟨gd, _, none⟩) ?_ (.inl hgd) _ | with_reducible refine Moves.setCell (p := ⟨w.heap.size + 1, _, none⟩) ?_ (.inr (Nat.le_succ _)) _)
    · have := HFT.out k hk
      have := HS2.out
      simp [World.setCell]
      omega
  | false =>
    go_wp2_with fail
    have hX2 := HX.out
    have hA2 := HA.out
    try simp only [if_true, if_false, Bool.false_eq_true, reduceIte] at hX2 hA2
    rw [hX2, hA2]
    have hfar : ¬ ft (w.heap.size + 1) := fun hk => absurd (HFT.out _ hk) (by omega)
    have hM2 : Moves ft w W2 := Moves.of_below HB.out ft
    have E0 := IsMem.hsetX HM2.out hkl HF.out HGH.out 3 (.bool true) (h' := ⟨(i : Int), po, li, true, false⟩) rfl
    have E1 := IsMem.nset3 E0 (by rw [HV.out]; show Value.slice _ L cap = Value.slice _ X.nodes.length cap; rw [HLN.out]) i (by show i < X.nodes.length; have := HLN.out; omega) 0
    have e2 : nodeOf (hX X kl ⟨(i : Int), po, li, true, false⟩) (i : Int) = ⟨dir, mode, data, time, name⟩ := HNO.out
    rw [e2] at E1
    refine bodyPost_ret (v := .agg #[.int .i64 0, .int .i64 0, .int .i64 0, .slice none 0 0, .slice none 0 0, .slice none 0 0]) (by simp [results, Tryd.results34, go_sem, n1, n2, n3, n4, q0, q1, q2, q3, q4, q5]) rfl ?_
    refine ⟨_, _, _, vD, ft, rfl, Kd.R_nil _ _ _ _ _, Kd.R_nil _ _ _ _ _, Kd.R_nil _ _ _ _ _, ?_, ?_, fun k hk => .inl hk, fun k hk => ?_⟩
    · repeat (first | with_reducible exact E1 | with_reducible refine IsMem.far (p := ⟨w.heap.size + 1, _, none⟩) ?_ hfar _)
    · repeat (first | with_reducible exact hM2 | with_reducible refine Moves.setCell (p := ⟨g, _, none⟩) ?_ (.inl hfg) _ | with_reducible refine Moves.setCell (p := ⟨gd, _, none⟩) ?_ (.inl hgd) _ | with_reducible refine Moves.setCell (p := ⟨w.heap.size + 1, _, none⟩) ?_ (.inr (Nat.le_succ _)) _)
    · have := HFT.out k hk
      have := HS2.out
      simp [World.setCell]
      omega
end
end Go.Proofs.YtljcdjggjphedaaDoor.Mw
namespace Go.Proofs.YtljcdjggjphedaaDoor.Mx
open Go.RowKit Go.Maps Go.Proofs.YtljcdjggjphedaaDoorW.PrintWords Go.Proofs.YtljcdjggjphedaaDoorW.PrintLast Go.Proofs.YtljcdjggjphedaaDoorW.PrintMore Go.Proofs.YtljcdjggjphedaaDoor.PFnHandleScript Go.Proofs.YtljcdjggjphedaaDoor.Hd Go.Proofs.YtljcdjggjphedaaDoor.Ms Go.Proofs.YtljcdjggjphedaaDoor.Mn Go.Proofs.YtljcdjggjphedaaDoor.Pm Go.Proofs.YtljcdjggjphedaaDoor.Mf Go.Proofs.YtljcdjggjphedaaDoor.Mq Go.Proofs.YtljcdjggjphedaaDoor.Bq Go.Proofs.YtljcdjggjphedaaDoor.Mr Go.Proofs.YtljcdjggjphedaaDoor.Mt Go.Proofs.YtljcdjggjphedaaDoor.Mu Go.Proofs.YtljcdjggjphedaaDoor.Mv Go.Proofs.YtljcdjggjphedaaDoor.Ml Go.Proofs.YtljcdjggjphedaaDoor.Mw
set_option linter.unusedVariables false
set_option linter.unusedSimpArgs false
section
variable {w : World} {base : Nat} {ft : Nat → Prop} {m : Nat} {vN vA vD : Value} {mb n : Nat} {f : Lit → Option Nat} {X : SMem}
set_option maxHeartbeats 4000000 in
set_option maxRecDepth 100000 in
theorem file_sync (M : IsMem w base ft m vN vA vD mb n f X) (hft : ∀ k, ft k → k < w.heap.size) (kl : Lit) (hkl : WideAt.IsKeyLit kl) (g : Nat) (h : SHnd) (hf : f kl = some g) (hg : w.heap[g]? = some (.cells (shcs h) 49 (0, 0))) (hfg : ft g) (i : Nat) (hi : h.node = i) (hil : i < X.nodes.length) (hL : X.nodes.length ≤ 100000) (s : S26) (A6 : Option Addr) (c6 : Nat) (hl6 : s.f6.length ≤ c6) (hC6 : (Kd.int .u8).C w A6 s.f6.length s.f6) (hop : s.f0 = 23) :
    Calls Tryd.prog 34 #[.pointer (some ⟨m, 0, none⟩), .pointer (some ⟨g, 0, none⟩), stepA s A6 c6] w (FilePost w base ft m vN vA mb n f (X) (ans 0 0 0 [])) := by
  obtain ⟨X', hX'⟩ : ∃ X', X' = (X) := ⟨_, rfl⟩
  obtain ⟨a', ha'⟩ : ∃ a', a' = (ans 0 0 0 []) := ⟨_, rfl⟩
  rw [← ha', ← hX']
  have HX := Lib.hid hX'
  have HA := Lib.hid ha'
  clear hX' ha'
  obtain ⟨gd, cap, A2, c2, hv, hlc, hgd, p0o, p1o, p2o, p3o, p4o, l2, g2, pz, ncs, hnb⟩ := node_at M i hil
  have c2' := M.c2
  rw [hv] at c2'
  have h0 := blk_cell hg 0
  have h1o := blk_cell hg 1
  have h2o := blk_cell hg 2
  have h3o := blk_cell hg 3
  have h4o := blk_cell hg 4
  have hg1 := blk_lt hg
  have n9 : ¬ (g = gd) := fun e => by rw [← e, hg] at hnb; injection hnb with hnb; injection hnb with _ hnb; exact absurd hnb (by decide)
  have n10 : ¬ (gd = g) := fun e => n9 e.symm
  clear hnb
  have hgd1 := hft gd hgd
  have hil' : (i : Int) < (X.nodes.length : Int) := by omega
  obtain ⟨no, po, li, cl, ro⟩ := h
  obtain ⟨op, nm, ot, fl, pe, hh, dat, off, wh, N⟩ := s
  simp only [shcs] at h0 h1o h2o h3o h4o
  simp only at hi hop hl6 hC6
  subst hi
  subst hop
  unfold stepA
  have c2b := cellb c2' (below_alloc (below_alloc (Below.refl w.heap.size w) (.cells #[.int .i64 23, .string nm, .string ot, .int .i64 fl, .int .i64 pe, .int .i64 hh, .slice A6 dat.length c6, .int .i64 off, .int .i64 wh, .int .i64 N] 26)) (.cells #[.int .i64 0, .int .i64 0, .int .i64 0, .slice none 0 0, .slice none 0 0, .slice none 0 0] 33))
  have h0b := cellb h0 (below_alloc (below_alloc (Below.refl w.heap.size w) (.cells #[.int .i64 23, .string nm, .string ot, .int .i64 fl, .int .i64 pe, .int .i64 hh, .slice A6 dat.length c6, .int .i64 off, .int .i64 wh, .int .i64 N] 26)) (.cells #[.int .i64 0, .int .i64 0, .int .i64 0, .slice none 0 0, .slice none 0 0, .slice none 0 0] 33))
  have HM := Lib.hid M
  have HF := Lib.hid hf
  have HG := Lib.hid hg
  have HFT := Lib.hid hft
  have HV := Lib.hid hv
  have HC6 := Lib.hid hC6
  have HG2 := Lib.hid g2
  have HPZ := Lib.hid pz
  have HND := Lib.hid (show nodeOf X (i : Int) = nodeOf X (i : Int) from rfl)
  clear M hf hg hft hv hC6 g2 pz c2' h0
  generalize hLn : X.nodes.length = L at *
  have HLN := Lib.hid hLn
  clear hLn
  generalize hnd : nodeOf X (i : Int) = nd at *
  have HNO := Lib.hid hnd
  clear hnd HND
  obtain ⟨dir, mode, data, time, name⟩ := nd
  simp only at p0o p1o p2o p3o p4o l2 HG2
  go_enter Tryd.func34, Tryd.ntmps34
  go_wp2_with fail
  go_quiet (fail)
  obtain ⟨W2, hW2⟩ : ∃ W2, W2 = World.drewN ((w.alloc (.cells #[.int .i64 23, .string nm, .string ot, .int .i64 fl, .int .i64 pe, .int .i64 hh, .slice A6 dat.length c6, .int .i64 off, .int .i64 wh, .int .i64 N] 26)).alloc (.cells #[.int .i64 0, .int .i64 0, .int .i64 0, .slice none 0 0, .slice none 0 0, .slice none 0 0] 33)) nq := ⟨_, rfl⟩
  rw [← hW2]
  have BW : Below w.heap.size w W2 := by rw [hW2]; exact pw_below_drewN (below_alloc (below_alloc (Below.refl _ _) _) _) _
  have b1 : W2.heap[w.heap.size]? = some (.cells #[.int .i64 23, .string nm, .string ot, .int .i64 fl, .int .i64 pe, .int .i64 hh, .slice A6 dat.length c6, .int .i64 off, .int .i64 wh, .int .i64 N] 26 (0, 0)) := by rw [hW2]; exact blk_drewN (blk_alloc (blk_new _ _) _) _
  have b2 : W2.heap[w.heap.size + 1]? = some (.cells #[.int .i64 0, .int .i64 0, .int .i64 0, .slice none 0 0, .slice none 0 0, .slice none 0 0] 33 (0, 0)) := by rw [hW2]; exact blk_drewN (blk_at_ (by simp)) _
  have hsz2 : W2.heap.size = w.heap.size + 2 := by rw [hW2]; simp [World.drewN]
  have k0 := blk_cell b1 0
  have k1 := blk_cell b1 1
  have k2 := blk_cell b1 2
  have k3 := blk_cell b1 3
  have k4 := blk_cell b1 4
  have k5 := blk_cell b1 5
  have k6 := blk_cell b1 6
  have k7 := blk_cell b1 7
  have k8 := blk_cell b1 8
  have k9 := blk_cell b1 9
  have q0 := blk_cell b2 0
  have q1 := blk_cell b2 1
  have q2 := blk_cell b2 2
  have q3 := blk_cell b2 3
  have q4 := blk_cell b2 4
  have q5 := blk_cell b2 5
  have zq := blk_frozen b2
  have zg := blk_frozen (blk_below HG.out BW)
  have zd := fun j => (show W2.frozen? ⟨gd, i * 5 + j, none⟩ = false by rw [← HPZ.out j]; exact BW.frozen (p := ⟨gd, i * 5 + j, none⟩) hgd1)
  have h1 := cellb h1o BW
  have h2 := cellb h2o BW
  have h3 := cellb h3o BW
  have h4 := cellb h4o BW
  have p0 := cellb p0o BW
  have p1 := cellb p1o BW
  have p2 := cellb p2o BW
  have p3 := cellb p3o BW
  have p4 := cellb p4o BW
  have HB := Lib.hid BW
  have HM2 := Lib.hid (HM.out.below BW)
  have HGH := Lib.hid (blk_below HG.out BW)
  have HO := Lib.hid b2
  have HS2 := Lib.hid hsz2
  have n1 : ¬ (g = w.heap.size + 1) := by omega
  have n2 : ¬ (gd = w.heap.size + 1) := by omega
  have n3 : ¬ (w.heap.size + 1 = g) := by omega
  have n4 : ¬ (w.heap.size + 1 = gd) := by omega
  have n5 : ¬ (g = w.heap.size) := by omega
  have n6 : ¬ (gd = w.heap.size) := by omega
  have n7 : ¬ (w.heap.size = g) := by omega
  have n8 : ¬ (w.heap.size = gd) := by omega
  clear hW2 BW b1 b2 c2b h0b hsz2 hg1 hgd1 h1o h2o h3o h4o p0o p1o p2o p3o p4o
  simp at k0 k1 k2 k3 k4 k5 k6 k7 k8 k9 q0 q1 q2 q3 q4 q5 h1 h2 h3 h4
  go_wp2_with fail
  have hX2 := HX.out
  have hA2 := HA.out
  try simp only [if_true, if_false, Bool.false_eq_true, reduceIte] at hX2 hA2
  rw [hX2, hA2]
  have hfar : ¬ ft (w.heap.size + 1) := fun hk => absurd (HFT.out _ hk) (by omega)
  have hM2 : Moves ft w W2 := Moves.of_below HB.out ft
  have E1 := HM2.out
  refine bodyPost_ret (v := .agg #[.int .i64 0, .int .i64 0, .int .i64 0, .slice none 0 0, .slice none 0 0, .slice none 0 0]) (by simp [results, Tryd.results34, go_sem, n1, n2, n3, n4, q0, q1, q2, q3, q4, q5]) rfl ?_
  refine ⟨_, _, _, vD, ft, rfl, Kd.R_nil _ _ _ _ _, Kd.R_nil _ _ _ _ _, Kd.R_nil _ _ _ _ _, ?_, ?_, fun k hk => .inl hk, fun k hk => ?_⟩
  · repeat (first | with_reducible exact E1 | with_reducible refine IsMem.far (p := ⟨w.heap.size + 1, _, none⟩) ?_ hfar _)
  · repeat (first | with_reducible exact hM2 | with_reducible refine Moves.setCell (p := ⟨g, _, none⟩) ?_ (.inl hfg) _ | with_reducible refine Moves.setCell (p := ⟨gd, _, none⟩) ?_ (.inl hgd) _ | with_reducible refine Moves.setCell (p := ⟨w.heap.size + 1, _, none⟩) ?_ (.inr (Nat.le_succ _)) _)
  · have := HFT.out k hk
    have := HS2.out
    simp [World.setCell]
    omega
set_option maxHeartbeats 4000000 in
set_option maxRecDepth 100000 in
theorem file_list19 (M : IsMem w base ft m vN vA vD mb n f X) (hft : ∀ k, ft k → k < w.heap.size) (kl : Lit) (hkl : WideAt.IsKeyLit kl) (g : Nat) (h : SHnd) (hf : f kl = some g) (hg : w.heap[g]? = some (.cells (shcs h) 49 (0, 0))) (hfg : ft g) (i : Nat) (hi : h.node = i) (hil : i < X.nodes.length) (hL : X.nodes.length ≤ 100000) (s : S26) (A6 : Option Addr) (c6 : Nat) (hl6 : s.f6.length ≤ c6) (hC6 : (Kd.int .u8).C w A6 s.f6.length s.f6) (hop : s.f0 = 19) (hdf : (nodeOf X i).f0 = false) :
    Calls Tryd.prog 34 #[.pointer (some ⟨m, 0, none⟩), .pointer (some ⟨g, 0, none⟩), stepA s A6 c6] w (FilePost w base ft m vN vA mb n f (X) (ans 8 0 0 [])) := by
  obtain ⟨X', hX'⟩ : ∃ X', X' = (X) := ⟨_, rfl⟩
  obtain ⟨a', ha'⟩ : ∃ a', a' = (ans 8 0 0 []) := ⟨_, rfl⟩
  rw [← ha', ← hX']
  have HX := Lib.hid hX'
  have HA := Lib.hid ha'
  clear hX' ha'
  obtain ⟨gd, cap, A2, c2, hv, hlc, hgd, p0o, p1o, p2o, p3o, p4o, l2, g2, pz, ncs, hnb⟩ := node_at M i hil
  have c2' := M.c2
  rw [hv] at c2'
  have h0 := blk_cell hg 0
  have h1o := blk_cell hg 1
  have h2o := blk_cell hg 2
  have h3o := blk_cell hg 3
  have h4o := blk_cell hg 4
  have hg1 := blk_lt hg
  have n9 : ¬ (g = gd) := fun e => by rw [← e, hg] at hnb; injection hnb with hnb; injection hnb with _ hnb; exact absurd hnb (by decide)
  have n10 : ¬ (gd = g) := fun e => n9 e.symm
  clear hnb
  have hgd1 := hft gd hgd
  have hil' : (i : Int) < (X.nodes.length : Int) := by omega
  obtain ⟨no, po, li, cl, ro⟩ := h
  obtain ⟨op, nm, ot, fl, pe, hh, dat, off, wh, N⟩ := s
  simp only [shcs] at h0 h1o h2o h3o h4o
  simp only at hi hop hl6 hC6
  subst hi
  subst hop
  unfold stepA
  have c2b := cellb c2' (below_alloc (below_alloc (Below.refl w.heap.size w) (.cells #[.int .i64 19, .string nm, .string ot, .int .i64 fl, .int .i64 pe, .int .i64 hh, .slice A6 dat.length c6, .int .i64 off, .int .i64 wh, .int .i64 N] 26)) (.cells #[.int .i64 0, .int .i64 0, .int .i64 0, .slice none 0 0, .slice none 0 0, .slice none 0 0] 33))
  have h0b := cellb h0 (below_alloc (below_alloc (Below.refl w.heap.size w) (.cells #[.int .i64 19, .string nm, .string ot, .int .i64 fl, .int .i64 pe, .int .i64 hh, .slice A6 dat.length c6, .int .i64 off, .int .i64 wh, .int .i64 N] 26)) (.cells #[.int .i64 0, .int .i64 0, .int .i64 0, .slice none 0 0, .slice none 0 0, .slice none 0 0] 33))
  have HM := Lib.hid M
  have HF := Lib.hid hf
  have HG := Lib.hid hg
  have HFT := Lib.hid hft
  have HV := Lib.hid hv
  have HC6 := Lib.hid hC6
  have HG2 := Lib.hid g2
  have HPZ := Lib.hid pz
  have HND := Lib.hid (show nodeOf X (i : Int) = nodeOf X (i : Int) from rfl)
  clear M hf hg hft hv hC6 g2 pz c2' h0
  generalize hLn : X.nodes.length = L at *
  have HLN := Lib.hid hLn
  clear hLn
  generalize hnd : nodeOf X (i : Int) = nd at *
  have HNO := Lib.hid hnd
  clear hnd HND
  obtain ⟨dir, mode, data, time, name⟩ := nd
  simp only at p0o p1o p2o p3o p4o l2 HG2
  go_enter Tryd.func34, Tryd.ntmps34
  go_wp2_with fail
  go_quiet (fail)
  obtain ⟨W2, hW2⟩ : ∃ W2, W2 = World.drewN ((w.alloc (.cells #[.int .i64 19, .string nm, .string ot, .int .i64 fl, .int .i64 pe, .int .i64 hh, .slice A6 dat.length c6, .int .i64 off, .int .i64 wh, .int .i64 N] 26)).alloc (.cells #[.int .i64 0, .int .i64 0, .int .i64 0, .slice none 0 0, .slice none 0 0, .slice none 0 0] 33)) nq := ⟨_, rfl⟩
  rw [← hW2]
  have BW : Below w.heap.size w W2 := by rw [hW2]; exact pw_below_drewN (below_alloc (below_alloc (Below.refl _ _) _) _) _
  have b1 : W2.heap[w.heap.size]? = some (.cells #[.int .i64 19, .string nm, .string ot, .int .i64 fl, .int .i64 pe, .int .i64 hh, .slice A6 dat.length c6, .int .i64 off, .int .i64 wh, .int .i64 N] 26 (0, 0)) := by rw [hW2]; exact blk_drewN (blk_alloc (blk_new _ _) _) _
  have b2 : W2.heap[w.heap.size + 1]? = some (.cells #[.int .i64 0, .int .i64 0, .int .i64 0, .slice none 0 0, .slice none 0 0, .slice none 0 0] 33 (0, 0)) := by rw [hW2]; exact blk_drewN (blk_at_ (by simp)) _
  have hsz2 : W2.heap.size = w.heap.size + 2 := by rw [hW2]; simp [World.drewN]
  have k0 := blk_cell b1 0
  have k1 := blk_cell b1 1
  have k2 := blk_cell b1 2
  have k3 := blk_cell b1 3
  have k4 := blk_cell b1 4
  have k5 := blk_cell b1 5
  have k6 := blk_cell b1 6
  have k7 := blk_cell b1 7
  have k8 := blk_cell b1 8
  have k9 := blk_cell b1 9
  have q0 := blk_cell b2 0
  have q1 := blk_cell b2 1
  have q2 := blk_cell b2 2
  have q3 := blk_cell b2 3
  have q4 := blk_cell b2 4
  have q5 := blk_cell b2 5
  have zq := blk_frozen b2
  have zg := blk_frozen (blk_below HG.out BW)
  have zd := fun j => (show W2.frozen? ⟨gd, i * 5 + j, none⟩ = false by rw [← HPZ.out j]; exact BW.frozen (p := ⟨gd, i * 5 + j, none⟩) hgd1)
  have h1 := cellb h1o BW
  have h2 := cellb h2o BW
  have h3 := cellb h3o BW
  have h4 := cellb h4o BW
  have p0 := cellb p0o BW
  have p1 := cellb p1o BW
  have p2 := cellb p2o BW
  have p3 := cellb p3o BW
  have p4 := cellb p4o BW
  have HB := Lib.hid BW
  have HM2 := Lib.hid (HM.out.below BW)
  have HGH := Lib.hid (blk_below HG.out BW)
  have HO := Lib.hid b2
  have HS2 := Lib.hid hsz2
  have n1 : ¬ (g = w.heap.size + 1) := by omega
  have n2 : ¬ (gd = w.heap.size + 1) := by omega
  have n3 : ¬ (w.heap.size + 1 = g) := by omega
  have n4 : ¬ (w.heap.size + 1 = gd) := by omega
  have n5 : ¬ (g = w.heap.size) := by omega
  have n6 : ¬ (gd = w.heap.size) := by omega
  have n7 : ¬ (w.heap.size = g) := by omega
  have n8 : ¬ (w.heap.size = gd) := by omega
  clear hW2 BW b1 b2 c2b h0b hsz2 hg1 hgd1 h1o h2o h3o h4o p0o p1o p2o p3o p4o
  simp at k0 k1 k2 k3 k4 k5 k6 k7 k8 k9 q0 q1 q2 q3 q4 q5 h1 h2 h3 h4
  obtain rfl : dir = false := hdf
  have HLI := Lib.hid (list_nondir HM2.out g ⟨(i : Int), po, li, cl, ro⟩ HGH.out i rfl (by have := HLN.out; omega) (by have := HLN.out; omega) (by rw [HNO.out]) ⟨19, nm, ot, fl, pe, hh, dat, off, wh, N⟩ A6 c6)
  go_wp2_with (first | (go_at_call 65; (refine (HLI.out).mono ?_); rintro e w1 ⟨rfl, BB⟩; have HB := Lib.hid (below_then HB.out HB.out.size BB); have b2 := blk_below HO.out BB; have q0 := blk_cell b2 0; have q1 := blk_cell b2 1; have q2 := blk_cell b2 2; have q3 := blk_cell b2 3; have q4 := blk_cell b2 4; have q5 := blk_cell b2 5; have zq := blk_frozen b2; simp at q0 q1 q2 q3 q4 q5))
  have hX2 := HX.out
  have hA2 := HA.out
  try simp only [if_true, if_false, Bool.false_eq_true, reduceIte] at hX2 hA2
  rw [hX2, hA2]
  have hfar : ¬ ft (w.heap.size + 1) := fun hk => absurd (HFT.out _ hk) (by omega)
  have hM2 : Moves ft w w1 := Moves.of_below HB.out ft
  have E1 : IsMem w1 base ft m vN vA vD mb n f X := IsMem.below HM2.out BB
  refine bodyPost_ret (v := .agg #[.int .i64 8, .int .i64 0, .int .i64 0, .slice none 0 0, .slice none 0 0, .slice none 0 0]) (by simp [results, Tryd.results34, go_sem, n1, n2, n3, n4, q0, q1, q2, q3, q4, q5]) rfl ?_
  refine ⟨_, _, _, vD, ft, rfl, Kd.R_nil _ _ _ _ _, Kd.R_nil _ _ _ _ _, Kd.R_nil _ _ _ _ _, ?_, ?_, fun k hk => .inl hk, fun k hk => ?_⟩
  · repeat (first | with_reducible exact E1 | with_reducible refine IsMem.far (p := ⟨w.heap.size + 1, _, none⟩) ?_ hfar _)
  · repeat (first | with_reducible exact hM2 | with_reducible refine Moves.setCell (p := ⟨g, _, none⟩) ?_ (.inl hfg) _ | with_reducible refine Moves.setCell (p := ⟨gd, _, none⟩) ?_ (.inl hgd) _ | with_reducible refine Moves.setCell (p := ⟨w.heap.size + 1, _, none⟩) ?_ (.inr (Nat.le_succ _)) _)
  · have := HFT.out k hk
    have := HS2.out
    have := BB.size
    simp [World.setCell]
    omega
set_option maxHeartbeats 4000000 in
set_option maxRecDepth 100000 in
theorem file_list20 (M : IsMem w base ft m vN vA vD mb n f X) (hft : ∀ k, ft k → k < w.heap.size) (kl : Lit) (hkl : WideAt.IsKeyLit kl) (g : Nat) (h : SHnd) (hf : f kl = some g) (hg : w.heap[g]? = some (.cells (shcs h) 49 (0, 0))) (hfg : ft g) (i : Nat) (hi : h.node = i) (hil : i < X.nodes.length) (hL : X.nodes.length ≤ 100000) (s : S26) (A6 : Option Addr) (c6 : Nat) (hl6 : s.f6.length ≤ c6) (hC6 : (Kd.int .u8).C w A6 s.f6.length s.f6) (hop : s.f0 = 20) (hdf : (nodeOf X i).f0 = false) :
    Calls Tryd.prog 34 #[.pointer (some ⟨m, 0, none⟩), .pointer (some ⟨g, 0, none⟩), stepA s A6 c6] w (FilePost w base ft m vN vA mb n f (X) (ans 8 0 0 [])) := by
  obtain ⟨X', hX'⟩ : ∃ X', X' = (X) := ⟨_, rfl⟩
  obtain ⟨a', ha'⟩ : ∃ a', a' = (ans 8 0 0 []) := ⟨_, rfl⟩
  rw [← ha', ← hX']
  have HX := Lib.hid hX'
  have HA := Lib.hid ha'
  clear hX' ha'
  obtain ⟨gd, cap, A2, c2, hv, hlc, hgd, p0o, p1o, p2o, p3o, p4o, l2, g2, pz, ncs, hnb⟩ := node_at M i hil
  have c2' := M.c2
  rw [hv] at c2'
  have h0 := blk_cell hg 0
  have h1o := blk_cell hg 1
  have h2o := blk_cell hg 2
  have h3o := blk_cell hg 3
  have h4o := blk_cell hg 4
  have hg1 := blk_lt hg
  have n9 : ¬ (g = gd) := fun e => by rw [← e, hg] at hnb; injection hnb with hnb; injection hnb with _ hnb; exact absurd hnb (by decide)
  have n10 : ¬ (gd = g) := fun e => n9 e.symm
  clear hnb
  have hgd1 := hft gd hgd
  have hil' : (i : Int) < (X.nodes.length : Int) := by omega
  obtain ⟨no, po, li, cl, ro⟩ := h
  obtain ⟨op, nm, ot, fl, pe, hh, dat, off, wh, N⟩ := s
  simp only [shcs] at h0 h1o h2o h3o h4o
  simp only at hi hop hl6 hC6
  subst hi
  subst hop
  unfold stepA
  have c2b := cellb c2' (below_alloc (below_alloc (Below.refl w.heap.size w) (.cells #[.int .i64 20, .string nm, .string ot, .int .i64 fl, .int .i64 pe, .int .i64 hh, .slice A6 dat.length c6, .int .i64 off, .int .i64 wh, .int .i64 N] 26)) (.cells #[.int .i64 0, .int .i64 0, .int .i64 0, .slice none 0 0, .slice none 0 0, .slice none 0 0] 33))
  have h0b := cellb h0 (below_alloc (below_alloc (Below.refl w.heap.size w) (.cells #[.int .i64 20, .string nm, .string ot, .int .i64 fl, .int .i64 pe, .int .i64 hh, .slice A6 dat.length c6, .int .i64 off, .int .i64 wh, .int .i64 N] 26)) (.cells #[.int .i64 0, .int .i64 0, .int .i64 0, .slice none 0 0, .slice none 0 0, .slice none 0 0] 33))
  have HM := Lib.hid M
  have HF := Lib.hid hf
  have HG := Lib.hid hg
  have HFT := Lib.hid hft
  have HV := Lib.hid hv
  have HC6 := Lib.hid hC6
  have HG2 := Lib.hid g2
  have HPZ := Lib.hid pz
  have HND := Lib.hid (show nodeOf X (i : Int) = nodeOf X (i : Int) from rfl)
  clear M hf hg hft hv hC6 g2 pz c2' h0
  generalize hLn : X.nodes.length = L at *
  have HLN := Lib.hid hLn
  clear hLn
  generalize hnd : nodeOf X (i : Int) = nd at *
  have HNO := Lib.hid hnd
  clear hnd HND
  obtain ⟨dir, mode, data, time, name⟩ := nd
  simp only at p0o p1o p2o p3o p4o l2 HG2
  go_enter Tryd.func34, Tryd.ntmps34
  go_wp2_with fail
  go_quiet (fail)
  obtain ⟨W2, hW2⟩ : ∃ W2, W2 = World.drewN ((w.alloc (.cells #[.int .i64 20, .string nm, .string ot, .int .i64 fl, .int .i64 pe, .int .i64 hh, .slice A6 dat.length c6, .int .i64 off, .int .i64 wh, .int .i64 N] 26)).alloc (.cells #[.int .i64 0, .int .i64 0, .int .i64 0, .slice none 0 0, .slice none 0 0, .slice none 0 0] 33)) nq := ⟨_, rfl⟩
  rw [← hW2]
  have BW : Below w.heap.size w W2 := by rw [hW2]; exact pw_below_drewN (below_alloc (below_alloc (Below.refl _ _) _) _) _
  have b1 : W2.heap[w.heap.size]? = some (.cells #[.int .i64 20, .string nm, .string ot, .int .i64 fl, .int .i64 pe, .int .i64 hh, .slice A6 dat.length c6, .int .i64 off, .int .i64 wh, .int .i64 N] 26 (0, 0)) := by rw [hW2]; exact blk_drewN (blk_alloc (blk_new _ _) _) _
  have b2 : W2.heap[w.heap.size + 1]? = some (.cells #[.int .i64 0, .int .i64 0, .int .i64 0, .slice none 0 0, .slice none 0 0, .slice none 0 0] 33 (0, 0)) := by rw [hW2]; exact blk_drewN (blk_at_ (by simp)) _
  have hsz2 : W2.heap.size = w.heap.size + 2 := by rw [hW2]; simp [World.drewN]
  have k0 := blk_cell b1 0
  have k1 := blk_cell b1 1
  have k2 := blk_cell b1 2
  have k3 := blk_cell b1 3
  have k4 := blk_cell b1 4
  have k5 := blk_cell b1 5
  have k6 := blk_cell b1 6
  have k7 := blk_cell b1 7
  have k8 := blk_cell b1 8
  have k9 := blk_cell b1 9
  have q0 := blk_cell b2 0
  have q1 := blk_cell b2 1
  have q2 := blk_cell b2 2
  have q3 := blk_cell b2 3
  have q4 := blk_cell b2 4
  have q5 := blk_cell b2 5
  have zq := blk_frozen b2
  have zg := blk_frozen (blk_below HG.out BW)
  have zd := fun j => (show W2.frozen? ⟨gd, i * 5 + j, none⟩ = false by rw [← HPZ.out j]; exact BW.frozen (p := ⟨gd, i * 5 + j, none⟩) hgd1)
  have h1 := cellb h1o BW
  have h2 := cellb h2o BW
  have h3 := cellb h3o BW
  have h4 := cellb h4o BW
  have p0 := cellb p0o BW
  have p1 := cellb p1o BW
  have p2 := cellb p2o BW
  have p3 := cellb p3o BW
  have p4 := cellb p4o BW
  have HB := Lib.hid BW
  have HM2 := Lib.hid (HM.out.below BW)
  have HGH := Lib.hid (blk_below HG.out BW)
  have HO := Lib.hid b2
  have HS2 := Lib.hid hsz2
  have n1 : ¬ (g = w.heap.size + 1) := by omega
  have n2 : ¬ (gd = w.heap.size + 1) := by omega
  have n3 : ¬ (w.heap.size + 1 = g) := by omega
  have n4 : ¬ (w.heap.size + 1 = gd) := by omega
  have n5 : ¬ (g = w.heap.size) := by omega
  have n6 : ¬ (gd = w.heap.size) := by omega
  have n7 : ¬ (w.heap.size = g) := by omega
  have n8 : ¬ (w.heap.size = gd) := by omega
  clear hW2 BW b1 b2 c2b h0b hsz2 hg1 hgd1 h1o h2o h3o h4o p0o p1o p2o p3o p4o
  simp at k0 k1 k2 k3 k4 k5 k6 k7 k8 k9 q0 q1 q2 q3 q4 q5 h1 h2 h3 h4
  obtain rfl : dir = false := hdf
  have HLI := Lib.hid (list_nondir HM2.out g ⟨(i : Int), po, li, cl, ro⟩ HGH.out i rfl (by have := HLN.out; omega) (by have := HLN.out; omega) (by rw [HNO.out]) ⟨20, nm, ot, fl, pe, hh, dat, off, wh, N⟩ A6 c6)
  go_wp2_with (first | (go_at_call 65; (refine (HLI.out).mono ?_); rintro e w1 ⟨rfl, BB⟩; have HB := Lib.hid (below_then HB.out HB.out.size BB); have b2 := blk_below HO.out BB; have q0 := blk_cell b2 0; have q1 := blk_cell b2 1; have q2 := blk_cell b2 2; have q3 := blk_cell b2 3; have q4 := blk_cell b2 4; have q5 := blk_cell b2 5; have zq := blk_frozen b2; simp at q0 q1 q2 q3 q4 q5))
  have hX2 := HX.out
  have hA2 := HA.out
  try simp only [if_true, if_false, Bool.false_eq_true, reduceIte] at hX2 hA2
  rw [hX2, hA2]
  have hfar : ¬ ft (w.heap.size + 1) := fun hk => absurd (HFT.out _ hk) (by omega)
  have hM2 : Moves ft w w1 := Moves.of_below HB.out ft
  have E1 : IsMem w1 base ft m vN vA vD mb n f X := IsMem.below HM2.out BB
  refine bodyPost_ret (v := .agg #[.int .i64 8, .int .i64 0, .int .i64 0, .slice none 0 0, .slice none 0 0, .slice none 0 0]) (by simp [results, Tryd.results34, go_sem, n1, n2, n3, n4, q0, q1, q2, q3, q4, q5]) rfl ?_
  refine ⟨_, _, _, vD, ft, rfl, Kd.R_nil _ _ _ _ _, Kd.R_nil _ _ _ _ _, Kd.R_nil _ _ _ _ _, ?_, ?_, fun k hk => .inl hk, fun k hk => ?_⟩
  · repeat (first | with_reducible exact E1 | with_reducible refine IsMem.far (p := ⟨w.heap.size + 1, _, none⟩) ?_ hfar _)
  · repeat (first | with_reducible exact hM2 | with_reducible refine Moves.setCell (p := ⟨g, _, none⟩) ?_ (.inl hfg) _ | with_reducible refine Moves.setCell (p := ⟨gd, _, none⟩) ?_ (.inl hgd) _ | with_reducible refine Moves.setCell (p := ⟨w.heap.size + 1, _, none⟩) ?_ (.inr (Nat.le_succ _)) _)
  · have := HFT.out k hk
    have := HS2.out
    have := BB.size
    simp [World.setCell]
    omega
theorem un_drew {W w1 : World} (h : Below W.drew.heap.size W.drew w1) : Below W.heap.size W w1 := below_then (below_drew (Below.refl _ _)) (Nat.le_refl _) h
theorem row_ans {w1 w' : World} {b0 b1 : Nat} {ft : Nat → Prop} {v : Value} {l : List Int} (h : (Kd.int .u8).R 5 w1 b1 (fun _ => True) v l) (hb : b0 ≤ b1) (hft : ∀ k, ft k → k < b1) (hh : ∀ k, b1 ≤ k → w'.heap[k]? = w1.heap[k]?) : (Kd.int .u8).R 5 w' b0 (fun k => ¬ ft k) v l := by
  have h2 := Kd.R_base h
  have h3 := Kd.R_step (w1 := w') (Kd.R_tight rfl h) (fun k hk _ => hh k (h2 k hk.symm))
  exact Kd.R_lower (Kd.R_mono h3 (fun k hk hf => by have a1 := hft k hf; have a2 := h2 k hk.symm; omega)) hb
set_option maxHeartbeats 4000000 in
set_option maxRecDepth 100000 in
theorem file_read12 (M : IsMem w base ft m vN vA vD mb n f X) (hft : ∀ k, ft k → k < w.heap.size) (kl : Lit) (hkl : WideAt.IsKeyLit kl) (g : Nat) (h : SHnd) (hf : f kl = some g) (hg : w.heap[g]? = some (.cells (shcs h) 49 (0, 0))) (hfg : ft g) (i : Nat) (hi : h.node = i) (hil : i < X.nodes.length) (hL : X.nodes.length ≤ 100000) (s : S26) (A6 : Option Addr) (c6 : Nat) (hl6 : s.f6.length ≤ c6) (hC6 : (Kd.int .u8).C w A6 s.f6.length s.f6) (hop : s.f0 = 12) (hcl : h.closed = false) (hp0 : 0 ≤ h.pos) (hp1 : h.pos ≤ 4611686018427300000) (hN0 : 0 ≤ s.f9) (hN1 : s.f9 ≤ 4096) (hdl : (nodeOf X i).f2.length ≤ 1000000) :
    Calls Tryd.prog 34 #[.pointer (some ⟨m, 0, none⟩), .pointer (some ⟨g, 0, none⟩), stepA s A6 c6] w (FilePost w base ft m vN vA mb n f (hX X kl { h with pos := h.pos + ((rdD false (nodeOf X i).f2 h.pos.toNat s.f9.toNat).length : Int) }) (ans (rdE false (nodeOf X i).f2.length h.pos.toNat s.f9.toNat) 0 0 (rdD false (nodeOf X i).f2 h.pos.toNat s.f9.toNat))) := by
  obtain ⟨X', hX'⟩ : ∃ X', X' = (hX X kl { h with pos := h.pos + ((rdD false (nodeOf X i).f2 h.pos.toNat s.f9.toNat).length : Int) }) := ⟨_, rfl⟩
  obtain ⟨a', ha'⟩ : ∃ a', a' = (ans (rdE false (nodeOf X i).f2.length h.pos.toNat s.f9.toNat) 0 0 (rdD false (nodeOf X i).f2 h.pos.toNat s.f9.toNat)) := ⟨_, rfl⟩
  rw [← ha', ← hX']
  have HX := Lib.hid hX'
  have HA := Lib.hid ha'
  clear hX' ha'
  obtain ⟨gd, cap, A2, c2, hv, hlc, hgd, p0o, p1o, p2o, p3o, p4o, l2, g2, pz, ncs, hnb⟩ := node_at M i hil
  have c2' := M.c2
  rw [hv] at c2'
  have h0 := blk_cell hg 0
  have h1o := blk_cell hg 1
  have h2o := blk_cell hg 2
  have h3o := blk_cell hg 3
  have h4o := blk_cell hg 4
  have hg1 := blk_lt hg
  have n9 : ¬ (g = gd) := fun e => by rw [← e, hg] at hnb; injection hnb with hnb; injection hnb with _ hnb; exact absurd hnb (by decide)
  have n10 : ¬ (gd = g) := fun e => n9 e.symm
  clear hnb
  have hgd1 := hft gd hgd
  have hil' : (i : Int) < (X.nodes.length : Int) := by omega
  obtain ⟨no, po, li, cl, ro⟩ := h
  obtain ⟨op, nm, ot, fl, pe, hh, dat, off, wh, N⟩ := s
  simp only [shcs] at h0 h1o h2o h3o h4o
  simp only at hi hop hl6 hC6
  subst hi
  subst hop
  unfold stepA
  have c2b := cellb c2' (below_alloc (below_alloc (Below.refl w.heap.size w) (.cells #[.int .i64 12, .string nm, .string ot, .int .i64 fl, .int .i64 pe, .int .i64 hh, .slice A6 dat.length c6, .int .i64 off, .int .i64 wh, .int .i64 N] 26)) (.cells #[.int .i64 0, .int .i64 0, .int .i64 0, .slice none 0 0, .slice none 0 0, .slice none 0 0] 33))
  have h0b := cellb h0 (below_alloc (below_alloc (Below.refl w.heap.size w) (.cells #[.int .i64 12, .string nm, .string ot, .int .i64 fl, .int .i64 pe, .int .i64 hh, .slice A6 dat.length c6, .int .i64 off, .int .i64 wh, .int .i64 N] 26)) (.cells #[.int .i64 0, .int .i64 0, .int .i64 0, .slice none 0 0, .slice none 0 0, .slice none 0 0] 33))
  have HM := Lib.hid M
  have HF := Lib.hid hf
  have HG := Lib.hid hg
  have HFT := Lib.hid hft
  have HV := Lib.hid hv
  have HC6 := Lib.hid hC6
  have HG2 := Lib.hid g2
  have HPZ := Lib.hid pz
  have HND := Lib.hid (show nodeOf X (i : Int) = nodeOf X (i : Int) from rfl)
  clear M hf hg hft hv hC6 g2 pz c2' h0
  generalize hLn : X.nodes.length = L at *
  have HLN := Lib.hid hLn
  clear hLn
  generalize hnd : nodeOf X (i : Int) = nd at *
  have HNO := Lib.hid hnd
  clear hnd HND
  obtain ⟨dir, mode, data, time, name⟩ := nd
  simp only at p0o p1o p2o p3o p4o l2 HG2
  go_enter Tryd.func34, Tryd.ntmps34
  go_wp2_with fail
  go_quiet (fail)
  obtain ⟨W2, hW2⟩ : ∃ W2, W2 = World.drewN ((w.alloc (.cells #[.int .i64 12, .string nm, .string ot, .int .i64 fl, .int .i64 pe, .int .i64 hh, .slice A6 dat.length c6, .int .i64 off, .int .i64 wh, .int .i64 N] 26)).alloc (.cells #[.int .i64 0, .int .i64 0, .int .i64 0, .slice none 0 0, .slice none 0 0, .slice none 0 0] 33)) nq := ⟨_, rfl⟩
  rw [← hW2]
  have BW : Below w.heap.size w W2 := by rw [hW2]; exact pw_below_drewN (below_alloc (below_alloc (Below.refl _ _) _) _) _
  have b1 : W2.heap[w.heap.size]? = some (.cells #[.int .i64 12, .string nm, .string ot, .int .i64 fl, .int .i64 pe, .int .i64 hh, .slice A6 dat.length c6, .int .i64 off, .int .i64 wh, .int .i64 N] 26 (0, 0)) := by rw [hW2]; exact blk_drewN (blk_alloc (blk_new _ _) _) _
  have b2 : W2.heap[w.heap.size + 1]? = some (.cells #[.int .i64 0, .int .i64 0, .int .i64 0, .slice none 0 0, .slice none 0 0, .slice none 0 0] 33 (0, 0)) := by rw [hW2]; exact blk_drewN (blk_at_ (by simp)) _
  have hsz2 : W2.heap.size = w.heap.size + 2 := by rw [hW2]; simp [World.drewN]
  have k0 := blk_cell b1 0
  have k1 := blk_cell b1 1
  have k2 := blk_cell b1 2
  have k3 := blk_cell b1 3
  have k4 := blk_cell b1 4
  have k5 := blk_cell b1 5
  have k6 := blk_cell b1 6
  have k7 := blk_cell b1 7
  have k8 := blk_cell b1 8
  have k9 := blk_cell b1 9
  have q0 := blk_cell b2 0
  have q1 := blk_cell b2 1
  have q2 := blk_cell b2 2
  have q3 := blk_cell b2 3
  have q4 := blk_cell b2 4
  have q5 := blk_cell b2 5
  have zq := blk_frozen b2
  have zg := blk_frozen (blk_below HG.out BW)
  have zd := fun j => (show W2.frozen? ⟨gd, i * 5 + j, none⟩ = false by rw [← HPZ.out j]; exact BW.frozen (p := ⟨gd, i * 5 + j, none⟩) hgd1)
  have h1 := cellb h1o BW
  have h2 := cellb h2o BW
  have h3 := cellb h3o BW
  have h4 := cellb h4o BW
  have p0 := cellb p0o BW
  have p1 := cellb p1o BW
  have p2 := cellb p2o BW
  have p3 := cellb p3o BW
  have p4 := cellb p4o BW
  have HB := Lib.hid BW
  have HM2 := Lib.hid (HM.out.below BW)
  have HGH := Lib.hid (blk_below HG.out BW)
  have HO := Lib.hid b2
  have HS2 := Lib.hid hsz2
  have n1 : ¬ (g = w.heap.size + 1) := by omega
  have n2 : ¬ (gd = w.heap.size + 1) := by omega
  have n3 : ¬ (w.heap.size + 1 = g) := by omega
  have n4 : ¬ (w.heap.size + 1 = gd) := by omega
  have n5 : ¬ (g = w.heap.size) := by omega
  have n6 : ¬ (gd = w.heap.size) := by omega
  have n7 : ¬ (w.heap.size = g) := by omega
  have n8 : ¬ (w.heap.size = gd) := by omega
  clear hW2 BW b1 b2 c2b h0b hsz2 hg1 hgd1 h1o h2o h3o h4o p0o p1o p2o p3o p4o
  simp at k0 k1 k2 k3 k4 k5 k6 k7 k8 k9 q0 q1 q2 q3 q4 q5 h1 h2 h3 h4
  obtain rfl : cl = false := hcl
  try simp only at hp0 hp1 hN0 hN1 hdl
  obtain ⟨p, rfl⟩ := Int.eq_ofNat_of_zero_le hp0
  obtain ⟨k, rfl⟩ := Int.eq_ofNat_of_zero_le hN0
  have HX := Lib.hid (by have := HX.out; (try simp only [Int.toNat_natCast] at this); exact this)
  have HA := Lib.hid (by have := HA.out; (try simp only [Int.toNat_natCast] at this); exact this)
  have HRD := Lib.hid (fun W (hb : Below W2.heap.size W2 W) => read_any W data A2 data.length c2 (Kd.C_below (Kd.C_below HG2.out HB.out) hb) l2 hdl p k (by omega) (by omega))
  have hrl := rdD_len false data p k
  generalize hE : rdE false data.length p k = E at *
  generalize hD : rdD false data p k = D at *
  have HDL := Lib.hid (show D.length ≤ 1000000 by omega)
  have K3 := Lib.hid (And.intro p2 (And.intro h1 k9))
  have H1 := Lib.hid h1
  go_wp2_with fail
  go_region_held3 (fun w' => w'.cell? ⟨gd, i * 5 + 2, none⟩ = some (.slice A2 data.length c2) ∧ w'.cell? ⟨g, 1, none⟩ = some (.int .i64 p) ∧ w'.cell? ⟨w.heap.size, 9, none⟩ = some (.int .i64 k))
    (first | exact S3.out | go_keep)
    ((go_at_call 66; (refine (HRD.out _ (below_drew (Below.refl _ _))).mono ?_); rintro e w1 ⟨A1, c1, rfl, r1, BB⟩; have R1 := Lib.hid r1; have BB := Lib.hid (un_drew BB); have S3 := Lib.hid (And.intro (cellb K3.out.1 BB.out) (And.intro (cellb K3.out.2.1 BB.out) (cellb K3.out.2.2 BB.out))); clear r1))
  have h1 := cellb H1.out BB.out
  have BB := BB.out
  have HB := Lib.hid (below_then HB.out HB.out.size BB)
  have b2 := blk_below HO.out BB
  have q0 := blk_cell b2 0
  have q1 := blk_cell b2 1
  have q2 := blk_cell b2 2
  have q3 := blk_cell b2 3
  have q4 := blk_cell b2 4
  have q5 := blk_cell b2 5
  have zq := blk_frozen b2
  simp at q0 q1 q2 q3 q4 q5
  have zg := blk_frozen (blk_below HGH.out BB)
  go_wp2_with fail
  have hX2 := HX.out
  have hA2 := HA.out
  try simp only [if_true, if_false, Bool.false_eq_true, reduceIte] at hX2 hA2
  rw [hX2, hA2]
  have hfar : ¬ ft (w.heap.size + 1) := fun hk => absurd (HFT.out _ hk) (by omega)
  have hM2 : Moves ft w w1 := Moves.of_below HB.out ft
  have E1 := IsMem.hsetX (IsMem.below HM2.out BB) hkl HF.out (blk_below HGH.out BB) 1 (.int .i64 ((p : Int) + (D.length : Int))) (h' := ⟨(i : Int), (p : Int) + (D.length : Int), li, false, ro⟩) rfl
  refine bodyPost_ret (v := .agg #[.int .i64 E, .int .i64 0, .int .i64 0, .slice A1 D.length c1, .slice none 0 0, .slice none 0 0]) (by simp [results, Tryd.results34, go_sem, n1, n2, n3, n4, q0, q1, q2, q3, q4, q5]) rfl ?_
  refine ⟨_, _, _, vD, ft, rfl, row_ans R1.out (by have := HS2.out; show _ ≤ W2.heap.size; omega) (fun k hk => by have := HFT.out k hk; have := HS2.out; show _ < W2.heap.size; omega) ?_, Kd.R_nil _ _ _ _ _, Kd.R_nil _ _ _ _ _, ?_, ?_, fun k hk => .inl hk, fun k hk => ?_⟩
  · intro k hk
    have hk : W2.heap.size ≤ k := hk
    have a1 := HS2.out
    have a2 := HFT.out g hfg
    repeat (first | with_reducible rfl | with_reducible refine (Below.heap_setCell _ ⟨g, _, none⟩ _ k (by show k ≠ g; omega)).trans ?_ | with_reducible refine (Below.heap_setCell _ ⟨w.heap.size + 1, _, none⟩ _ k (by show k ≠ w.heap.size + 1; omega)).trans ?_)
  · repeat (first | with_reducible exact E1 | with_reducible refine IsMem.far (p := ⟨w.heap.size + 1, _, none⟩) ?_ hfar _)
  · repeat (first | with_reducible exact hM2 | with_reducible refine Moves.setCell (p := ⟨g, _, none⟩) ?_ (.inl hfg) _ | with_reducible refine Moves.setCell (p := ⟨gd, _, none⟩) ?_ (.inl hgd) _ | with_reducible refine Moves.setCell (p := ⟨w.heap.size + 1, _, none⟩) ?_ (.inr (Nat.le_succ _)) _)
  · have := HFT.out k hk
    have := HS2.out
    have := BB.size
    simp [World.setCell]
    omega
set_option maxHeartbeats 4000000 in
set_option maxRecDepth 100000 in
theorem file_read13 (M : IsMem w base ft m vN vA vD mb n f X) (hft : ∀ k, ft k → k < w.heap.size) (kl : Lit) (hkl : WideAt.IsKeyLit kl) (g : Nat) (h : SHnd) (hf : f kl = some g) (hg : w.heap[g]? = some (.cells (shcs h) 49 (0, 0))) (hfg : ft g) (i : Nat) (hi : h.node = i) (hil : i < X.nodes.length) (hL : X.nodes.length ≤ 100000) (s : S26) (A6 : Option Addr) (c6 : Nat) (hl6 : s.f6.length ≤ c6) (hC6 : (Kd.int .u8).C w A6 s.f6.length s.f6) (hop : s.f0 = 13) (hcl : h.closed = false) (hp0 : 0 ≤ s.f7) (hp1 : s.f7 ≤ 4611686018427300000) (hN0 : 0 ≤ s.f9) (hN1 : s.f9 ≤ 4096) (hdl : (nodeOf X i).f2.length ≤ 1000000) :
    Calls Tryd.prog 34 #[.pointer (some ⟨m, 0, none⟩), .pointer (some ⟨g, 0, none⟩), stepA s A6 c6] w (FilePost w base ft m vN vA mb n f (X) (ans (rdE false (nodeOf X i).f2.length s.f7.toNat s.f9.toNat) 0 0 (rdD false (nodeOf X i).f2 s.f7.toNat s.f9.toNat))) := by
  obtain ⟨X', hX'⟩ : ∃ X', X' = (X) := ⟨_, rfl⟩
  obtain ⟨a', ha'⟩ : ∃ a', a' = (ans (rdE false (nodeOf X i).f2.length s.f7.toNat s.f9.toNat) 0 0 (rdD false (nodeOf X i).f2 s.f7.toNat s.f9.toNat)) := ⟨_, rfl⟩
  rw [← ha', ← hX']
  have HX := Lib.hid hX'
  have HA := Lib.hid ha'
  clear hX' ha'
  obtain ⟨gd, cap, A2, c2, hv, hlc, hgd, p0o, p1o, p2o, p3o, p4o, l2, g2, pz, ncs, hnb⟩ := node_at M i hil
  have c2' := M.c2
  rw [hv] at c2'
  have h0 := blk_cell hg 0
  have h1o := blk_cell hg 1
  have h2o := blk_cell hg 2
  have h3o := blk_cell hg 3
  have h4o := blk_cell hg 4
  have hg1 := blk_lt hg
  have n9 : ¬ (g = gd) := fun e => by rw [← e, hg] at hnb; injection hnb with hnb; injection hnb with _ hnb; exact absurd hnb (by decide)
  have n10 : ¬ (gd = g) := fun e => n9 e.symm
  clear hnb
  have hgd1 := hft gd hgd
  have hil' : (i : Int) < (X.nodes.length : Int) := by omega
  obtain ⟨no, po, li, cl, ro⟩ := h
  obtain ⟨op, nm, ot, fl, pe, hh, dat, off, wh, N⟩ := s
  simp only [shcs] at h0 h1o h2o h3o h4o
  simp only at hi hop hl6 hC6
  subst hi
  subst hop
  unfold stepA
  have c2b := cellb c2' (below_alloc (below_alloc (Below.refl w.heap.size w) (.cells #[.int .i64 13, .string nm, .string ot, .int .i64 fl, .int .i64 pe, .int .i64 hh, .slice A6 dat.length c6, .int .i64 off, .int .i64 wh, .int .i64 N] 26)) (.cells #[.int .i64 0, .int .i64 0, .int .i64 0, .slice none 0 0, .slice none 0 0, .slice none 0 0] 33))
  have h0b := cellb h0 (below_alloc (below_alloc (Below.refl w.heap.size w) (.cells #[.int .i64 13, .string nm, .string ot, .int .i64 fl, .int .i64 pe, .int .i64 hh, .slice A6 dat.length c6, .int .i64 off, .int .i64 wh, .int .i64 N] 26)) (.cells #[.int .i64 0, .int .i64 0, .int .i64 0, .slice none 0 0, .slice none 0 0, .slice none 0 0] 33))
  have HM := Lib.hid M
  have HF := Lib.hid hf
  have HG := Lib.hid hg
  have HFT := Lib.hid hft
  have HV := Lib.hid hv
  have HC6 := Lib.hid hC6
  have HG2 := Lib.hid g2
  have HPZ := Lib.hid pz
  have HND := Lib.hid (show nodeOf X (i : Int) = nodeOf X (i : Int) from rfl)
  clear M hf hg hft hv hC6 g2 pz c2' h0
  generalize hLn : X.nodes.length = L at *
  have HLN := Lib.hid hLn
  clear hLn
  generalize hnd : nodeOf X (i : Int) = nd at *
  have HNO := Lib.hid hnd
  clear hnd HND
  obtain ⟨dir, mode, data, time, name⟩ := nd
  simp only at p0o p1o p2o p3o p4o l2 HG2
  go_enter Tryd.func34, Tryd.ntmps34
  go_wp2_with fail
  go_quiet (fail)
  obtain ⟨W2, hW2⟩ : ∃ W2, W2 = World.drewN ((w.alloc (.cells #[.int .i64 13, .string nm, .string ot, .int .i64 fl, .int .i64 pe, .int .i64 hh, .slice A6 dat.length c6, .int .i64 off, .int .i64 wh, .int .i64 N] 26)).alloc (.cells #[.int .i64 0, .int .i64 0, .int .i64 0, .slice none 0 0, .slice none 0 0, .slice none 0 0] 33)) nq := ⟨_, rfl⟩
  rw [← hW2]
  have BW : Below w.heap.size w W2 := by rw [hW2]; exact pw_below_drewN (below_alloc (below_alloc (Below.refl _ _) _) _) _
  have b1 : W2.heap[w.heap.size]? = some (.cells #[.int .i64 13, .string nm, .string ot, .int .i64 fl, .int .i64 pe, .int .i64 hh, .slice A6 dat.length c6, .int .i64 off, .int .i64 wh, .int .i64 N] 26 (0, 0)) := by rw [hW2]; exact blk_drewN (blk_alloc (blk_new _ _) _) _
  have b2 : W2.heap[w.heap.size + 1]? = some (.cells #[.int .i64 0, .int .i64 0, .int .i64 0, .slice none 0 0, .slice none 0 0, .slice none 0 0] 33 (0, 0)) := by rw [hW2]; exact blk_drewN (blk_at_ (by simp)) _
  have hsz2 : W2.heap.size = w.heap.size + 2 := by rw [hW2]; simp [World.drewN]
  have k0 := blk_cell b1 0
  have k1 := blk_cell b1 1
  have k2 := blk_cell b1 2
  have k3 := blk_cell b1 3
  have k4 := blk_cell b1 4
  have k5 := blk_cell b1 5
  have k6 := blk_cell b1 6
  have k7 := blk_cell b1 7
  have k8 := blk_cell b1 8
  have k9 := blk_cell b1 9
  have q0 := blk_cell b2 0
  have q1 := blk_cell b2 1
  have q2 := blk_cell b2 2
  have q3 := blk_cell b2 3
  have q4 := blk_cell b2 4
  have q5 := blk_cell b2 5
  have zq := blk_frozen b2
  have zg := blk_frozen (blk_below HG.out BW)
  have zd := fun j => (show W2.frozen? ⟨gd, i * 5 + j, none⟩ = false by rw [← HPZ.out j]; exact BW.frozen (p := ⟨gd, i * 5 + j, none⟩) hgd1)
  have h1 := cellb h1o BW
  have h2 := cellb h2o BW
  have h3 := cellb h3o BW
  have h4 := cellb h4o BW
  have p0 := cellb p0o BW
  have p1 := cellb p1o BW
  have p2 := cellb p2o BW
  have p3 := cellb p3o BW
  have p4 := cellb p4o BW
  have HB := Lib.hid BW
  have HM2 := Lib.hid (HM.out.below BW)
  have HGH := Lib.hid (blk_below HG.out BW)
  have HO := Lib.hid b2
  have HS2 := Lib.hid hsz2
  have n1 : ¬ (g = w.heap.size + 1) := by omega
  have n2 : ¬ (gd = w.heap.size + 1) := by omega
  have n3 : ¬ (w.heap.size + 1 = g) := by omega
  have n4 : ¬ (w.heap.size + 1 = gd) := by omega
  have n5 : ¬ (g = w.heap.size) := by omega
  have n6 : ¬ (gd = w.heap.size) := by omega
  have n7 : ¬ (w.heap.size = g) := by omega
  have n8 : ¬ (w.heap.size = gd) := by omega
  clear hW2 BW b1 b2 c2b h0b hsz2 hg1 hgd1 h1o h2o h3o h4o p0o p1o p2o p3o p4o
  simp at k0 k1 k2 k3 k4 k5 k6 k7 k8 k9 q0 q1 q2 q3 q4 q5 h1 h2 h3 h4
  obtain rfl : cl = false := hcl
  try simp only at hp0 hp1 hN0 hN1 hdl
  obtain ⟨p, rfl⟩ := Int.eq_ofNat_of_zero_le hp0
  obtain ⟨k, rfl⟩ := Int.eq_ofNat_of_zero_le hN0
  have HX := Lib.hid (by have := HX.out; (try simp only [Int.toNat_natCast] at this); exact this)
  have HA := Lib.hid (by have := HA.out; (try simp only [Int.toNat_natCast] at this); exact this)
  have HRD := Lib.hid (fun W (hb : Below W2.heap.size W2 W) => read_any W data A2 data.length c2 (Kd.C_below (Kd.C_below HG2.out HB.out) hb) l2 hdl p k (by omega) (by omega))
  have hrl := rdD_len false data p k
  generalize hE : rdE false data.length p k = E at *
  generalize hD : rdD false data p k = D at *
  have HDL := Lib.hid (show D.length ≤ 1000000 by omega)
  have K3 := Lib.hid (And.intro p2 (And.intro k7 k9))
  have H1 := Lib.hid h1
  go_wp2_with fail
  go_region_held3 (fun w' => w'.cell? ⟨gd, i * 5 + 2, none⟩ = some (.slice A2 data.length c2) ∧ w'.cell? ⟨w.heap.size, 7, none⟩ = some (.int .i64 p) ∧ w'.cell? ⟨w.heap.size, 9, none⟩ = some (.int .i64 k))
    (first | exact S3.out | go_keep)
    ((go_at_call 66; (refine (HRD.out _ (below_drew (Below.refl _ _))).mono ?_); rintro e w1 ⟨A1, c1, rfl, r1, BB⟩; have R1 := Lib.hid r1; have BB := Lib.hid (un_drew BB); have S3 := Lib.hid (And.intro (cellb K3.out.1 BB.out) (And.intro (cellb K3.out.2.1 BB.out) (cellb K3.out.2.2 BB.out))); clear r1))
  have h1 := cellb H1.out BB.out
  have BB := BB.out
  have HB := Lib.hid (below_then HB.out HB.out.size BB)
  have b2 := blk_below HO.out BB
  have q0 := blk_cell b2 0
  have q1 := blk_cell b2 1
  have q2 := blk_cell b2 2
  have q3 := blk_cell b2 3
  have q4 := blk_cell b2 4
  have q5 := blk_cell b2 5
  have zq := blk_frozen b2
  simp at q0 q1 q2 q3 q4 q5
  have zg := blk_frozen (blk_below HGH.out BB)
  go_wp2_with fail
  have hX2 := HX.out
  have hA2 := HA.out
  try simp only [if_true, if_false, Bool.false_eq_true, reduceIte] at hX2 hA2
  rw [hX2, hA2]
  have hfar : ¬ ft (w.heap.size + 1) := fun hk => absurd (HFT.out _ hk) (by omega)
  have hM2 : Moves ft w w1 := Moves.of_below HB.out ft
  have E1 : IsMem w1 base ft m vN vA vD mb n f X := IsMem.below HM2.out BB
  refine bodyPost_ret (v := .agg #[.int .i64 E, .int .i64 0, .int .i64 0, .slice A1 D.length c1, .slice none 0 0, .slice none 0 0]) (by simp [results, Tryd.results34, go_sem, n1, n2, n3, n4, q0, q1, q2, q3, q4, q5]) rfl ?_
  refine ⟨_, _, _, vD, ft, rfl, row_ans R1.out (by have := HS2.out; show _ ≤ W2.heap.size; omega) (fun k hk => by have := HFT.out k hk; have := HS2.out; show _ < W2.heap.size; omega) ?_, Kd.R_nil _ _ _ _ _, Kd.R_nil _ _ _ _ _, ?_, ?_, fun k hk => .inl hk, fun k hk => ?_⟩
  · intro k hk
    have hk : W2.heap.size ≤ k := hk
    have a1 := HS2.out
    have a2 := HFT.out g hfg
    repeat (first | with_reducible rfl | with_reducible refine (Below.heap_setCell _ ⟨g, _, none⟩ _ k (by show k ≠ g; omega)).trans ?_ | with_reducible refine (Below.heap_setCell _ ⟨w.heap.size + 1, _, none⟩ _ k (by show k ≠ w.heap.size + 1; omega)).trans ?_)
  · repeat (first | with_reducible exact E1 | with_reducible refine IsMem.far (p := ⟨w.heap.size + 1, _, none⟩) ?_ hfar _)
  · repeat (first | with_reducible exact hM2 | with_reducible refine Moves.setCell (p := ⟨g, _, none⟩) ?_ (.inl hfg) _ | with_reducible refine Moves.setCell (p := ⟨gd, _, none⟩) ?_ (.inl hgd) _ | with_reducible refine Moves.setCell (p := ⟨w.heap.size + 1, _, none⟩) ?_ (.inr (Nat.le_succ _)) _)
  · have := HFT.out k hk
    have := HS2.out
    have := BB.size
    simp [World.setCell]
    omega
end
end Go.Proofs.YtljcdjggjphedaaDoor.Mx
