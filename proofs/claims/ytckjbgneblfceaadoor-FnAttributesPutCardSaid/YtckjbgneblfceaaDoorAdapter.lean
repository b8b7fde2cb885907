import Derived.WalkKit
import Derived.ProofKit
import Derived.OpenShut
import Derived.ShutString
import Derived.ChangeOld
import Derived.Below
import Derived.Carry
import Derived.SizedLaws
import Derived.Handed
import Derived.HandedShaped
import Derived.LaidLaws
import Derived.MakeChecks
import Derived.Lay
import Derived.JoinedOf
namespace Go.Proofs.YtckjbgneblfceaaDoor.Adapter
open Go.ChangeShapes Go.WideShapes Go.ChangeAt Go.RowKit

theorem trodAll_below {H : Type} {enc : TypeId × Value → H} {P : Program} (hl : laidOutB P = true) {W W' : World} (hb : Below W.heap.size W W') :
    ∀ {ts : List TypeId} {vs : List Value} {ds : List (DataW H)} {ps : List MemPlace}, (∀ t ∈ ts, P.readableRec t = true ∧ t < P.types.size) →
      DataW.TrodAll enc P W 0 (fun _ => true) true ts vs ds ps → (∀ x ∈ ps, x.block < W.heap.size) →
      DataW.TrodAll enc P W' 0 (fun b => decide (b < W.heap.size)) true ts vs ds ps
  | [], vs, ds, ps, _, h, _ => by
    obtain ⟨rfl, rfl, rfl⟩ := trodAll_nil h
    rfl
  | t :: ts, vs, ds, ps, hr, h, hlt => by
    obtain ⟨v, vs', d, ds', p, q, rfl, rfl, rfl, h0, h1⟩ := trodAll_cons h
    obtain ⟨hr1, hr2⟩ := hr t (List.mem_cons_self ..)
    exact ⟨p, q, Below.trod hl hr1 hr2 h0 hb (fun x hx => hlt x (List.mem_append_left _ hx)),
      trodAll_below hl hb (fun t' ht' => hr t' (List.mem_cons_of_mem _ ht')) h1 (fun x hx => hlt x (List.mem_append_right _ hx)), rfl⟩

theorem trodAll_length {H : Type} {enc : TypeId × Value → H} {P : Program} {W : World} {b : Nat} {sp : Nat → Bool} {held : Bool} :
    ∀ {ts : List TypeId} {vs : List Value} {ds : List (DataW H)} {ps : List MemPlace}, DataW.TrodAll enc P W b sp held ts vs ds ps → ds.length = ts.length
  | [], vs, ds, ps, h => by
    obtain ⟨rfl, rfl, rfl⟩ := trodAll_nil h
    rfl
  | t :: ts, vs, ds, ps, h => by
    obtain ⟨v, vs', d, ds', p, q, rfl, rfl, rfl, h0, h1⟩ := trodAll_cons h
    simp [trodAll_length h1]

/-- A law's row out of a contract of the law: it returns true, and nothing that was there has turned. -/
theorem law_lifted {C : Checked} {os : Os} {f : FuncId} {fn : Func} {s : ChangeSpec} {conds : List PathCond} {H : Type} {enc : TypeId × Value → H} {tb : TypeId}
    (own : ownKnob C.prog.godebug = none) (started : os.Started) (noInit : C.prog.inits.idxOf? f = none) (hfn : C.prog.funcs[f]? = some fn)
    (witness : ∃ (w : World) (tape : Tape) (i : Input), w.os = os ∧ (w.forCall tape i).Shaped C.prog ∧ i.vars = [] ∧ Input.okWide C.prog (w.forCall tape i) .any w.heap.size f i ∧
      s.pre6 enc C.prog fn conds false (w.forCall tape i).memory i.args ∧ Assume.holds {} C.prog (lone (Frame.enter C.prog f i.args .normal) [] (w.forCall tape i)))
    (hl : laidOutB C.prog = true) (hr : ∀ t ∈ fn.params.toList, C.prog.readableRec t = true ∧ t < C.prog.types.size)
    (hres : fn.resultTypes = #[tb]) (htb : C.prog.underlying tb = some .bool) (hvars : s.vars = [])
    (hs : ∀ ds : List (DataW H), ds.length = fn.params.size → s.fn H ds = { results := [.lit (.bool true)], args := ds })
    (contract : ∀ (W : World) (base : Nat) (args : Array Value) (ds : List (DataW H)) (p : List MemPlace),
      (∀ (j : Nat) t v, fn.params[j]? = some t → args[j]? = some v → Value.okWide C.prog W .any base t v) →
      DataW.TrodAll enc C.prog W 0 (fun _ => true) true fn.params.toList args.toList ds p →
      conds.all (PathCond.test C.prog ⟨fn.params.toList, ds, s.plain.varTypes C.prog, []⟩) = true →
      (DataW.weightsEach C.prog (fn.params.toList ++ s.plain.varTypes C.prog) (ds ++ [])).all (· ≤ reachBytes) = true →
      Calls C.prog f args W fun e W' => e = .returned (.bool true) ∧ Below W.heap.size W W') :
    ReturnsInHanded {} C os f .any (s.pre6 enc C.prog fn conds false) (s.post enc C.prog fn false true false false) := by
  refine returnsInHanded_of_change_sized own started noInit hfn witness ?_
  intro W base args ds gs before hval hW hcnd hsz0 _
  have hW' := hW
  obtain ⟨p, q, hA, hV, rfl, hfz, hnd⟩ := hW
  rw [hvars] at hV
  obtain ⟨rfl, rfl⟩ := trodVars_none hV
  have hlen : ds.length = fn.params.size := trodAll_length hA
  refine (contract W base args ds p hval hA hcnd hsz0).mono fun e W' ⟨he, bel⟩ => ?_
  subst he
  have hlt : ∀ x ∈ p, x.block < W.heap.size := fun x hx => by simpa using hW'.lt x (List.mem_append_left _ hx)
  have e := hs (ds ++ []) (by simpa using hlen)
  refine ⟨_, rfl, ds, [], p ++ [], [], p, [], hW', ?_, ?_, ?_, bel.frame _, fun h => by cases h⟩
  · rw [e, hres]; exact trodAll_mk1 (shut_bool htb _)
  · rw [e, List.append_nil]; exact trodAll_below hl bel hr hA hlt
  · rw [e, hvars]; rfl
/-- The same where the row lists package-level variables: it returns true, and nothing that was there has turned. -/
theorem law_lifted_tied {X : World → Prop} {C : Checked} {os : Os} {f : FuncId} {fn : Func} {s : ChangeSpec} {conds : List PathCond} {H : Type} {enc : TypeId × Value → H} {tb : TypeId}
    (hX : ∀ (w w' : World), w.heap = w'.heap → X w → X w')
    (own : ownKnob C.prog.godebug = none) (started : os.Started) (noInit : C.prog.inits.idxOf? f = none) (hfn : C.prog.funcs[f]? = some fn)
    (witness : ∃ (w : World) (tape : Tape) (i : Input), w.os = os ∧ (w.forCall tape i).Shaped C.prog ∧ i.vars = [] ∧ Input.okWide C.prog (w.forCall tape i) .any w.heap.size f i ∧
      ((s.pre enc C.prog fn conds false (w.forCall tape i).memory i.args ∧ X (w.forCall tape i).memory) ∧ sizedMet enc C.prog fn (OpenSpec.ofChange s) false (w.forCall tape i).memory i.args) ∧ Assume.holds {} C.prog (lone (Frame.enter C.prog f i.args .normal) [] (w.forCall tape i)))
    (hl : laidOutB C.prog = true) (hr : ∀ t ∈ fn.params.toList, C.prog.readableRec t = true ∧ t < C.prog.types.size)
    (hres : fn.resultTypes = #[tb]) (htb : C.prog.underlying tb = some .bool) (hvars : s.vars = [])
    (hs : ∀ ds : List (DataW H), ds.length = fn.params.size → s.fn H ds = { results := [.lit (.bool true)], args := ds })
    (contract : ∀ (W : World) (base : Nat) (args : Array Value) (ds : List (DataW H)) (p : List MemPlace),
      (∀ (j : Nat) t v, fn.params[j]? = some t → args[j]? = some v → Value.okWide C.prog W .any base t v) →
      DataW.TrodAll enc C.prog W 0 (fun _ => true) true fn.params.toList args.toList ds p →
      conds.all (PathCond.test C.prog ⟨fn.params.toList, ds, s.plain.varTypes C.prog, []⟩) = true →
      (DataW.weightsEach C.prog (fn.params.toList ++ s.plain.varTypes C.prog) (ds ++ [])).all (· ≤ reachBytes) = true → X W →
      Calls C.prog f args W fun e W' => e = .returned (.bool true) ∧ Below W.heap.size W W') :
    ReturnsInHanded {} C os f .any (fun w args => (s.pre enc C.prog fn conds false w args ∧ X w) ∧ sizedMet enc C.prog fn (OpenSpec.ofChange s) false w args) (s.post enc C.prog fn false true false false) := by
  refine returnsInHanded_of_change_and (X := fun w _ => X w) (fun w w' _ hh h => hX w w' hh h) own started noInit hfn witness ?_
  intro W base args ds gs before hval hW hcnd hsz0 hL _
  have hW' := hW
  obtain ⟨p, q, hA, hV, rfl, hfz, hnd⟩ := hW
  rw [hvars] at hV
  obtain ⟨rfl, rfl⟩ := trodVars_none hV
  have hlen : ds.length = fn.params.size := trodAll_length hA
  refine (contract W base args ds p hval hA hcnd hsz0 hL).mono fun e W' ⟨he, bel⟩ => ?_
  subst he
  have hlt : ∀ x ∈ p, x.block < W.heap.size := fun x hx => by simpa using hW'.lt x (List.mem_append_left _ hx)
  have e := hs (ds ++ []) (by simpa using hlen)
  refine ⟨_, rfl, ds, [], p ++ [], [], p, [], hW', ?_, ?_, ?_, bel.frame _, fun h => by cases h⟩
  · rw [e, hres]; exact trodAll_mk1 (shut_bool htb _)
  · rw [e, List.append_nil]; exact trodAll_below hl bel hr hA hlt
  · rw [e, hvars]; rfl
end Go.Proofs.YtckjbgneblfceaaDoor.Adapter
