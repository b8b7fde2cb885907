/- A region that draws its order, whose operations read and whose callees make memory of their own: one walk serves every order. -/
import Derived.Deep.QuietTactic
import Derived.BigQuiet
import Derived.Test.YtljcdjggjphedaaDoorHw
namespace Go.Proofs.YtljcdjggjphedaaDoor.Bq
open Go.RowKit Go.Proofs.YtljcdjggjphedaaDoorW.PrintWords Go.Proofs.YtljcdjggjphedaaDoorW.PrintLast Go.Proofs.YtljcdjggjphedaaDoorW.PrintMore
/-- The worlds that have new blocks alone. -/
def BW (w : World) := { w' : World // Below w.heap.size w w' }
instance (w : World) : Nonempty (BW w) := ⟨⟨w, Below.refl _ _⟩⟩
theorem BW.b {w : World} (n : BW w) : Below w.heap.size w n.1 := n.2
theorem wp_region_below {P : Program} {id : Nat} {Q : Exit → Act → World → Prop} {a : Act} {w : World} {l : List Oper} (hm : P.follows .mixedOrders = true) (hB : Region.lexB .any l.toArray = true)
    (h : wpQuiet P l.toArray (fun w' => ∃ n : BW w, w' = n.1) (fun a' => ∀ w', (∃ n : BW w, w' = n.1) → Q .normal a' w') l a) : (Code.region id l.toArray true).wp P Q a w :=
  wp_region_quiet (C := fun w' => ∃ n : BW w, w' = n.1) hm hB ⟨⟨w.drewN 1, pw_below_drewN (Below.refl _ _) 1⟩, rfl⟩ (by simpa using h)
theorem calls_below {P : Program} {f : FuncId} {args : Array Value} {w : World} {n : BW w} {v : Value}
    (h : Calls P f args n.1 fun e w' => e = .returned v ∧ Below n.1.heap.size n.1 w') : Calls P f args n.1 fun e w'' => e = .returned v ∧ ∃ m : BW w, w'' = m.1 :=
  h.mono fun _ w'' ⟨he, hm⟩ => ⟨he, ⟨w'', below_then n.2 n.2.size hm⟩, rfl⟩
end Go.Proofs.YtljcdjggjphedaaDoor.Bq
