-- PRINTED BY print.sh 35421559b90ae4d0a3588c463048766b98c2df88dd9212a6774a882060cdf62d: not written by this session
import Derived.Test.YtckjbgneblfceaaDoorProg
import Derived.Below
import Derived.Deep.Draws
import Derived.Deep.AppendLies
import Derived.Maps.AppendAt
import Derived.OwnWalk
import Derived.Laws.BytesArg
import Derived.Laws.MakeOwn
import Derived.Laws.OwnMore
import Derived.Deep.OwnRows
import Derived.Tactics
import Derived.Lib.ConvBytes
import Derived.Laws.Slices
import Derived.WalkKit
import Derived.KernelRfl
import Derived.RowKit3
import Derived.Deep.LoopGhost
import Derived.Deep.QuietTactic
import Derived.BigQuiet
import Derived.WideLaws
import Derived.Deep.DeepCutAuto
import Derived.Deep.CutBlock
import Derived.Deep.RegionHeld3
import Derived.Laws.Rows
import Derived.Lib.AppendStr
import Derived.ArgAppend
import Derived.Laws.IdiomCopy
import Derived.OrdersHeld
import Derived.Laws.BitsLemmas
import Derived.RowKit
import Derived.Test.YtckjbgneblfceaaDoorWWords
import Derived.Test.YtckjbgneblfceaaDoorWLast
import Derived.Test.YtckjbgneblfceaaDoorWTab
import Derived.Test.YtckjbgneblfceaaDoorWFour
import Derived.Test.YtckjbgneblfceaaDoorWQPut
import Derived.Test.YtckjbgneblfceaaDoorWApart
import Derived.Test.YtckjbgneblfceaaDoorWArr
import Derived.Test.YtckjbgneblfceaaDoorWZeros
import Derived.Test.YtckjbgneblfceaaDoorWFoot
import Derived.Test.YtckjbgneblfceaaDoorWKept
import Derived.Test.YtckjbgneblfceaaDoorWShare
import Derived.Test.YtckjbgneblfceaaDoorWN
import Derived.Test.YtckjbgneblfceaaDoorWFootNe
import Derived.Test.YtckjbgneblfceaaDoorWAt
import Derived.Test.YtckjbgneblfceaaDoorWEqStruct
import Derived.Test.YtckjbgneblfceaaDoorWRepsOne
import Derived.Test.YtckjbgneblfceaaDoorWInv
import Derived.Test.YtckjbgneblfceaaDoorWInvWords
import Derived.Test.YtckjbgneblfceaaDoorWGuard
import Derived.Test.YtckjbgneblfceaaDoorWNEv
import Derived.Test.YtckjbgneblfceaaDoorWMore
namespace Go.Proofs.YtckjbgneblfceaaDoor.PFnFitFirst
open Go.RowKit Go.Proofs.YtckjbgneblfceaaDoorW.PrintWords Go.Proofs.YtckjbgneblfceaaDoorW.PrintLast Go.Proofs.YtckjbgneblfceaaDoorW.PrintMore
attribute [local go_sem] max2_int min2_int max_two min_two max_three min_three max_four min_four   -- for this text's walks alone
set_option linter.unusedVariables false
set_option linter.unusedSimpArgs false



def errW : Option Int → Value
  | none => .nilIface
  | some c => .iface 0 (.int .i64 c)
theorem errW_none : errW none = .nilIface := rfl
theorem errW_some (c : Int) : errW (some c) = .iface 0 (.int .i64 c) := rfl

theorem info30 : (Tryd.prog.info? 30).map (fun i => (i.zero, i.size, i.bytes)) = some (some (.int .u64 0), 1, 8) := by kernel_rfl
theorem info58 : (Tryd.prog.info? 58).map (fun i => (i.zero, i.size, i.bytes)) = some (some (.agg #[(.string ⟨#[]⟩), (.slice none 0 0)]), 2, 40) := by kernel_rfl
theorem info70 : (Tryd.prog.info? 70).map (fun i => (i.zero, i.size, i.bytes)) = some (some (.agg #[(.string ⟨#[]⟩), (.slice none 0 0)]), 2, 40) := by kernel_rfl
-- the values' own types
def rd_L2 (xs : List (List Int)) (i : Int) : (List Int) := xs.getD i.toNat ([] : List Int)
theorem at_L2 {w : World} {A : Option Addr} {n : Nat} {xs : List (List Int)} (h : Kd.C (Kd.slice 5 (Kd.int .u8)) w A n xs) (i : Int) (h0 : 0 ≤ i) (h1 : i < n) : ∃ ad A0 c0, A = some ad ∧ w.cell? (ad.add i.toNat) = some (.slice A0 (rd_L2 xs i).length c0) ∧ (rd_L2 xs i).length ≤ c0 ∧ (Kd.int .u8).C w A0 (rd_L2 xs i).length (rd_L2 xs i) := by
  obtain ⟨ad, c, e, _, hK, hc0⟩ := Kd.C_get h ([] : List Int) i h0 h1
  have hc : ∀ j u, c[j]? = some u → w.cell? (ad.add (i.toNat * 1 + j)) = some u := hc0
  obtain ⟨A0, c0, rfl, l0, g0⟩ := hK
  exact ⟨ad, A0, c0, e, by have hq := hc 0 _ rfl; rwa [Nat.mul_one, Nat.add_zero] at hq, l0, g0⟩

/-! #### struct type 58 -/
structure S58 where
  f0 : ByteArray
  f1 : (List Int)
def z58 : S58 := ⟨(⟨#[]⟩ : ByteArray), ([] : List Int)⟩
def k58 : Kd S58 := Kd.iso (Kd.pair Kd.string (Kd.slice 5 (Kd.int .u8))) (fun x : S58 => (x.f0, x.f1))
theorem k58_open {w : World} {x : S58} {cs : List Value} (h : k58.K w x cs) : ∃ A1 c1, cs = [.string x.f0, .slice A1 x.f1.length c1] ∧ x.f1.length ≤ c1 ∧ (Kd.int .u8).C w A1 x.f1.length x.f1 := by
  obtain ⟨_, _, rfl, rfl, ⟨A1, c1, rfl, l1, g1⟩⟩ := h
  exact ⟨A1, c1, rfl, l1, g1⟩
theorem k58_openM {w : World} {base : Nat} {ok : Nat → Prop} {x : S58} {cs : List Value} (h : k58.M w base ok x cs) : ∃ v1, cs = [.string x.f0, v1] ∧ (Kd.int .u8).R 5 w base ok v1 x.f1 := by
  obtain ⟨_, _, rfl, rfl, ⟨v1, rfl, g1⟩⟩ := h
  exact ⟨v1, rfl, g1⟩
theorem k58_mk (w : World) (x : S58) {A1 : Option Addr} {c1 : Nat} (l1 : x.f1.length ≤ c1) (g1 : (Kd.int .u8).C w A1 x.f1.length x.f1) : k58.K w x [.string x.f0, .slice A1 x.f1.length c1] := ⟨[.string x.f0], [.slice A1 x.f1.length c1], rfl, rfl, ⟨A1, c1, rfl, l1, g1⟩⟩
theorem k58_mkM (w : World) (base : Nat) (ok : Nat → Prop) (x : S58) {v1 : Value} (g1 : (Kd.int .u8).R 5 w base ok v1 x.f1) : k58.M w base ok x [.string x.f0, v1] := ⟨[.string x.f0], [v1], rfl, rfl, ⟨v1, rfl, g1⟩⟩
theorem k58_openF {W : World} {ok : Nat → Prop} {x : S58} {cs : List Value} (h : Kd.FK k58 W ok x cs) : ∃ A1 c1, cs = [.string x.f0, .slice A1 x.f1.length c1] ∧ x.f1.length ≤ c1 ∧ Kd.F (Kd.int .u8) W ok A1 x.f1.length x.f1 := by
  obtain ⟨A1, c1, rfl, l1, _⟩ := k58_open (Kd.FK_now h)
  exact ⟨A1, c1, rfl, l1, (fun W' hW => by obtain ⟨A1_, c1_, he, l1_, g1_⟩ := k58_open (h W' hW); injection (Option.some.inj (show some (Value.slice A1 x.f1.length c1) = some (Value.slice A1_ x.f1.length c1_) from congrArg (fun l => l[1]?) he)) with ha_ _ _; rw [ha_]; exact g1_)⟩
theorem k58_mkF (W : World) (ok : Nat → Prop) (x : S58) {A1 : Option Addr} {c1 : Nat} (l1 : x.f1.length ≤ c1) (g1 : Kd.F (Kd.int .u8) W ok A1 x.f1.length x.f1) : Kd.FK k58 W ok x [.string x.f0, .slice A1 x.f1.length c1] := fun W2 hW => k58_mk W2 x l1 (g1 W2 hW)
def rd_T58 (xs : List S58) (i : Int) : S58 := xs.getD i.toNat z58
theorem at_T58 {w : World} {A : Option Addr} {n : Nat} {xs : List S58} (h : Kd.C k58 w A n xs) (i : Int) (h0 : 0 ≤ i) (h1 : i < n) : ∃ ad A1 c1, A = some ad ∧ w.cell? (ad.add (i.toNat * 2)) = some (.string (rd_T58 xs i).f0) ∧ w.cell? ⟨(ad.add (i.toNat * 2)).block, (ad.add (i.toNat * 2)).off + 1, none⟩ = some (.slice A1 (rd_T58 xs i).f1.length c1) ∧ (rd_T58 xs i).f1.length ≤ c1 ∧ (Kd.int .u8).C w A1 (rd_T58 xs i).f1.length (rd_T58 xs i).f1 := by
  obtain ⟨ad, c, e, _, hK, hc0⟩ := Kd.C_get h z58 i h0 h1
  have hc : ∀ j u, c[j]? = some u → w.cell? (ad.add (i.toNat * 2 + j)) = some u := hc0
  obtain ⟨A1, c1, rfl, l1, g1⟩ := k58_open hK
  exact ⟨ad, A1, c1, e, hc 0 _ rfl, by rw [← add_field _ _ 1 (by omega)]; exact hc 1 _ rfl, l1, g1⟩

/-! #### struct type 133 -/
structure S133 where
  f0 : ByteArray
  f1 : Int
  f2 : (List Int)
def z133 : S133 := ⟨(⟨#[]⟩ : ByteArray), (0 : Int), ([] : List Int)⟩
def k133 : Kd S133 := Kd.iso (Kd.pair Kd.string (Kd.pair (Kd.int .u8) (Kd.slice 5 (Kd.int .u8)))) (fun x : S133 => (x.f0, x.f1, x.f2))
theorem k133_open {w : World} {x : S133} {cs : List Value} (h : k133.K w x cs) : ∃ A2 c2, cs = [.string x.f0, .int .u8 x.f1, .slice A2 x.f2.length c2] ∧ x.f2.length ≤ c2 ∧ (Kd.int .u8).C w A2 x.f2.length x.f2 := by
  obtain ⟨_, _, rfl, rfl, ⟨_, _, rfl, rfl, ⟨A2, c2, rfl, l2, g2⟩⟩⟩ := h
  exact ⟨A2, c2, rfl, l2, g2⟩
theorem k133_openM {w : World} {base : Nat} {ok : Nat → Prop} {x : S133} {cs : List Value} (h : k133.M w base ok x cs) : ∃ v2, cs = [.string x.f0, .int .u8 x.f1, v2] ∧ (Kd.int .u8).R 5 w base ok v2 x.f2 := by
  obtain ⟨_, _, rfl, rfl, ⟨_, _, rfl, rfl, ⟨v2, rfl, g2⟩⟩⟩ := h
  exact ⟨v2, rfl, g2⟩
theorem k133_mk (w : World) (x : S133) {A2 : Option Addr} {c2 : Nat} (l2 : x.f2.length ≤ c2) (g2 : (Kd.int .u8).C w A2 x.f2.length x.f2) : k133.K w x [.string x.f0, .int .u8 x.f1, .slice A2 x.f2.length c2] := ⟨[.string x.f0], [.int .u8 x.f1, .slice A2 x.f2.length c2], rfl, rfl, ⟨[.int .u8 x.f1], [.slice A2 x.f2.length c2], rfl, rfl, ⟨A2, c2, rfl, l2, g2⟩⟩⟩
theorem k133_mkM (w : World) (base : Nat) (ok : Nat → Prop) (x : S133) {v2 : Value} (g2 : (Kd.int .u8).R 5 w base ok v2 x.f2) : k133.M w base ok x [.string x.f0, .int .u8 x.f1, v2] := ⟨[.string x.f0], [.int .u8 x.f1, v2], rfl, rfl, ⟨[.int .u8 x.f1], [v2], rfl, rfl, ⟨v2, rfl, g2⟩⟩⟩
theorem k133_openF {W : World} {ok : Nat → Prop} {x : S133} {cs : List Value} (h : Kd.FK k133 W ok x cs) : ∃ A2 c2, cs = [.string x.f0, .int .u8 x.f1, .slice A2 x.f2.length c2] ∧ x.f2.length ≤ c2 ∧ Kd.F (Kd.int .u8) W ok A2 x.f2.length x.f2 := by
  obtain ⟨A2, c2, rfl, l2, _⟩ := k133_open (Kd.FK_now h)
  exact ⟨A2, c2, rfl, l2, (fun W' hW => by obtain ⟨A2_, c2_, he, l2_, g2_⟩ := k133_open (h W' hW); injection (Option.some.inj (show some (Value.slice A2 x.f2.length c2) = some (Value.slice A2_ x.f2.length c2_) from congrArg (fun l => l[2]?) he)) with ha_ _ _; rw [ha_]; exact g2_)⟩
theorem k133_mkF (W : World) (ok : Nat → Prop) (x : S133) {A2 : Option Addr} {c2 : Nat} (l2 : x.f2.length ≤ c2) (g2 : Kd.F (Kd.int .u8) W ok A2 x.f2.length x.f2) : Kd.FK k133 W ok x [.string x.f0, .int .u8 x.f1, .slice A2 x.f2.length c2] := fun W2 hW => k133_mk W2 x l2 (g2 W2 hW)
def rd_T133 (xs : List S133) (i : Int) : S133 := xs.getD i.toNat z133
theorem at_T133 {w : World} {A : Option Addr} {n : Nat} {xs : List S133} (h : Kd.C k133 w A n xs) (i : Int) (h0 : 0 ≤ i) (h1 : i < n) : ∃ ad A2 c2, A = some ad ∧ w.cell? (ad.add (i.toNat * 3)) = some (.string (rd_T133 xs i).f0) ∧ w.cell? ⟨(ad.add (i.toNat * 3)).block, (ad.add (i.toNat * 3)).off + 1, none⟩ = some (.int .u8 (rd_T133 xs i).f1) ∧ w.cell? ⟨(ad.add (i.toNat * 3)).block, (ad.add (i.toNat * 3)).off + 2, none⟩ = some (.slice A2 (rd_T133 xs i).f2.length c2) ∧ (rd_T133 xs i).f2.length ≤ c2 ∧ (Kd.int .u8).C w A2 (rd_T133 xs i).f2.length (rd_T133 xs i).f2 := by
  obtain ⟨ad, c, e, _, hK, hc0⟩ := Kd.C_get h z133 i h0 h1
  have hc : ∀ j u, c[j]? = some u → w.cell? (ad.add (i.toNat * 3 + j)) = some u := hc0
  obtain ⟨A2, c2, rfl, l2, g2⟩ := k133_open hK
  exact ⟨ad, A2, c2, e, hc 0 _ rfl, by rw [← add_field _ _ 1 (by omega)]; exact hc 1 _ rfl, by rw [← add_field _ _ 2 (by omega)]; exact hc 2 _ rfl, l2, g2⟩

/-! #### struct type 70 -/
structure S70 where
  f0 : ByteArray
  f1 : (List Int)
def z70 : S70 := ⟨(⟨#[]⟩ : ByteArray), ([] : List Int)⟩
def k70 : Kd S70 := Kd.iso (Kd.pair Kd.string (Kd.slice 5 (Kd.int .u8))) (fun x : S70 => (x.f0, x.f1))
theorem k70_open {w : World} {x : S70} {cs : List Value} (h : k70.K w x cs) : ∃ A1 c1, cs = [.string x.f0, .slice A1 x.f1.length c1] ∧ x.f1.length ≤ c1 ∧ (Kd.int .u8).C w A1 x.f1.length x.f1 := by
  obtain ⟨_, _, rfl, rfl, ⟨A1, c1, rfl, l1, g1⟩⟩ := h
  exact ⟨A1, c1, rfl, l1, g1⟩
theorem k70_openM {w : World} {base : Nat} {ok : Nat → Prop} {x : S70} {cs : List Value} (h : k70.M w base ok x cs) : ∃ v1, cs = [.string x.f0, v1] ∧ (Kd.int .u8).R 5 w base ok v1 x.f1 := by
  obtain ⟨_, _, rfl, rfl, ⟨v1, rfl, g1⟩⟩ := h
  exact ⟨v1, rfl, g1⟩
theorem k70_mk (w : World) (x : S70) {A1 : Option Addr} {c1 : Nat} (l1 : x.f1.length ≤ c1) (g1 : (Kd.int .u8).C w A1 x.f1.length x.f1) : k70.K w x [.string x.f0, .slice A1 x.f1.length c1] := ⟨[.string x.f0], [.slice A1 x.f1.length c1], rfl, rfl, ⟨A1, c1, rfl, l1, g1⟩⟩
theorem k70_mkM (w : World) (base : Nat) (ok : Nat → Prop) (x : S70) {v1 : Value} (g1 : (Kd.int .u8).R 5 w base ok v1 x.f1) : k70.M w base ok x [.string x.f0, v1] := ⟨[.string x.f0], [v1], rfl, rfl, ⟨v1, rfl, g1⟩⟩
theorem k70_openF {W : World} {ok : Nat → Prop} {x : S70} {cs : List Value} (h : Kd.FK k70 W ok x cs) : ∃ A1 c1, cs = [.string x.f0, .slice A1 x.f1.length c1] ∧ x.f1.length ≤ c1 ∧ Kd.F (Kd.int .u8) W ok A1 x.f1.length x.f1 := by
  obtain ⟨A1, c1, rfl, l1, _⟩ := k70_open (Kd.FK_now h)
  exact ⟨A1, c1, rfl, l1, (fun W' hW => by obtain ⟨A1_, c1_, he, l1_, g1_⟩ := k70_open (h W' hW); injection (Option.some.inj (show some (Value.slice A1 x.f1.length c1) = some (Value.slice A1_ x.f1.length c1_) from congrArg (fun l => l[1]?) he)) with ha_ _ _; rw [ha_]; exact g1_)⟩
theorem k70_mkF (W : World) (ok : Nat → Prop) (x : S70) {A1 : Option Addr} {c1 : Nat} (l1 : x.f1.length ≤ c1) (g1 : Kd.F (Kd.int .u8) W ok A1 x.f1.length x.f1) : Kd.FK k70 W ok x [.string x.f0, .slice A1 x.f1.length c1] := fun W2 hW => k70_mk W2 x l1 (g1 W2 hW)
def rd_T70 (xs : List S70) (i : Int) : S70 := xs.getD i.toNat z70
theorem at_T70 {w : World} {A : Option Addr} {n : Nat} {xs : List S70} (h : Kd.C k70 w A n xs) (i : Int) (h0 : 0 ≤ i) (h1 : i < n) : ∃ ad A1 c1, A = some ad ∧ w.cell? (ad.add (i.toNat * 2)) = some (.string (rd_T70 xs i).f0) ∧ w.cell? ⟨(ad.add (i.toNat * 2)).block, (ad.add (i.toNat * 2)).off + 1, none⟩ = some (.slice A1 (rd_T70 xs i).f1.length c1) ∧ (rd_T70 xs i).f1.length ≤ c1 ∧ (Kd.int .u8).C w A1 (rd_T70 xs i).f1.length (rd_T70 xs i).f1 := by
  obtain ⟨ad, c, e, _, hK, hc0⟩ := Kd.C_get h z70 i h0 h1
  have hc : ∀ j u, c[j]? = some u → w.cell? (ad.add (i.toNat * 2 + j)) = some u := hc0
  obtain ⟨A1, c1, rfl, l1, g1⟩ := k70_open hK
  exact ⟨ad, A1, c1, e, hc 0 _ rfl, by rw [← add_field _ _ 1 (by omega)]; exact hc 1 _ rfl, l1, g1⟩

end Go.Proofs.YtckjbgneblfceaaDoor.PFnFitFirst
