-- PRINTED BY print.sh 35421559b90ae4d0a3588c463048766b98c2df88dd9212a6774a882060cdf62d: not written by this session
import Derived.Test.YtckjbgneblfceaaProg
import Derived.Below
import Derived.Deep.Draws
import Derived.Deep.AppendLies
import Derived.Maps.AppendAt
import Derived.OwnWalk
import Derived.Laws.BytesArg
import Derived.Laws.MakeOwn
import Derived.Laws.OwnMore
import Derived.Deep.OwnRows
import Derived.Tactics
import Derived.Lib.ConvBytes
import Derived.Laws.Slices
import Derived.WalkKit
import Derived.KernelRfl
import Derived.RowKit3
import Derived.Deep.LoopGhost
import Derived.Deep.QuietTactic
import Derived.BigQuiet
import Derived.WideLaws
import Derived.Deep.DeepCutAuto
import Derived.Deep.CutBlock
import Derived.Deep.RegionHeld3
import Derived.Laws.Rows
import Derived.Lib.AppendStr
import Derived.ArgAppend
import Derived.Laws.IdiomCopy
import Derived.OrdersHeld
import Derived.Laws.BitsLemmas
import Derived.RowKit
import Derived.Test.YtckjbgneblfceaaWWords
import Derived.Test.YtckjbgneblfceaaWLast
import Derived.Test.YtckjbgneblfceaaWTab
import Derived.Test.YtckjbgneblfceaaWFour
import Derived.Test.YtckjbgneblfceaaWQPut
import Derived.Test.YtckjbgneblfceaaWApart
import Derived.Test.YtckjbgneblfceaaWArr
import Derived.Test.YtckjbgneblfceaaWZeros
import Derived.Test.YtckjbgneblfceaaWFoot
import Derived.Test.YtckjbgneblfceaaWKept
import Derived.Test.YtckjbgneblfceaaWShare
import Derived.Test.YtckjbgneblfceaaWN
import Derived.Test.YtckjbgneblfceaaWFootNe
import Derived.Test.YtckjbgneblfceaaWAt
import Derived.Test.YtckjbgneblfceaaWEqStruct
import Derived.Test.YtckjbgneblfceaaWRepsOne
import Derived.Test.YtckjbgneblfceaaWInv
import Derived.Test.YtckjbgneblfceaaWInvWords
import Derived.Test.YtckjbgneblfceaaWGuard
import Derived.Test.YtckjbgneblfceaaWNEv
import Derived.Test.YtckjbgneblfceaaWMore
namespace Go.Proofs.Ytckjbgneblfceaa.PFnMergeDirs
open Go.RowKit Go.Proofs.YtckjbgneblfceaaW.PrintWords Go.Proofs.YtckjbgneblfceaaW.PrintLast Go.Proofs.YtckjbgneblfceaaW.PrintMore
attribute [local go_sem] max2_int min2_int max_two min_two max_three min_three max_four min_four   -- for this text's walks alone
set_option linter.unusedVariables false
set_option linter.unusedSimpArgs false



def errW : Option Int → Value
  | none => .nilIface
  | some c => .iface 0 (.int .i64 c)
theorem errW_none : errW none = .nilIface := rfl
theorem errW_some (c : Int) : errW (some c) = .iface 0 (.int .i64 c) := rfl

theorem info9 : (Try.prog.info? 9).map (fun i => (i.zero, i.size, i.bytes)) = some (some (.string ⟨#[]⟩), 1, 16) := by kernel_rfl
theorem info35 : (Try.prog.info? 35).map (fun i => (i.zero, i.size, i.bytes)) = some (some (.agg #[(.string ⟨#[]⟩), (.int .i64 0), (.int .i64 0), (.bool false), (.int .i64 0)]), 5, 48) := by kernel_rfl
-- the values' own types
def rd_L4 (xs : List (List Int)) (i : Int) : (List Int) := xs.getD i.toNat ([] : List Int)
theorem at_L4 {w : World} {A : Option Addr} {n : Nat} {xs : List (List Int)} (h : Kd.C (Kd.slice 5 (Kd.int .u8)) w A n xs) (i : Int) (h0 : 0 ≤ i) (h1 : i < n) : ∃ ad A0 c0, A = some ad ∧ w.cell? (ad.add i.toNat) = some (.slice A0 (rd_L4 xs i).length c0) ∧ (rd_L4 xs i).length ≤ c0 ∧ (Kd.int .u8).C w A0 (rd_L4 xs i).length (rd_L4 xs i) := by
  obtain ⟨ad, c, e, _, hK, hc0⟩ := Kd.C_get h ([] : List Int) i h0 h1
  have hc : ∀ j u, c[j]? = some u → w.cell? (ad.add (i.toNat * 1 + j)) = some u := hc0
  obtain ⟨A0, c0, rfl, l0, g0⟩ := hK
  exact ⟨ad, A0, c0, e, by have hq := hc 0 _ rfl; rwa [Nat.mul_one, Nat.add_zero] at hq, l0, g0⟩

/-! #### struct type 30 -/
structure S30 where
  f0 : ByteArray
  f1 : Int
  f2 : Bool
  f3 : (List Int)
  f4 : Int
def z30 : S30 := ⟨(⟨#[]⟩ : ByteArray), (0 : Int), false, ([] : List Int), (0 : Int)⟩
def k30 : Kd S30 := Kd.iso (Kd.pair Kd.string (Kd.pair (Kd.int .i64) (Kd.pair Kd.bool (Kd.pair (Kd.slice 5 (Kd.int .u8)) (Kd.int .i64))))) (fun x : S30 => (x.f0, x.f1, x.f2, x.f3, x.f4))
theorem k30_open {w : World} {x : S30} {cs : List Value} (h : k30.K w x cs) : ∃ A3 c3, cs = [.string x.f0, .int .i64 x.f1, .bool x.f2, .slice A3 x.f3.length c3, .int .i64 x.f4] ∧ x.f3.length ≤ c3 ∧ (Kd.int .u8).C w A3 x.f3.length x.f3 := by
  obtain ⟨_, _, rfl, rfl, ⟨_, _, rfl, rfl, ⟨_, _, rfl, rfl, ⟨_, _, rfl, ⟨A3, c3, rfl, l3, g3⟩, rfl⟩⟩⟩⟩ := h
  exact ⟨A3, c3, rfl, l3, g3⟩
theorem k30_openM {w : World} {base : Nat} {ok : Nat → Prop} {x : S30} {cs : List Value} (h : k30.M w base ok x cs) : ∃ v3, cs = [.string x.f0, .int .i64 x.f1, .bool x.f2, v3, .int .i64 x.f4] ∧ (Kd.int .u8).R 5 w base ok v3 x.f3 := by
  obtain ⟨_, _, rfl, rfl, ⟨_, _, rfl, rfl, ⟨_, _, rfl, rfl, ⟨_, _, rfl, ⟨v3, rfl, g3⟩, rfl⟩⟩⟩⟩ := h
  exact ⟨v3, rfl, g3⟩
theorem k30_mk (w : World) (x : S30) {A3 : Option Addr} {c3 : Nat} (l3 : x.f3.length ≤ c3) (g3 : (Kd.int .u8).C w A3 x.f3.length x.f3) : k30.K w x [.string x.f0, .int .i64 x.f1, .bool x.f2, .slice A3 x.f3.length c3, .int .i64 x.f4] := ⟨[.string x.f0], [.int .i64 x.f1, .bool x.f2, .slice A3 x.f3.length c3, .int .i64 x.f4], rfl, rfl, ⟨[.int .i64 x.f1], [.bool x.f2, .slice A3 x.f3.length c3, .int .i64 x.f4], rfl, rfl, ⟨[.bool x.f2], [.slice A3 x.f3.length c3, .int .i64 x.f4], rfl, rfl, ⟨[.slice A3 x.f3.length c3], [.int .i64 x.f4], rfl, ⟨A3, c3, rfl, l3, g3⟩, rfl⟩⟩⟩⟩
theorem k30_mkM (w : World) (base : Nat) (ok : Nat → Prop) (x : S30) {v3 : Value} (g3 : (Kd.int .u8).R 5 w base ok v3 x.f3) : k30.M w base ok x [.string x.f0, .int .i64 x.f1, .bool x.f2, v3, .int .i64 x.f4] := ⟨[.string x.f0], [.int .i64 x.f1, .bool x.f2, v3, .int .i64 x.f4], rfl, rfl, ⟨[.int .i64 x.f1], [.bool x.f2, v3, .int .i64 x.f4], rfl, rfl, ⟨[.bool x.f2], [v3, .int .i64 x.f4], rfl, rfl, ⟨[v3], [.int .i64 x.f4], rfl, ⟨v3, rfl, g3⟩, rfl⟩⟩⟩⟩
def rd_T30 (xs : List S30) (i : Int) : S30 := xs.getD i.toNat z30
theorem at_T30 {w : World} {A : Option Addr} {n : Nat} {xs : List S30} (h : Kd.C k30 w A n xs) (i : Int) (h0 : 0 ≤ i) (h1 : i < n) : ∃ ad A3 c3, A = some ad ∧ w.cell? (ad.add (i.toNat * 5)) = some (.string (rd_T30 xs i).f0) ∧ w.cell? ⟨(ad.add (i.toNat * 5)).block, (ad.add (i.toNat * 5)).off + 1, none⟩ = some (.int .i64 (rd_T30 xs i).f1) ∧ w.cell? ⟨(ad.add (i.toNat * 5)).block, (ad.add (i.toNat * 5)).off + 2, none⟩ = some (.bool (rd_T30 xs i).f2) ∧ w.cell? ⟨(ad.add (i.toNat * 5)).block, (ad.add (i.toNat * 5)).off + 3, none⟩ = some (.slice A3 (rd_T30 xs i).f3.length c3) ∧ w.cell? ⟨(ad.add (i.toNat * 5)).block, (ad.add (i.toNat * 5)).off + 4, none⟩ = some (.int .i64 (rd_T30 xs i).f4) ∧ (rd_T30 xs i).f3.length ≤ c3 ∧ (Kd.int .u8).C w A3 (rd_T30 xs i).f3.length (rd_T30 xs i).f3 := by
  obtain ⟨ad, c, e, _, hK, hc0⟩ := Kd.C_get h z30 i h0 h1
  have hc : ∀ j u, c[j]? = some u → w.cell? (ad.add (i.toNat * 5 + j)) = some u := hc0
  obtain ⟨A3, c3, rfl, l3, g3⟩ := k30_open hK
  exact ⟨ad, A3, c3, e, hc 0 _ rfl, by rw [← add_field _ _ 1 (by omega)]; exact hc 1 _ rfl, by rw [← add_field _ _ 2 (by omega)]; exact hc 2 _ rfl, by rw [← add_field _ _ 3 (by omega)]; exact hc 3 _ rfl, by rw [← add_field _ _ 4 (by omega)]; exact hc 4 _ rfl, l3, g3⟩

/-! #### struct type 35 -/
structure S35 where
  f0 : ByteArray
  f1 : Int
  f2 : Int
  f3 : Bool
  f4 : Int
def z35 : S35 := ⟨(⟨#[]⟩ : ByteArray), (0 : Int), (0 : Int), false, (0 : Int)⟩
def k35 : Kd S35 := Kd.iso (Kd.pair Kd.string (Kd.pair (Kd.int .i64) (Kd.pair (Kd.int .i64) (Kd.pair Kd.bool (Kd.int .i64))))) (fun x : S35 => (x.f0, x.f1, x.f2, x.f3, x.f4))
theorem k35_open {w : World} {x : S35} {cs : List Value} (h : k35.K w x cs) : cs = [.string x.f0, .int .i64 x.f1, .int .i64 x.f2, .bool x.f3, .int .i64 x.f4] := by
  obtain ⟨_, _, rfl, rfl, ⟨_, _, rfl, rfl, ⟨_, _, rfl, rfl, ⟨_, _, rfl, rfl, rfl⟩⟩⟩⟩ := h
  exact rfl
theorem k35_openM {w : World} {base : Nat} {ok : Nat → Prop} {x : S35} {cs : List Value} (h : k35.M w base ok x cs) : cs = [.string x.f0, .int .i64 x.f1, .int .i64 x.f2, .bool x.f3, .int .i64 x.f4] := by
  obtain ⟨_, _, rfl, rfl, ⟨_, _, rfl, rfl, ⟨_, _, rfl, rfl, ⟨_, _, rfl, rfl, rfl⟩⟩⟩⟩ := h
  exact rfl
theorem k35_mk (w : World) (x : S35)  : k35.K w x [.string x.f0, .int .i64 x.f1, .int .i64 x.f2, .bool x.f3, .int .i64 x.f4] := ⟨[.string x.f0], [.int .i64 x.f1, .int .i64 x.f2, .bool x.f3, .int .i64 x.f4], rfl, rfl, ⟨[.int .i64 x.f1], [.int .i64 x.f2, .bool x.f3, .int .i64 x.f4], rfl, rfl, ⟨[.int .i64 x.f2], [.bool x.f3, .int .i64 x.f4], rfl, rfl, ⟨[.bool x.f3], [.int .i64 x.f4], rfl, rfl, rfl⟩⟩⟩⟩
theorem k35_mkM (w : World) (base : Nat) (ok : Nat → Prop) (x : S35)  : k35.M w base ok x [.string x.f0, .int .i64 x.f1, .int .i64 x.f2, .bool x.f3, .int .i64 x.f4] := ⟨[.string x.f0], [.int .i64 x.f1, .int .i64 x.f2, .bool x.f3, .int .i64 x.f4], rfl, rfl, ⟨[.int .i64 x.f1], [.int .i64 x.f2, .bool x.f3, .int .i64 x.f4], rfl, rfl, ⟨[.int .i64 x.f2], [.bool x.f3, .int .i64 x.f4], rfl, rfl, ⟨[.bool x.f3], [.int .i64 x.f4], rfl, rfl, rfl⟩⟩⟩⟩
def rd_T35 (xs : List S35) (i : Int) : S35 := xs.getD i.toNat z35
theorem at_T35 {w : World} {A : Option Addr} {n : Nat} {xs : List S35} (h : Kd.C k35 w A n xs) (i : Int) (h0 : 0 ≤ i) (h1 : i < n) : ∃ ad , A = some ad ∧ w.cell? (ad.add (i.toNat * 5)) = some (.string (rd_T35 xs i).f0) ∧ w.cell? ⟨(ad.add (i.toNat * 5)).block, (ad.add (i.toNat * 5)).off + 1, none⟩ = some (.int .i64 (rd_T35 xs i).f1) ∧ w.cell? ⟨(ad.add (i.toNat * 5)).block, (ad.add (i.toNat * 5)).off + 2, none⟩ = some (.int .i64 (rd_T35 xs i).f2) ∧ w.cell? ⟨(ad.add (i.toNat * 5)).block, (ad.add (i.toNat * 5)).off + 3, none⟩ = some (.bool (rd_T35 xs i).f3) ∧ w.cell? ⟨(ad.add (i.toNat * 5)).block, (ad.add (i.toNat * 5)).off + 4, none⟩ = some (.int .i64 (rd_T35 xs i).f4) := by
  obtain ⟨ad, c, e, _, hK, hc0⟩ := Kd.C_get h z35 i h0 h1
  have hc : ∀ j u, c[j]? = some u → w.cell? (ad.add (i.toNat * 5 + j)) = some u := hc0
  obtain rfl := k35_open hK
  exact ⟨ad, e, hc 0 _ rfl, by rw [← add_field _ _ 1 (by omega)]; exact hc 1 _ rfl, by rw [← add_field _ _ 2 (by omega)]; exact hc 2 _ rfl, by rw [← add_field _ _ 3 (by omega)]; exact hc 3 _ rfl, by rw [← add_field _ _ 4 (by omega)]; exact hc 4 _ rfl⟩

end Go.Proofs.Ytckjbgneblfceaa.PFnMergeDirs
