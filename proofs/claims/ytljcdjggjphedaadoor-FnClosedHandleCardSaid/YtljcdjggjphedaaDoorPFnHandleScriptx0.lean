-- PRINTED BY print.sh 35421559b90ae4d0a3588c463048766b98c2df88dd9212a6774a882060cdf62d: not written by this session
import Derived.Test.YtljcdjggjphedaaDoorProg
import Derived.Below
import Derived.Deep.Draws
import Derived.Deep.AppendLies
import Derived.Maps.AppendAt
import Derived.OwnWalk
import Derived.Laws.BytesArg
import Derived.Laws.MakeOwn
import Derived.Laws.OwnMore
import Derived.Deep.OwnRows
import Derived.Tactics
import Derived.Lib.ConvBytes
import Derived.Laws.Slices
import Derived.WalkKit
import Derived.KernelRfl
import Derived.RowKit3
import Derived.Deep.LoopGhost
import Derived.Deep.QuietTactic
import Derived.BigQuiet
import Derived.WideLaws
import Derived.Deep.DeepCutAuto
import Derived.Deep.CutBlock
import Derived.Deep.RegionHeld3
import Derived.Laws.Rows
import Derived.Lib.AppendStr
import Derived.ArgAppend
import Derived.Laws.IdiomCopy
import Derived.OrdersHeld
import Derived.Laws.BitsLemmas
import Derived.RowKit
import Derived.Test.YtljcdjggjphedaaDoorWWords
import Derived.Test.YtljcdjggjphedaaDoorWLast
import Derived.Test.YtljcdjggjphedaaDoorWTab
import Derived.Test.YtljcdjggjphedaaDoorWFour
import Derived.Test.YtljcdjggjphedaaDoorWQPut
import Derived.Test.YtljcdjggjphedaaDoorWApart
import Derived.Test.YtljcdjggjphedaaDoorWArr
import Derived.Test.YtljcdjggjphedaaDoorWZeros
import Derived.Test.YtljcdjggjphedaaDoorWFoot
import Derived.Test.YtljcdjggjphedaaDoorWKept
import Derived.Test.YtljcdjggjphedaaDoorWShare
import Derived.Test.YtljcdjggjphedaaDoorWN
import Derived.Test.YtljcdjggjphedaaDoorWFootNe
import Derived.Test.YtljcdjggjphedaaDoorWAt
import Derived.Test.YtljcdjggjphedaaDoorWEqStruct
import Derived.Test.YtljcdjggjphedaaDoorWRepsOne
import Derived.Test.YtljcdjggjphedaaDoorWInv
import Derived.Test.YtljcdjggjphedaaDoorWInvWords
import Derived.Test.YtljcdjggjphedaaDoorWGuard
import Derived.Test.YtljcdjggjphedaaDoorWNEv
import Derived.Test.YtljcdjggjphedaaDoorWMore
namespace Go.Proofs.YtljcdjggjphedaaDoor.PFnHandleScript
open Go.RowKit Go.Proofs.YtljcdjggjphedaaDoorW.PrintWords Go.Proofs.YtljcdjggjphedaaDoorW.PrintLast Go.Proofs.YtljcdjggjphedaaDoorW.PrintMore
attribute [local go_sem] max2_int min2_int max_two min_two max_three min_three max_four min_four   -- for this text's walks alone
set_option linter.unusedVariables false
set_option linter.unusedSimpArgs false



def errW : Option Int → Value
  | none => .nilIface
  | some c => .iface 0 (.int .i64 c)
theorem errW_none : errW none = .nilIface := rfl
theorem errW_some (c : Int) : errW (some c) = .iface 0 (.int .i64 c) := rfl

theorem info5 : (Tryd.prog.info? 5).map (fun i => (i.zero, i.size, i.bytes)) = some (some (.int .u8 0), 1, 1) := by kernel_rfl
theorem info9 : (Tryd.prog.info? 9).map (fun i => (i.zero, i.size, i.bytes)) = some (some (.string ⟨#[]⟩), 1, 16) := by kernel_rfl
-- the values' own types
def rd_L3 (xs : List (List Int)) (i : Int) : (List Int) := xs.getD i.toNat ([] : List Int)
theorem at_L3 {w : World} {A : Option Addr} {n : Nat} {xs : List (List Int)} (h : Kd.C (Kd.slice 5 (Kd.int .u8)) w A n xs) (i : Int) (h0 : 0 ≤ i) (h1 : i < n) : ∃ ad A0 c0, A = some ad ∧ w.cell? (ad.add i.toNat) = some (.slice A0 (rd_L3 xs i).length c0) ∧ (rd_L3 xs i).length ≤ c0 ∧ (Kd.int .u8).C w A0 (rd_L3 xs i).length (rd_L3 xs i) := by
  obtain ⟨ad, c, e, _, hK, hc0⟩ := Kd.C_get h ([] : List Int) i h0 h1
  have hc : ∀ j u, c[j]? = some u → w.cell? (ad.add (i.toNat * 1 + j)) = some u := hc0
  obtain ⟨A0, c0, rfl, l0, g0⟩ := hK
  exact ⟨ad, A0, c0, e, by have hq := hc 0 _ rfl; rwa [Nat.mul_one, Nat.add_zero] at hq, l0, g0⟩

/-! #### struct type 26 -/
structure S26 where
  f0 : Int
  f1 : ByteArray
  f2 : ByteArray
  f3 : Int
  f4 : Int
  f5 : Int
  f6 : (List Int)
  f7 : Int
  f8 : Int
  f9 : Int
def z26 : S26 := ⟨(0 : Int), (⟨#[]⟩ : ByteArray), (⟨#[]⟩ : ByteArray), (0 : Int), (0 : Int), (0 : Int), ([] : List Int), (0 : Int), (0 : Int), (0 : Int)⟩
def k26 : Kd S26 := Kd.iso (Kd.pair (Kd.int .i64) (Kd.pair Kd.string (Kd.pair Kd.string (Kd.pair (Kd.int .i64) (Kd.pair (Kd.int .i64) (Kd.pair (Kd.int .i64) (Kd.pair (Kd.slice 5 (Kd.int .u8)) (Kd.pair (Kd.int .i64) (Kd.pair (Kd.int .i64) (Kd.int .i64)))))))))) (fun x : S26 => (x.f0, x.f1, x.f2, x.f3, x.f4, x.f5, x.f6, x.f7, x.f8, x.f9))
theorem k26_open {w : World} {x : S26} {cs : List Value} (h : k26.K w x cs) : ∃ A6 c6, cs = [.int .i64 x.f0, .string x.f1, .string x.f2, .int .i64 x.f3, .int .i64 x.f4, .int .i64 x.f5, .slice A6 x.f6.length c6, .int .i64 x.f7, .int .i64 x.f8, .int .i64 x.f9] ∧ x.f6.length ≤ c6 ∧ (Kd.int .u8).C w A6 x.f6.length x.f6 := by
  obtain ⟨_, _, rfl, rfl, ⟨_, _, rfl, rfl, ⟨_, _, rfl, rfl, ⟨_, _, rfl, rfl, ⟨_, _, rfl, rfl, ⟨_, _, rfl, rfl, ⟨_, _, rfl, ⟨A6, c6, rfl, l6, g6⟩, ⟨_, _, rfl, rfl, ⟨_, _, rfl, rfl, rfl⟩⟩⟩⟩⟩⟩⟩⟩⟩ := h
  exact ⟨A6, c6, rfl, l6, g6⟩
theorem k26_openM {w : World} {base : Nat} {ok : Nat → Prop} {x : S26} {cs : List Value} (h : k26.M w base ok x cs) : ∃ v6, cs = [.int .i64 x.f0, .string x.f1, .string x.f2, .int .i64 x.f3, .int .i64 x.f4, .int .i64 x.f5, v6, .int .i64 x.f7, .int .i64 x.f8, .int .i64 x.f9] ∧ (Kd.int .u8).R 5 w base ok v6 x.f6 := by
  obtain ⟨_, _, rfl, rfl, ⟨_, _, rfl, rfl, ⟨_, _, rfl, rfl, ⟨_, _, rfl, rfl, ⟨_, _, rfl, rfl, ⟨_, _, rfl, rfl, ⟨_, _, rfl, ⟨v6, rfl, g6⟩, ⟨_, _, rfl, rfl, ⟨_, _, rfl, rfl, rfl⟩⟩⟩⟩⟩⟩⟩⟩⟩ := h
  exact ⟨v6, rfl, g6⟩
theorem k26_mk (w : World) (x : S26) {A6 : Option Addr} {c6 : Nat} (l6 : x.f6.length ≤ c6) (g6 : (Kd.int .u8).C w A6 x.f6.length x.f6) : k26.K w x [.int .i64 x.f0, .string x.f1, .string x.f2, .int .i64 x.f3, .int .i64 x.f4, .int .i64 x.f5, .slice A6 x.f6.length c6, .int .i64 x.f7, .int .i64 x.f8, .int .i64 x.f9] := ⟨[.int .i64 x.f0], [.string x.f1, .string x.f2, .int .i64 x.f3, .int .i64 x.f4, .int .i64 x.f5, .slice A6 x.f6.length c6, .int .i64 x.f7, .int .i64 x.f8, .int .i64 x.f9], rfl, rfl, ⟨[.string x.f1], [.string x.f2, .int .i64 x.f3, .int .i64 x.f4, .int .i64 x.f5, .slice A6 x.f6.length c6, .int .i64 x.f7, .int .i64 x.f8, .int .i64 x.f9], rfl, rfl, ⟨[.string x.f2], [.int .i64 x.f3, .int .i64 x.f4, .int .i64 x.f5, .slice A6 x.f6.length c6, .int .i64 x.f7, .int .i64 x.f8, .int .i64 x.f9], rfl, rfl, ⟨[.int .i64 x.f3], [.int .i64 x.f4, .int .i64 x.f5, .slice A6 x.f6.length c6, .int .i64 x.f7, .int .i64 x.f8, .int .i64 x.f9], rfl, rfl, ⟨[.int .i64 x.f4], [.int .i64 x.f5, .slice A6 x.f6.length c6, .int .i64 x.f7, .int .i64 x.f8, .int .i64 x.f9], rfl, rfl, ⟨[.int .i64 x.f5], [.slice A6 x.f6.length c6, .int .i64 x.f7, .int .i64 x.f8, .int .i64 x.f9], rfl, rfl, ⟨[.slice A6 x.f6.length c6], [.int .i64 x.f7, .int .i64 x.f8, .int .i64 x.f9], rfl, ⟨A6, c6, rfl, l6, g6⟩, ⟨[.int .i64 x.f7], [.int .i64 x.f8, .int .i64 x.f9], rfl, rfl, ⟨[.int .i64 x.f8], [.int .i64 x.f9], rfl, rfl, rfl⟩⟩⟩⟩⟩⟩⟩⟩⟩
theorem k26_mkM (w : World) (base : Nat) (ok : Nat → Prop) (x : S26) {v6 : Value} (g6 : (Kd.int .u8).R 5 w base ok v6 x.f6) : k26.M w base ok x [.int .i64 x.f0, .string x.f1, .string x.f2, .int .i64 x.f3, .int .i64 x.f4, .int .i64 x.f5, v6, .int .i64 x.f7, .int .i64 x.f8, .int .i64 x.f9] := ⟨[.int .i64 x.f0], [.string x.f1, .string x.f2, .int .i64 x.f3, .int .i64 x.f4, .int .i64 x.f5, v6, .int .i64 x.f7, .int .i64 x.f8, .int .i64 x.f9], rfl, rfl, ⟨[.string x.f1], [.string x.f2, .int .i64 x.f3, .int .i64 x.f4, .int .i64 x.f5, v6, .int .i64 x.f7, .int .i64 x.f8, .int .i64 x.f9], rfl, rfl, ⟨[.string x.f2], [.int .i64 x.f3, .int .i64 x.f4, .int .i64 x.f5, v6, .int .i64 x.f7, .int .i64 x.f8, .int .i64 x.f9], rfl, rfl, ⟨[.int .i64 x.f3], [.int .i64 x.f4, .int .i64 x.f5, v6, .int .i64 x.f7, .int .i64 x.f8, .int .i64 x.f9], rfl, rfl, ⟨[.int .i64 x.f4], [.int .i64 x.f5, v6, .int .i64 x.f7, .int .i64 x.f8, .int .i64 x.f9], rfl, rfl, ⟨[.int .i64 x.f5], [v6, .int .i64 x.f7, .int .i64 x.f8, .int .i64 x.f9], rfl, rfl, ⟨[v6], [.int .i64 x.f7, .int .i64 x.f8, .int .i64 x.f9], rfl, ⟨v6, rfl, g6⟩, ⟨[.int .i64 x.f7], [.int .i64 x.f8, .int .i64 x.f9], rfl, rfl, ⟨[.int .i64 x.f8], [.int .i64 x.f9], rfl, rfl, rfl⟩⟩⟩⟩⟩⟩⟩⟩⟩
def rd_T26 (xs : List S26) (i : Int) : S26 := xs.getD i.toNat z26
theorem at_T26 {w : World} {A : Option Addr} {n : Nat} {xs : List S26} (h : Kd.C k26 w A n xs) (i : Int) (h0 : 0 ≤ i) (h1 : i < n) : ∃ ad A6 c6, A = some ad ∧ w.cell? (ad.add (i.toNat * 10)) = some (.int .i64 (rd_T26 xs i).f0) ∧ w.cell? ⟨(ad.add (i.toNat * 10)).block, (ad.add (i.toNat * 10)).off + 1, none⟩ = some (.string (rd_T26 xs i).f1) ∧ w.cell? ⟨(ad.add (i.toNat * 10)).block, (ad.add (i.toNat * 10)).off + 2, none⟩ = some (.string (rd_T26 xs i).f2) ∧ w.cell? ⟨(ad.add (i.toNat * 10)).block, (ad.add (i.toNat * 10)).off + 3, none⟩ = some (.int .i64 (rd_T26 xs i).f3) ∧ w.cell? ⟨(ad.add (i.toNat * 10)).block, (ad.add (i.toNat * 10)).off + 4, none⟩ = some (.int .i64 (rd_T26 xs i).f4) ∧ w.cell? ⟨(ad.add (i.toNat * 10)).block, (ad.add (i.toNat * 10)).off + 5, none⟩ = some (.int .i64 (rd_T26 xs i).f5) ∧ w.cell? ⟨(ad.add (i.toNat * 10)).block, (ad.add (i.toNat * 10)).off + 6, none⟩ = some (.slice A6 (rd_T26 xs i).f6.length c6) ∧ w.cell? ⟨(ad.add (i.toNat * 10)).block, (ad.add (i.toNat * 10)).off + 7, none⟩ = some (.int .i64 (rd_T26 xs i).f7) ∧ w.cell? ⟨(ad.add (i.toNat * 10)).block, (ad.add (i.toNat * 10)).off + 8, none⟩ = some (.int .i64 (rd_T26 xs i).f8) ∧ w.cell? ⟨(ad.add (i.toNat * 10)).block, (ad.add (i.toNat * 10)).off + 9, none⟩ = some (.int .i64 (rd_T26 xs i).f9) ∧ (rd_T26 xs i).f6.length ≤ c6 ∧ (Kd.int .u8).C w A6 (rd_T26 xs i).f6.length (rd_T26 xs i).f6 := by
  obtain ⟨ad, c, e, _, hK, hc0⟩ := Kd.C_get h z26 i h0 h1
  have hc : ∀ j u, c[j]? = some u → w.cell? (ad.add (i.toNat * 10 + j)) = some u := hc0
  obtain ⟨A6, c6, rfl, l6, g6⟩ := k26_open hK
  exact ⟨ad, A6, c6, e, hc 0 _ rfl, by rw [← add_field _ _ 1 (by omega)]; exact hc 1 _ rfl, by rw [← add_field _ _ 2 (by omega)]; exact hc 2 _ rfl, by rw [← add_field _ _ 3 (by omega)]; exact hc 3 _ rfl, by rw [← add_field _ _ 4 (by omega)]; exact hc 4 _ rfl, by rw [← add_field _ _ 5 (by omega)]; exact hc 5 _ rfl, by rw [← add_field _ _ 6 (by omega)]; exact hc 6 _ rfl, by rw [← add_field _ _ 7 (by omega)]; exact hc 7 _ rfl, by rw [← add_field _ _ 8 (by omega)]; exact hc 8 _ rfl, by rw [← add_field _ _ 9 (by omega)]; exact hc 9 _ rfl, l6, g6⟩

/-! #### struct type 75 -/
structure S75 where
  f0 : ByteArray
  f1 : Int
  f2 : Int
  f3 : Bool
  f4 : Int
def z75 : S75 := ⟨(⟨#[]⟩ : ByteArray), (0 : Int), (0 : Int), false, (0 : Int)⟩
def k75 : Kd S75 := Kd.iso (Kd.pair Kd.string (Kd.pair (Kd.int .i64) (Kd.pair (Kd.int .i64) (Kd.pair Kd.bool (Kd.int .i64))))) (fun x : S75 => (x.f0, x.f1, x.f2, x.f3, x.f4))
theorem k75_open {w : World} {x : S75} {cs : List Value} (h : k75.K w x cs) : cs = [.string x.f0, .int .i64 x.f1, .int .i64 x.f2, .bool x.f3, .int .i64 x.f4] := by
  obtain ⟨_, _, rfl, rfl, ⟨_, _, rfl, rfl, ⟨_, _, rfl, rfl, ⟨_, _, rfl, rfl, rfl⟩⟩⟩⟩ := h
  exact rfl
theorem k75_openM {w : World} {base : Nat} {ok : Nat → Prop} {x : S75} {cs : List Value} (h : k75.M w base ok x cs) : cs = [.string x.f0, .int .i64 x.f1, .int .i64 x.f2, .bool x.f3, .int .i64 x.f4] := by
  obtain ⟨_, _, rfl, rfl, ⟨_, _, rfl, rfl, ⟨_, _, rfl, rfl, ⟨_, _, rfl, rfl, rfl⟩⟩⟩⟩ := h
  exact rfl
theorem k75_mk (w : World) (x : S75)  : k75.K w x [.string x.f0, .int .i64 x.f1, .int .i64 x.f2, .bool x.f3, .int .i64 x.f4] := ⟨[.string x.f0], [.int .i64 x.f1, .int .i64 x.f2, .bool x.f3, .int .i64 x.f4], rfl, rfl, ⟨[.int .i64 x.f1], [.int .i64 x.f2, .bool x.f3, .int .i64 x.f4], rfl, rfl, ⟨[.int .i64 x.f2], [.bool x.f3, .int .i64 x.f4], rfl, rfl, ⟨[.bool x.f3], [.int .i64 x.f4], rfl, rfl, rfl⟩⟩⟩⟩
theorem k75_mkM (w : World) (base : Nat) (ok : Nat → Prop) (x : S75)  : k75.M w base ok x [.string x.f0, .int .i64 x.f1, .int .i64 x.f2, .bool x.f3, .int .i64 x.f4] := ⟨[.string x.f0], [.int .i64 x.f1, .int .i64 x.f2, .bool x.f3, .int .i64 x.f4], rfl, rfl, ⟨[.int .i64 x.f1], [.int .i64 x.f2, .bool x.f3, .int .i64 x.f4], rfl, rfl, ⟨[.int .i64 x.f2], [.bool x.f3, .int .i64 x.f4], rfl, rfl, ⟨[.bool x.f3], [.int .i64 x.f4], rfl, rfl, rfl⟩⟩⟩⟩
def rd_T75 (xs : List S75) (i : Int) : S75 := xs.getD i.toNat z75
theorem at_T75 {w : World} {A : Option Addr} {n : Nat} {xs : List S75} (h : Kd.C k75 w A n xs) (i : Int) (h0 : 0 ≤ i) (h1 : i < n) : ∃ ad , A = some ad ∧ w.cell? (ad.add (i.toNat * 5)) = some (.string (rd_T75 xs i).f0) ∧ w.cell? ⟨(ad.add (i.toNat * 5)).block, (ad.add (i.toNat * 5)).off + 1, none⟩ = some (.int .i64 (rd_T75 xs i).f1) ∧ w.cell? ⟨(ad.add (i.toNat * 5)).block, (ad.add (i.toNat * 5)).off + 2, none⟩ = some (.int .i64 (rd_T75 xs i).f2) ∧ w.cell? ⟨(ad.add (i.toNat * 5)).block, (ad.add (i.toNat * 5)).off + 3, none⟩ = some (.bool (rd_T75 xs i).f3) ∧ w.cell? ⟨(ad.add (i.toNat * 5)).block, (ad.add (i.toNat * 5)).off + 4, none⟩ = some (.int .i64 (rd_T75 xs i).f4) := by
  obtain ⟨ad, c, e, _, hK, hc0⟩ := Kd.C_get h z75 i h0 h1
  have hc : ∀ j u, c[j]? = some u → w.cell? (ad.add (i.toNat * 5 + j)) = some u := hc0
  obtain rfl := k75_open hK
  exact ⟨ad, e, hc 0 _ rfl, by rw [← add_field _ _ 1 (by omega)]; exact hc 1 _ rfl, by rw [← add_field _ _ 2 (by omega)]; exact hc 2 _ rfl, by rw [← add_field _ _ 3 (by omega)]; exact hc 3 _ rfl, by rw [← add_field _ _ 4 (by omega)]; exact hc 4 _ rfl⟩

def rd_L7 (xs : List (List ByteArray)) (i : Int) : (List ByteArray) := xs.getD i.toNat ([] : List ByteArray)
theorem at_L7 {w : World} {A : Option Addr} {n : Nat} {xs : List (List ByteArray)} (h : Kd.C (Kd.slice 9 Kd.string) w A n xs) (i : Int) (h0 : 0 ≤ i) (h1 : i < n) : ∃ ad A0 c0, A = some ad ∧ w.cell? (ad.add i.toNat) = some (.slice A0 (rd_L7 xs i).length c0) ∧ (rd_L7 xs i).length ≤ c0 ∧ Kd.string.C w A0 (rd_L7 xs i).length (rd_L7 xs i) := by
  obtain ⟨ad, c, e, _, hK, hc0⟩ := Kd.C_get h ([] : List ByteArray) i h0 h1
  have hc : ∀ j u, c[j]? = some u → w.cell? (ad.add (i.toNat * 1 + j)) = some u := hc0
  obtain ⟨A0, c0, rfl, l0, g0⟩ := hK
  exact ⟨ad, A0, c0, e, by have hq := hc 0 _ rfl; rwa [Nat.mul_one, Nat.add_zero] at hq, l0, g0⟩

def rd_L8 (xs : List (List S75)) (i : Int) : (List S75) := xs.getD i.toNat ([] : List S75)
theorem at_L8 {w : World} {A : Option Addr} {n : Nat} {xs : List (List S75)} (h : Kd.C (Kd.slice 75 k75) w A n xs) (i : Int) (h0 : 0 ≤ i) (h1 : i < n) : ∃ ad A0 c0, A = some ad ∧ w.cell? (ad.add i.toNat) = some (.slice A0 (rd_L8 xs i).length c0) ∧ (rd_L8 xs i).length ≤ c0 ∧ k75.C w A0 (rd_L8 xs i).length (rd_L8 xs i) := by
  obtain ⟨ad, c, e, _, hK, hc0⟩ := Kd.C_get h ([] : List S75) i h0 h1
  have hc : ∀ j u, c[j]? = some u → w.cell? (ad.add (i.toNat * 1 + j)) = some u := hc0
  obtain ⟨A0, c0, rfl, l0, g0⟩ := hK
  exact ⟨ad, A0, c0, e, by have hq := hc 0 _ rfl; rwa [Nat.mul_one, Nat.add_zero] at hq, l0, g0⟩

/-! #### struct type 33 -/
structure S33 where
  f0 : Int
  f1 : Int
  f2 : Int
  f3 : (List Int)
  f4 : (List ByteArray)
  f5 : (List S75)
def z33 : S33 := ⟨(0 : Int), (0 : Int), (0 : Int), ([] : List Int), ([] : List ByteArray), ([] : List S75)⟩
def k33 : Kd S33 := Kd.iso (Kd.pair (Kd.int .i64) (Kd.pair (Kd.int .i64) (Kd.pair (Kd.int .i64) (Kd.pair (Kd.slice 5 (Kd.int .u8)) (Kd.pair (Kd.slice 9 Kd.string) (Kd.slice 75 k75)))))) (fun x : S33 => (x.f0, x.f1, x.f2, x.f3, x.f4, x.f5))
theorem k33_open {w : World} {x : S33} {cs : List Value} (h : k33.K w x cs) : ∃ A3 c3 A4 c4 A5 c5, cs = [.int .i64 x.f0, .int .i64 x.f1, .int .i64 x.f2, .slice A3 x.f3.length c3, .slice A4 x.f4.length c4, .slice A5 x.f5.length c5] ∧ x.f3.length ≤ c3 ∧ (Kd.int .u8).C w A3 x.f3.length x.f3 ∧ x.f4.length ≤ c4 ∧ Kd.string.C w A4 x.f4.length x.f4 ∧ x.f5.length ≤ c5 ∧ k75.C w A5 x.f5.length x.f5 := by
  obtain ⟨_, _, rfl, rfl, ⟨_, _, rfl, rfl, ⟨_, _, rfl, rfl, ⟨_, _, rfl, ⟨A3, c3, rfl, l3, g3⟩, ⟨_, _, rfl, ⟨A4, c4, rfl, l4, g4⟩, ⟨A5, c5, rfl, l5, g5⟩⟩⟩⟩⟩⟩ := h
  exact ⟨A3, c3, A4, c4, A5, c5, rfl, l3, g3, l4, g4, l5, g5⟩
theorem k33_openM {w : World} {base : Nat} {ok : Nat → Prop} {x : S33} {cs : List Value} (h : k33.M w base ok x cs) : ∃ v3 v4 v5, cs = [.int .i64 x.f0, .int .i64 x.f1, .int .i64 x.f2, v3, v4, v5] ∧ (Kd.int .u8).R 5 w base ok v3 x.f3 ∧ Kd.string.R 9 w base ok v4 x.f4 ∧ k75.R 75 w base ok v5 x.f5 := by
  obtain ⟨_, _, rfl, rfl, ⟨_, _, rfl, rfl, ⟨_, _, rfl, rfl, ⟨_, _, rfl, ⟨v3, rfl, g3⟩, ⟨_, _, rfl, ⟨v4, rfl, g4⟩, ⟨v5, rfl, g5⟩⟩⟩⟩⟩⟩ := h
  exact ⟨v3, v4, v5, rfl, g3, g4, g5⟩
theorem k33_mk (w : World) (x : S33) {A3 : Option Addr} {c3 : Nat} (l3 : x.f3.length ≤ c3) (g3 : (Kd.int .u8).C w A3 x.f3.length x.f3) {A4 : Option Addr} {c4 : Nat} (l4 : x.f4.length ≤ c4) (g4 : Kd.string.C w A4 x.f4.length x.f4) {A5 : Option Addr} {c5 : Nat} (l5 : x.f5.length ≤ c5) (g5 : k75.C w A5 x.f5.length x.f5) : k33.K w x [.int .i64 x.f0, .int .i64 x.f1, .int .i64 x.f2, .slice A3 x.f3.length c3, .slice A4 x.f4.length c4, .slice A5 x.f5.length c5] := ⟨[.int .i64 x.f0], [.int .i64 x.f1, .int .i64 x.f2, .slice A3 x.f3.length c3, .slice A4 x.f4.length c4, .slice A5 x.f5.length c5], rfl, rfl, ⟨[.int .i64 x.f1], [.int .i64 x.f2, .slice A3 x.f3.length c3, .slice A4 x.f4.length c4, .slice A5 x.f5.length c5], rfl, rfl, ⟨[.int .i64 x.f2], [.slice A3 x.f3.length c3, .slice A4 x.f4.length c4, .slice A5 x.f5.length c5], rfl, rfl, ⟨[.slice A3 x.f3.length c3], [.slice A4 x.f4.length c4, .slice A5 x.f5.length c5], rfl, ⟨A3, c3, rfl, l3, g3⟩, ⟨[.slice A4 x.f4.length c4], [.slice A5 x.f5.length c5], rfl, ⟨A4, c4, rfl, l4, g4⟩, ⟨A5, c5, rfl, l5, g5⟩⟩⟩⟩⟩⟩
theorem k33_mkM (w : World) (base : Nat) (ok : Nat → Prop) (x : S33) {v3 : Value} (g3 : (Kd.int .u8).R 5 w base ok v3 x.f3) {v4 : Value} (g4 : Kd.string.R 9 w base ok v4 x.f4) {v5 : Value} (g5 : k75.R 75 w base ok v5 x.f5) : k33.M w base ok x [.int .i64 x.f0, .int .i64 x.f1, .int .i64 x.f2, v3, v4, v5] := ⟨[.int .i64 x.f0], [.int .i64 x.f1, .int .i64 x.f2, v3, v4, v5], rfl, rfl, ⟨[.int .i64 x.f1], [.int .i64 x.f2, v3, v4, v5], rfl, rfl, ⟨[.int .i64 x.f2], [v3, v4, v5], rfl, rfl, ⟨[v3], [v4, v5], rfl, ⟨v3, rfl, g3⟩, ⟨[v4], [v5], rfl, ⟨v4, rfl, g4⟩, ⟨v5, rfl, g5⟩⟩⟩⟩⟩⟩
def rd_T33 (xs : List S33) (i : Int) : S33 := xs.getD i.toNat z33
theorem at_T33 {w : World} {A : Option Addr} {n : Nat} {xs : List S33} (h : Kd.C k33 w A n xs) (i : Int) (h0 : 0 ≤ i) (h1 : i < n) : ∃ ad A3 c3 A4 c4 A5 c5, A = some ad ∧ w.cell? (ad.add (i.toNat * 6)) = some (.int .i64 (rd_T33 xs i).f0) ∧ w.cell? ⟨(ad.add (i.toNat * 6)).block, (ad.add (i.toNat * 6)).off + 1, none⟩ = some (.int .i64 (rd_T33 xs i).f1) ∧ w.cell? ⟨(ad.add (i.toNat * 6)).block, (ad.add (i.toNat * 6)).off + 2, none⟩ = some (.int .i64 (rd_T33 xs i).f2) ∧ w.cell? ⟨(ad.add (i.toNat * 6)).block, (ad.add (i.toNat * 6)).off + 3, none⟩ = some (.slice A3 (rd_T33 xs i).f3.length c3) ∧ w.cell? ⟨(ad.add (i.toNat * 6)).block, (ad.add (i.toNat * 6)).off + 4, none⟩ = some (.slice A4 (rd_T33 xs i).f4.length c4) ∧ w.cell? ⟨(ad.add (i.toNat * 6)).block, (ad.add (i.toNat * 6)).off + 5, none⟩ = some (.slice A5 (rd_T33 xs i).f5.length c5) ∧ (rd_T33 xs i).f3.length ≤ c3 ∧ (Kd.int .u8).C w A3 (rd_T33 xs i).f3.length (rd_T33 xs i).f3 ∧ (rd_T33 xs i).f4.length ≤ c4 ∧ Kd.string.C w A4 (rd_T33 xs i).f4.length (rd_T33 xs i).f4 ∧ (rd_T33 xs i).f5.length ≤ c5 ∧ k75.C w A5 (rd_T33 xs i).f5.length (rd_T33 xs i).f5 := by
  obtain ⟨ad, c, e, _, hK, hc0⟩ := Kd.C_get h z33 i h0 h1
  have hc : ∀ j u, c[j]? = some u → w.cell? (ad.add (i.toNat * 6 + j)) = some u := hc0
  obtain ⟨A3, c3, A4, c4, A5, c5, rfl, l3, g3, l4, g4, l5, g5⟩ := k33_open hK
  exact ⟨ad, A3, c3, A4, c4, A5, c5, e, hc 0 _ rfl, by rw [← add_field _ _ 1 (by omega)]; exact hc 1 _ rfl, by rw [← add_field _ _ 2 (by omega)]; exact hc 2 _ rfl, by rw [← add_field _ _ 3 (by omega)]; exact hc 3 _ rfl, by rw [← add_field _ _ 4 (by omega)]; exact hc 4 _ rfl, by rw [← add_field _ _ 5 (by omega)]; exact hc 5 _ rfl, l3, g3, l4, g4, l5, g5⟩

end Go.Proofs.YtljcdjggjphedaaDoor.PFnHandleScript
