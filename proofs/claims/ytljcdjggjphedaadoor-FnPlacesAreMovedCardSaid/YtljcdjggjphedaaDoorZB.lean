/- A part of the proof that FnHandleScript answers true for every file and all steps. -/
import Derived.Test.YtljcdjggjphedaaDoorProg
import Derived.Below
import Derived.Deep.Draws
import Derived.Deep.AppendLies
import Derived.Maps.AppendAt
import Derived.OwnWalk
import Derived.Laws.BytesArg
import Derived.Laws.MakeOwn
import Derived.Laws.OwnMore
import Derived.Deep.OwnRows
import Derived.Tactics
import Derived.Lib.ConvBytes
import Derived.Laws.Slices
import Derived.WalkKit
import Derived.KernelRfl
import Derived.RowKit3
import Derived.Deep.LoopGhost
import Derived.Deep.QuietTactic
import Derived.BigQuiet
import Derived.WideLaws
import Derived.Deep.DeepCutAuto
import Derived.Deep.CutBlock
import Derived.Deep.RegionHeld3
import Derived.Laws.Rows
import Derived.Lib.AppendStr
import Derived.ArgAppend
import Derived.Laws.IdiomCopy
import Derived.OrdersHeld
import Derived.Laws.BitsLemmas
import Derived.RowKit
import Derived.Test.YtljcdjggjphedaaDoorZA
import Derived.WalkSpells
import Derived.Lib.Hide
import Derived.Handy
import Derived.LoopTactic
import Derived.WalkLawsBesides
import Derived.LaidLaws
import Derived.LaidEql
import Derived.Stop.IfaceNil
import Derived.Stop.LaidErr
import Derived.IntWalk
import Derived.StillTailTactics
import Derived.RegionTactic
import Derived.Deep.RegionLaw
import Derived.Lib.OthersKept
namespace Go.Proofs.YtljcdjggjphedaaDoor.PFnHandleScript
open Go.RowKit Go.Proofs.YtljcdjggjphedaaDoorW.PrintWords Go.Proofs.YtljcdjggjphedaaDoorW.PrintLast Go.Proofs.YtljcdjggjphedaaDoorW.PrintMore
attribute [local go_sem] max2_int min2_int max_two min_two max_three min_three max_four min_four   -- for this text's walks alone
set_option linter.unusedVariables false
set_option linter.unusedSimpArgs false
def errW : Option Int → Value
  | none => .nilIface
  | some c => .iface 0 (.int .i64 c)
theorem errW_none : errW none = .nilIface := rfl
theorem errW_some (c : Int) : errW (some c) = .iface 0 (.int .i64 c) := rfl
theorem info5 : (Tryd.prog.info? 5).map (fun i => (i.zero, i.size, i.bytes)) = some (some (.int .u8 0), 1, 1) := by kernel_rfl
theorem info9 : (Tryd.prog.info? 9).map (fun i => (i.zero, i.size, i.bytes)) = some (some (.string ⟨#[]⟩), 1, 16) := by kernel_rfl
structure S26 where
  f0 : Int
  f1 : ByteArray
  f2 : ByteArray
  f3 : Int
  f4 : Int
  f5 : Int
  f6 : (List Int)
  f7 : Int
  f8 : Int
  f9 : Int
def z26 : S26 := ⟨(0 : Int), (⟨#[]⟩ : ByteArray), (⟨#[]⟩ : ByteArray), (0 : Int), (0 : Int), (0 : Int), ([] : List Int), (0 : Int), (0 : Int), (0 : Int)⟩
def k26 : Kd S26 := Kd.iso (Kd.pair (Kd.int .i64) (Kd.pair Kd.string (Kd.pair Kd.string (Kd.pair (Kd.int .i64) (Kd.pair (Kd.int .i64) (Kd.pair (Kd.int .i64) (Kd.pair (Kd.slice 5 (Kd.int .u8)) (Kd.pair (Kd.int .i64) (Kd.pair (Kd.int .i64) (Kd.int .i64)))))))))) (fun x : S26 => (x.f0, x.f1, x.f2, x.f3, x.f4, x.f5, x.f6, x.f7, x.f8, x.f9))
theorem k26_open {w : World} {x : S26} {cs : List Value} (h : k26.K w x cs) : ∃ A6 c6, cs = [.int .i64 x.f0, .string x.f1, .string x.f2, .int .i64 x.f3, .int .i64 x.f4, .int .i64 x.f5, .slice A6 x.f6.length c6, .int .i64 x.f7, .int .i64 x.f8, .int .i64 x.f9] ∧ x.f6.length ≤ c6 ∧ (Kd.int .u8).C w A6 x.f6.length x.f6 := by
  obtain ⟨_, _, rfl, rfl, ⟨_, _, rfl, rfl, ⟨_, _, rfl, rfl, ⟨_, _, rfl, rfl, ⟨_, _, rfl, rfl, ⟨_, _, rfl, rfl, ⟨_, _, rfl, ⟨A6, c6, rfl, l6, g6⟩, ⟨_, _, rfl, rfl, ⟨_, _, rfl, rfl, rfl⟩⟩⟩⟩⟩⟩⟩⟩⟩ := h
  exact ⟨A6, c6, rfl, l6, g6⟩
theorem k26_mk (w : World) (x : S26) {A6 : Option Addr} {c6 : Nat} (l6 : x.f6.length ≤ c6) (g6 : (Kd.int .u8).C w A6 x.f6.length x.f6) : k26.K w x [.int .i64 x.f0, .string x.f1, .string x.f2, .int .i64 x.f3, .int .i64 x.f4, .int .i64 x.f5, .slice A6 x.f6.length c6, .int .i64 x.f7, .int .i64 x.f8, .int .i64 x.f9] := ⟨[.int .i64 x.f0], [.string x.f1, .string x.f2, .int .i64 x.f3, .int .i64 x.f4, .int .i64 x.f5, .slice A6 x.f6.length c6, .int .i64 x.f7, .int .i64 x.f8, .int .i64 x.f9], rfl, rfl, ⟨[.string x.f1], [.string x.f2, .int .i64 x.f3, .int .i64 x.f4, .int .i64 x.f5, .slice A6 x.f6.length c6, .int .i64 x.f7, .int .i64 x.f8, .int .i64 x.f9], rfl, rfl, ⟨[.string x.f2], [.int .i64 x.f3, .int .i64 x.f4, .int .i64 x.f5, .slice A6 x.f6.length c6, .int .i64 x.f7, .int .i64 x.f8, .int .i64 x.f9], rfl, rfl, ⟨[.int .i64 x.f3], [.int .i64 x.f4, .int .i64 x.f5, .slice A6 x.f6.length c6, .int .i64 x.f7, .int .i64 x.f8, .int .i64 x.f9], rfl, rfl, ⟨[.int .i64 x.f4], [.int .i64 x.f5, .slice A6 x.f6.length c6, .int .i64 x.f7, .int .i64 x.f8, .int .i64 x.f9], rfl, rfl, ⟨[.int .i64 x.f5], [.slice A6 x.f6.length c6, .int .i64 x.f7, .int .i64 x.f8, .int .i64 x.f9], rfl, rfl, ⟨[.slice A6 x.f6.length c6], [.int .i64 x.f7, .int .i64 x.f8, .int .i64 x.f9], rfl, ⟨A6, c6, rfl, l6, g6⟩, ⟨[.int .i64 x.f7], [.int .i64 x.f8, .int .i64 x.f9], rfl, rfl, ⟨[.int .i64 x.f8], [.int .i64 x.f9], rfl, rfl, rfl⟩⟩⟩⟩⟩⟩⟩⟩⟩
def rd_T26 (xs : List S26) (i : Int) : S26 := xs.getD i.toNat z26
theorem at_T26 {w : World} {A : Option Addr} {n : Nat} {xs : List S26} (h : Kd.C k26 w A n xs) (i : Int) (h0 : 0 ≤ i) (h1 : i < n) : ∃ ad A6 c6, A = some ad ∧ w.cell? (ad.add (i.toNat * 10)) = some (.int .i64 (rd_T26 xs i).f0) ∧ w.cell? ⟨(ad.add (i.toNat * 10)).block, (ad.add (i.toNat * 10)).off + 1, none⟩ = some (.string (rd_T26 xs i).f1) ∧ w.cell? ⟨(ad.add (i.toNat * 10)).block, (ad.add (i.toNat * 10)).off + 2, none⟩ = some (.string (rd_T26 xs i).f2) ∧ w.cell? ⟨(ad.add (i.toNat * 10)).block, (ad.add (i.toNat * 10)).off + 3, none⟩ = some (.int .i64 (rd_T26 xs i).f3) ∧ w.cell? ⟨(ad.add (i.toNat * 10)).block, (ad.add (i.toNat * 10)).off + 4, none⟩ = some (.int .i64 (rd_T26 xs i).f4) ∧ w.cell? ⟨(ad.add (i.toNat * 10)).block, (ad.add (i.toNat * 10)).off + 5, none⟩ = some (.int .i64 (rd_T26 xs i).f5) ∧ w.cell? ⟨(ad.add (i.toNat * 10)).block, (ad.add (i.toNat * 10)).off + 6, none⟩ = some (.slice A6 (rd_T26 xs i).f6.length c6) ∧ w.cell? ⟨(ad.add (i.toNat * 10)).block, (ad.add (i.toNat * 10)).off + 7, none⟩ = some (.int .i64 (rd_T26 xs i).f7) ∧ w.cell? ⟨(ad.add (i.toNat * 10)).block, (ad.add (i.toNat * 10)).off + 8, none⟩ = some (.int .i64 (rd_T26 xs i).f8) ∧ w.cell? ⟨(ad.add (i.toNat * 10)).block, (ad.add (i.toNat * 10)).off + 9, none⟩ = some (.int .i64 (rd_T26 xs i).f9) ∧ (rd_T26 xs i).f6.length ≤ c6 ∧ (Kd.int .u8).C w A6 (rd_T26 xs i).f6.length (rd_T26 xs i).f6 := by
  obtain ⟨ad, c, e, _, hK, hc0⟩ := Kd.C_get h z26 i h0 h1
  have hc : ∀ j u, c[j]? = some u → w.cell? (ad.add (i.toNat * 10 + j)) = some u := hc0
  obtain ⟨A6, c6, rfl, l6, g6⟩ := k26_open hK
  exact ⟨ad, A6, c6, e, hc 0 _ rfl, by rw [← add_field _ _ 1 (by omega)]; exact hc 1 _ rfl, by rw [← add_field _ _ 2 (by omega)]; exact hc 2 _ rfl, by rw [← add_field _ _ 3 (by omega)]; exact hc 3 _ rfl, by rw [← add_field _ _ 4 (by omega)]; exact hc 4 _ rfl, by rw [← add_field _ _ 5 (by omega)]; exact hc 5 _ rfl, by rw [← add_field _ _ 6 (by omega)]; exact hc 6 _ rfl, by rw [← add_field _ _ 7 (by omega)]; exact hc 7 _ rfl, by rw [← add_field _ _ 8 (by omega)]; exact hc 8 _ rfl, by rw [← add_field _ _ 9 (by omega)]; exact hc 9 _ rfl, l6, g6⟩
structure S75 where
  f0 : ByteArray
  f1 : Int
  f2 : Int
  f3 : Bool
  f4 : Int
def z75 : S75 := ⟨(⟨#[]⟩ : ByteArray), (0 : Int), (0 : Int), false, (0 : Int)⟩
def k75 : Kd S75 := Kd.iso (Kd.pair Kd.string (Kd.pair (Kd.int .i64) (Kd.pair (Kd.int .i64) (Kd.pair Kd.bool (Kd.int .i64))))) (fun x : S75 => (x.f0, x.f1, x.f2, x.f3, x.f4))
theorem k75_open {w : World} {x : S75} {cs : List Value} (h : k75.K w x cs) : cs = [.string x.f0, .int .i64 x.f1, .int .i64 x.f2, .bool x.f3, .int .i64 x.f4] := by
  obtain ⟨_, _, rfl, rfl, ⟨_, _, rfl, rfl, ⟨_, _, rfl, rfl, ⟨_, _, rfl, rfl, rfl⟩⟩⟩⟩ := h
  exact rfl
theorem k75_mkM (w : World) (base : Nat) (ok : Nat → Prop) (x : S75)  : k75.M w base ok x [.string x.f0, .int .i64 x.f1, .int .i64 x.f2, .bool x.f3, .int .i64 x.f4] := ⟨[.string x.f0], [.int .i64 x.f1, .int .i64 x.f2, .bool x.f3, .int .i64 x.f4], rfl, rfl, ⟨[.int .i64 x.f1], [.int .i64 x.f2, .bool x.f3, .int .i64 x.f4], rfl, rfl, ⟨[.int .i64 x.f2], [.bool x.f3, .int .i64 x.f4], rfl, rfl, ⟨[.bool x.f3], [.int .i64 x.f4], rfl, rfl, rfl⟩⟩⟩⟩
def rd_T75 (xs : List S75) (i : Int) : S75 := xs.getD i.toNat z75
theorem at_T75 {w : World} {A : Option Addr} {n : Nat} {xs : List S75} (h : Kd.C k75 w A n xs) (i : Int) (h0 : 0 ≤ i) (h1 : i < n) : ∃ ad , A = some ad ∧ w.cell? (ad.add (i.toNat * 5)) = some (.string (rd_T75 xs i).f0) ∧ w.cell? ⟨(ad.add (i.toNat * 5)).block, (ad.add (i.toNat * 5)).off + 1, none⟩ = some (.int .i64 (rd_T75 xs i).f1) ∧ w.cell? ⟨(ad.add (i.toNat * 5)).block, (ad.add (i.toNat * 5)).off + 2, none⟩ = some (.int .i64 (rd_T75 xs i).f2) ∧ w.cell? ⟨(ad.add (i.toNat * 5)).block, (ad.add (i.toNat * 5)).off + 3, none⟩ = some (.bool (rd_T75 xs i).f3) ∧ w.cell? ⟨(ad.add (i.toNat * 5)).block, (ad.add (i.toNat * 5)).off + 4, none⟩ = some (.int .i64 (rd_T75 xs i).f4) := by
  obtain ⟨ad, c, e, _, hK, hc0⟩ := Kd.C_get h z75 i h0 h1
  have hc : ∀ j u, c[j]? = some u → w.cell? (ad.add (i.toNat * 5 + j)) = some u := hc0
  obtain rfl := k75_open hK
  exact ⟨ad, e, hc 0 _ rfl, by rw [← add_field _ _ 1 (by omega)]; exact hc 1 _ rfl, by rw [← add_field _ _ 2 (by omega)]; exact hc 2 _ rfl, by rw [← add_field _ _ 3 (by omega)]; exact hc 3 _ rfl, by rw [← add_field _ _ 4 (by omega)]; exact hc 4 _ rfl⟩
structure S33 where
  f0 : Int
  f1 : Int
  f2 : Int
  f3 : (List Int)
  f4 : (List ByteArray)
  f5 : (List S75)
def z33 : S33 := ⟨(0 : Int), (0 : Int), (0 : Int), ([] : List Int), ([] : List ByteArray), ([] : List S75)⟩
def k33 : Kd S33 := Kd.iso (Kd.pair (Kd.int .i64) (Kd.pair (Kd.int .i64) (Kd.pair (Kd.int .i64) (Kd.pair (Kd.slice 5 (Kd.int .u8)) (Kd.pair (Kd.slice 9 Kd.string) (Kd.slice 75 k75)))))) (fun x : S33 => (x.f0, x.f1, x.f2, x.f3, x.f4, x.f5))
theorem k33_open {w : World} {x : S33} {cs : List Value} (h : k33.K w x cs) : ∃ A3 c3 A4 c4 A5 c5, cs = [.int .i64 x.f0, .int .i64 x.f1, .int .i64 x.f2, .slice A3 x.f3.length c3, .slice A4 x.f4.length c4, .slice A5 x.f5.length c5] ∧ x.f3.length ≤ c3 ∧ (Kd.int .u8).C w A3 x.f3.length x.f3 ∧ x.f4.length ≤ c4 ∧ Kd.string.C w A4 x.f4.length x.f4 ∧ x.f5.length ≤ c5 ∧ k75.C w A5 x.f5.length x.f5 := by
  obtain ⟨_, _, rfl, rfl, ⟨_, _, rfl, rfl, ⟨_, _, rfl, rfl, ⟨_, _, rfl, ⟨A3, c3, rfl, l3, g3⟩, ⟨_, _, rfl, ⟨A4, c4, rfl, l4, g4⟩, ⟨A5, c5, rfl, l5, g5⟩⟩⟩⟩⟩⟩ := h
  exact ⟨A3, c3, A4, c4, A5, c5, rfl, l3, g3, l4, g4, l5, g5⟩
theorem k33_mkM (w : World) (base : Nat) (ok : Nat → Prop) (x : S33) {v3 : Value} (g3 : (Kd.int .u8).R 5 w base ok v3 x.f3) {v4 : Value} (g4 : Kd.string.R 9 w base ok v4 x.f4) {v5 : Value} (g5 : k75.R 75 w base ok v5 x.f5) : k33.M w base ok x [.int .i64 x.f0, .int .i64 x.f1, .int .i64 x.f2, v3, v4, v5] := ⟨[.int .i64 x.f0], [.int .i64 x.f1, .int .i64 x.f2, v3, v4, v5], rfl, rfl, ⟨[.int .i64 x.f1], [.int .i64 x.f2, v3, v4, v5], rfl, rfl, ⟨[.int .i64 x.f2], [v3, v4, v5], rfl, rfl, ⟨[v3], [v4, v5], rfl, ⟨v3, rfl, g3⟩, ⟨[v4], [v5], rfl, ⟨v4, rfl, g4⟩, ⟨v5, rfl, g5⟩⟩⟩⟩⟩⟩
def rd_T33 (xs : List S33) (i : Int) : S33 := xs.getD i.toNat z33
theorem at_T33 {w : World} {A : Option Addr} {n : Nat} {xs : List S33} (h : Kd.C k33 w A n xs) (i : Int) (h0 : 0 ≤ i) (h1 : i < n) : ∃ ad A3 c3 A4 c4 A5 c5, A = some ad ∧ w.cell? (ad.add (i.toNat * 6)) = some (.int .i64 (rd_T33 xs i).f0) ∧ w.cell? ⟨(ad.add (i.toNat * 6)).block, (ad.add (i.toNat * 6)).off + 1, none⟩ = some (.int .i64 (rd_T33 xs i).f1) ∧ w.cell? ⟨(ad.add (i.toNat * 6)).block, (ad.add (i.toNat * 6)).off + 2, none⟩ = some (.int .i64 (rd_T33 xs i).f2) ∧ w.cell? ⟨(ad.add (i.toNat * 6)).block, (ad.add (i.toNat * 6)).off + 3, none⟩ = some (.slice A3 (rd_T33 xs i).f3.length c3) ∧ w.cell? ⟨(ad.add (i.toNat * 6)).block, (ad.add (i.toNat * 6)).off + 4, none⟩ = some (.slice A4 (rd_T33 xs i).f4.length c4) ∧ w.cell? ⟨(ad.add (i.toNat * 6)).block, (ad.add (i.toNat * 6)).off + 5, none⟩ = some (.slice A5 (rd_T33 xs i).f5.length c5) ∧ (rd_T33 xs i).f3.length ≤ c3 ∧ (Kd.int .u8).C w A3 (rd_T33 xs i).f3.length (rd_T33 xs i).f3 ∧ (rd_T33 xs i).f4.length ≤ c4 ∧ Kd.string.C w A4 (rd_T33 xs i).f4.length (rd_T33 xs i).f4 ∧ (rd_T33 xs i).f5.length ≤ c5 ∧ k75.C w A5 (rd_T33 xs i).f5.length (rd_T33 xs i).f5 := by
  obtain ⟨ad, c, e, _, hK, hc0⟩ := Kd.C_get h z33 i h0 h1
  have hc : ∀ j u, c[j]? = some u → w.cell? (ad.add (i.toNat * 6 + j)) = some u := hc0
  obtain ⟨A3, c3, A4, c4, A5, c5, rfl, l3, g3, l4, g4, l5, g5⟩ := k33_open hK
  exact ⟨ad, A3, c3, A4, c4, A5, c5, e, hc 0 _ rfl, by rw [← add_field _ _ 1 (by omega)]; exact hc 1 _ rfl, by rw [← add_field _ _ 2 (by omega)]; exact hc 2 _ rfl, by rw [← add_field _ _ 3 (by omega)]; exact hc 3 _ rfl, by rw [← add_field _ _ 4 (by omega)]; exact hc 4 _ rfl, by rw [← add_field _ _ 5 (by omega)]; exact hc 5 _ rfl, l3, g3, l4, g4, l5, g5⟩
end Go.Proofs.YtljcdjggjphedaaDoor.PFnHandleScript
namespace Go.Proofs.YtljcdjggjphedaaDoor.Hd
open Go.RowKit Go.Proofs.YtljcdjggjphedaaDoorW.PrintWords Go.Proofs.YtljcdjggjphedaaDoorW.PrintLast Go.Proofs.YtljcdjggjphedaaDoorW.PrintMore
set_option linter.unusedVariables false
set_option linter.unusedSimpArgs false
/-- The eleven errors that have a name lie where they were laid: each in a block of its own. -/
structure Sent (A : Nat → Addr) (W : World) : Prop where
  var : ∀ k, k < 11 → W.cell? ⟨k, 0, none⟩ = some (.iface 149 (.pointer (some (A k))))
  blk : ∀ k, k < 11 → ∃ c t, W.heap[(A k).block]? = some (.cells c t (0, 0))
  inj : ∀ i j, i < 11 → j < 11 → i ≠ j → A i ≠ A j
theorem Sent.later {A : Nat → Addr} {w W : World} (h : Sent A w) (hb : Below w.heap.size w W) : Sent A W :=
  ⟨fun k hk => pw_cell_below hb (h.var k hk), fun k hk => by
    obtain ⟨c, t, e⟩ := h.blk k hk
    exact ⟨c, t, (hb.block _ (blk_lt e)).trans e⟩, h.inj⟩
theorem Sent.below {A : Nat → Addr} {B : Nat} {w W : World} (h : Sent A w) (hb : Below B w W) (hB : 11 ≤ B) (hA : ∀ k, k < 11 → (A k).block < B) : Sent A W :=
  ⟨fun k hk => (hb.cell (p := ⟨k, 0, none⟩) (by show k < B; omega)).trans (h.var k hk), fun k hk => by
    obtain ⟨c, t, e⟩ := h.blk k hk
    exact ⟨c, t, (hb.block _ (hA k hk)).trans e⟩, h.inj⟩
theorem comp149 : (Tryd.prog.info? 149).map (·.comparable) = some true := by kernel_rfl
theorem size151 : (Tryd.prog.info? 151).map (·.size) = some 1 := by kernel_rfl
theorem isIf96 : Tryd.prog.isIface 96 = true := by kernel_rfl
theorem ta_nil (w : World) : (Instr.typeAssert .nilIface 96 130 true).run Tryd.prog w = .ok (.tuple #[.pointer none, .bool false]) w := by kernel_rfl
theorem ta_err (a : Addr) (w : World) : (Instr.typeAssert (.iface 149 (.pointer (some a))) 96 130 true).run Tryd.prog w = .ok (.tuple #[.pointer none, .bool false]) w := by kernel_rfl
theorem ta_path (a : Addr) (w : World) : (Instr.typeAssert (.iface 130 (.pointer (some a))) 96 130 true).run Tryd.prog w = .ok (.tuple #[.pointer (some a), .bool true]) w := by kernel_rfl
theorem eql_same (a : Addr) (w : World) : (binOp .eql 96 (.iface 149 (.pointer (some a))) (.iface 149 (.pointer (some a)))).run Tryd.prog w = .ok (.bool true) w := by
  obtain ⟨i, hi, hcmp⟩ := Option.map_eq_some_iff.1 comp149
  obtain ⟨j, hj, _⟩ := Option.map_eq_some_iff.1 size151
  exact run_eql_iface_ptr_same w a Tryd.underlying96 Tryd.underlying149 hi hcmp hj
theorem eql_other {a b : Addr} {w : World} (hne : a ≠ b) (ha : ∃ c t, w.heap[a.block]? = some (.cells c t (0, 0))) (hb : ∃ c t, w.heap[b.block]? = some (.cells c t (0, 0))) :
    (binOp .eql 96 (.iface 149 (.pointer (some a))) (.iface 149 (.pointer (some b)))).run Tryd.prog w = .ok (.bool false) w := by
  obtain ⟨i, hi, hcmp⟩ := Option.map_eq_some_iff.1 comp149
  obtain ⟨j, hj, hs⟩ := Option.map_eq_some_iff.1 size151
  obtain ⟨ca, ta, ha⟩ := ha
  obtain ⟨cb, tb, hb⟩ := hb
  exact run_eql_iface_ptr_other w Tryd.underlying96 Tryd.underlying149 hi hcmp hj (by rw [hs]; decide) hne ha hb
set_option maxHeartbeats 1000000 in
theorem kind_nil (w : World) : Calls Tryd.prog 53 #[.nilIface] w fun e w' => e = .returned (.int .i64 0) ∧ w = w' := by
  have h1 := ta_nil
  have h2 := isIf96
  go_enter Tryd.func53, Tryd.ntmps53
  go_wp2_with fail
  go_ret
  exact ⟨rfl, rfl⟩
set_option maxHeartbeats 2000000 in
theorem kind_s0 (A : Nat → Addr) (w : World) (h : Sent A w) : Calls Tryd.prog 53 #[.iface 149 (.pointer (some (A 0)))] w fun e w' => e = .returned (.int .i64 3) ∧ w = w' := by
  have h1 := ta_err (A 0)
  have h2 := isIf96
  have g4 := h.var 4 (by decide)
  have g7 := h.var 7 (by decide)
  have g5 := h.var 5 (by decide)
  have g0 := h.var 0 (by decide)
  have e4 := eql_other (h.inj 0 4 (by decide) (by decide) (by decide)) (h.blk 0 (by decide)) (h.blk 4 (by decide))
  have e7 := eql_other (h.inj 0 7 (by decide) (by decide) (by decide)) (h.blk 0 (by decide)) (h.blk 7 (by decide))
  have e5 := eql_other (h.inj 0 5 (by decide) (by decide) (by decide)) (h.blk 0 (by decide)) (h.blk 5 (by decide))
  have ek := eql_same (A 0) w
  clear h
  generalize A 0 = a0 at *
  generalize A 4 = a4 at *
  generalize A 5 = a5 at *
  generalize A 7 = a7 at *
  go_enter Tryd.func53, Tryd.ntmps53
  go_wp2_with fail
  go_ret
  exact ⟨rfl, rfl⟩
set_option maxHeartbeats 2000000 in
theorem kind_s1 (A : Nat → Addr) (w : World) (h : Sent A w) : Calls Tryd.prog 53 #[.iface 149 (.pointer (some (A 1)))] w fun e w' => e = .returned (.int .i64 4) ∧ w = w' := by
  have h1 := ta_err (A 1)
  have h2 := isIf96
  have g4 := h.var 4 (by decide)
  have g7 := h.var 7 (by decide)
  have g5 := h.var 5 (by decide)
  have g0 := h.var 0 (by decide)
  have g1 := h.var 1 (by decide)
  have e4 := eql_other (h.inj 1 4 (by decide) (by decide) (by decide)) (h.blk 1 (by decide)) (h.blk 4 (by decide))
  have e7 := eql_other (h.inj 1 7 (by decide) (by decide) (by decide)) (h.blk 1 (by decide)) (h.blk 7 (by decide))
  have e5 := eql_other (h.inj 1 5 (by decide) (by decide) (by decide)) (h.blk 1 (by decide)) (h.blk 5 (by decide))
  have e0 := eql_other (h.inj 1 0 (by decide) (by decide) (by decide)) (h.blk 1 (by decide)) (h.blk 0 (by decide))
  have ek := eql_same (A 1) w
  clear h
  generalize A 0 = a0 at *
  generalize A 1 = a1 at *
  generalize A 4 = a4 at *
  generalize A 5 = a5 at *
  generalize A 7 = a7 at *
  go_enter Tryd.func53, Tryd.ntmps53
  go_wp2_with fail
  go_ret
  exact ⟨rfl, rfl⟩
set_option maxHeartbeats 2000000 in
theorem kind_s2 (A : Nat → Addr) (w : World) (h : Sent A w) : Calls Tryd.prog 53 #[.iface 149 (.pointer (some (A 2)))] w fun e w' => e = .returned (.int .i64 5) ∧ w = w' := by
  have h1 := ta_err (A 2)
  have h2 := isIf96
  have g4 := h.var 4 (by decide)
  have g7 := h.var 7 (by decide)
  have g5 := h.var 5 (by decide)
  have g0 := h.var 0 (by decide)
  have g1 := h.var 1 (by decide)
  have g2 := h.var 2 (by decide)
  have e4 := eql_other (h.inj 2 4 (by decide) (by decide) (by decide)) (h.blk 2 (by decide)) (h.blk 4 (by decide))
  have e7 := eql_other (h.inj 2 7 (by decide) (by decide) (by decide)) (h.blk 2 (by decide)) (h.blk 7 (by decide))
  have e5 := eql_other (h.inj 2 5 (by decide) (by decide) (by decide)) (h.blk 2 (by decide)) (h.blk 5 (by decide))
  have e0 := eql_other (h.inj 2 0 (by decide) (by decide) (by decide)) (h.blk 2 (by decide)) (h.blk 0 (by decide))
  have e1 := eql_other (h.inj 2 1 (by decide) (by decide) (by decide)) (h.blk 2 (by decide)) (h.blk 1 (by decide))
  have ek := eql_same (A 2) w
  clear h
  generalize A 0 = a0 at *
  generalize A 1 = a1 at *
  generalize A 2 = a2 at *
  generalize A 4 = a4 at *
  generalize A 5 = a5 at *
  generalize A 7 = a7 at *
  go_enter Tryd.func53, Tryd.ntmps53
  go_wp2_with fail
  go_ret
  exact ⟨rfl, rfl⟩
set_option maxHeartbeats 2000000 in
theorem kind_s3 (A : Nat → Addr) (w : World) (h : Sent A w) : Calls Tryd.prog 53 #[.iface 149 (.pointer (some (A 3)))] w fun e w' => e = .returned (.int .i64 7) ∧ w = w' := by
  have h1 := ta_err (A 3)
  have h2 := isIf96
  have g4 := h.var 4 (by decide)
  have g7 := h.var 7 (by decide)
  have g5 := h.var 5 (by decide)
  have g0 := h.var 0 (by decide)
  have g1 := h.var 1 (by decide)
  have g2 := h.var 2 (by decide)
  have g3 := h.var 3 (by decide)
  have e4 := eql_other (h.inj 3 4 (by decide) (by decide) (by decide)) (h.blk 3 (by decide)) (h.blk 4 (by decide))
  have e7 := eql_other (h.inj 3 7 (by decide) (by decide) (by decide)) (h.blk 3 (by decide)) (h.blk 7 (by decide))
  have e5 := eql_other (h.inj 3 5 (by decide) (by decide) (by decide)) (h.blk 3 (by decide)) (h.blk 5 (by decide))
  have e0 := eql_other (h.inj 3 0 (by decide) (by decide) (by decide)) (h.blk 3 (by decide)) (h.blk 0 (by decide))
  have e1 := eql_other (h.inj 3 1 (by decide) (by decide) (by decide)) (h.blk 3 (by decide)) (h.blk 1 (by decide))
  have e2 := eql_other (h.inj 3 2 (by decide) (by decide) (by decide)) (h.blk 3 (by decide)) (h.blk 2 (by decide))
  have ek := eql_same (A 3) w
  clear h
  generalize A 0 = a0 at *
  generalize A 1 = a1 at *
  generalize A 2 = a2 at *
  generalize A 3 = a3 at *
  generalize A 4 = a4 at *
  generalize A 5 = a5 at *
  generalize A 7 = a7 at *
  go_enter Tryd.func53, Tryd.ntmps53
  go_wp2_with fail
  go_ret
  exact ⟨rfl, rfl⟩
set_option maxHeartbeats 2000000 in
theorem kind_write (A : Nat → Addr) (w : World) (h : Sent A w) (p : Nat) (path : Value) (b : Addr) (hp0 : w.cell? ⟨p, 0, none⟩ = some (.string { data := #[119, 114, 105, 116, 101] })) (hp2 : w.cell? ⟨p, 2, none⟩ = some (.iface 149 (.pointer (some b))))
    (hb : ∃ c t, w.heap[b.block]? = some (.cells c t (0, 0))) (hne : ∀ k, k < 11 → b ≠ A k) : Calls Tryd.prog 53 #[.iface 130 (.pointer (some ⟨p, 0, none⟩))] w fun e w' => e = .returned (.int .i64 6) ∧ w = w' := by
  have h1 := ta_path ⟨p, 0, none⟩
  have h2 := isIf96
  have g4 := h.var 4 (by decide)
  have g5 := h.var 5 (by decide)
  have g6 := h.var 6 (by decide)
  have g7 := h.var 7 (by decide)
  have e4 := eql_other (hne 4 (by decide)) hb (h.blk 4 (by decide))
  have e5 := eql_other (hne 5 (by decide)) hb (h.blk 5 (by decide))
  have e6 := eql_other (hne 6 (by decide)) hb (h.blk 6 (by decide))
  have e7 := eql_other (hne 7 (by decide)) hb (h.blk 7 (by decide))
  clear h hb hne
  generalize A 4 = a4 at *
  generalize A 5 = a5 at *
  generalize A 6 = a6 at *
  generalize A 7 = a7 at *
  go_enter Tryd.func53, Tryd.ntmps53
  go_wp2_with fail
  go_ret
  exact ⟨rfl, rfl⟩
set_option maxHeartbeats 2000000 in
theorem kind_truncate (A : Nat → Addr) (w : World) (h : Sent A w) (p : Nat) (path : Value) (b : Addr) (hp0 : w.cell? ⟨p, 0, none⟩ = some (.string { data := #[116, 114, 117, 110, 99, 97, 116, 101] })) (hp2 : w.cell? ⟨p, 2, none⟩ = some (.iface 149 (.pointer (some b))))
    (hb : ∃ c t, w.heap[b.block]? = some (.cells c t (0, 0))) (hne : ∀ k, k < 11 → b ≠ A k) : Calls Tryd.prog 53 #[.iface 130 (.pointer (some ⟨p, 0, none⟩))] w fun e w' => e = .returned (.int .i64 6) ∧ w = w' := by
  have h1 := ta_path ⟨p, 0, none⟩
  have h2 := isIf96
  have g4 := h.var 4 (by decide)
  have g5 := h.var 5 (by decide)
  have g6 := h.var 6 (by decide)
  have g7 := h.var 7 (by decide)
  have e4 := eql_other (hne 4 (by decide)) hb (h.blk 4 (by decide))
  have e5 := eql_other (hne 5 (by decide)) hb (h.blk 5 (by decide))
  have e6 := eql_other (hne 6 (by decide)) hb (h.blk 6 (by decide))
  have e7 := eql_other (hne 7 (by decide)) hb (h.blk 7 (by decide))
  clear h hb hne
  generalize A 4 = a4 at *
  generalize A 5 = a5 at *
  generalize A 6 = a6 at *
  generalize A 7 = a7 at *
  go_enter Tryd.func53, Tryd.ntmps53
  go_wp2_with fail
  go_ret
  exact ⟨rfl, rfl⟩
set_option maxHeartbeats 2000000 in
theorem kind_readdir (A : Nat → Addr) (w : World) (h : Sent A w) (p : Nat) (path : Value) (b : Addr) (hp0 : w.cell? ⟨p, 0, none⟩ = some (.string { data := #[114, 101, 97, 100, 100, 105, 114] })) (hp2 : w.cell? ⟨p, 2, none⟩ = some (.iface 149 (.pointer (some b))))
    (hb : ∃ c t, w.heap[b.block]? = some (.cells c t (0, 0))) (hne : ∀ k, k < 11 → b ≠ A k) : Calls Tryd.prog 53 #[.iface 130 (.pointer (some ⟨p, 0, none⟩))] w fun e w' => e = .returned (.int .i64 8) ∧ w = w' := by
  have h1 := ta_path ⟨p, 0, none⟩
  have h2 := isIf96
  have g4 := h.var 4 (by decide)
  have g5 := h.var 5 (by decide)
  have g6 := h.var 6 (by decide)
  have g7 := h.var 7 (by decide)
  have e4 := eql_other (hne 4 (by decide)) hb (h.blk 4 (by decide))
  have e5 := eql_other (hne 5 (by decide)) hb (h.blk 5 (by decide))
  have e6 := eql_other (hne 6 (by decide)) hb (h.blk 6 (by decide))
  have e7 := eql_other (hne 7 (by decide)) hb (h.blk 7 (by decide))
  clear h hb hne
  generalize A 4 = a4 at *
  generalize A 5 = a5 at *
  generalize A 6 = a6 at *
  generalize A 7 = a7 at *
  go_enter Tryd.func53, Tryd.ntmps53
  go_wp2_with fail
  go_ret
  exact ⟨rfl, rfl⟩
end Go.Proofs.YtljcdjggjphedaaDoor.Hd
namespace Go.Proofs.YtljcdjggjphedaaDoor.Hd
open Go.RowKit Go.Proofs.YtljcdjggjphedaaDoorW.PrintWords Go.Proofs.YtljcdjggjphedaaDoorW.PrintLast Go.Proofs.YtljcdjggjphedaaDoorW.PrintMore
set_option linter.unusedVariables false
set_option linter.unusedSimpArgs false
/-- From w to W nothing has turned but the blocks of S, and new ones. -/
structure Moves (S : Nat → Prop) (w W : World) : Prop where
  os : W.os = w.os
  tape : W.tape = w.tape
  output : W.output = w.output
  size : w.heap.size ≤ W.heap.size
  block : ∀ k, k < w.heap.size → ¬ S k → W.heap[k]? = w.heap[k]?
section
variable {S T : Nat → Prop} {w W V : World}
theorem Moves.refl (S : Nat → Prop) (w : World) : Moves S w w := ⟨rfl, rfl, rfl, Nat.le_refl _, fun _ _ _ => rfl⟩
theorem Moves.of_below (h : Below w.heap.size w W) (S : Nat → Prop) : Moves S w W := ⟨h.os, h.tape, h.output, h.size, fun k hk _ => h.block k hk⟩
theorem Moves.then_ (h : Moves S w W) (k : Moves T W V) (ht : ∀ i, T i → S i ∨ w.heap.size ≤ i) : Moves S w V :=
  ⟨k.os.trans h.os, k.tape.trans h.tape, k.output.trans h.output, Nat.le_trans h.size k.size, fun i hi hn => (k.block i (Nat.lt_of_lt_of_le hi h.size) (fun hT => (ht i hT).elim hn (fun hle => absurd hi (by omega)))).trans (h.block i hi hn)⟩
theorem Moves.grown {row : Option Nat} (h : Moves S w W) (hg : W.grownBy V row) (hr : ∀ k, row = some k → S k ∨ w.heap.size ≤ k) : Moves S w V :=
  ⟨hg.os.trans h.os, hg.tape.trans h.tape, hg.output.trans h.output, Nat.le_trans h.size hg.size, fun i hi hn => (hg.block i (Nat.lt_of_lt_of_le hi h.size) (fun he => by
    rcases hr i he.symm with hs | hs
    · exact hn hs
    · omega)).trans (h.block i hi hn)⟩
theorem Moves.below (h : Moves S w W) (hb : Below W.heap.size W V) : Moves S w V := h.then_ (Moves.of_below hb (fun _ => False)) (fun _ h => h.elim)
theorem Moves.alloc (h : Moves S w W) (o : Obj) : Moves S w (W.alloc o) := h.below (below_alloc (Below.refl _ _) o)
theorem Moves.drew (h : Moves S w W) : Moves S w W.drew := ⟨h.os, h.tape, h.output, h.size, h.block⟩
theorem Moves.drewN (h : Moves S w W) (n : Nat) : Moves S w (W.drewN n) := ⟨h.os, h.tape, h.output, h.size, h.block⟩
theorem Moves.setCell (h : Moves S w W) {p : Addr} (hp : S p.block ∨ w.heap.size ≤ p.block) (u : Value) : Moves S w (W.setCell p u) :=
  ⟨h.os, h.tape, h.output, by simpa [World.setCell] using h.size, fun i hi hn => (Below.heap_setCell W p u i (by
    rintro rfl
    rcases hp with hp | hp
    · exact hn hp
    · omega)).trans (h.block i hi hn)⟩
theorem Moves.mono (h : Moves S w W) (hs : ∀ k, S k → T k) : Moves T w W := ⟨h.os, h.tape, h.output, h.size, fun k hk hn => h.block k hk (fun hS => hn (hs k hS))⟩
theorem Moves.toBelow {B : Nat} {w0 : World} (h : Moves S w W) (hb : Below B w0 w) (hB : B ≤ w.heap.size) (hs : ∀ k, S k → B ≤ k) : Below B w0 W :=
  ⟨h.os.trans hb.os, h.tape.trans hb.tape, h.output.trans hb.output, Nat.le_trans hb.size h.size, fun k hk => (h.block k (by omega) (fun hS => by have := hs k hS; omega)).trans (hb.block k hk)⟩
theorem Moves.blk (h : Moves S w W) {g : Nat} {o : Obj} (hg : w.heap[g]? = some o) (hn : ¬ S g) : W.heap[g]? = some o := (h.block g (blk_lt hg) hn).trans hg
theorem Moves.row {α : Type} {d : Kd α} {e base : Nat} {ok : Nat → Prop} {v : Value} {xs : List α} (h : Moves S w W) (hr : d.R e w base ok v xs) (hn : ∀ k, ok k → ¬ S k) : d.R e W base ok v xs := Kd.R_step hr (fun k ho hk => h.block k hk (hn k ho))
end
/-- A handle's and a node's own cells. -/
structure Hnd where
  pos : Int
  ls : Int
  cl : Bool
  ro : Bool
structure Nod where
  nm : ByteArray
  vm : Value
  dir : Bool
  md : Int
  tm : Int
def hcs (h : Hnd) (d : Nat) : Array Value := #[.int .i64 h.pos, .int .i64 h.ls, .bool h.cl, .bool h.ro, .pointer (some ⟨d, 0, none⟩)]
def ncs (n : Nod) (v : Value) : Array Value := #[.string n.nm, v, n.vm, .bool n.dir, .int .u32 n.md, .int .i64 n.tm, .int .i64 0, .int .i64 0]
/-- An open file: its handle, its node and its bytes. -/
structure Fil (f d : Nat) (h : Hnd) (n : Nod) (v : Value) (data : List Int) (base : Nat) (W : World) : Prop where
  hf : W.heap[f]? = some (.cells (hcs h d) 94 (0, 0))
  hd : W.heap[d]? = some (.cells (ncs n v) 92 (0, 0))
  row : Kd.R (Kd.int .u8) 5 W base (fun _ => True) v data
def Tch (f d : Nat) (v : Value) (k : Nat) : Prop := k = f ∨ k = d ∨ some k = v.ownBlock
/-- What a step on an open file leaves. -/
def Acts (f d : Nat) (h : Hnd) (n : Nod) (data : List Int) (base : Nat) (v : Value) (w w' : World) : Prop :=
  ∃ v', Fil f d h n v' data base w' ∧ Moves (Tch f d v) w w' ∧ (v'.ownBlock = v.ownBlock ∨ ∃ b, v'.ownBlock = some b ∧ w.heap.size ≤ b)
section
variable {f d base : Nat} {h : Hnd} {n : Nod} {v : Value} {data : List Int} {W V : World}
theorem Fil.ne (F : Fil f d h n v data base W) : f ≠ d := blk_ne F.hf F.hd (by decide)
theorem Fil.c0 (F : Fil f d h n v data base W) : W.cell? ⟨f, 0, none⟩ = some (.int .i64 h.pos) := blk_cell F.hf 0
theorem Fil.c1 (F : Fil f d h n v data base W) : W.cell? ⟨f, 1, none⟩ = some (.int .i64 h.ls) := blk_cell F.hf 1
theorem Fil.c2 (F : Fil f d h n v data base W) : W.cell? ⟨f, 2, none⟩ = some (.bool h.cl) := blk_cell F.hf 2
theorem Fil.c3 (F : Fil f d h n v data base W) : W.cell? ⟨f, 3, none⟩ = some (.bool h.ro) := blk_cell F.hf 3
theorem Fil.c4 (F : Fil f d h n v data base W) : W.cell? ⟨f, 4, none⟩ = some (.pointer (some ⟨d, 0, none⟩)) := blk_cell F.hf 4
theorem Fil.n0 (F : Fil f d h n v data base W) : W.cell? ⟨d, 0, none⟩ = some (.string n.nm) := blk_cell F.hd 0
theorem Fil.n1 (F : Fil f d h n v data base W) : W.cell? ⟨d, 1, none⟩ = some v := blk_cell F.hd 1
theorem Fil.n3 (F : Fil f d h n v data base W) : W.cell? ⟨d, 3, none⟩ = some (.bool n.dir) := blk_cell F.hd 3
theorem Fil.n5 (F : Fil f d h n v data base W) : W.cell? ⟨d, 5, none⟩ = some (.int .i64 n.tm) := blk_cell F.hd 5
theorem Fil.below (F : Fil f d h n v data base W) (hb : Below W.heap.size W V) : Fil f d h n v data base V := ⟨blk_below F.hf hb, blk_below F.hd hb, Kd.R_below F.row hb⟩
theorem Fil.drewN (F : Fil f d h n v data base W) (m : Nat) : Fil f d h n v data base (W.drewN m) := F.below (pw_below_drewN (Below.refl _ _) m)
theorem Fil.drew (F : Fil f d h n v data base W) : Fil f d h n v data base W.drew := F.below (below_drew (Below.refl _ _))
theorem Fil.nef (F : Fil f d h n v data base W) : some f ≠ v.ownBlock := Kd.R_ne F.row F.hf (by decide)
theorem Fil.ned (F : Fil f d h n v data base W) : some d ≠ v.ownBlock := Kd.R_ne F.row F.hd (by decide)
theorem Fil.types (x : Nat) (hx : x = 94 ∨ x = 92) : ∀ q, q ∈ 5 :: (Kd.int IntKind.u8).E → q ≠ x := by
  intro q hq
  have : q = 5 := by simpa [Kd.int, Kd.scalar] using hq
  rcases hx with rfl | rfl <;> omega
/-- The place is put elsewhere; the handle is closed; the listing goes on. -/
theorem Fil.setPos (F : Fil f d h n v data base W) (x : Int) : Fil f d { h with pos := x } n v data base (W.setCell ⟨f, 0, none⟩ (.int .i64 x)) :=
  ⟨blk_put F.hf 0 _ rfl, blk_far F.hd F.ne.symm _, Kd.R_set F.row F.hf (Fil.types 94 (.inl rfl)) 0 _⟩
theorem Fil.setCl (F : Fil f d h n v data base W) (x : Bool) : Fil f d { h with cl := x } n v data base (W.setCell ⟨f, 2, none⟩ (.bool x)) :=
  ⟨blk_put F.hf 2 _ rfl, blk_far F.hd F.ne.symm _, Kd.R_set F.row F.hf (Fil.types 94 (.inl rfl)) 2 _⟩
theorem Fil.setTm (F : Fil f d h n v data base W) (x : Int) : Fil f d h { n with tm := x } v data base (W.setCell ⟨d, 5, none⟩ (.int .i64 x)) :=
  ⟨blk_far F.hf F.ne _, blk_put F.hd 5 _ rfl, Kd.R_set F.row F.hd (Fil.types 92 (.inr rfl)) 5 _⟩
theorem Acts.of (F : Fil f d h n v data base V) (M : Moves (Tch f d v) W V) : Acts f d h n data base v W V := ⟨v, F, M, .inl rfl⟩
end
set_option maxHeartbeats 1000000 in
theorem mod84 (d : Nat) (t u : Int) (W : World) (hc : W.cell? ⟨d, 5, none⟩ = some (.int .i64 u)) (hz : W.frozen? ⟨d, 5, none⟩ = false) :
    Calls Tryd.prog 84 #[.pointer (some ⟨d, 0, none⟩), .int .i64 t] W fun e w' => e = .returned (.tuple #[]) ∧ w' = W.setCell ⟨d, 5, none⟩ (.int .i64 t) := by
  go_enter Tryd.func84, Tryd.ntmps84
  go_wp2_with fail
  go_end0
  exact ⟨rfl, rfl⟩
set_option maxHeartbeats 1000000 in
theorem close46 {f d base : Nat} {h : Hnd} {n : Nod} {v : Value} {data : List Int} {W : World} (F : Fil f d h n v data base W) :
    Calls Tryd.prog 46 #[.pointer (some ⟨f, 0, none⟩)] W fun e w' => e = .returned .nilIface ∧ Acts f d { h with cl := true } { n with tm := if h.ro then n.tm else 0 } data base v W w' := by
  obtain ⟨pos, ls, cl, ro⟩ := h
  obtain ⟨nm, vm, dir, md, tm⟩ := n
  have hne := F.ne
  have c2 := F.c2
  have c3 := F.c3
  have c4 := F.c4
  have z2 := blk_frozen F.hf 2
  have n5 := F.n5
  have zd := blk_frozen F.hd 5
  have HF := Lib.hid F
  clear F
  cases ro with
  | true =>
    go_enter Tryd.func46, Tryd.ntmps46
    go_wp2_with fail
    go_ret
    exact ⟨rfl, Acts.of (HF.out.setCl true) ((Moves.refl _ _).setCell (.inl (.inl rfl)) _)⟩
  | false =>
    go_enter Tryd.func46, Tryd.ntmps46
    go_wp2_with (first | (go_at_call 84; (with_reducible refine (mod84 d 0 tm (W.setCell ⟨f, 2, none⟩ (.bool true)) (HF.out.setCl true).n5 (blk_frozen (HF.out.setCl true).hd 5)).mono ?_); rintro e w' ⟨rfl, rfl⟩))
    go_ret
    exact ⟨rfl, Acts.of ((HF.out.setCl true).setTm 0) (((Moves.refl _ _).setCell (.inl (.inl rfl)) _).setCell (.inl (.inr (.inl rfl))) _)⟩
/-- Where a seek goes. -/
def seekTo (pos len off wh : Int) : Int := if wh = 0 then off else if wh = 1 then pos + off else if wh = 2 then len + off else pos
set_option maxHeartbeats 1000000 in
theorem seek44 {f d base : Nat} {h : Hnd} {n : Nod} {v : Value} {data : List Int} {W : World} (F : Fil f d h n v data base W) (off wh : Int) (hcl : h.cl = false)
    (hp1 : -4611686018427387904 ≤ h.pos) (hp2 : h.pos ≤ 4611686018427387904) (ho1 : -4611686018427387904 ≤ off) (ho2 : off ≤ 4611686018427387903) (hl : data.length ≤ 4611686018427387904) :
    Calls Tryd.prog 44 #[.pointer (some ⟨f, 0, none⟩), .int .i64 off, .int .i64 wh] W fun e w' => e = .returned (.tuple #[.int .i64 (seekTo h.pos data.length off wh), .nilIface]) ∧ Acts f d { h with pos := seekTo h.pos data.length off wh } n data base v W w' := by
  obtain ⟨pos, ls, cl, ro⟩ := h
  obtain ⟨A, c, hv, _, _⟩ := Kd.R_reads F.row
  have hne := F.ne
  have c0 := F.c0
  have c2 := F.c2
  have c4 := F.c4
  have n1 := F.n1
  have z0 := blk_frozen F.hf 0
  have HF := Lib.hid F
  have HV := Lib.hid hv
  rw [hv] at n1
  simp only at c0 c2 hp1 hp2 hcl
  rw [hcl] at c2
  clear F hv hcl
  generalize data.length = len at n1 hl ⊢
  by_cases h0 : wh = 0
  · subst h0
    go_enter Tryd.func44, Tryd.ntmps44
    go_wp2_with fail
    go_ret2
    exact ⟨rfl, Acts.of (HF.out.setPos _) ((Moves.refl _ _).setCell (.inl (.inl rfl)) _)⟩
  · by_cases h1 : wh = 1
    · subst h1
      go_enter Tryd.func44, Tryd.ntmps44
      go_wp2_with fail
      go_ret2
      exact ⟨rfl, Acts.of (HF.out.setPos _) ((Moves.refl _ _).setCell (.inl (.inl rfl)) _)⟩
    · by_cases h2 : wh = 2
      · subst h2
        go_enter Tryd.func44, Tryd.ntmps44
        go_wp2_with fail
        go_ret2
        exact ⟨rfl, Acts.of (HF.out.setPos _) ((Moves.refl _ _).setCell (.inl (.inl rfl)) _)⟩
      · have e0 : (wh == 0) = false := by simpa using h0
        have e1 : (wh == 1) = false := by simpa using h1
        have e2 : (wh == 2) = false := by simpa using h2
        have HS := Lib.hid (show seekTo pos len off wh = pos by simp [seekTo, h0, h1, h2])
        clear h0 h1 h2
        go_enter Tryd.func44, Tryd.ntmps44
        go_wp2_with fail
        go_ret2
        rw [HS.out]
        exact ⟨rfl, Acts.of HF.out (Moves.refl _ _)⟩
set_option maxHeartbeats 1000000 in
theorem seek44c {f d base : Nat} {h : Hnd} {n : Nod} {v : Value} {data : List Int} {W : World} (F : Fil f d h n v data base W) (A : Nat → Addr) (hS : Sent A W) (off wh : Int) (hcl : h.cl = true) :
    Calls Tryd.prog 44 #[.pointer (some ⟨f, 0, none⟩), .int .i64 off, .int .i64 wh] W fun e w' => e = .returned (.tuple #[.int .i64 0, .iface 149 (.pointer (some (A 0)))]) ∧ Below W.heap.size W w' := by
  have c2 := F.c2
  rw [hcl] at c2
  have g0 := hS.var 0 (by decide)
  clear F hS hcl
  generalize A 0 = a0 at *
  go_enter Tryd.func44, Tryd.ntmps44
  go_wp2_with fail
  go_quiet (fail)
  go_wp2
  go_ret2
  exact ⟨rfl, pw_below_drewN (Below.refl _ _) _⟩
end Go.Proofs.YtljcdjggjphedaaDoor.Hd
namespace Go.Proofs.YtljcdjggjphedaaDoor.Hd
open Go.RowKit Go.Proofs.YtljcdjggjphedaaDoorW.PrintWords Go.Proofs.YtljcdjggjphedaaDoorW.PrintLast Go.Proofs.YtljcdjggjphedaaDoorW.PrintMore
open Go.Proofs.YtljcdjggjphedaaDoorW.PrintWords.Kd
set_option linter.unusedVariables false
set_option linter.unusedSimpArgs false
section
variable {P : Program}
theorem enc1 (k : IntKind) (x : Int) : (Value.int k x).oneCell' = true := rfl
/-- Cells laid into a row in place. -/
theorem row_laid {W : World} {base e g n cap : Nat} {ok : Nat → Prop} {xs : List Int} (h : Kd.R (Kd.int .u8) e W base ok (.slice (some ⟨g, 0, none⟩) n cap) xs) (o : Nat) (ys : List Int) (hle : o + ys.length ≤ xs.length) :
    Kd.R (Kd.int .u8) e (W.setCells g o (encs (Value.int .u8) ys)) base ok (.slice (some ⟨g, 0, none⟩) n cap) (xs.take o ++ ys ++ xs.drop (o + ys.length)) ∧ W.grownBy (W.setCells g o (encs (Value.int .u8) ys)) (some g) := by
  have hown := own_of_R h
  have hl2 : (xs.take o ++ ys ++ xs.drop (o + ys.length)).length = xs.length := by
    simp only [List.length_append, List.length_take, List.length_drop]; omega
  obtain ⟨s1, s2, s3, s4⟩ := setCells_same g (encs (Value.int .u8) ys) o W
  refine ⟨?_, ⟨s1, s2, s3, by rw [s4]; exact Nat.le_refl _, fun k _ hk => setCells_far _ _ k (fun he => hk (by rw [he]))⟩⟩
  rcases hown.2 with ⟨hx, _⟩ | ⟨g', cap', cur, hv, hb, hh, hnc, hcm, hcs, htake⟩
  · cases hx
  · simp only [Value.slice.injEq, Option.some.injEq, Addr.mk.injEq] at hv
    obtain ⟨⟨rfl, _, _⟩, rfl, rfl⟩ := hv
    obtain ⟨cur', h3, h4, h5⟩ := setCells_row (encs (Value.int .u8) ys) o W cur hh (by rw [encs_length]; omega)
    refine R_of_own (h1 := enc1 .u8) ?_ h.1
    rw [hl2]
    refine ⟨by rw [encs_length, hl2, Nat.mul_one], .inr ⟨g, cap, cur', rfl, hb, h3, hnc, hcm, by rw [h4, hcs], ?_⟩⟩
    rw [Nat.mul_one] at htake ⊢
    rw [h5, encs_length]
    have hc : cur.toList = encs (Value.int .u8) xs ++ cur.toList.drop xs.length := by
      conv => lhs; rw [← List.take_append_drop xs.length cur.toList, htake]
    have hel : (encs (Value.int IntKind.u8) xs).length = xs.length := encs_length ..
    have e0 : cur.toList.take o = (encs (Value.int IntKind.u8) xs).take o := by rw [hc, List.take_append_of_le_length (by rw [hel]; omega)]
    have e2 : cur.toList.drop (o + ys.length) = (encs (Value.int IntKind.u8) xs).drop (o + ys.length) ++ cur.toList.drop xs.length := by
      conv => lhs; rw [hc]
      rw [List.drop_append_of_le_length (by rw [hel]; omega)]
    have e1 : (encs (Value.int IntKind.u8) xs).take o ++ encs (Value.int IntKind.u8) ys ++ (encs (Value.int IntKind.u8) xs).drop (o + ys.length) = encs (Value.int IntKind.u8) (xs.take o ++ ys ++ xs.drop (o + ys.length)) := by
      simp [encs]
    rw [e0, e2, ← List.append_assoc, e1, List.take_append_of_le_length (by rw [encs_length, hl2]; exact Nat.le_refl _), List.take_of_length_le (by rw [encs_length, hl2]; exact Nat.le_refl _)]
/-- copy of bytes that can be read into a row of one's own. -/
theorem copy_run {W : World} {base : Nat} (t t' ty e : TypeId) (ht : P.underlying t = some (.slice e)) (hinfo : (P.info? e).map (·.size) = some 1) {v : Value} {xs ys : List Int} {A : Option Addr} {m c : Nat} {ok : Nat → Prop}
    (HO : Kd.R (Kd.int .u8) e W base ok v xs) (HR : Kd.C (Kd.int .u8) W A m ys) (hle : m ≤ xs.length) :
    ∃ w1, (Builtin.copy_ #[t, t'] ty #[v, .slice A m c]).run P W = .ok (.int .i64 (m : Nat)) w1 ∧ Kd.R (Kd.int .u8) e w1 base ok v (ys ++ xs.drop m) ∧ W.grownBy w1 v.ownBlock := by
  have hR := reads_of_C (enc := Value.int .u8) (d := (0 : Int)) (h1 := enc1 .u8) HR
  have hm : ys.length = m := hR.1
  have hmin : Nat.min m xs.length = m := Nat.min_eq_left hle
  obtain ⟨A', c', hv, _, _⟩ := R_reads HO
  rcases Nat.eq_zero_or_pos m with h0 | hp
  · subst h0
    obtain rfl : ys = [] := List.eq_nil_of_length_eq_zero hm
    refine ⟨W, ?_, by simpa using HO, World.grownBy.refl W _⟩
    rw [hv]
    exact run_copy_none W t t' ty e A' A xs.length c' 0 c ht hinfo (by simp)
  · obtain ⟨ad, hA, hc⟩ := hR.2.2 hp
    obtain ⟨g, cap, hf, _, _, _⟩ := R_form HO (by omega)
    subst hf
    have hlaid := row_laid HO 0 ys (by omega)
    have hsrc : ∀ j u, (encs (Value.int .u8) ys)[j]? = some u → W.cell? (ad.add j) = some u := by
      intro j u hu
      have hj : j < ys.length := by
        rcases Nat.lt_or_ge j ys.length with h | h
        · exact h
        · rw [List.getElem?_eq_none (by rw [encs_length]; exact h)] at hu
          cases hu
      rw [encs_get (d := (0 : Int)) _ j hj] at hu
      rw [hc j (by omega), ← hu]
    have hcell : ∀ j, j < xs.length → (W.cell? ⟨g, j, none⟩).isSome = true ∧ W.frozen? ⟨g, j, none⟩ = false := by
      intro j hj
      have := R_celln (h1 := enc1 .u8) (0 : Int) HO (j : Int) (by omega) (by omega)
      rw [Int.toNat_natCast] at this
      exact ⟨by rw [this.1]; rfl, this.2⟩
    have hr := run_copy_cells (P := P) W t t' ty e g 0 xs.length cap ad m c (encs (Value.int .u8) ys) ht hinfo (by rw [encs_length, hm]; exact hmin.symm) hsrc
      (fun j hj => by rw [Nat.zero_add]; rw [encs_length] at hj; exact (hcell j (by omega)).1) (fun j hj => by rw [Nat.zero_add]; rw [encs_length] at hj; exact (hcell j (by omega)).2) (by intro u hu; simp only [encs, List.mem_map] at hu; obtain ⟨q, _, rfl⟩ := hu; rfl)
    refine ⟨_, by rw [hA, hr, encs_length, hm]; rfl, ?_, ?_⟩
    · have := hlaid.1
      rw [List.take_zero, List.nil_append, Nat.zero_add, hm] at this
      exact this
    · exact hlaid.2
variable {ops : Array Oper} {o : Oper} {a : Act} {Q : Exit → Act → World → Prop} {Kc : Act → World → Prop}
theorem copy_step {W : World} {base : Nat} (hw : Region.wanted o (yielded ops a.tmps) = true) (s x : Operand) (t t' e : TypeId)
    (ho : o.op = .call { callee := .builtin .copy, args := #[s, x], argTypes := #[t, t'] }) (ht : P.underlying t = some (.slice e)) (hinfo : (P.info? e).map (·.size) = some 1)
    (v : Value) (xs ys : List Int) (A : Option Addr) (m c : Nat) (ok : Nat → Prop) (hs : a.eval s = v) (hx : a.eval x = .slice A m c)
    (HO : Kd.R (Kd.int .u8) e W base ok v xs) (HR : Kd.C (Kd.int .u8) W A m ys) (hle : m ≤ xs.length)
    (h : ∀ w1, Kd.R (Kd.int .u8) e w1 base ok v (ys ++ xs.drop m) → W.grownBy w1 v.ownBlock → Kc (a.put o.dst (.int .i64 (m : Nat))) w1) :
    if Region.wanted o (yielded ops a.tmps) = true then Oper.wp P o a W Kc Q else Kc (a.put o.dst undef) W := by
  obtain ⟨w1, hr, h1, h2⟩ := copy_run (P := P) (c := c) t t' o.type e ht hinfo HO HR hle
  refine event_step hw ?_ (h w1 h1 h2)
  unfold execOp
  simp only [ho, resolve, invoke, builtin, Sem.run_bind, Sem.run_pure, Result.andThen_ok, List.map_toArray, List.map_cons, List.map_nil, hs, hx, hr]
end
end Go.Proofs.YtljcdjggjphedaaDoor.Hd
namespace Go.Proofs.YtljcdjggjphedaaDoor.Hd
open Go.RowKit Go.Proofs.YtljcdjggjphedaaDoorW.PrintWords Go.Proofs.YtljcdjggjphedaaDoorW.PrintLast Go.Proofs.YtljcdjggjphedaaDoorW.PrintMore
set_option linter.unusedVariables false
set_option linter.unusedSimpArgs false
theorem at_drewN {P : Program} {c : Code} {Q : Exit → Act → World → Prop} {a : Act} {W : World} {N : Nat} (h : ∀ W1, (∃ n, W1 = W.drewN n) → Code.wp P c Q a W1) : Code.wp P c Q a (W.drewN N) := h _ ⟨N, rfl⟩
theorem info5s : (Tryd.prog.info? 5).map (·.size) = some 1 := by kernel_rfl
theorem Fil.grown {f d base : Nat} {h : Hnd} {n : Nod} {v : Value} {data : List Int} {W V : World} {row : Option Nat} (F : Fil f d h n v data base W) (hg : W.grownBy V row) (h1 : some f ≠ row) (h2 : some d ≠ row) (h3 : ∀ i, v.ownBlock = some i → row ≠ some i) : Fil f d h n v data base V :=
  ⟨blk_grown F.hf hg h1, blk_grown F.hd hg h2, Kd.R_mono (Kd.R_grown (Kd.R_tight rfl F.row) hg (fun k hk => fun e => h3 k hk.symm e.symm)) (fun _ _ => trivial)⟩
theorem quad {f d base p len c g : Nat} {ls : Int} {ro : Bool} {n : Nod} {v : Value} {data : List Int} {W : World} (F : Fil f d { pos := p, ls := ls, cl := false, ro := ro } n v data base W) (hv : v = .slice (some ⟨g, 0, none⟩) len c) :
    W.cell? ⟨f, 0, none⟩ = some (.int .i64 p) ∧ W.cell? ⟨f, 4, none⟩ = some (.pointer (some ⟨d, 0, none⟩)) ∧ W.cell? ⟨d, 1, none⟩ = some (.slice (some ⟨g, 0, none⟩) len c) := ⟨F.c0, F.c4, hv ▸ F.n1⟩
/-- A part of a row can be read. -/
theorem C_part {W : World} {base g n c : Nat} {ok : Nat → Prop} {xs : List Int} (h : Kd.R (Kd.int .u8) 5 W base ok (.slice (some ⟨g, 0, none⟩) n c) xs) (p k : Nat) (hp : p + k ≤ xs.length) :
    Kd.C (Kd.int .u8) W (some ⟨g, p, none⟩) k ((xs.drop p).take k) := by
  have hl := (Kd.R_reads' h)
  have hmax := Kd.C_max hl.2.2
  have hlen : ((xs.drop p).take k).length = k := by rw [List.length_take, List.length_drop]; omega
  refine ⟨hlen, by omega, fun _ => ⟨⟨g, p, none⟩, rfl, fun j x hj => ⟨[.int .u8 x], rfl, rfl, fun i u hi => ?_⟩⟩⟩
  match i, hi with
  | 0, hi =>
    simp at hi
    subst hi
    have hjl := (List.getElem?_eq_some_iff.1 hj).1
    rw [hlen] at hjl
    rw [List.getElem?_take, if_pos (by omega), List.getElem?_drop] at hj
    have hc := (Kd.R_celln (h1 := enc1 .u8) (0 : Int) h ((p + j : Nat) : Int) (by omega) (by omega)).1
    rw [Int.toNat_natCast, rdOf, Int.toNat_natCast, List.getD_eq_getElem?_getD, hj] at hc
    rw [show (⟨g, p, none⟩ : Addr).add (j * (Kd.int IntKind.u8).sz + 0) = ⟨g, p + j, none⟩ by simp [Addr.add, Kd.int, Kd.scalar]]
    exact hc
/-- Bytes of the file are read into a row. -/
def ReadsK (f d : Nat) (h : Hnd) (n : Nod) (v : Value) (data : List Int) (base bb : Nat) (vb : Value) (xs : List Int) (k : Nat) (w w' : World) : Prop :=
  Fil f d { h with pos := h.pos + k } n v data base w' ∧ Kd.R (Kd.int .u8) 5 w' bb (fun _ => True) vb ((data.drop h.pos.toNat).take k ++ xs.drop k) ∧ Moves (fun i => i = f ∨ some i = vb.ownBlock) w w'
set_option maxHeartbeats 4000000 in
set_option maxRecDepth 100000 in
theorem read40 {f d base bb : Nat} {h : Hnd} {n : Nod} {v vb : Value} {data xs : List Int} {W : World} (F : Fil f d h n v data base W) (hcl : h.cl = false)
    (hb : Kd.R (Kd.int .u8) 5 W bb (fun _ => True) vb xs) (hbb : bb ≤ W.heap.size) (hne : ∀ i, v.ownBlock = some i → vb.ownBlock ≠ some i) (p m : Nat) (hp : h.pos = p) (hm : xs.length = m) (hpl : p < data.length) (hm0 : 0 < m) (hml : m ≤ 10000000) (hdl : data.length ≤ 10000000) :
    Calls Tryd.prog 40 #[.pointer (some ⟨f, 0, none⟩), vb] W fun e w' => e = .returned (.tuple #[.int .i64 (min m (data.length - p) : Nat), .nilIface]) ∧ ReadsK f d h n v data base bb vb xs (min m (data.length - p)) W w' := by
  obtain ⟨pos, ls, cl, ro⟩ := h
  simp only at hp hcl
  subst hp hcl
  obtain ⟨g, c, hv, _, _, _⟩ := Kd.R_form F.row (by omega)
  have hcl2 : data.length ≤ c := (Kd.R_reads' (hv ▸ F.row)).2.1
  obtain ⟨gb, cb, hvb, _, _, _⟩ := Kd.R_form hb (by omega)
  rw [hm] at hvb
  have c0 := F.c0
  have c2 := F.c2
  have c4 := F.c4
  have n1 := F.n1
  have z0 := blk_frozen F.hf 0
  have HF := Lib.hid F
  have HB := Lib.hid hb
  have HV := Lib.hid hv
  have HVB := Lib.hid hvb
  have HM := Lib.hid hm
  have HNE := Lib.hid (fun i (hi : v.ownBlock = some i) => hne i hi)
  have NE1 := Lib.hid (Kd.R_ne hb F.hf (by decide))
  have NE2 := Lib.hid (Kd.R_ne hb F.hd (by decide))
  rw [hv] at n1
  rw [hvb]
  simp only at c0 c2
  obtain ⟨len, hlen⟩ : ∃ len, len = data.length := ⟨_, rfl⟩
  rw [← hlen] at n1 hpl hdl hcl2
  rw [← hlen]
  have HLEN := Lib.hid hlen
  have HVL := Lib.hid (show v = .slice (some ⟨g, 0, none⟩) len c by rw [hlen]; exact hv)
  have q1 : ((p : Int) == (len : Int)) = false := by simp; omega
  obtain ⟨r, hr⟩ : ∃ r, r = len - p := ⟨_, rfl⟩
  have w1 : IntKind.i64.wrap ((len : Int) - (p : Int)) = (r : Int) := by rw [IntWalk.i64_in _ (by omega)]; omega
  have hr0 : 0 < r := by omega
  have hr1 : p + r = len := by omega
  rw [← hr]
  clear F hb hv hvb hm hne hlen hr
  obtain ⟨k, hk⟩ : ∃ k, k = min m r := ⟨_, rfl⟩
  have hkm : k ≤ m := by omega
  have hkr : k ≤ r := by omega
  rw [← hk]
  obtain ⟨pe, hpe⟩ : ∃ pe, pe = p + k := ⟨_, rfl⟩
  have w2 : IntKind.i64.wrap ((p : Int) + (k : Int)) = (pe : Int) := by rw [IntWalk.i64_in _ (by omega)]; omega
  have b1 : (p : Int) ≤ (pe : Int) := by omega
  have b2 : (pe : Int) ≤ (c : Int) := by omega
  have b3 : (0 : Int) ≤ (p : Int) := by omega
  have b4 : ¬ (c = p) := by omega
  have b5 : pe - p = k := by omega
  have HKP := Lib.hid (show p + k ≤ data.length by rw [← HLEN.out]; omega)
  have HPE := Lib.hid hpe
  have hcase : (m ≤ r ∧ k = m) ∨ (¬ m ≤ r ∧ k = r) := by omega
  clear hpe hk
  rcases hcase with ⟨hmr, hk⟩ | ⟨hmr, hk⟩
  all_goals obtain rfl := hk
  all_goals
    go_enter Tryd.func40, Tryd.ntmps40
    go_wp2_with fail
    go_quiet (fail)
    go_wp2
    go_quiet (fail)
    go_wp2
    go_quiet (fail)
    go_wp2
  rotate_left
  all_goals try (go_quiet (fail); go_wp2)
  rotate_left
  all_goals
    refine at_drewN ?_
    rintro W1 ⟨N1, hW1⟩
    have HDR : Drawn0 W W1 := by rw [hW1]; repeat (first | exact Drawn0.refl _ | apply Drawn0.step)
    obtain ⟨N2, hN2⟩ := HDR.out
    have F1 := Lib.hid (show Fil f d { pos := p, ls := ls, cl := false, ro := ro } n v data base W1.drew by rw [hN2]; exact (HF.out.drewN N2).drew)
    have B1 := Lib.hid (show Kd.R (Kd.int .u8) 5 W1.drew bb (fun _ => True) vb xs by rw [hN2]; exact Kd.R_drew (Kd.R_drewN HB.out N2))
    have M1 := Lib.hid (show Moves (fun i => i = f ∨ some i = vb.ownBlock) W W1.drew by rw [hN2]; exact ((Moves.refl _ _).drewN N2).drew)
    have c0 : W1.cell? ⟨f, 0, none⟩ = some (.int .i64 p) := F1.out.c0
    have c4 : W1.cell? ⟨f, 4, none⟩ = some (.pointer (some ⟨d, 0, none⟩)) := F1.out.c4
    have n1 : W1.cell? ⟨d, 1, none⟩ = some (.slice (some ⟨g, 0, none⟩) len c) := by have := F1.out.n1; rw [HV.out, ← HLEN.out] at this; exact this
    have CP := Lib.hid (C_part (n := len) (c := c) (g := g) (by have := F1.out.row; rw [HV.out, ← HLEN.out] at this; exact this) p k HKP.out)
    have HMK := Lib.hid (show k ≤ xs.length by rw [HM.out]; exact hkm)
    clear hW1 hN2 HDR
    go_region_held3 (fun w' => w'.cell? ⟨f, 0, none⟩ = some (.int .i64 p) ∧ w'.cell? ⟨f, 4, none⟩ = some (.pointer (some ⟨d, 0, none⟩)) ∧ w'.cell? ⟨d, 1, none⟩ = some (.slice (some ⟨g, 0, none⟩) len c))
      (first | exact Q2.out | go_keep)
      ((refine copy_step (by rfl) _ _ 22 22 5 (by rfl) Tryd.underlying22 info5s vb xs ((data.drop p).take k) (some ⟨g, p, none⟩) k (c - p) (fun _ => True) (by exact HVB.out.symm) (by rfl) B1.out CP.out HMK.out ?_; intro w1 hr1 hg1; have R2 := Lib.hid hr1; have G2 := Lib.hid hg1; have F2 := Lib.hid (F1.out.grown hg1 NE1.out NE2.out HNE.out); have Q2 := Lib.hid (quad F2.out HVL.out); clear hr1 hg1))
    have c0 := F2.out.c0
    have z0 := blk_frozen F2.out.hf 0
    go_wp2
    go_ret2
    refine ⟨rfl, ?_, ?_, ?_⟩
    · have := F2.out.setPos pe
      rw [show ((p : Int) + (k : Int)) = (pe : Int) by rw [HPE.out]; omega]
      exact this
    · rw [← HVB.out]
      exact Kd.R_set R2.out F2.out.hf (Fil.types 94 (.inl rfl)) 0 _
    · rw [← HVB.out]
      exact (M1.out.grown G2.out (fun i hi => .inl (.inr hi.symm))).setCell (p := ⟨f, 0, none⟩) (.inl (.inl rfl)) _
end Go.Proofs.YtljcdjggjphedaaDoor.Hd
namespace Go.Proofs.YtljcdjggjphedaaDoor.Hd
open Go.RowKit Go.Proofs.YtljcdjggjphedaaDoorW.PrintWords Go.Proofs.YtljcdjggjphedaaDoorW.PrintLast Go.Proofs.YtljcdjggjphedaaDoorW.PrintMore
set_option linter.unusedVariables false
set_option linter.unusedSimpArgs false
/-- A row is nil, or the head of a block. -/
theorem row_cases {W : World} {base : Nat} {ok : Nat → Prop} {v : Value} {xs : List Int} (h : Kd.R (Kd.int .u8) 5 W base ok v xs) :
    (v = .slice none 0 0 ∧ xs = []) ∨ ∃ g c, v = .slice (some ⟨g, 0, none⟩) xs.length c ∧ xs.length ≤ c := by
  obtain ⟨inner, ho⟩ := Kd.R_own h
  rcases ho.2 with ⟨hv, hn⟩ | ⟨g, cap, cur, hv, _, _, hnc, _⟩
  · exact .inl ⟨hv, List.eq_nil_of_length_eq_zero hn⟩
  · exact .inr ⟨g, cap, hv, hnc⟩
section
variable {f d base : Nat} {h : Hnd} {n : Nod} {v : Value} {data : List Int} {W : World}
set_option maxHeartbeats 1000000 in
theorem read40c (F : Fil f d h n v data base W) (A : Nat → Addr) (hS : Sent A W) (vb : Value) (hcl : h.cl = true) :
    Calls Tryd.prog 40 #[.pointer (some ⟨f, 0, none⟩), vb] W fun e w' => e = .returned (.tuple #[.int .i64 0, .iface 149 (.pointer (some (A 0)))]) ∧ Below W.heap.size W w' := by
  have c2 := F.c2
  rw [hcl] at c2
  have g0 := hS.var 0 (by decide)
  clear F hS hcl
  generalize A 0 = a0 at *
  go_enter Tryd.func40, Tryd.ntmps40
  go_wp2_with fail
  go_quiet (fail)
  go_wp2
  go_ret2
  exact ⟨rfl, by repeat (first | exact Below.refl _ _ | apply pw_below_drewN)⟩
set_option maxHeartbeats 1000000 in
theorem read40e (F : Fil f d h n v data base W) (A : Nat → Addr) (hS : Sent A W) (Ab : Option Addr) (m cb : Nat) (hcl : h.cl = false) (hm : 0 < m) (hp : h.pos = data.length) :
    Calls Tryd.prog 40 #[.pointer (some ⟨f, 0, none⟩), .slice Ab m cb] W fun e w' => e = .returned (.tuple #[.int .i64 0, .iface 149 (.pointer (some (A 1)))]) ∧ Below W.heap.size W w' := by
  obtain ⟨A', c, hv, _, _⟩ := Kd.R_reads F.row
  have c0 := F.c0
  have c2 := F.c2
  have c4 := F.c4
  have n1 := F.n1
  rw [hcl] at c2
  rw [hp] at c0
  rw [hv] at n1
  have g1 := hS.var 1 (by decide)
  clear F hS hcl hv hp
  generalize data.length = len at *
  generalize A 1 = a1 at *
  go_enter Tryd.func40, Tryd.ntmps40
  go_wp2_with fail
  go_quiet (fail)
  go_wp2
  go_quiet (fail)
  go_wp2
  go_ret2
  exact ⟨rfl, by repeat (first | exact Below.refl _ _ | apply pw_below_drewN)⟩
set_option maxHeartbeats 2000000 in
theorem read40u (F : Fil f d h n v data base W) (A : Nat → Addr) (hS : Sent A W) (Ab : Option Addr) (m cb : Nat) (hcl : h.cl = false) (hp : (data.length : Int) < h.pos) :
    Calls Tryd.prog 40 #[.pointer (some ⟨f, 0, none⟩), .slice Ab m cb] W fun e w' => e = .returned (.tuple #[.int .i64 0, .iface 149 (.pointer (some (A 2)))]) ∧ Below W.heap.size W w' := by
  obtain ⟨A', c, hv, _, _⟩ := Kd.R_reads F.row
  have c0 := F.c0
  have c2 := F.c2
  have c4 := F.c4
  have n1 := F.n1
  rw [hcl] at c2
  rw [hv] at n1
  have g1 := hS.var 2 (by decide)
  obtain ⟨pos, ls, cl, ro⟩ := h
  simp only at c0 hp
  clear F hS hcl hv
  generalize data.length = len at *
  generalize A 2 = a1 at *
  have q1 : (pos == (len : Int)) = false := by simp; omega
  by_cases hm : 0 < m
  all_goals
    go_enter Tryd.func40, Tryd.ntmps40
    go_wp2_with fail
    go_quiet (fail)
    go_wp2
    go_quiet (fail)
    go_wp2
    go_quiet (fail)
    go_wp2
    go_ret2
    exact ⟨rfl, by repeat (first | exact Below.refl _ _ | apply pw_below_drewN)⟩
end
end Go.Proofs.YtljcdjggjphedaaDoor.Hd
namespace Go.Proofs.YtljcdjggjphedaaDoor.Hd
open Go.RowKit Go.Proofs.YtljcdjggjphedaaDoorW.PrintWords Go.Proofs.YtljcdjggjphedaaDoorW.PrintLast Go.Proofs.YtljcdjggjphedaaDoorW.PrintMore
set_option linter.unusedVariables false
set_option linter.unusedSimpArgs false
section
variable {f d base : Nat} {h : Hnd} {n : Nod} {v : Value} {data : List Int} {W : World}
set_option maxHeartbeats 1000000 in
theorem readat41 (F : Fil f d h n v data base W) (vb : Value) (off k x : Int) (ev : Value) (Post : World → Prop)
    (hC : Calls Tryd.prog 40 #[.pointer (some ⟨f, 0, none⟩), vb] (W.setCell ⟨f, 0, none⟩ (.int .i64 off)) fun e w' => e = .returned (.tuple #[.int .i64 k, ev]) ∧ Fil f d { h with pos := x } n v data base w' ∧ Post w') :
    Calls Tryd.prog 41 #[.pointer (some ⟨f, 0, none⟩), vb, .int .i64 off] W fun e w' => e = .returned (.tuple #[.int .i64 k, ev]) ∧ ∃ w1, Post w1 ∧ Fil f d { h with pos := x } n v data base w1 ∧ w' = w1.setCell ⟨f, 0, none⟩ (.int .i64 h.pos) := by
  have c0 := F.c0
  have z0 := blk_frozen F.hf 0
  have HC := Lib.hid hC
  clear F hC
  go_enter Tryd.func41, Tryd.ntmps41
  go_wp2_with (first | (go_at_call 40; (with_reducible refine (HC.out).mono ?_); rintro e w1 ⟨rfl, hF, hP⟩; have HF := Lib.hid hF; have HP := Lib.hid hP; have c1 := hF.c0; have z1 := blk_frozen hF.hf 0; clear hF hP))
  go_ret2
  exact ⟨rfl, w1, HP.out, HF.out, rfl⟩
set_option maxHeartbeats 1000000 in
theorem new25 (nd : Nat) : Calls Tryd.prog 25 #[.pointer (some ⟨nd, 0, none⟩)] W fun e w' => e = .returned (.pointer (some ⟨W.heap.size, 0, none⟩)) ∧ w'.heap[W.heap.size]? = some (.cells (hcs ⟨0, 0, false, false⟩ nd) 94 (0, 0)) ∧ w' = W.alloc (.cells (hcs ⟨0, 0, false, false⟩ nd) 94) := by
  go_enter Tryd.func25, Tryd.ntmps25
  go_wp2_with fail
  go_ret
  exact ⟨rfl, blk_new _ _, rfl⟩
set_option maxHeartbeats 1000000 in
theorem new26 (nd : Nat) : Calls Tryd.prog 26 #[.pointer (some ⟨nd, 0, none⟩)] W fun e w' => e = .returned (.pointer (some ⟨W.heap.size, 0, none⟩)) ∧ w'.heap[W.heap.size]? = some (.cells (hcs ⟨0, 0, false, true⟩ nd) 94 (0, 0)) ∧ w' = W.alloc (.cells (hcs ⟨0, 0, false, true⟩ nd) 94) := by
  go_enter Tryd.func26, Tryd.ntmps26
  go_wp2_with fail
  go_ret
  exact ⟨rfl, blk_new _ _, rfl⟩
set_option maxHeartbeats 1000000 in
theorem make39 (nm : ByteArray) : Calls Tryd.prog 39 #[.string nm] W fun e w' => e = .returned (.pointer (some ⟨W.heap.size, 0, none⟩)) ∧ w' = W.alloc (.cells (ncs ⟨nm, .map none, false, 268435456, 0⟩ (.slice none 0 0)) 92) := by
  go_enter Tryd.func39, Tryd.ntmps39
  go_wp2_with fail
  go_ret
  exact ⟨rfl, rfl⟩
set_option maxHeartbeats 1000000 in
theorem with24 (nm : ByteArray) (A : Option Addr) (m c : Nat) : Calls Tryd.prog 24 #[.string nm, .slice A m c] W fun e w' => e = .returned (.pointer (some ⟨W.heap.size, 0, none⟩)) ∧ w'.heap[W.heap.size]? = some (.cells (ncs ⟨nm, .map none, false, 268435456, 0⟩ (.slice A m c)) 92 (0, 0)) ∧ Below W.heap.size W w' := by
  have HM := Lib.hid (fun nm => make39 (W := W) nm)
  go_enter Tryd.func24, Tryd.ntmps24
  go_wp2_with (first | (go_at_call 39; (with_reducible refine (HM.out _).mono ?_); rintro e w1 ⟨rfl, rfl⟩))
  go_ret
  refine ⟨rfl, ?_, ?_⟩
  · exact blk_new W (.cells (ncs ⟨nm, .map none, false, 268435456, 0⟩ (.slice A m c)) 92)
  · exact below_alloc (Below.refl _ _) _
set_option maxHeartbeats 1000000 in
theorem bytes28 (F : Fil f d h n v data base W) : Calls Tryd.prog 28 #[.pointer (some ⟨d, 0, none⟩)] W fun e w' => e = .returned v ∧ w' = W := by
  have n1 := F.n1
  clear F
  go_enter Tryd.func28, Tryd.ntmps28
  go_wp2_with fail
  go_ret
  exact ⟨rfl, rfl⟩
set_option maxHeartbeats 1000000 in
theorem err83 (s : ByteArray) : Calls Tryd.prog 83 #[.string s] W fun e w' => e = .returned (.iface 149 (.pointer (some ⟨W.heap.size, 0, none⟩))) ∧ w' = W.alloc (.cells #[.string s] 151) := by
  go_enter Tryd.func83, Tryd.ntmps83
  go_wp2_with fail
  go_ret
  exact ⟨rfl, rfl⟩
end
end Go.Proofs.YtljcdjggjphedaaDoor.Hd
namespace Go.Proofs.YtljcdjggjphedaaDoor.Hd
open Go.RowKit Go.Proofs.YtljcdjggjphedaaDoorW.PrintWords Go.Proofs.YtljcdjggjphedaaDoorW.PrintLast Go.Proofs.YtljcdjggjphedaaDoorW.PrintMore
set_option linter.unusedVariables false
set_option linter.unusedSimpArgs false
/-- A refusal of a handle that only reads: a new error of its own, with an error in it that is new, too. -/
def Refused (op : ByteArray) (w : World) (e : Ending) (w' : World) : Prop :=
  ∃ (p b : Nat) (path : Value), e = .returned (.iface 130 (.pointer (some ⟨p, 0, none⟩))) ∧ Below w.heap.size w w' ∧ w'.cell? ⟨p, 0, none⟩ = some (.string op) ∧ w'.cell? ⟨p, 2, none⟩ = some (.iface 149 (.pointer (some ⟨b, 0, none⟩))) ∧ w.heap.size ≤ b ∧ ∃ c t, w'.heap[b]? = some (.cells c t (0, 0))
theorem refused_mk (op nm s : ByteArray) (W : World) : Refused op W (.returned (.iface 130 (.pointer (some ⟨W.heap.size + 1, 0, none⟩)))) (((W.alloc (.cells #[.string s] 151)).alloc (.cells #[.string op, .string nm, .iface 149 (.pointer (some ⟨W.heap.size, 0, none⟩))] 133)).drew) := by
  have hb := blk_alloc (blk_new W (.cells #[.string s] 151)) (.cells #[.string op, .string nm, .iface 149 (.pointer (some ⟨W.heap.size, 0, none⟩))] 133)
  have hn := blk_new (W.alloc (.cells #[.string s] 151)) (.cells #[.string op, .string nm, .iface 149 (.pointer (some ⟨W.heap.size, 0, none⟩))] 133)
  have hs : (W.alloc (.cells #[.string s] 151)).heap.size = W.heap.size + 1 := by simp
  rw [hs] at hn
  exact ⟨W.heap.size + 1, W.heap.size, .string nm, rfl, below_drew (below_alloc (below_alloc (Below.refl _ _) _) _), blk_cell hn 0, blk_cell hn 2, Nat.le_refl _, _, _, hb⟩
/-- A handle and its node, whatever becomes of the bytes. -/
structure Own (f d : Nat) (h : Hnd) (n : Nod) (v : Value) (W : World) : Prop where
  hf : W.heap[f]? = some (.cells (hcs h d) 94 (0, 0))
  hd : W.heap[d]? = some (.cells (ncs n v) 92 (0, 0))
section
variable {f d base : Nat} {h : Hnd} {n : Nod} {v : Value} {data : List Int} {W V : World}
theorem Fil.own (F : Fil f d h n v data base W) : Own f d h n v W := ⟨F.hf, F.hd⟩
theorem Own.grown (F : Own f d h n v W) {row : Option Nat} (hg : W.grownBy V row) (h1 : some f ≠ row) (h2 : some d ≠ row) : Own f d h n v V := ⟨blk_grown F.hf hg h1, blk_grown F.hd hg h2⟩
theorem Own.below (F : Own f d h n v W) (hb : Below W.heap.size W V) : Own f d h n v V := ⟨blk_below F.hf hb, blk_below F.hd hb⟩
theorem Own.c4 (F : Own f d h n v W) : W.cell? ⟨f, 4, none⟩ = some (.pointer (some ⟨d, 0, none⟩)) := blk_cell F.hf 4
theorem Own.n1 (F : Own f d h n v W) : W.cell? ⟨d, 1, none⟩ = some v := blk_cell F.hd 1
theorem Own.set (F : Own f d h n v W) {v' : Value} {data' : List Int} (hr : Kd.R (Kd.int .u8) 5 W base (fun _ => True) v' data') : Fil f d h n v' data' base (W.setCell ⟨d, 1, none⟩ v') :=
  ⟨blk_far F.hf (blk_ne F.hf F.hd (by decide)) _, blk_put F.hd 1 _ rfl, Kd.R_set hr F.hd (Fil.types 92 (.inr rfl)) 1 _⟩
end
section
variable {f d base : Nat} {h : Hnd} {n : Nod} {v : Value} {data : List Int} {W : World}
theorem Fil.setData (F : Fil f d h n v data base W) (v' : Value) (data' : List Int) (hr : Kd.R (Kd.int .u8) 5 W base (fun _ => True) v' data') : Fil f d h n v' data' base (W.setCell ⟨d, 1, none⟩ v') :=
  ⟨blk_far F.hf F.ne _, blk_put F.hd 1 _ rfl, Kd.R_set hr F.hd (Fil.types 92 (.inr rfl)) 1 _⟩
set_option maxHeartbeats 1000000 in
theorem trunc45c (F : Fil f d h n v data base W) (A : Nat → Addr) (hS : Sent A W) (size : Int) (hcl : h.cl = true) :
    Calls Tryd.prog 45 #[.pointer (some ⟨f, 0, none⟩), .int .i64 size] W fun e w' => e = .returned (.iface 149 (.pointer (some (A 0)))) ∧ Below W.heap.size W w' := by
  have c2 := F.c2
  rw [hcl] at c2
  have g0 := hS.var 0 (by decide)
  clear F hS hcl
  generalize A 0 = a0 at *
  go_enter Tryd.func45, Tryd.ntmps45
  go_wp2_with fail
  go_ret
  exact ⟨rfl, by repeat (first | exact Below.refl _ _ | apply pw_below_drewN)⟩
set_option maxHeartbeats 1000000 in
theorem trunc45n (F : Fil f d h n v data base W) (A : Nat → Addr) (hS : Sent A W) (size : Int) (hcl : h.cl = false) (hro : h.ro = false) (hs : size < 0) :
    Calls Tryd.prog 45 #[.pointer (some ⟨f, 0, none⟩), .int .i64 size] W fun e w' => e = .returned (.iface 149 (.pointer (some (A 3)))) ∧ Below W.heap.size W w' := by
  have c2 := F.c2
  have c3 := F.c3
  rw [hcl] at c2
  rw [hro] at c3
  have g0 := hS.var 3 (by decide)
  clear F hS hcl hro
  generalize A 3 = a0 at *
  go_enter Tryd.func45, Tryd.ntmps45
  go_wp2_with fail
  go_ret
  exact ⟨rfl, by repeat (first | exact Below.refl _ _ | apply pw_below_drewN)⟩
set_option maxHeartbeats 1000000 in
set_option maxRecDepth 100000 in
theorem trunc45r (F : Fil f d h n v data base W) (size : Int) (hcl : h.cl = false) (hro : h.ro = true) :
    Calls Tryd.prog 45 #[.pointer (some ⟨f, 0, none⟩), .int .i64 size] W (Refused { data := #[116, 114, 117, 110, 99, 97, 116, 101] } W) := by
  have c2 := F.c2
  have c3 := F.c3
  have c4 := F.c4
  have n0 := F.n0
  rw [hcl] at c2
  rw [hro] at c3
  obtain ⟨nm, vm, dir, md, tm⟩ := n
  simp only at n0
  have y4 := World.new_ne W _ c4
  have y0 := World.new_ne W _ n0
  have HE := Lib.hid (fun s W => err83 (W := W) s)
  clear F hcl hro
  go_enter Tryd.func45, Tryd.ntmps45
  go_wp2_with fail
  go_region_held3 (fun w' => w'.cell? ⟨f, 4, none⟩ = some (.pointer (some ⟨d, 0, none⟩)) ∧ w'.cell? ⟨d, 0, none⟩ = some (.string nm))
    (go_keep)
    ((go_at_call 83; (with_reducible refine (HE.out _ _).mono ?_); rintro e w1 ⟨rfl, rfl⟩))
  go_wp2
  go_ret
  exact refused_mk _ _ _ _
/-- What cutting leaves. -/
def cutTo (data : List Int) (s : Nat) : List Int := data.take s ++ List.replicate (s - data.length) 0
set_option maxHeartbeats 1000000 in
set_option maxRecDepth 100000 in
theorem trunc45d (F : Fil f d h n v data base W) (s : Nat) (hcl : h.cl = false) (hro : h.ro = false) (hs : s ≤ data.length) (hl : data.length ≤ 10000000) :
    Calls Tryd.prog 45 #[.pointer (some ⟨f, 0, none⟩), .int .i64 s] W fun e w' => e = .returned .nilIface ∧ Acts f d h { n with tm := 0 } (data.take s) base v W w' := by
  obtain ⟨pos, ls, cl, ro⟩ := h
  obtain ⟨nm, vm, dir, md, tm⟩ := n
  simp only at hcl hro
  subst hcl hro
  have c2 := F.c2
  have c3 := F.c3
  have c4 := F.c4
  have n1 := F.n1
  have z1 := blk_frozen F.hd 1
  have HF := Lib.hid F
  obtain ⟨len, hlen⟩ : ∃ len, len = data.length := ⟨_, rfl⟩
  rw [← hlen] at hs hl
  have h0 : ¬ ((s : Int) < 0) := by omega
  have h1 : ¬ ((len : Int) < (s : Int)) := by omega
  have h2 : (0 : Int) ≤ (s : Int) := by omega
  rcases row_cases F.row with ⟨hv, hd0⟩ | ⟨g, c, hv, hc⟩
  · rw [hd0] at hlen
    rw [hv] at n1
    obtain rfl : len = 0 := by simpa using hlen
    obtain rfl : s = 0 := by omega
    have HV := Lib.hid hv
    have HD := Lib.hid hd0
    clear F hv hd0 hlen
    go_enter Tryd.func45, Tryd.ntmps45
    go_wp2_with fail
    go_still_tail 15, (by kernel_rfl)
    change wpList _ _ _ _ _ W.drew
    have FX := (HF.out.setData (.slice none 0 0) [] (Kd.R_nil _ _ _ _ _)).drew
    have m5 := FX.n5
    have z5 := blk_frozen FX.hd 5
    have HX := Lib.hid FX
    clear FX
    go_wp2_with (first | (go_at_call 84; (with_reducible refine (mod84 d 0 tm _ m5 z5).mono ?_); rintro e w' ⟨rfl, rfl⟩))
    go_ret
    refine ⟨rfl, _, HX.out.setTm 0, ?_, .inl (by rw [HV.out])⟩
    exact (((Moves.refl _ _).setCell (p := ⟨d, 1, none⟩) (.inl (.inr (.inl rfl))) _).drew).setCell (p := ⟨d, 5, none⟩) (.inl (.inr (.inl rfl))) _
  · rw [hv, ← hlen] at n1
    rw [← hlen] at hc
    have h3 : (s : Int) ≤ (c : Int) := by omega
    have HV := Lib.hid hv
    have HL := Lib.hid hlen
    clear F hv hlen
    go_enter Tryd.func45, Tryd.ntmps45
    go_wp2_with fail
    have hrow := Kd.R_take (m := s) (by have := HF.out.row; rw [HV.out] at this; exact this) (by rw [← HL.out]; exact hs)
    go_still_tail 15, (by kernel_rfl)
    change wpList _ _ _ _ _ W.drew
    have FX := (HF.out.setData (.slice (some ⟨g, 0, none⟩) s c) (data.take s) hrow).drew
    have m5 := FX.n5
    have z5 := blk_frozen FX.hd 5
    have HX := Lib.hid FX
    clear FX hrow
    go_wp2_with (first | (go_at_call 84; (with_reducible refine (mod84 d 0 tm _ m5 z5).mono ?_); rintro e w' ⟨rfl, rfl⟩))
    go_ret
    refine ⟨rfl, _, HX.out.setTm 0, ?_, .inl (by rw [HV.out]; rfl)⟩
    exact (((Moves.refl _ _).setCell (p := ⟨d, 1, none⟩) (.inl (.inr (.inl rfl))) _).drew).setCell (p := ⟨d, 5, none⟩) (.inl (.inr (.inl rfl))) _
set_option maxHeartbeats 1000000 in
set_option maxRecDepth 100000 in
theorem trunc45g (F : Fil f d h n v data base W) (s : Nat) (hcl : h.cl = false) (hro : h.ro = false) (hs : data.length < s) (hl : s ≤ 10000000) (hb : base ≤ W.heap.size) :
    Calls Tryd.prog 45 #[.pointer (some ⟨f, 0, none⟩), .int .i64 s] W fun e w' => e = .returned .nilIface ∧ Acts f d h { n with tm := 0 } (data ++ List.replicate (s - data.length) 0) base v W w' := by
  obtain ⟨pos, ls, cl, ro⟩ := h
  obtain ⟨nm, vm, dir, md, tm⟩ := n
  simp only at hcl hro
  subst hcl hro
  have c2 := F.c2
  have c3 := F.c3
  have c4 := F.c4
  have n1 := F.n1
  have z1 := blk_frozen F.hd 1
  have HF := Lib.hid F
  obtain ⟨len, hlen⟩ : ∃ len, len = data.length := ⟨_, rfl⟩
  rw [← hlen] at hs
  rw [← hlen]
  have h0 : ¬ ((s : Int) < 0) := by omega
  have h1 : ((len : Int) < (s : Int)) := by omega
  obtain ⟨r, hr⟩ : ∃ r, r = s - len := ⟨_, rfl⟩
  have w1 : IntKind.i64.wrap ((s : Int) - (len : Int)) = (r : Int) := by rw [IntWalk.i64_in _ (by omega)]; omega
  rw [← hr]
  have hrl : r ≤ 10000000 := by omega
  have hll : len ≤ 10000000 := by omega
  obtain ⟨A0, c, hv, hc, _⟩ := Kd.R_reads F.row
  rw [hv, ← hlen] at n1
  have HV := Lib.hid hv
  have HL := Lib.hid hlen
  clear F hv hlen hr hc
  go_enter Tryd.func45, Tryd.ntmps45
  go_wp2_with fail
  have HVL := Lib.hid (show v = .slice A0 len c by rw [HV.out, HL.out])
  have HBS := Lib.hid (show base ≤ W.drew.heap.size from hb)
  have HLE := Lib.hid (show (data.length + (r : Int).toNat) * 1 ≤ 140737488355328 by rw [← HL.out, Int.toNat_natCast]; omega)
  have HS0 := Lib.hid (show W.drew.cell? ⟨f, 4, none⟩ = some (.pointer (some ⟨d, 0, none⟩)) ∧ W.drew.cell? ⟨d, 1, none⟩ = some (.slice A0 len c) from ⟨c4, n1⟩)
  refine start_ (n := 16) (S := fun w' => w'.cell? ⟨f, 4, none⟩ = some (.pointer (some ⟨d, 0, none⟩)) ∧ w'.cell? ⟨d, 1, none⟩ = some (.slice A0 len c)) (ds := [15]) #[false, false, false, false, false, false, false, false, false, false, false, false, false, false, false, false] (by kernel_rfl) rfl rfl (by first | exact HS0.out | trivial) (fun hHeld => ?_)
  refine pure_ (i := 0) (N := some 49) (v := ?_) (a' := ?_) #[true, false, false, false, false, false, false, false, false, false, false, false, false, false, false, false] rfl rfl (by kernel_rfl) (fun _ _ _ h => h) (Or.inl ⟨by rfl, ?_⟩) ?_ ?_
  rotate_left
  · intro w'
    go_simp
    with_reducible rfl
  rotate_left
  · simp only [Act.put, List.setIfInBounds_toArray, List.set_cons_zero, List.set_cons_succ, i64_w, i32_w]
    rfl
  refine pure_ (i := 1) (N := some 50) (v := ?_) (a' := ?_) #[true, true, false, false, false, false, false, false, false, false, false, false, false, false, false, false] rfl rfl (by kernel_rfl) (fun _ _ _ h => h) (Or.inl ⟨by rfl, ?_⟩) ?_ ?_
  rotate_left
  · intro w'
    go_simp
    with_reducible rfl
  rotate_left
  · simp only [Act.put, List.setIfInBounds_toArray, List.set_cons_zero, List.set_cons_succ, i64_w, i32_w]
    rfl
  refine pure_ (i := 2) (N := some 51) (v := ?_) (a' := ?_) #[true, true, true, false, false, false, false, false, false, false, false, false, false, false, false, false] rfl rfl (by kernel_rfl) (fun _ _ _ h => h) (Or.inl ⟨by rfl, ?_⟩) ?_ ?_
  rotate_left
  · intro w'
    go_simp
    with_reducible rfl
  rotate_left
  · simp only [Act.put, List.setIfInBounds_toArray, List.set_cons_zero, List.set_cons_succ, i64_w, i32_w]
    rfl
  refine take_ (i := 3) (N := some 52) (v := ?_) (a' := ?_) #[true, true, true, true, false, false, false, false, false, false, false, false, false, false, false, false] rfl rfl (by kernel_rfl) (fun _ _ _ h => h) (Or.inl ⟨by rfl, ?_⟩) hHeld ?_ ?_
  rotate_left
  · rintro w' ⟨s0, s1⟩
    go_simp
    with_reducible rfl
  rotate_left
  · simp only [Act.put, List.setIfInBounds_toArray, List.set_cons_zero, List.set_cons_succ, i64_w, i32_w]
    rfl
  refine pure_ (i := 4) (N := some 53) (v := ?_) (a' := ?_) #[true, true, true, true, true, false, false, false, false, false, false, false, false, false, false, false] rfl rfl (by kernel_rfl) (fun _ _ _ h => h) (Or.inl ⟨by rfl, ?_⟩) ?_ ?_
  rotate_left
  · intro w'
    go_simp
    with_reducible rfl
  rotate_left
  · simp only [Act.put, List.setIfInBounds_toArray, List.set_cons_zero, List.set_cons_succ, i64_w, i32_w]
    rfl
  refine pure_ (i := 5) (N := some 54) (v := ?_) (a' := ?_) #[true, true, true, true, true, true, false, false, false, false, false, false, false, false, false, false] rfl rfl (by kernel_rfl) (fun _ _ _ h => h) (Or.inl ⟨by rfl, ?_⟩) ?_ ?_
  rotate_left
  · intro w'
    go_simp
    with_reducible rfl
  rotate_left
  · simp only [Act.put, List.setIfInBounds_toArray, List.set_cons_zero, List.set_cons_succ, i64_w, i32_w]
    rfl
  refine pure_ (i := 6) (N := some 55) (v := ?_) (a' := ?_) #[true, true, true, true, true, true, true, false, false, false, false, false, false, false, false, false] rfl rfl (by kernel_rfl) (fun _ _ _ h => h) (Or.inl ⟨by rfl, ?_⟩) ?_ ?_
  rotate_left
  · intro w'
    go_simp
    with_reducible rfl
  rotate_left
  · simp only [Act.put, List.setIfInBounds_toArray, List.set_cons_zero, List.set_cons_succ, i64_w, i32_w]
    rfl
  refine take_ (i := 7) (N := some 56) (v := ?_) (a' := ?_) #[true, true, true, true, true, true, true, true, false, false, false, false, false, false, false, false] rfl rfl (by kernel_rfl) (fun _ _ _ h => h) (Or.inl ⟨by rfl, ?_⟩) hHeld ?_ ?_
  rotate_left
  · rintro w' ⟨s0, s1⟩
    go_simp
    with_reducible rfl
  rotate_left
  · simp only [Act.put, List.setIfInBounds_toArray, List.set_cons_zero, List.set_cons_succ, i64_w, i32_w]
    rfl
  refine pure_ (i := 8) (N := some 57) (v := ?_) (a' := ?_) #[true, true, true, true, true, true, true, true, true, false, false, false, false, false, false, false] rfl rfl (by kernel_rfl) (fun _ _ _ h => h) (Or.inl ⟨by rfl, ?_⟩) ?_ ?_
  rotate_left
  · intro w'
    go_simp
    with_reducible rfl
  rotate_left
  · simp only [Act.put, List.setIfInBounds_toArray, List.set_cons_zero, List.set_cons_succ, i64_w, i32_w]
    rfl
  refine pure_ (i := 9) (N := some 58) (v := ?_) (a' := ?_) #[true, true, true, true, true, true, true, true, true, true, false, false, false, false, false, false] rfl rfl (by kernel_rfl) (fun _ _ _ h => h) (Or.inl ⟨by rfl, ?_⟩) ?_ ?_
  rotate_left
  · intro w'
    go_simp
    with_reducible rfl
  rotate_left
  · simp only [Act.put, List.setIfInBounds_toArray, List.set_cons_zero, List.set_cons_succ, i64_w, i32_w]
    rfl
  refine take_ (i := 10) (N := some 59) (v := ?_) (a' := ?_) #[true, true, true, true, true, true, true, true, true, true, true, false, false, false, false, false] rfl rfl (by kernel_rfl) (fun _ _ _ h => h) (Or.inl ⟨by rfl, ?_⟩) hHeld ?_ ?_
  rotate_left
  · rintro w' ⟨s0, s1⟩
    go_simp
    with_reducible rfl
  rotate_left
  · simp only [Act.put, List.setIfInBounds_toArray, List.set_cons_zero, List.set_cons_succ, i64_w, i32_w]
    rfl
  refine pure_ (i := 11) (N := some 60) (v := ?_) (a' := ?_) #[true, true, true, true, true, true, true, true, true, true, true, true, false, false, false, false] rfl rfl (by kernel_rfl) (fun _ _ _ h => h) (Or.inl ⟨by rfl, ?_⟩) ?_ ?_
  rotate_left
  · intro w'
    go_simp
    with_reducible rfl
  rotate_left
  · simp only [Act.put, List.setIfInBounds_toArray, List.set_cons_zero, List.set_cons_succ, i64_w, i32_w]
    rfl
  refine one_ (i := 12) (N := some 61) #[true, true, true, true, true, true, true, true, true, true, true, true, true, false, false, false] rfl rfl (by kernel_rfl) (by decide) (fun K hK => ?_)
  refine Kd.R_append_zeros_step (Kd.int .u8) (w0 := W.drew) base (by rfl) _ _ 22 3 5 (.int .u8 0) 1 (by rfl) Tryd.underlying22 (k := .i64) Tryd.underlying3 PFnHandleScript.info5 rfl (by decide) (by decide) v data (0 : Int) (kx := .i64) (r : Int) (fun _ => True) (by exact HVL.out.symm) (by rfl) rfl (fun _ _ => trivial) HF.out.drew.row (by omega) (Below.refl _ _) HBS.out HLE.out ?_
  intro v1 w1 hr1 hb1 hg1 hat1
  have O1 := Lib.hid (HF.out.drew.own.grown hg1 HF.out.nef HF.out.ned)
  have R1 := Lib.hid hr1
  have G1 := Lib.hid hg1
  have T1 := Lib.hid hat1
  obtain ⟨A1, c1, e1, _, _⟩ := Kd.R_reads hr1
  obtain ⟨nl, enl⟩ : ∃ nl, nl = (data ++ List.replicate (r : Int).toNat 0).length := ⟨_, rfl⟩
  rw [← enl] at e1
  clear enl
  subst e1
  have m5 := (O1.out.set R1.out).n5
  have z5 := blk_frozen (O1.out.set R1.out).hd 5
  have HX := Lib.hid (O1.out.set R1.out)
  clear hr1 hb1 hg1 hat1
  refine hK.out _ _ ⟨O1.out.c4, by rw [← HVL.out]; exact O1.out.n1⟩ (fun hHeld => ?_)
  clear hK K
  refine norm_ (a' := ?_) ?_ ?_
  rotate_left
  · show Act.put _ (some 61) _ = _
    simp only [Act.put, List.setIfInBounds_toArray, List.set_cons_zero, List.set_cons_succ, i64_w, i32_w]
    rfl
  refine pure_ (i := 13) (N := some 62) (v := ?_) (a' := ?_) #[true, true, true, true, true, true, true, true, true, true, true, true, true, true, false, false] rfl rfl (by kernel_rfl) (fun _ _ _ h => h) (Or.inl ⟨by rfl, ?_⟩) ?_ ?_
  rotate_left
  · intro w'
    go_simp
    with_reducible rfl
  rotate_left
  · simp only [Act.put, List.setIfInBounds_toArray, List.set_cons_zero, List.set_cons_succ, i64_w, i32_w]
    rfl
  refine pure_ (i := 14) (N := some 63) (v := ?_) (a' := ?_) #[true, true, true, true, true, true, true, true, true, true, true, true, true, true, true, false] rfl rfl (by kernel_rfl) (fun _ _ _ h => h) (Or.inl ⟨by rfl, ?_⟩) ?_ ?_
  rotate_left
  · intro w'
    go_simp
    with_reducible rfl
  rotate_left
  · simp only [Act.put, List.setIfInBounds_toArray, List.set_cons_zero, List.set_cons_succ, i64_w, i32_w]
    rfl
  refine last_ (i := 15) (N := none) #[true, true, true, true, true, true, true, true, true, true, true, true, true, true, true, true] rfl rfl (by kernel_rfl) (by decide) (fun K hK => ?_)
  have x1 := O1.out.n1
  have xz := blk_frozen O1.out.hd 1
  refine skip_ (w1 := ?_) (by rfl) rfl ?_ ?_
  rotate_left
  · go_simp
    rfl
  refine hK.out _ _ ?_
  clear hK K
  refine done_ (by kernel_rfl) ?_
  go_wp2_with (first | (go_at_call 84; (with_reducible refine (mod84 d 0 tm _ m5 z5).mono ?_); rintro e w' ⟨rfl, rfl⟩))
  go_ret
  rw [Int.toNat_natCast] at HX
  refine ⟨rfl, _, HX.out.setTm 0, ?_, T1.out⟩
  exact ((((Moves.refl _ _).drew).grown G1.out (fun i hi => .inl (.inr (.inr hi.symm)))).setCell (p := ⟨d, 1, none⟩) (.inl (.inr (.inl rfl))) _).setCell (p := ⟨d, 5, none⟩) (.inl (.inr (.inl rfl))) _
end
end Go.Proofs.YtljcdjggjphedaaDoor.Hd
namespace Go.Proofs.YtljcdjggjphedaaDoor.Hd
open Go.RowKit Go.Proofs.YtljcdjggjphedaaDoorW.PrintWords Go.Proofs.YtljcdjggjphedaaDoorW.PrintLast Go.Proofs.YtljcdjggjphedaaDoorW.PrintMore
set_option linter.unusedVariables false
set_option linter.unusedSimpArgs false
section
variable {ops : Array Oper} {o : Oper} {a : Act} {Q : Exit → Act → World → Prop} {Kc : Act → World → Prop}
theorem app_bytes_step {W : World} (base : Nat) (hw : Region.wanted o (yielded ops a.tmps) = true) (s x : Operand) (ho : o.op = .call { callee := .builtin .append, args := #[s, x], argTypes := #[22, 22] })
    (v : Value) (xs ys : List Int) (A : Option Addr) (m c : Nat) (hs : a.eval s = v) (hx : a.eval x = .slice A m c) (HO : Kd.R (Kd.int .u8) 5 W base (fun _ => True) v xs) (HR : Kd.C (Kd.int .u8) W A m ys) (hbase : base ≤ W.heap.size) (hl : xs.length + m ≤ 140737488355328)
    (h : ∀ A1 nl c1 w1, Kd.R (Kd.int .u8) 5 w1 base (fun _ => True) (.slice A1 nl c1) (xs ++ ys) → W.grownBy w1 v.ownBlock → ((Value.slice A1 nl c1).ownBlock = v.ownBlock ∨ ∃ b, (Value.slice A1 nl c1).ownBlock = some b ∧ W.heap.size ≤ b) → Kc (a.put o.dst (.slice A1 nl c1)) w1) :
    if Region.wanted o (yielded ops a.tmps) = true then Oper.wp Tryd.prog o a W Kc Q else Kc (a.put o.dst undef) W := by
  refine Kd.R_append_rows_step (Kd.int .u8) (w0 := W) base hw s x 22 5 (.int .u8 0) 1 ho Tryd.underlying22 PFnHandleScript.info5 rfl (by decide) (by decide) v xs ys A m c (fun _ => True) (fun _ => False) hs hx HO HR (fun x cs hc => hc) (fun _ hk => hk.elim) (fun _ _ => trivial) (Below.refl _ _) hbase (by omega) ?_
  intro v1 w1 h1 _ h2 h3
  obtain ⟨A1, c1, e1, _, _⟩ := Kd.R_reads h1
  subst e1
  exact h _ _ _ _ h1 h2 h3
theorem make_bytes_step {W : World} (hw : Region.wanted o (yielded ops a.tmps) = true) {N : Tmp} (hd : o.dst = some N) (x y : Operand) (ho : o.op = .makeSlice 22 x y) (n : Nat) (hx : a.eval x = .int .i64 n) (hy : a.eval y = .int .i64 n) (hn : n ≤ 100000000)
    (h : ∀ A1 c1 w1, Kd.R (Kd.int .u8) 5 w1 W.heap.size (fun _ => True) (.slice A1 n c1) (List.replicate n 0) → Below W.heap.size W w1 → Kc (a.put o.dst (.slice A1 n c1)) w1) :
    if Region.wanted o (yielded ops a.tmps) = true then Oper.wp Tryd.prog o a W Kc Q else Kc (a.put o.dst undef) W := by
  refine Kd.R_make_step (Kd.int .u8) (w0 := W) W.heap.size 5 hw hd 22 x y ho n hx hy Tryd.underlying22 (.int .u8 0) 1 PFnHandleScript.info5 rfl (by decide) (by decide) (0 : Int) (ok := fun _ => True) (okp := fun _ => False) rfl (fun _ hk => hk.elim) trivial (by omega) (by simp; omega) (Below.refl _ _) (Nat.le_refl _) ?_
  intro v1 w1 h1 h2 _ _
  rw [Int.toNat_natCast] at h1
  obtain ⟨A1, c1, e1, _, _⟩ := Kd.R_reads h1
  rw [List.length_replicate] at e1
  subst e1
  exact h _ _ _ h1 h2
/-- append in place, into a row that is longer already: the row's other bytes stay. -/
theorem inplace_step {W : World} {base g len c p m cb : Nat} {Ab : Option Addr} {xs b : List Int} (hw : Region.wanted o (yielded ops a.tmps) = true) (hgd : o.guard = none) (s x : Operand) (ho : o.op = .call { callee := .builtin .append, args := #[s, x], argTypes := #[22, 22] })
    (HO : Kd.R (Kd.int .u8) 5 W base (fun _ => True) (.slice (some ⟨g, 0, none⟩) len c) xs) (HR : Kd.C (Kd.int .u8) W Ab m b) (hp : p + m ≤ xs.length) (hs : a.eval s = .slice (some ⟨g, 0, none⟩) p c) (hx : a.eval x = .slice Ab m cb)
    (h : ∀ w1, Kd.R (Kd.int .u8) 5 w1 base (fun _ => True) (.slice (some ⟨g, 0, none⟩) len c) (xs.take p ++ b ++ xs.drop (p + m)) → W.grownBy w1 (some g) → Kc (a.put o.dst (.slice (some ⟨g, 0, none⟩) (p + m) c)) w1) :
    if Region.wanted o (yielded ops a.tmps) = true then Oper.wp Tryd.prog o a W Kc Q else Kc (a.put o.dst undef) W := by
  obtain ⟨i0, hi, hzz⟩ := Option.map_eq_some_iff.1 PFnHandleScript.info5
  simp only [Prod.mk.injEq] at hzz
  obtain ⟨hz0, hz1, hz2⟩ := hzz
  have hlen := Kd.R_reads' HO
  have hbl : b.length = m := HR.1
  have hR := Kd.reads_of_C (enc := Value.int .u8) (d := (0 : Int)) (h1 := enc1 .u8) HR
  have hcell : ∀ j, j < xs.length → (W.cell? ⟨g, j, none⟩).isSome = true ∧ W.frozen? ⟨g, j, none⟩ = false := by
    intro j hj
    have := Kd.R_celln (h1 := enc1 .u8) (0 : Int) HO (j : Int) (by omega) (by omega)
    rw [Int.toNat_natCast] at this
    exact ⟨by rw [this.1]; rfl, this.2⟩
  rcases Nat.eq_zero_or_pos m with h0 | hm
  · subst h0
    obtain rfl : b = [] := List.eq_nil_of_length_eq_zero hbl
    have hk := h W (by simpa using HO) (World.grownBy.refl W _)
    have hrun : (Builtin.append_ #[22, 22] o.type #[.slice (some ⟨g, 0, none⟩) p c, .slice Ab 0 cb]).run Tryd.prog W = .ok (.slice (some ⟨g, 0, none⟩) (p + 0) c) W := by
      cases Ab with
      | none => simp [Builtin.append_, run_underlying Tryd.underlying22, sizeOf, typeInfo, hi, Builtin.lenOf, Builtin.firstCells, show p ≤ c by omega, storeCells]
      | some ad =>
        have := run_append_room_cells (P := Tryd.prog) W 22 o.type 5 i0 Tryd.underlying22 hi g 0 p c ad 0 cb [] (by simp) (by simp) (by simp) (by omega) (by simp) (by simp)
        simpa [World.setCells] using this
    refine event_step hw ?_ hk
    unfold execOp
    simp only [ho, resolve, invoke, builtin, Sem.run_bind, Sem.run_pure, Result.andThen_ok, List.map_toArray, List.map_cons, List.map_nil, hs, hx, hrun]
  · obtain ⟨ad, hA, hc⟩ := hR.2.2 hm
    have hlaid := row_laid HO p b (by omega)
    have hsrc : ∀ j u, (encs (Value.int .u8) b)[j]? = some u → W.cell? (ad.add j) = some u := by
      intro j u hu
      have hj : j < b.length := by
        rcases Nat.lt_or_ge j b.length with h | h
        · exact h
        · rw [List.getElem?_eq_none (by rw [encs_length]; exact h)] at hu
          cases hu
      rw [encs_get (d := (0 : Int)) _ j hj] at hu
      rw [hc j (by omega), ← hu]
    have hrun := run_append_room_cells (P := Tryd.prog) W 22 o.type 5 i0 Tryd.underlying22 hi g 0 p c ad m cb (encs (Value.int .u8) b) (by rw [encs_length, hbl, hz1, Nat.mul_one]) hsrc (by intro u hu; simp only [encs, List.mem_map] at hu; obtain ⟨q, _, rfl⟩ := hu; rfl) (by omega)
      (fun j hj => by rw [encs_length] at hj; rw [hz1, show 0 + p * 1 + j = p + j by omega]; exact (hcell (p + j) (by omega)).1)
      (fun j hj => by rw [encs_length] at hj; rw [hz1, show 0 + p * 1 + j = p + j by omega]; exact (hcell (p + j) (by omega)).2)
    rw [hz1, show 0 + p * 1 = p by omega] at hrun
    refine event_step hw ?_ (h _ (by have := hlaid.1; rw [hbl] at this; exact this) hlaid.2)
    unfold execOp
    rw [hA] at hx
    simp only [ho, resolve, invoke, builtin, Sem.run_bind, Sem.run_pure, Result.andThen_ok, List.map_toArray, List.map_cons, List.map_nil, hs, hx, hrun]
end
/-- Two steps, one after the other. -/
theorem own_then {v v1 v2 : Value} {w w1 : World} (hle : w.heap.size ≤ w1.heap.size) (h1 : v1.ownBlock = v.ownBlock ∨ ∃ b, v1.ownBlock = some b ∧ w.heap.size ≤ b) (h2 : v2.ownBlock = v1.ownBlock ∨ ∃ b, v2.ownBlock = some b ∧ w1.heap.size ≤ b) :
    v2.ownBlock = v.ownBlock ∨ ∃ b, v2.ownBlock = some b ∧ w.heap.size ≤ b := by
  rcases h2 with e2 | ⟨b, e2, hb⟩
  · rw [e2]; exact h1
  · exact .inr ⟨b, e2, by omega⟩
theorem tch_then {f d : Nat} {v v1 : Value} {w w1 w2 : World} (h1 : Moves (Tch f d v) w w1) (ho : v1.ownBlock = v.ownBlock ∨ ∃ b, v1.ownBlock = some b ∧ w.heap.size ≤ b) (h2 : Moves (Tch f d v1) w1 w2) : Moves (Tch f d v) w w2 :=
  h1.then_ h2 (fun i hi => by
    rcases hi with hi | hi | hi
    · exact .inl (.inl hi)
    · exact .inl (.inr (.inl hi))
    · rcases ho with e | ⟨b, e, hb⟩
      · exact .inl (.inr (.inr (by rw [← e]; exact hi)))
      · rw [e] at hi
        injection hi with hi
        exact .inr (by omega))
end Go.Proofs.YtljcdjggjphedaaDoor.Hd
namespace Go.Proofs.YtljcdjggjphedaaDoor.Hd
open Go.RowKit Go.Proofs.YtljcdjggjphedaaDoorW.PrintWords Go.Proofs.YtljcdjggjphedaaDoorW.PrintLast Go.Proofs.YtljcdjggjphedaaDoorW.PrintMore
set_option linter.unusedVariables false
set_option linter.unusedSimpArgs false
theorem mid_take {W : World} {base g len c p m pe : Nat} {data b : List Int} (h : Kd.R (Kd.int .u8) 5 W base (fun _ => True) (.slice (some ⟨g, 0, none⟩) len c) (data.take p ++ b ++ data.drop pe)) (hb : b.length = m) (hp : p + m ≤ data.length) (he : pe = p + m) :
    Kd.R (Kd.int .u8) 5 W base (fun _ => True) (.slice (some ⟨g, 0, none⟩) pe c) (data.take p ++ b) := by
  have hl : (data.take p ++ b).length = pe := by rw [List.length_append, List.length_take]; omega
  have := Kd.R_take (m := pe) h (by rw [List.length_append, hl]; omega)
  rw [List.take_append_of_le_length (by omega), List.take_of_length_le (by omega)] at this
  exact this
theorem mid_tail {W : World} {base g len c p m pe : Nat} {data b : List Int} (h : Kd.R (Kd.int .u8) 5 W base (fun _ => True) (.slice (some ⟨g, 0, none⟩) len c) (data.take p ++ b ++ data.drop pe)) (hb : b.length = m) (hp : p + m ≤ data.length) (he : pe = p + m) (hn : len = data.length) :
    Kd.C (Kd.int .u8) W.drew (some ⟨g, pe, none⟩) (len - pe) (data.drop (p + m)) := by
  have hl : (data.take p ++ b).length = pe := by rw [List.length_append, List.length_take]; omega
  have hd : (data.drop (p + m)).length = len - pe := by rw [List.length_drop]; omega
  have := C_part (Kd.R_drew h) pe (len - pe) (by rw [List.length_append, hl, he, hd]; omega)
  rw [List.drop_append_of_le_length (by omega), List.drop_eq_nil_of_le (by omega), List.nil_append, he, List.take_of_length_le (by omega), ← he] at this
  rw [show data.drop (p + m) = data.drop pe by rw [he]]
  exact this
section
variable {f d base : Nat} {h : Hnd} {n : Nod} {v : Value} {data b : List Int} {W : World}
set_option maxHeartbeats 1000000 in
theorem write42c (F : Fil f d h n v data base W) (A : Nat → Addr) (hS : Sent A W) (vb : Value) (hcl : h.cl = true) :
    Calls Tryd.prog 42 #[.pointer (some ⟨f, 0, none⟩), vb] W fun e w' => e = .returned (.tuple #[.int .i64 0, .iface 149 (.pointer (some (A 0)))]) ∧ Below W.heap.size W w' := by
  have c2 := F.c2
  rw [hcl] at c2
  have g0 := hS.var 0 (by decide)
  clear F hS hcl
  generalize A 0 = a0 at *
  go_enter Tryd.func42, Tryd.ntmps42
  go_wp2_with fail
  go_quiet (fail)
  go_wp2
  go_ret2
  exact ⟨rfl, by repeat (first | exact Below.refl _ _ | apply pw_below_drewN)⟩
set_option maxHeartbeats 2000000 in
set_option maxRecDepth 100000 in
/-- Writing beyond the end. -/
theorem write42g (F : Fil f d h n v data base W) (Ab : Option Addr) (m cb p : Nat) (hC : Kd.C (Kd.int .u8) W Ab m b) (hcl : h.cl = false) (hro : h.ro = false) (hp : h.pos = p) (hpl : data.length < p) (hpm : p ≤ 10000000) (hm : m ≤ 10000000) (hdl : data.length ≤ 100000000) (hbs : base ≤ W.heap.size) :
    Calls Tryd.prog 42 #[.pointer (some ⟨f, 0, none⟩), .slice Ab m cb] W fun e w' => e = .returned (.tuple #[.int .i64 m, .nilIface]) ∧ Acts f d { h with pos := p + m } { n with tm := 0 } (data ++ (List.replicate (p - data.length) 0 ++ b)) base v W w' := by
  obtain ⟨pos, ls, cl, ro⟩ := h
  obtain ⟨nm, vm, dir, md, tm⟩ := n
  simp only at hcl hro hp
  subst hcl hro hp
  have c0 := F.c0
  have c2 := F.c2
  have c3 := F.c3
  have c4 := F.c4
  have n1 := F.n1
  have HF := Lib.hid F
  have HC := Lib.hid hC
  have hbl := HC.out.1
  obtain ⟨len, hlen⟩ : ∃ len, len = data.length := ⟨_, rfl⟩
  rw [← hlen] at hpl hdl
  have HL := Lib.hid hlen
  obtain ⟨A0, c, hv, _, _⟩ := Kd.R_reads F.row
  rw [hv, ← hlen] at n1
  obtain ⟨r, hr⟩ : ∃ r, r = p - len := ⟨_, rfl⟩
  have w1 : IntKind.i64.wrap ((p : Int) - (len : Int)) = (r : Int) := by rw [IntWalk.i64_in _ (by omega)]; omega
  have w2 : IntKind.i64.wrap ((m : Int) + (p : Int)) = (m : Int) + (p : Int) := IntWalk.i64_in _ (by omega)
  have w3 : ¬ ((m : Int) + (p : Int) < (len : Int)) := by omega
  have w4 : (0 : Int) < (r : Int) := by omega
  have HVL := Lib.hid (show v = .slice A0 len c by rw [hlen]; exact hv)
  rw [← hlen, ← hr]
  have hrl : r ≤ 10000000 := by omega
  have hnl := HF.out.nef
  have hnd := HF.out.ned
  have NEF := Lib.hid hnl
  have NED := Lib.hid hnd
  clear F hC hv hlen hr hnl hnd hbl
  go_enter Tryd.func42, Tryd.ntmps42
  go_wp2_with fail
  have HS0 := Lib.hid (show W.drew.cell? ⟨f, 4, none⟩ = some (.pointer (some ⟨d, 0, none⟩)) ∧ W.drew.cell? ⟨d, 1, none⟩ = some (.slice A0 len c) from ⟨c4, n1⟩)
  refine start_ (n := 19) (S := fun w' => w'.cell? ⟨f, 4, none⟩ = some (.pointer (some ⟨d, 0, none⟩)) ∧ w'.cell? ⟨d, 1, none⟩ = some (.slice A0 len c)) (ds := [18]) #[false, false, false, false, false, false, false, false, false, false, false, false, false, false, false, false, false, false, false] (by kernel_rfl) rfl rfl (by first | exact HS0.out | trivial) (fun hHeld => ?_)
  refine pure_ (i := 0) (N := some 70) (v := ?_) (a' := ?_) #[true, false, false, false, false, false, false, false, false, false, false, false, false, false, false, false, false, false, false] rfl rfl (by kernel_rfl) (fun _ _ _ h => h) (Or.inl ⟨by rfl, ?_⟩) ?_ ?_
  rotate_left
  · intro w'
    go_simp
    with_reducible rfl
  rotate_left
  · simp only [Act.put, List.setIfInBounds_toArray, List.set_cons_zero, List.set_cons_succ, i64_w, i32_w]
    rfl
  refine pure_ (i := 1) (N := some 71) (v := ?_) (a' := ?_) #[true, true, false, false, false, false, false, false, false, false, false, false, false, false, false, false, false, false, false] rfl rfl (by kernel_rfl) (fun _ _ _ h => h) (Or.inl ⟨by rfl, ?_⟩) ?_ ?_
  rotate_left
  · intro w'
    go_simp
    with_reducible rfl
  rotate_left
  · simp only [Act.put, List.setIfInBounds_toArray, List.set_cons_zero, List.set_cons_succ, i64_w, i32_w]
    rfl
  refine pure_ (i := 2) (N := some 72) (v := ?_) (a' := ?_) #[true, true, true, false, false, false, false, false, false, false, false, false, false, false, false, false, false, false, false] rfl rfl (by kernel_rfl) (fun _ _ _ h => h) (Or.inl ⟨by rfl, ?_⟩) ?_ ?_
  rotate_left
  · intro w'
    go_simp
    with_reducible rfl
  rotate_left
  · simp only [Act.put, List.setIfInBounds_toArray, List.set_cons_zero, List.set_cons_succ, i64_w, i32_w]
    rfl
  refine take_ (i := 3) (N := some 73) (v := ?_) (a' := ?_) #[true, true, true, true, false, false, false, false, false, false, false, false, false, false, false, false, false, false, false] rfl rfl (by kernel_rfl) (fun _ _ _ h => h) (Or.inl ⟨by rfl, ?_⟩) hHeld ?_ ?_
  rotate_left
  · rintro w' ⟨s0, s1⟩
    go_simp
    with_reducible rfl
  rotate_left
  · simp only [Act.put, List.setIfInBounds_toArray, List.set_cons_zero, List.set_cons_succ, i64_w, i32_w]
    rfl
  refine pure_ (i := 4) (N := some 74) (v := ?_) (a' := ?_) #[true, true, true, true, true, false, false, false, false, false, false, false, false, false, false, false, false, false, false] rfl rfl (by kernel_rfl) (fun _ _ _ h => h) (Or.inl ⟨by rfl, ?_⟩) ?_ ?_
  rotate_left
  · intro w'
    go_simp
    with_reducible rfl
  rotate_left
  · simp only [Act.put, List.setIfInBounds_toArray, List.set_cons_zero, List.set_cons_succ, i64_w, i32_w]
    rfl
  refine pure_ (i := 5) (N := some 75) (v := ?_) (a' := ?_) #[true, true, true, true, true, true, false, false, false, false, false, false, false, false, false, false, false, false, false] rfl rfl (by kernel_rfl) (fun _ _ _ h => h) (Or.inl ⟨by rfl, ?_⟩) ?_ ?_
  rotate_left
  · intro w'
    go_simp
    with_reducible rfl
  rotate_left
  · simp only [Act.put, List.setIfInBounds_toArray, List.set_cons_zero, List.set_cons_succ, i64_w, i32_w]
    rfl
  refine pure_ (i := 6) (N := some 76) (v := ?_) (a' := ?_) #[true, true, true, true, true, true, true, false, false, false, false, false, false, false, false, false, false, false, false] rfl rfl (by kernel_rfl) (fun _ _ _ h => h) (Or.inl ⟨by rfl, ?_⟩) ?_ ?_
  rotate_left
  · intro w'
    go_simp
    with_reducible rfl
  rotate_left
  · simp only [Act.put, List.setIfInBounds_toArray, List.set_cons_zero, List.set_cons_succ, i64_w, i32_w]
    rfl
  refine take_ (i := 7) (N := some 77) (v := ?_) (a' := ?_) #[true, true, true, true, true, true, true, true, false, false, false, false, false, false, false, false, false, false, false] rfl rfl (by kernel_rfl) (fun _ _ _ h => h) (Or.inl ⟨by rfl, ?_⟩) hHeld ?_ ?_
  rotate_left
  · rintro w' ⟨s0, s1⟩
    go_simp
    with_reducible rfl
  rotate_left
  · simp only [Act.put, List.setIfInBounds_toArray, List.set_cons_zero, List.set_cons_succ, i64_w, i32_w]
    rfl
  refine pure_ (i := 8) (N := some 78) (v := ?_) (a' := ?_) #[true, true, true, true, true, true, true, true, true, false, false, false, false, false, false, false, false, false, false] rfl rfl (by kernel_rfl) (fun _ _ _ h => h) (Or.inl ⟨by rfl, ?_⟩) ?_ ?_
  rotate_left
  · intro w'
    go_simp
    with_reducible rfl
  rotate_left
  · simp only [Act.put, List.setIfInBounds_toArray, List.set_cons_zero, List.set_cons_succ, i64_w, i32_w]
    rfl
  refine pure_ (i := 9) (N := some 79) (v := ?_) (a' := ?_) #[true, true, true, true, true, true, true, true, true, true, false, false, false, false, false, false, false, false, false] rfl rfl (by kernel_rfl) (fun _ _ _ h => h) (Or.inl ⟨by rfl, ?_⟩) ?_ ?_
  rotate_left
  · intro w'
    go_simp
    with_reducible rfl
  rotate_left
  · simp only [Act.put, List.setIfInBounds_toArray, List.set_cons_zero, List.set_cons_succ, i64_w, i32_w]
    rfl
  refine take_ (i := 10) (N := some 80) (v := ?_) (a' := ?_) #[true, true, true, true, true, true, true, true, true, true, true, false, false, false, false, false, false, false, false] rfl rfl (by kernel_rfl) (fun _ _ _ h => h) (Or.inl ⟨by rfl, ?_⟩) hHeld ?_ ?_
  rotate_left
  · rintro w' ⟨s0, s1⟩
    go_simp
    with_reducible rfl
  rotate_left
  · simp only [Act.put, List.setIfInBounds_toArray, List.set_cons_zero, List.set_cons_succ, i64_w, i32_w]
    rfl
  refine pure_ (i := 11) (N := some 81) (v := ?_) (a' := ?_) #[true, true, true, true, true, true, true, true, true, true, true, true, false, false, false, false, false, false, false] rfl rfl (by kernel_rfl) (fun _ _ _ h => h) (Or.inl ⟨by rfl, ?_⟩) ?_ ?_
  rotate_left
  · intro w'
    go_simp
    with_reducible rfl
  rotate_left
  · simp only [Act.put, List.setIfInBounds_toArray, List.set_cons_zero, List.set_cons_succ, i64_w, i32_w]
    rfl
  refine pure_ (i := 13) (N := some 83) (v := ?_) (a' := ?_) #[true, true, true, true, true, true, true, true, true, true, true, true, false, true, false, false, false, false, false] rfl rfl (by kernel_rfl) (fun _ _ _ h => h) (Or.inl ⟨by rfl, ?_⟩) ?_ ?_
  rotate_left
  · intro w'
    go_simp
    with_reducible rfl
  rotate_left
  · simp only [Act.put, List.setIfInBounds_toArray, List.set_cons_zero, List.set_cons_succ, i64_w, i32_w]
    rfl
  refine one_ (i := 12) (N := some 82) #[true, true, true, true, true, true, true, true, true, true, true, true, true, true, false, false, false, false, false] rfl rfl (by kernel_rfl) (by decide) (fun K hK => ?_)
  refine make_bytes_step (by rfl) rfl _ _ (by rfl) r (by rfl) (by rfl) (by omega) ?_
  intro A1 c1 w1 hr1 hb1
  have F1 := Lib.hid (HF.out.drew.below hb1)
  have R1 := Lib.hid hr1
  have B1 := Lib.hid hb1
  clear hr1 hb1
  refine hK.out _ _ ⟨F1.out.c4, by rw [← HVL.out]; exact F1.out.n1⟩ (fun hHeld => ?_)
  clear hK K
  refine norm_ (a' := ?_) ?_ ?_
  rotate_left
  · show Act.put _ (some 82) _ = _
    simp only [Act.put, List.setIfInBounds_toArray, List.set_cons_zero, List.set_cons_succ, i64_w, i32_w]
    rfl
  refine one_ (i := 14) (N := some 84) #[true, true, true, true, true, true, true, true, true, true, true, true, true, true, true, false, false, false, false] rfl rfl (by kernel_rfl) (by decide) (fun K hK => ?_)
  refine app_bytes_step W.drew.heap.size (by rfl) _ _ (by rfl) (.slice A1 r c1) (List.replicate r 0) b Ab m cb (by rfl) (by rfl) R1.out (Kd.C_below (Kd.C_drew HC.out) B1.out) B1.out.size (by rw [List.length_replicate]; omega) ?_
  intro A2 n2 c2' w2' hr2 hg2 ho2
  have B2 := Lib.hid (show Below W.drew.heap.size W.drew w2' from B1.out.grown hg2 B1.out.size (Kd.R_base R1.out))
  have F2 := Lib.hid (HF.out.drew.below B2.out)
  have R2 := Lib.hid hr2
  clear hr2 hg2 ho2
  refine hK.out _ _ ⟨F2.out.c4, by rw [← HVL.out]; exact F2.out.n1⟩ (fun hHeld => ?_)
  clear hK K
  refine norm_ (a' := ?_) ?_ ?_
  rotate_left
  · show Act.put _ (some 84) _ = _
    simp only [Act.put, List.setIfInBounds_toArray, List.set_cons_zero, List.set_cons_succ, i64_w, i32_w]
    rfl
  refine one_ (i := 15) (N := some 85) #[true, true, true, true, true, true, true, true, true, true, true, true, true, true, true, true, false, false, false] rfl rfl (by kernel_rfl) (by decide) (fun K hK => ?_)
  have C2 := Lib.hid (Kd.R_reads' R2.out)
  refine app_bytes_step base (by rfl) _ _ (by rfl) v data (List.replicate r 0 ++ b) A2 n2 c2' (by exact HVL.out.symm) (by rfl) F2.out.row (by have := C2.out.2.2; rw [← C2.out.1] at this; exact this) (Nat.le_trans (show base ≤ W.drew.heap.size from hbs) B2.out.size) (by rw [← HL.out, C2.out.1, List.length_append, List.length_replicate, HC.out.1]; omega) ?_
  intro A3 n3 c3' w3' hr3 hg3 ho3
  have O3 := Lib.hid (F2.out.own.grown hg3 NEF.out NED.out)
  have R3 := Lib.hid hr3
  have M3 := Lib.hid (show Moves (Tch f d v) W w3' from (((Moves.refl _ _).drew).below B2.out).grown hg3 (fun i hi => .inl (.inr (.inr hi.symm))))
  have T3 := Lib.hid (own_then (v := v) (v1 := v) (w := W) (w1 := w2') B2.out.size (.inl rfl) ho3)
  clear hr3 hg3 ho3
  refine hK.out _ _ ⟨O3.out.c4, by rw [← HVL.out]; exact O3.out.n1⟩ (fun hHeld => ?_)
  clear hK K
  refine norm_ (a' := ?_) ?_ ?_
  rotate_left
  · show Act.put _ (some 85) _ = _
    simp only [Act.put, List.setIfInBounds_toArray, List.set_cons_zero, List.set_cons_succ, i64_w, i32_w]
    rfl
  refine pure_ (i := 16) (N := some 86) (v := ?_) (a' := ?_) #[true, true, true, true, true, true, true, true, true, true, true, true, true, true, true, true, true, false, false] rfl rfl (by kernel_rfl) (fun _ _ _ h => h) (Or.inl ⟨by rfl, ?_⟩) ?_ ?_
  rotate_left
  · intro w'
    go_simp
    with_reducible rfl
  rotate_left
  · simp only [Act.put, List.setIfInBounds_toArray, List.set_cons_zero, List.set_cons_succ, i64_w, i32_w]
    rfl
  refine pure_ (i := 17) (N := some 87) (v := ?_) (a' := ?_) #[true, true, true, true, true, true, true, true, true, true, true, true, true, true, true, true, true, true, false] rfl rfl (by kernel_rfl) (fun _ _ _ h => h) (Or.inl ⟨by rfl, ?_⟩) ?_ ?_
  rotate_left
  · intro w'
    go_simp
    with_reducible rfl
  rotate_left
  · simp only [Act.put, List.setIfInBounds_toArray, List.set_cons_zero, List.set_cons_succ, i64_w, i32_w]
    rfl
  refine last_ (i := 18) (N := none) #[true, true, true, true, true, true, true, true, true, true, true, true, true, true, true, true, true, true, true] rfl rfl (by kernel_rfl) (by decide) (fun K hK => ?_)
  have x1 := O3.out.n1
  have xz := blk_frozen O3.out.hd 1
  refine skip_ (w1 := ?_) (by rfl) rfl ?_ ?_
  rotate_left
  · go_simp
    rfl
  refine hK.out _ _ ?_
  clear x1 xz
  clear hK K
  refine done_ (by kernel_rfl) ?_
  have X4 := Lib.hid (O3.out.set R3.out)
  have M4 := Lib.hid (show Moves (Tch f d v) W (w3'.setCell ⟨d, 1, none⟩ (.slice A3 n3 c3')) from M3.out.setCell (p := ⟨d, 1, none⟩) (.inl (.inr (.inl rfl))) _)
  go_wp2_with fail
  generalize w3'.setCell ⟨d, 1, none⟩ (.slice A3 n3 c3') = W4 at *
  clear HS0
  have HS0 := Lib.hid (show W4.drew.cell? ⟨f, 4, none⟩ = some (.pointer (some ⟨d, 0, none⟩)) ∧ W4.drew.cell? ⟨d, 1, none⟩ = some (.slice A3 n3 c3') from ⟨X4.out.c4, X4.out.n1⟩)
  have NE4 := Lib.hid X4.out.nef
  have ND4 := Lib.hid X4.out.ned
  have HB4 := Lib.hid (show base ≤ W4.drew.heap.size from Nat.le_trans hbs M4.out.size)
  have HC4 := Lib.hid (show Kd.C (Kd.int .u8) W4.drew none 0 [] from ⟨rfl, by omega, fun h => absurd h (by omega)⟩)
  have HLN := Lib.hid (show (data ++ (List.replicate r 0 ++ b)).length + 0 ≤ 140737488355328 by rw [List.length_append, List.length_append, List.length_replicate, HC.out.1, ← HL.out]; omega)
  refine start_ (n := 16) (S := fun w' => w'.cell? ⟨f, 4, none⟩ = some (.pointer (some ⟨d, 0, none⟩)) ∧ w'.cell? ⟨d, 1, none⟩ = some (.slice A3 n3 c3')) (ds := [15]) #[false, false, false, false, false, false, false, false, false, false, false, false, false, false, false, false] (by kernel_rfl) rfl rfl (by first | exact HS0.out | trivial) (fun hHeld => ?_)
  refine pure_ (i := 0) (N := some 88) (v := ?_) (a' := ?_) #[true, false, false, false, false, false, false, false, false, false, false, false, false, false, false, false] rfl rfl (by kernel_rfl) (fun _ _ _ h => h) (Or.inl ⟨by rfl, ?_⟩) ?_ ?_
  rotate_left
  · intro w'
    go_simp
    with_reducible rfl
  rotate_left
  · simp only [Act.put, List.setIfInBounds_toArray, List.set_cons_zero, List.set_cons_succ, i64_w, i32_w]
    rfl
  refine pure_ (i := 1) (N := some 89) (v := ?_) (a' := ?_) #[true, true, false, false, false, false, false, false, false, false, false, false, false, false, false, false] rfl rfl (by kernel_rfl) (fun _ _ _ h => h) (Or.inl ⟨by rfl, ?_⟩) ?_ ?_
  rotate_left
  · intro w'
    go_simp
    with_reducible rfl
  rotate_left
  · simp only [Act.put, List.setIfInBounds_toArray, List.set_cons_zero, List.set_cons_succ, i64_w, i32_w]
    rfl
  refine pure_ (i := 2) (N := some 90) (v := ?_) (a' := ?_) #[true, true, true, false, false, false, false, false, false, false, false, false, false, false, false, false] rfl rfl (by kernel_rfl) (fun _ _ _ h => h) (Or.inl ⟨by rfl, ?_⟩) ?_ ?_
  rotate_left
  · intro w'
    go_simp
    with_reducible rfl
  rotate_left
  · simp only [Act.put, List.setIfInBounds_toArray, List.set_cons_zero, List.set_cons_succ, i64_w, i32_w]
    rfl
  refine take_ (i := 3) (N := some 91) (v := ?_) (a' := ?_) #[true, true, true, true, false, false, false, false, false, false, false, false, false, false, false, false] rfl rfl (by kernel_rfl) (fun _ _ _ h => h) (Or.inl ⟨by rfl, ?_⟩) hHeld ?_ ?_
  rotate_left
  · rintro w' ⟨s0, s1⟩
    go_simp
    with_reducible rfl
  rotate_left
  · simp only [Act.put, List.setIfInBounds_toArray, List.set_cons_zero, List.set_cons_succ, i64_w, i32_w]
    rfl
  refine pure_ (i := 4) (N := some 92) (v := ?_) (a' := ?_) #[true, true, true, true, true, false, false, false, false, false, false, false, false, false, false, false] rfl rfl (by kernel_rfl) (fun _ _ _ h => h) (Or.inl ⟨by rfl, ?_⟩) ?_ ?_
  rotate_left
  · intro w'
    go_simp
    with_reducible rfl
  rotate_left
  · simp only [Act.put, List.setIfInBounds_toArray, List.set_cons_zero, List.set_cons_succ, i64_w, i32_w]
    rfl
  refine pure_ (i := 5) (N := some 93) (v := ?_) (a' := ?_) #[true, true, true, true, true, true, false, false, false, false, false, false, false, false, false, false] rfl rfl (by kernel_rfl) (fun _ _ _ h => h) (Or.inl ⟨by rfl, ?_⟩) ?_ ?_
  rotate_left
  · intro w'
    go_simp
    with_reducible rfl
  rotate_left
  · simp only [Act.put, List.setIfInBounds_toArray, List.set_cons_zero, List.set_cons_succ, i64_w, i32_w]
    rfl
  refine pure_ (i := 6) (N := some 94) (v := ?_) (a' := ?_) #[true, true, true, true, true, true, true, false, false, false, false, false, false, false, false, false] rfl rfl (by kernel_rfl) (fun _ _ _ h => h) (Or.inl ⟨by rfl, ?_⟩) ?_ ?_
  rotate_left
  · intro w'
    go_simp
    with_reducible rfl
  rotate_left
  · simp only [Act.put, List.setIfInBounds_toArray, List.set_cons_zero, List.set_cons_succ, i64_w, i32_w]
    rfl
  refine take_ (i := 7) (N := some 95) (v := ?_) (a' := ?_) #[true, true, true, true, true, true, true, true, false, false, false, false, false, false, false, false] rfl rfl (by kernel_rfl) (fun _ _ _ h => h) (Or.inl ⟨by rfl, ?_⟩) hHeld ?_ ?_
  rotate_left
  · rintro w' ⟨s0, s1⟩
    go_simp
    with_reducible rfl
  rotate_left
  · simp only [Act.put, List.setIfInBounds_toArray, List.set_cons_zero, List.set_cons_succ, i64_w, i32_w]
    rfl
  refine pure_ (i := 8) (N := some 96) (v := ?_) (a' := ?_) #[true, true, true, true, true, true, true, true, true, false, false, false, false, false, false, false] rfl rfl (by kernel_rfl) (fun _ _ _ h => h) (Or.inl ⟨by rfl, ?_⟩) ?_ ?_
  rotate_left
  · intro w'
    go_simp
    with_reducible rfl
  rotate_left
  · simp only [Act.put, List.setIfInBounds_toArray, List.set_cons_zero, List.set_cons_succ, i64_w, i32_w]
    rfl
  refine pure_ (i := 9) (N := some 97) (v := ?_) (a' := ?_) #[true, true, true, true, true, true, true, true, true, true, false, false, false, false, false, false] rfl rfl (by kernel_rfl) (fun _ _ _ h => h) (Or.inl ⟨by rfl, ?_⟩) ?_ ?_
  rotate_left
  · intro w'
    go_simp
    with_reducible rfl
  rotate_left
  · simp only [Act.put, List.setIfInBounds_toArray, List.set_cons_zero, List.set_cons_succ, i64_w, i32_w]
    rfl
  refine take_ (i := 10) (N := some 98) (v := ?_) (a' := ?_) #[true, true, true, true, true, true, true, true, true, true, true, false, false, false, false, false] rfl rfl (by kernel_rfl) (fun _ _ _ h => h) (Or.inl ⟨by rfl, ?_⟩) hHeld ?_ ?_
  rotate_left
  · rintro w' ⟨s0, s1⟩
    go_simp
    with_reducible rfl
  rotate_left
  · simp only [Act.put, List.setIfInBounds_toArray, List.set_cons_zero, List.set_cons_succ, i64_w, i32_w]
    rfl
  refine pure_ (i := 11) (N := some 99) (v := ?_) (a' := ?_) #[true, true, true, true, true, true, true, true, true, true, true, true, false, false, false, false] rfl rfl (by kernel_rfl) (fun _ _ _ h => h) (Or.inl ⟨by rfl, ?_⟩) ?_ ?_
  rotate_left
  · intro w'
    go_simp
    with_reducible rfl
  rotate_left
  · simp only [Act.put, List.setIfInBounds_toArray, List.set_cons_zero, List.set_cons_succ, i64_w, i32_w]
    rfl
  refine one_ (i := 12) (N := some 100) #[true, true, true, true, true, true, true, true, true, true, true, true, true, false, false, false] rfl rfl (by kernel_rfl) (by decide) (fun K hK => ?_)
  refine app_bytes_step base (by rfl) _ _ (by rfl) (.slice A3 n3 c3') (data ++ (List.replicate r 0 ++ b)) [] none 0 0 (by rfl) (by rfl) X4.out.drew.row HC4.out HB4.out HLN.out ?_
  intro A5 n5 c5 w5 hr5 hg5 ho5
  have O5 := Lib.hid (X4.out.drew.own.grown hg5 NE4.out ND4.out)
  have R5 := Lib.hid hr5
  have M5 := Lib.hid (tch_then M4.out T3.out (((Moves.refl (Tch f d (.slice A3 n3 c3')) W4).drew).grown hg5 (fun i hi => .inr (.inr hi.symm) |> .inl)))
  have T5 := Lib.hid (own_then (w := W) (w1 := W4.drew) M4.out.size T3.out ho5)
  clear hr5 hg5 ho5
  refine hK.out _ _ ⟨O5.out.c4, O5.out.n1⟩ (fun hHeld => ?_)
  clear hK K
  refine norm_ (a' := ?_) ?_ ?_
  rotate_left
  · show Act.put _ (some 100) _ = _
    simp only [Act.put, List.setIfInBounds_toArray, List.set_cons_zero, List.set_cons_succ, i64_w, i32_w]
    rfl
  refine pure_ (i := 13) (N := some 101) (v := ?_) (a' := ?_) #[true, true, true, true, true, true, true, true, true, true, true, true, true, true, false, false] rfl rfl (by kernel_rfl) (fun _ _ _ h => h) (Or.inl ⟨by rfl, ?_⟩) ?_ ?_
  rotate_left
  · intro w'
    go_simp
    with_reducible rfl
  rotate_left
  · simp only [Act.put, List.setIfInBounds_toArray, List.set_cons_zero, List.set_cons_succ, i64_w, i32_w]
    rfl
  refine pure_ (i := 14) (N := some 102) (v := ?_) (a' := ?_) #[true, true, true, true, true, true, true, true, true, true, true, true, true, true, true, false] rfl rfl (by kernel_rfl) (fun _ _ _ h => h) (Or.inl ⟨by rfl, ?_⟩) ?_ ?_
  rotate_left
  · intro w'
    go_simp
    with_reducible rfl
  rotate_left
  · simp only [Act.put, List.setIfInBounds_toArray, List.set_cons_zero, List.set_cons_succ, i64_w, i32_w]
    rfl
  refine last_ (i := 15) (N := none) #[true, true, true, true, true, true, true, true, true, true, true, true, true, true, true, true] rfl rfl (by kernel_rfl) (by decide) (fun K hK => ?_)
  have x1 := O5.out.n1
  have xz := blk_frozen O5.out.hd 1
  refine skip_ (w1 := ?_) (by rfl) rfl ?_ ?_
  rotate_left
  · go_simp
    rfl
  refine hK.out _ _ ?_
  clear x1 xz
  clear hK K
  refine done_ (by kernel_rfl) ?_
  have X6 := Lib.hid (O5.out.set R5.out)
  have M6 := Lib.hid (show Moves (Tch f d v) W (w5.setCell ⟨d, 1, none⟩ (.slice A5 n5 c5)) from M5.out.setCell (p := ⟨d, 1, none⟩) (.inl (.inr (.inl rfl))) _)
  generalize w5.setCell ⟨d, 1, none⟩ (.slice A5 n5 c5) = W6 at *
  have c4 := X6.out.c4
  have c0 := X6.out.c0
  have m5 := X6.out.n5
  have z5 := blk_frozen X6.out.hd 5
  have X7 := Lib.hid (X6.out.setTm 0)
  have k0 := X7.out.c0
  have kz := blk_frozen X7.out.hf 0
  have w8 : IntKind.i64.wrap ((p : Int) + (m : Int)) = (p : Int) + (m : Int) := IntWalk.i64_in _ (by omega)
  go_wp2_with (first | (go_at_call 84; (with_reducible refine (mod84 d 0 tm _ m5 z5).mono ?_); rintro e w' ⟨rfl, rfl⟩))
  go_ret2
  refine ⟨rfl, _, ?_, (M6.out.setCell (p := ⟨d, 5, none⟩) (.inl (.inr (.inl rfl))) _).setCell (p := ⟨f, 0, none⟩) (.inl (.inl rfl)) _, T5.out⟩
  have := X7.out.setPos ((p : Int) + (m : Int))
  simpa using this
set_option maxHeartbeats 2000000 in
set_option maxRecDepth 100000 in
/-- Writing that reaches the end. -/
theorem write42e (F : Fil f d h n v data base W) (Ab : Option Addr) (m cb p : Nat) (hC : Kd.C (Kd.int .u8) W Ab m b) (hcl : h.cl = false) (hro : h.ro = false) (hp : h.pos = p) (hpl : p ≤ data.length) (hpm : data.length ≤ m + p) (hm : m ≤ 10000000) (hdl : data.length ≤ 100000000) (hbs : base ≤ W.heap.size) :
    Calls Tryd.prog 42 #[.pointer (some ⟨f, 0, none⟩), .slice Ab m cb] W fun e w' => e = .returned (.tuple #[.int .i64 m, .nilIface]) ∧ Acts f d { h with pos := p + m } { n with tm := 0 } (data.take p ++ b) base v W w' := by
  obtain ⟨pos, ls, cl, ro⟩ := h
  obtain ⟨nm, vm, dir, md, tm⟩ := n
  simp only at hcl hro hp
  subst hcl hro hp
  have c0 := F.c0
  have c2 := F.c2
  have c3 := F.c3
  have c4 := F.c4
  have n1 := F.n1
  have HF := Lib.hid F
  have HC := Lib.hid hC
  have hbl := HC.out.1
  obtain ⟨len, hlen⟩ : ∃ len, len = data.length := ⟨_, rfl⟩
  rw [← hlen] at hpl hdl
  have HL := Lib.hid hlen
  rw [← hlen] at hpm
  obtain ⟨A0, c, hv, hcc, _⟩ := Kd.R_reads F.row
  rw [hv, ← hlen] at n1
  rw [← hlen] at hcc
  have w2 : IntKind.i64.wrap ((m : Int) + (p : Int)) = (m : Int) + (p : Int) := IntWalk.i64_in _ (by omega)
  have w3 : ¬ ((m : Int) + (p : Int) < (len : Int)) := by omega
  have w1 : IntKind.i64.wrap ((p : Int) - (len : Int)) = (p : Int) - (len : Int) := IntWalk.i64_in _ (by omega)
  have w4 : ¬ ((0 : Int) < (p : Int) - (len : Int)) := by omega
  have w5 : (0 : Int) ≤ (p : Int) := by omega
  have w6 : (p : Int) ≤ (c : Int) := by omega
  have HVL := Lib.hid (show v = .slice A0 len c by rw [hlen]; exact hv)
  have HOW := Lib.hid (show (Value.slice A0 p c).ownBlock = v.ownBlock by rw [HVL.out]; cases A0 <;> rfl)
  have HRT := Lib.hid (show Kd.R (Kd.int .u8) 5 W.drew base (fun _ => True) (.slice A0 p c) (data.take p) from Kd.R_take (by have := HF.out.drew.row; rw [HVL.out] at this; exact this) (by rw [← hlen]; exact hpl))
  have NEF := Lib.hid (HOW.out ▸ HF.out.nef)
  have NED := Lib.hid (HOW.out ▸ HF.out.ned)
  have HLN0 := Lib.hid (show (data.take p).length + m ≤ 140737488355328 by rw [List.length_take]; omega)
  have HLN := Lib.hid (show (data.take p ++ b).length + 0 ≤ 140737488355328 by rw [List.length_append, List.length_take, hbl]; omega)
  clear F hC hv hlen hbl
  go_enter Tryd.func42, Tryd.ntmps42
  go_wp2_with fail
  have HS0 := Lib.hid (show W.drew.cell? ⟨f, 4, none⟩ = some (.pointer (some ⟨d, 0, none⟩)) ∧ W.drew.cell? ⟨d, 1, none⟩ = some (.slice A0 len c) from ⟨c4, n1⟩)
  refine start_ (n := 18) (S := fun w' => w'.cell? ⟨f, 4, none⟩ = some (.pointer (some ⟨d, 0, none⟩)) ∧ w'.cell? ⟨d, 1, none⟩ = some (.slice A0 len c)) (ds := [17]) #[false, false, false, false, false, false, false, false, false, false, false, false, false, false, false, false, false, false] (by kernel_rfl) rfl rfl (by first | exact HS0.out | trivial) (fun hHeld => ?_)
  refine pure_ (i := 0) (N := some 103) (v := ?_) (a' := ?_) #[true, false, false, false, false, false, false, false, false, false, false, false, false, false, false, false, false, false] rfl rfl (by kernel_rfl) (fun _ _ _ h => h) (Or.inl ⟨by rfl, ?_⟩) ?_ ?_
  rotate_left
  · intro w'
    go_simp
    with_reducible rfl
  rotate_left
  · simp only [Act.put, List.setIfInBounds_toArray, List.set_cons_zero, List.set_cons_succ, i64_w, i32_w]
    rfl
  refine pure_ (i := 1) (N := some 104) (v := ?_) (a' := ?_) #[true, true, false, false, false, false, false, false, false, false, false, false, false, false, false, false, false, false] rfl rfl (by kernel_rfl) (fun _ _ _ h => h) (Or.inl ⟨by rfl, ?_⟩) ?_ ?_
  rotate_left
  · intro w'
    go_simp
    with_reducible rfl
  rotate_left
  · simp only [Act.put, List.setIfInBounds_toArray, List.set_cons_zero, List.set_cons_succ, i64_w, i32_w]
    rfl
  refine pure_ (i := 2) (N := some 105) (v := ?_) (a' := ?_) #[true, true, true, false, false, false, false, false, false, false, false, false, false, false, false, false, false, false] rfl rfl (by kernel_rfl) (fun _ _ _ h => h) (Or.inl ⟨by rfl, ?_⟩) ?_ ?_
  rotate_left
  · intro w'
    go_simp
    with_reducible rfl
  rotate_left
  · simp only [Act.put, List.setIfInBounds_toArray, List.set_cons_zero, List.set_cons_succ, i64_w, i32_w]
    rfl
  refine take_ (i := 3) (N := some 106) (v := ?_) (a' := ?_) #[true, true, true, true, false, false, false, false, false, false, false, false, false, false, false, false, false, false] rfl rfl (by kernel_rfl) (fun _ _ _ h => h) (Or.inl ⟨by rfl, ?_⟩) hHeld ?_ ?_
  rotate_left
  · rintro w' ⟨s0, s1⟩
    go_simp
    with_reducible rfl
  rotate_left
  · simp only [Act.put, List.setIfInBounds_toArray, List.set_cons_zero, List.set_cons_succ, i64_w, i32_w]
    rfl
  refine pure_ (i := 4) (N := some 107) (v := ?_) (a' := ?_) #[true, true, true, true, true, false, false, false, false, false, false, false, false, false, false, false, false, false] rfl rfl (by kernel_rfl) (fun _ _ _ h => h) (Or.inl ⟨by rfl, ?_⟩) ?_ ?_
  rotate_left
  · intro w'
    go_simp
    with_reducible rfl
  rotate_left
  · simp only [Act.put, List.setIfInBounds_toArray, List.set_cons_zero, List.set_cons_succ, i64_w, i32_w]
    rfl
  refine pure_ (i := 5) (N := some 108) (v := ?_) (a' := ?_) #[true, true, true, true, true, true, false, false, false, false, false, false, false, false, false, false, false, false] rfl rfl (by kernel_rfl) (fun _ _ _ h => h) (Or.inl ⟨by rfl, ?_⟩) ?_ ?_
  rotate_left
  · intro w'
    go_simp
    with_reducible rfl
  rotate_left
  · simp only [Act.put, List.setIfInBounds_toArray, List.set_cons_zero, List.set_cons_succ, i64_w, i32_w]
    rfl
  refine pure_ (i := 6) (N := some 109) (v := ?_) (a' := ?_) #[true, true, true, true, true, true, true, false, false, false, false, false, false, false, false, false, false, false] rfl rfl (by kernel_rfl) (fun _ _ _ h => h) (Or.inl ⟨by rfl, ?_⟩) ?_ ?_
  rotate_left
  · intro w'
    go_simp
    with_reducible rfl
  rotate_left
  · simp only [Act.put, List.setIfInBounds_toArray, List.set_cons_zero, List.set_cons_succ, i64_w, i32_w]
    rfl
  refine take_ (i := 7) (N := some 110) (v := ?_) (a' := ?_) #[true, true, true, true, true, true, true, true, false, false, false, false, false, false, false, false, false, false] rfl rfl (by kernel_rfl) (fun _ _ _ h => h) (Or.inl ⟨by rfl, ?_⟩) hHeld ?_ ?_
  rotate_left
  · rintro w' ⟨s0, s1⟩
    go_simp
    with_reducible rfl
  rotate_left
  · simp only [Act.put, List.setIfInBounds_toArray, List.set_cons_zero, List.set_cons_succ, i64_w, i32_w]
    rfl
  refine pure_ (i := 8) (N := some 111) (v := ?_) (a' := ?_) #[true, true, true, true, true, true, true, true, true, false, false, false, false, false, false, false, false, false] rfl rfl (by kernel_rfl) (fun _ _ _ h => h) (Or.inl ⟨by rfl, ?_⟩) ?_ ?_
  rotate_left
  · intro w'
    go_simp
    with_reducible rfl
  rotate_left
  · simp only [Act.put, List.setIfInBounds_toArray, List.set_cons_zero, List.set_cons_succ, i64_w, i32_w]
    rfl
  refine pure_ (i := 9) (N := some 112) (v := ?_) (a' := ?_) #[true, true, true, true, true, true, true, true, true, true, false, false, false, false, false, false, false, false] rfl rfl (by kernel_rfl) (fun _ _ _ h => h) (Or.inl ⟨by rfl, ?_⟩) ?_ ?_
  rotate_left
  · intro w'
    go_simp
    with_reducible rfl
  rotate_left
  · simp only [Act.put, List.setIfInBounds_toArray, List.set_cons_zero, List.set_cons_succ, i64_w, i32_w]
    rfl
  refine take_ (i := 10) (N := some 113) (v := ?_) (a' := ?_) #[true, true, true, true, true, true, true, true, true, true, true, false, false, false, false, false, false, false] rfl rfl (by kernel_rfl) (fun _ _ _ h => h) (Or.inl ⟨by rfl, ?_⟩) hHeld ?_ ?_
  rotate_left
  · rintro w' ⟨s0, s1⟩
    go_simp
    with_reducible rfl
  rotate_left
  · simp only [Act.put, List.setIfInBounds_toArray, List.set_cons_zero, List.set_cons_succ, i64_w, i32_w]
    rfl
  refine pure_ (i := 11) (N := some 114) (v := ?_) (a' := ?_) #[true, true, true, true, true, true, true, true, true, true, true, true, false, false, false, false, false, false] rfl rfl (by kernel_rfl) (fun _ _ _ h => h) (Or.inl ⟨by rfl, ?_⟩) ?_ ?_
  rotate_left
  · intro w'
    go_simp
    with_reducible rfl
  rotate_left
  · simp only [Act.put, List.setIfInBounds_toArray, List.set_cons_zero, List.set_cons_succ, i64_w, i32_w]
    rfl
  refine pure_ (i := 12) (N := some 115) (v := ?_) (a' := ?_) #[true, true, true, true, true, true, true, true, true, true, true, true, true, false, false, false, false, false] rfl rfl (by kernel_rfl) (fun _ _ _ h => h) (Or.inl ⟨by rfl, ?_⟩) ?_ ?_
  rotate_left
  · intro w'
    go_simp
    with_reducible rfl
  rotate_left
  · simp only [Act.put, List.setIfInBounds_toArray, List.set_cons_zero, List.set_cons_succ, i64_w, i32_w]
    rfl
  refine pure_ (i := 13) (N := some 116) (v := ?_) (a' := ?_) #[true, true, true, true, true, true, true, true, true, true, true, true, true, true, false, false, false, false] rfl rfl (by kernel_rfl) (fun _ _ _ h => h) (Or.inl ⟨by rfl, ?_⟩) ?_ ?_
  rotate_left
  · intro w'
    go_simp
    with_reducible rfl
  rotate_left
  · simp only [Act.put, List.setIfInBounds_toArray, List.set_cons_zero, List.set_cons_succ, i64_w, i32_w]
    rfl
  refine one_ (i := 14) (N := some 117) #[true, true, true, true, true, true, true, true, true, true, true, true, true, true, true, false, false, false] rfl rfl (by kernel_rfl) (by decide) (fun K hK => ?_)
  refine app_bytes_step base (by rfl) _ _ (by rfl) (.slice A0 p c) (data.take p) b Ab m cb (by rfl) (by rfl) HRT.out (Kd.C_drew HC.out) hbs HLN0.out ?_
  intro A3 n3 c3' w3' hr3 hg3 ho3
  have O3 := Lib.hid (HF.out.drew.own.grown hg3 NEF.out NED.out)
  have R3 := Lib.hid hr3
  have M3 := Lib.hid (show Moves (Tch f d v) W w3' from ((Moves.refl _ _).drew).grown hg3 (fun i hi => .inl (.inr (.inr (by rw [← HOW.out]; exact hi.symm)))))
  have T3 := Lib.hid (own_then (v := v) (v1 := .slice A0 p c) (w := W) (w1 := W.drew) (Nat.le_refl _) (.inl HOW.out) ho3)
  clear hr3 hg3 ho3
  refine hK.out _ _ ⟨O3.out.c4, by rw [← HVL.out]; exact O3.out.n1⟩ (fun hHeld => ?_)
  clear hK K
  refine norm_ (a' := ?_) ?_ ?_
  rotate_left
  · show Act.put _ (some 117) _ = _
    simp only [Act.put, List.setIfInBounds_toArray, List.set_cons_zero, List.set_cons_succ, i64_w, i32_w]
    rfl
  refine pure_ (i := 15) (N := some 118) (v := ?_) (a' := ?_) #[true, true, true, true, true, true, true, true, true, true, true, true, true, true, true, true, false, false] rfl rfl (by kernel_rfl) (fun _ _ _ h => h) (Or.inl ⟨by rfl, ?_⟩) ?_ ?_
  rotate_left
  · intro w'
    go_simp
    with_reducible rfl
  rotate_left
  · simp only [Act.put, List.setIfInBounds_toArray, List.set_cons_zero, List.set_cons_succ, i64_w, i32_w]
    rfl
  refine pure_ (i := 16) (N := some 119) (v := ?_) (a' := ?_) #[true, true, true, true, true, true, true, true, true, true, true, true, true, true, true, true, true, false] rfl rfl (by kernel_rfl) (fun _ _ _ h => h) (Or.inl ⟨by rfl, ?_⟩) ?_ ?_
  rotate_left
  · intro w'
    go_simp
    with_reducible rfl
  rotate_left
  · simp only [Act.put, List.setIfInBounds_toArray, List.set_cons_zero, List.set_cons_succ, i64_w, i32_w]
    rfl
  refine last_ (i := 17) (N := none) #[true, true, true, true, true, true, true, true, true, true, true, true, true, true, true, true, true, true] rfl rfl (by kernel_rfl) (by decide) (fun K hK => ?_)
  have x1 := O3.out.n1
  have xz := blk_frozen O3.out.hd 1
  refine skip_ (w1 := ?_) (by rfl) rfl ?_ ?_
  rotate_left
  · go_simp
    rfl
  refine hK.out _ _ ?_
  clear x1 xz
  clear hK K
  refine done_ (by kernel_rfl) ?_
  have X4 := Lib.hid (O3.out.set R3.out)
  have M4 := Lib.hid (show Moves (Tch f d v) W (w3'.setCell ⟨d, 1, none⟩ (.slice A3 n3 c3')) from M3.out.setCell (p := ⟨d, 1, none⟩) (.inl (.inr (.inl rfl))) _)
  go_wp2_with fail
  generalize w3'.setCell ⟨d, 1, none⟩ (.slice A3 n3 c3') = W4 at *
  clear HS0
  have HS0 := Lib.hid (show W4.drew.cell? ⟨f, 4, none⟩ = some (.pointer (some ⟨d, 0, none⟩)) ∧ W4.drew.cell? ⟨d, 1, none⟩ = some (.slice A3 n3 c3') from ⟨X4.out.c4, X4.out.n1⟩)
  have NE4 := Lib.hid X4.out.nef
  have ND4 := Lib.hid X4.out.ned
  have HB4 := Lib.hid (show base ≤ W4.drew.heap.size from Nat.le_trans hbs M4.out.size)
  have HC4 := Lib.hid (show Kd.C (Kd.int .u8) W4.drew none 0 [] from ⟨rfl, by omega, fun h => absurd h (by omega)⟩)
  refine start_ (n := 16) (S := fun w' => w'.cell? ⟨f, 4, none⟩ = some (.pointer (some ⟨d, 0, none⟩)) ∧ w'.cell? ⟨d, 1, none⟩ = some (.slice A3 n3 c3')) (ds := [15]) #[false, false, false, false, false, false, false, false, false, false, false, false, false, false, false, false] (by kernel_rfl) rfl rfl (by first | exact HS0.out | trivial) (fun hHeld => ?_)
  refine pure_ (i := 0) (N := some 120) (v := ?_) (a' := ?_) #[true, false, false, false, false, false, false, false, false, false, false, false, false, false, false, false] rfl rfl (by kernel_rfl) (fun _ _ _ h => h) (Or.inl ⟨by rfl, ?_⟩) ?_ ?_
  rotate_left
  · intro w'
    go_simp
    with_reducible rfl
  rotate_left
  · simp only [Act.put, List.setIfInBounds_toArray, List.set_cons_zero, List.set_cons_succ, i64_w, i32_w]
    rfl
  refine pure_ (i := 1) (N := some 121) (v := ?_) (a' := ?_) #[true, true, false, false, false, false, false, false, false, false, false, false, false, false, false, false] rfl rfl (by kernel_rfl) (fun _ _ _ h => h) (Or.inl ⟨by rfl, ?_⟩) ?_ ?_
  rotate_left
  · intro w'
    go_simp
    with_reducible rfl
  rotate_left
  · simp only [Act.put, List.setIfInBounds_toArray, List.set_cons_zero, List.set_cons_succ, i64_w, i32_w]
    rfl
  refine pure_ (i := 2) (N := some 122) (v := ?_) (a' := ?_) #[true, true, true, false, false, false, false, false, false, false, false, false, false, false, false, false] rfl rfl (by kernel_rfl) (fun _ _ _ h => h) (Or.inl ⟨by rfl, ?_⟩) ?_ ?_
  rotate_left
  · intro w'
    go_simp
    with_reducible rfl
  rotate_left
  · simp only [Act.put, List.setIfInBounds_toArray, List.set_cons_zero, List.set_cons_succ, i64_w, i32_w]
    rfl
  refine take_ (i := 3) (N := some 123) (v := ?_) (a' := ?_) #[true, true, true, true, false, false, false, false, false, false, false, false, false, false, false, false] rfl rfl (by kernel_rfl) (fun _ _ _ h => h) (Or.inl ⟨by rfl, ?_⟩) hHeld ?_ ?_
  rotate_left
  · rintro w' ⟨s0, s1⟩
    go_simp
    with_reducible rfl
  rotate_left
  · simp only [Act.put, List.setIfInBounds_toArray, List.set_cons_zero, List.set_cons_succ, i64_w, i32_w]
    rfl
  refine pure_ (i := 4) (N := some 124) (v := ?_) (a' := ?_) #[true, true, true, true, true, false, false, false, false, false, false, false, false, false, false, false] rfl rfl (by kernel_rfl) (fun _ _ _ h => h) (Or.inl ⟨by rfl, ?_⟩) ?_ ?_
  rotate_left
  · intro w'
    go_simp
    with_reducible rfl
  rotate_left
  · simp only [Act.put, List.setIfInBounds_toArray, List.set_cons_zero, List.set_cons_succ, i64_w, i32_w]
    rfl
  refine pure_ (i := 5) (N := some 125) (v := ?_) (a' := ?_) #[true, true, true, true, true, true, false, false, false, false, false, false, false, false, false, false] rfl rfl (by kernel_rfl) (fun _ _ _ h => h) (Or.inl ⟨by rfl, ?_⟩) ?_ ?_
  rotate_left
  · intro w'
    go_simp
    with_reducible rfl
  rotate_left
  · simp only [Act.put, List.setIfInBounds_toArray, List.set_cons_zero, List.set_cons_succ, i64_w, i32_w]
    rfl
  refine pure_ (i := 6) (N := some 126) (v := ?_) (a' := ?_) #[true, true, true, true, true, true, true, false, false, false, false, false, false, false, false, false] rfl rfl (by kernel_rfl) (fun _ _ _ h => h) (Or.inl ⟨by rfl, ?_⟩) ?_ ?_
  rotate_left
  · intro w'
    go_simp
    with_reducible rfl
  rotate_left
  · simp only [Act.put, List.setIfInBounds_toArray, List.set_cons_zero, List.set_cons_succ, i64_w, i32_w]
    rfl
  refine take_ (i := 7) (N := some 127) (v := ?_) (a' := ?_) #[true, true, true, true, true, true, true, true, false, false, false, false, false, false, false, false] rfl rfl (by kernel_rfl) (fun _ _ _ h => h) (Or.inl ⟨by rfl, ?_⟩) hHeld ?_ ?_
  rotate_left
  · rintro w' ⟨s0, s1⟩
    go_simp
    with_reducible rfl
  rotate_left
  · simp only [Act.put, List.setIfInBounds_toArray, List.set_cons_zero, List.set_cons_succ, i64_w, i32_w]
    rfl
  refine pure_ (i := 8) (N := some 128) (v := ?_) (a' := ?_) #[true, true, true, true, true, true, true, true, true, false, false, false, false, false, false, false] rfl rfl (by kernel_rfl) (fun _ _ _ h => h) (Or.inl ⟨by rfl, ?_⟩) ?_ ?_
  rotate_left
  · intro w'
    go_simp
    with_reducible rfl
  rotate_left
  · simp only [Act.put, List.setIfInBounds_toArray, List.set_cons_zero, List.set_cons_succ, i64_w, i32_w]
    rfl
  refine pure_ (i := 9) (N := some 129) (v := ?_) (a' := ?_) #[true, true, true, true, true, true, true, true, true, true, false, false, false, false, false, false] rfl rfl (by kernel_rfl) (fun _ _ _ h => h) (Or.inl ⟨by rfl, ?_⟩) ?_ ?_
  rotate_left
  · intro w'
    go_simp
    with_reducible rfl
  rotate_left
  · simp only [Act.put, List.setIfInBounds_toArray, List.set_cons_zero, List.set_cons_succ, i64_w, i32_w]
    rfl
  refine take_ (i := 10) (N := some 130) (v := ?_) (a' := ?_) #[true, true, true, true, true, true, true, true, true, true, true, false, false, false, false, false] rfl rfl (by kernel_rfl) (fun _ _ _ h => h) (Or.inl ⟨by rfl, ?_⟩) hHeld ?_ ?_
  rotate_left
  · rintro w' ⟨s0, s1⟩
    go_simp
    with_reducible rfl
  rotate_left
  · simp only [Act.put, List.setIfInBounds_toArray, List.set_cons_zero, List.set_cons_succ, i64_w, i32_w]
    rfl
  refine pure_ (i := 11) (N := some 131) (v := ?_) (a' := ?_) #[true, true, true, true, true, true, true, true, true, true, true, true, false, false, false, false] rfl rfl (by kernel_rfl) (fun _ _ _ h => h) (Or.inl ⟨by rfl, ?_⟩) ?_ ?_
  rotate_left
  · intro w'
    go_simp
    with_reducible rfl
  rotate_left
  · simp only [Act.put, List.setIfInBounds_toArray, List.set_cons_zero, List.set_cons_succ, i64_w, i32_w]
    rfl
  refine one_ (i := 12) (N := some 132) #[true, true, true, true, true, true, true, true, true, true, true, true, true, false, false, false] rfl rfl (by kernel_rfl) (by decide) (fun K hK => ?_)
  refine app_bytes_step base (by rfl) _ _ (by rfl) (.slice A3 n3 c3') (data.take p ++ b) [] none 0 0 (by rfl) (by rfl) X4.out.drew.row HC4.out HB4.out HLN.out ?_
  intro A5 n5 c5 w5 hr5 hg5 ho5
  have O5 := Lib.hid (X4.out.drew.own.grown hg5 NE4.out ND4.out)
  have R5 := Lib.hid hr5
  have M5 := Lib.hid (tch_then M4.out T3.out (((Moves.refl (Tch f d (.slice A3 n3 c3')) W4).drew).grown hg5 (fun i hi => .inr (.inr hi.symm) |> .inl)))
  have T5 := Lib.hid (own_then (w := W) (w1 := W4.drew) M4.out.size T3.out ho5)
  clear hr5 hg5 ho5
  refine hK.out _ _ ⟨O5.out.c4, O5.out.n1⟩ (fun hHeld => ?_)
  clear hK K
  refine norm_ (a' := ?_) ?_ ?_
  rotate_left
  · show Act.put _ (some 132) _ = _
    simp only [Act.put, List.setIfInBounds_toArray, List.set_cons_zero, List.set_cons_succ, i64_w, i32_w]
    rfl
  refine pure_ (i := 13) (N := some 133) (v := ?_) (a' := ?_) #[true, true, true, true, true, true, true, true, true, true, true, true, true, true, false, false] rfl rfl (by kernel_rfl) (fun _ _ _ h => h) (Or.inl ⟨by rfl, ?_⟩) ?_ ?_
  rotate_left
  · intro w'
    go_simp
    with_reducible rfl
  rotate_left
  · simp only [Act.put, List.setIfInBounds_toArray, List.set_cons_zero, List.set_cons_succ, i64_w, i32_w]
    rfl
  refine pure_ (i := 14) (N := some 134) (v := ?_) (a' := ?_) #[true, true, true, true, true, true, true, true, true, true, true, true, true, true, true, false] rfl rfl (by kernel_rfl) (fun _ _ _ h => h) (Or.inl ⟨by rfl, ?_⟩) ?_ ?_
  rotate_left
  · intro w'
    go_simp
    with_reducible rfl
  rotate_left
  · simp only [Act.put, List.setIfInBounds_toArray, List.set_cons_zero, List.set_cons_succ, i64_w, i32_w]
    rfl
  refine last_ (i := 15) (N := none) #[true, true, true, true, true, true, true, true, true, true, true, true, true, true, true, true] rfl rfl (by kernel_rfl) (by decide) (fun K hK => ?_)
  have x1 := O5.out.n1
  have xz := blk_frozen O5.out.hd 1
  refine skip_ (w1 := ?_) (by rfl) rfl ?_ ?_
  rotate_left
  · go_simp
    rfl
  refine hK.out _ _ ?_
  clear x1 xz
  clear hK K
  refine done_ (by kernel_rfl) ?_
  have X6 := Lib.hid (O5.out.set R5.out)
  have M6 := Lib.hid (show Moves (Tch f d v) W (w5.setCell ⟨d, 1, none⟩ (.slice A5 n5 c5)) from M5.out.setCell (p := ⟨d, 1, none⟩) (.inl (.inr (.inl rfl))) _)
  generalize w5.setCell ⟨d, 1, none⟩ (.slice A5 n5 c5) = W6 at *
  have c4 := X6.out.c4
  have c0 := X6.out.c0
  have m5 := X6.out.n5
  have z5 := blk_frozen X6.out.hd 5
  have X7 := Lib.hid (X6.out.setTm 0)
  have k0 := X7.out.c0
  have kz := blk_frozen X7.out.hf 0
  have w8 : IntKind.i64.wrap ((p : Int) + (m : Int)) = (p : Int) + (m : Int) := IntWalk.i64_in _ (by omega)
  go_wp2_with (first | (go_at_call 84; (with_reducible refine (mod84 d 0 tm _ m5 z5).mono ?_); rintro e w' ⟨rfl, rfl⟩))
  go_ret2
  refine ⟨rfl, _, ?_, (M6.out.setCell (p := ⟨d, 5, none⟩) (.inl (.inr (.inl rfl))) _).setCell (p := ⟨f, 0, none⟩) (.inl (.inl rfl)) _, T5.out⟩
  have := X7.out.setPos ((p : Int) + (m : Int))
  simpa using this
set_option maxHeartbeats 2000000 in
set_option maxRecDepth 100000 in
/-- Writing in the midst. -/
theorem write42m (F : Fil f d h n v data base W) (Ab : Option Addr) (m cb p : Nat) (hC : Kd.C (Kd.int .u8) W Ab m b) (hcl : h.cl = false) (hro : h.ro = false) (hp : h.pos = p) (hpl : m + p < data.length) (hdl : data.length ≤ 100000000) (hbs : base ≤ W.heap.size) :
    Calls Tryd.prog 42 #[.pointer (some ⟨f, 0, none⟩), .slice Ab m cb] W fun e w' => e = .returned (.tuple #[.int .i64 m, .nilIface]) ∧ Acts f d { h with pos := p + m } { n with tm := 0 } (data.take p ++ b ++ data.drop (p + m)) base v W w' := by
  obtain ⟨pos, ls, cl, ro⟩ := h
  obtain ⟨nm, vm, dir, md, tm⟩ := n
  simp only at hcl hro hp
  subst hcl hro hp
  have c0 := F.c0
  have c2 := F.c2
  have c3 := F.c3
  have c4 := F.c4
  have n1 := F.n1
  have HF := Lib.hid F
  have HC := Lib.hid hC
  have hbl := HC.out.1
  obtain ⟨len, hlen⟩ : ∃ len, len = data.length := ⟨_, rfl⟩
  rw [← hlen] at hpl hdl
  have HL := Lib.hid hlen
  obtain ⟨g, c, hv, _, _, _⟩ := Kd.R_form F.row (by omega)
  have hcc : data.length ≤ c := (Kd.R_reads' (hv ▸ F.row)).2.1
  rw [hv, ← hlen] at n1
  rw [← hlen] at hcc
  obtain ⟨pe, hpe⟩ : ∃ pe, pe = p + m := ⟨_, rfl⟩
  have w2 : IntKind.i64.wrap ((m : Int) + (p : Int)) = (pe : Int) := by rw [IntWalk.i64_in _ (by omega)]; omega
  have w3 : ((pe : Int) < (len : Int)) := by omega
  have w1 : IntKind.i64.wrap ((p : Int) - (len : Int)) = (p : Int) - (len : Int) := IntWalk.i64_in _ (by omega)
  have w4 : ¬ ((0 : Int) < (p : Int) - (len : Int)) := by omega
  have w5 : (0 : Int) ≤ (p : Int) := by omega
  have w6 : (p : Int) ≤ (c : Int) := by omega
  have w7 : ¬ (c = pe) := by omega
  have w9 : pe ≤ len := by omega
  have HVL := Lib.hid (show v = .slice (some ⟨g, 0, none⟩) len c by rw [hlen]; exact hv)
  have HRW := Lib.hid (show Kd.R (Kd.int .u8) 5 W.drew base (fun _ => True) (.slice (some ⟨g, 0, none⟩) len c) data by have := HF.out.drew.row; rw [HVL.out] at this; exact this)
  have NEF := Lib.hid (show some f ≠ some g by have := HF.out.nef; rw [HVL.out] at this; exact this)
  have NED := Lib.hid (show some d ≠ some g by have := HF.out.ned; rw [HVL.out] at this; exact this)
  have HPM := Lib.hid (show p + m ≤ data.length by rw [← hlen]; omega)
  have HPE := Lib.hid hpe
  have HBL := Lib.hid hbl
  clear F hC hv hlen hbl hpe
  go_enter Tryd.func42, Tryd.ntmps42
  go_wp2_with fail
  have HS0 := Lib.hid (show W.drew.cell? ⟨f, 4, none⟩ = some (.pointer (some ⟨d, 0, none⟩)) ∧ W.drew.cell? ⟨d, 1, none⟩ = some (.slice (some ⟨g, 0, none⟩) len c) from ⟨c4, n1⟩)
  refine start_ (n := 18) (S := fun w' => w'.cell? ⟨f, 4, none⟩ = some (.pointer (some ⟨d, 0, none⟩)) ∧ w'.cell? ⟨d, 1, none⟩ = some (.slice (some ⟨g, 0, none⟩) len c)) (ds := [17]) #[false, false, false, false, false, false, false, false, false, false, false, false, false, false, false, false, false, false] (by kernel_rfl) rfl rfl (by first | exact HS0.out | trivial) (fun hHeld => ?_)
  refine pure_ (i := 0) (N := some 103) (v := ?_) (a' := ?_) #[true, false, false, false, false, false, false, false, false, false, false, false, false, false, false, false, false, false] rfl rfl (by kernel_rfl) (fun _ _ _ h => h) (Or.inl ⟨by rfl, ?_⟩) ?_ ?_
  rotate_left
  · intro w'
    go_simp
    with_reducible rfl
  rotate_left
  · simp only [Act.put, List.setIfInBounds_toArray, List.set_cons_zero, List.set_cons_succ, i64_w, i32_w]
    rfl
  refine pure_ (i := 1) (N := some 104) (v := ?_) (a' := ?_) #[true, true, false, false, false, false, false, false, false, false, false, false, false, false, false, false, false, false] rfl rfl (by kernel_rfl) (fun _ _ _ h => h) (Or.inl ⟨by rfl, ?_⟩) ?_ ?_
  rotate_left
  · intro w'
    go_simp
    with_reducible rfl
  rotate_left
  · simp only [Act.put, List.setIfInBounds_toArray, List.set_cons_zero, List.set_cons_succ, i64_w, i32_w]
    rfl
  refine pure_ (i := 2) (N := some 105) (v := ?_) (a' := ?_) #[true, true, true, false, false, false, false, false, false, false, false, false, false, false, false, false, false, false] rfl rfl (by kernel_rfl) (fun _ _ _ h => h) (Or.inl ⟨by rfl, ?_⟩) ?_ ?_
  rotate_left
  · intro w'
    go_simp
    with_reducible rfl
  rotate_left
  · simp only [Act.put, List.setIfInBounds_toArray, List.set_cons_zero, List.set_cons_succ, i64_w, i32_w]
    rfl
  refine take_ (i := 3) (N := some 106) (v := ?_) (a' := ?_) #[true, true, true, true, false, false, false, false, false, false, false, false, false, false, false, false, false, false] rfl rfl (by kernel_rfl) (fun _ _ _ h => h) (Or.inl ⟨by rfl, ?_⟩) hHeld ?_ ?_
  rotate_left
  · rintro w' ⟨s0, s1⟩
    go_simp
    with_reducible rfl
  rotate_left
  · simp only [Act.put, List.setIfInBounds_toArray, List.set_cons_zero, List.set_cons_succ, i64_w, i32_w]
    rfl
  refine pure_ (i := 4) (N := some 107) (v := ?_) (a' := ?_) #[true, true, true, true, true, false, false, false, false, false, false, false, false, false, false, false, false, false] rfl rfl (by kernel_rfl) (fun _ _ _ h => h) (Or.inl ⟨by rfl, ?_⟩) ?_ ?_
  rotate_left
  · intro w'
    go_simp
    with_reducible rfl
  rotate_left
  · simp only [Act.put, List.setIfInBounds_toArray, List.set_cons_zero, List.set_cons_succ, i64_w, i32_w]
    rfl
  refine pure_ (i := 5) (N := some 108) (v := ?_) (a' := ?_) #[true, true, true, true, true, true, false, false, false, false, false, false, false, false, false, false, false, false] rfl rfl (by kernel_rfl) (fun _ _ _ h => h) (Or.inl ⟨by rfl, ?_⟩) ?_ ?_
  rotate_left
  · intro w'
    go_simp
    with_reducible rfl
  rotate_left
  · simp only [Act.put, List.setIfInBounds_toArray, List.set_cons_zero, List.set_cons_succ, i64_w, i32_w]
    rfl
  refine pure_ (i := 6) (N := some 109) (v := ?_) (a' := ?_) #[true, true, true, true, true, true, true, false, false, false, false, false, false, false, false, false, false, false] rfl rfl (by kernel_rfl) (fun _ _ _ h => h) (Or.inl ⟨by rfl, ?_⟩) ?_ ?_
  rotate_left
  · intro w'
    go_simp
    with_reducible rfl
  rotate_left
  · simp only [Act.put, List.setIfInBounds_toArray, List.set_cons_zero, List.set_cons_succ, i64_w, i32_w]
    rfl
  refine take_ (i := 7) (N := some 110) (v := ?_) (a' := ?_) #[true, true, true, true, true, true, true, true, false, false, false, false, false, false, false, false, false, false] rfl rfl (by kernel_rfl) (fun _ _ _ h => h) (Or.inl ⟨by rfl, ?_⟩) hHeld ?_ ?_
  rotate_left
  · rintro w' ⟨s0, s1⟩
    go_simp
    with_reducible rfl
  rotate_left
  · simp only [Act.put, List.setIfInBounds_toArray, List.set_cons_zero, List.set_cons_succ, i64_w, i32_w]
    rfl
  refine pure_ (i := 8) (N := some 111) (v := ?_) (a' := ?_) #[true, true, true, true, true, true, true, true, true, false, false, false, false, false, false, false, false, false] rfl rfl (by kernel_rfl) (fun _ _ _ h => h) (Or.inl ⟨by rfl, ?_⟩) ?_ ?_
  rotate_left
  · intro w'
    go_simp
    with_reducible rfl
  rotate_left
  · simp only [Act.put, List.setIfInBounds_toArray, List.set_cons_zero, List.set_cons_succ, i64_w, i32_w]
    rfl
  refine pure_ (i := 9) (N := some 112) (v := ?_) (a' := ?_) #[true, true, true, true, true, true, true, true, true, true, false, false, false, false, false, false, false, false] rfl rfl (by kernel_rfl) (fun _ _ _ h => h) (Or.inl ⟨by rfl, ?_⟩) ?_ ?_
  rotate_left
  · intro w'
    go_simp
    with_reducible rfl
  rotate_left
  · simp only [Act.put, List.setIfInBounds_toArray, List.set_cons_zero, List.set_cons_succ, i64_w, i32_w]
    rfl
  refine take_ (i := 10) (N := some 113) (v := ?_) (a' := ?_) #[true, true, true, true, true, true, true, true, true, true, true, false, false, false, false, false, false, false] rfl rfl (by kernel_rfl) (fun _ _ _ h => h) (Or.inl ⟨by rfl, ?_⟩) hHeld ?_ ?_
  rotate_left
  · rintro w' ⟨s0, s1⟩
    go_simp
    with_reducible rfl
  rotate_left
  · simp only [Act.put, List.setIfInBounds_toArray, List.set_cons_zero, List.set_cons_succ, i64_w, i32_w]
    rfl
  refine pure_ (i := 11) (N := some 114) (v := ?_) (a' := ?_) #[true, true, true, true, true, true, true, true, true, true, true, true, false, false, false, false, false, false] rfl rfl (by kernel_rfl) (fun _ _ _ h => h) (Or.inl ⟨by rfl, ?_⟩) ?_ ?_
  rotate_left
  · intro w'
    go_simp
    with_reducible rfl
  rotate_left
  · simp only [Act.put, List.setIfInBounds_toArray, List.set_cons_zero, List.set_cons_succ, i64_w, i32_w]
    rfl
  refine pure_ (i := 12) (N := some 115) (v := ?_) (a' := ?_) #[true, true, true, true, true, true, true, true, true, true, true, true, true, false, false, false, false, false] rfl rfl (by kernel_rfl) (fun _ _ _ h => h) (Or.inl ⟨by rfl, ?_⟩) ?_ ?_
  rotate_left
  · intro w'
    go_simp
    with_reducible rfl
  rotate_left
  · simp only [Act.put, List.setIfInBounds_toArray, List.set_cons_zero, List.set_cons_succ, i64_w, i32_w]
    rfl
  refine pure_ (i := 13) (N := some 116) (v := ?_) (a' := ?_) #[true, true, true, true, true, true, true, true, true, true, true, true, true, true, false, false, false, false] rfl rfl (by kernel_rfl) (fun _ _ _ h => h) (Or.inl ⟨by rfl, ?_⟩) ?_ ?_
  rotate_left
  · intro w'
    go_simp
    with_reducible rfl
  rotate_left
  · simp only [Act.put, List.setIfInBounds_toArray, List.set_cons_zero, List.set_cons_succ, i64_w, i32_w]
    rfl
  refine one_ (i := 14) (N := some 117) #[true, true, true, true, true, true, true, true, true, true, true, true, true, true, true, false, false, false] rfl rfl (by kernel_rfl) (by decide) (fun K hK => ?_)
  refine inplace_step (p := p) (m := m) (base := base) (len := len) (xs := data) (b := b) (by rfl) (by rfl) _ _ (by rfl) HRW.out (Kd.C_drew HC.out) HPM.out (by rfl) (by rfl) ?_
  rw [← HPE.out]
  intro w3' hr3 hg3
  have O3 := Lib.hid (HF.out.drew.own.grown hg3 NEF.out NED.out)
  have RF := Lib.hid hr3
  have R3 := Lib.hid (show Kd.R (Kd.int .u8) 5 w3' base (fun _ => True) (.slice (some ⟨g, 0, none⟩) pe c) (data.take p ++ b) from mid_take hr3 HBL.out HPM.out HPE.out)
  have M3 := Lib.hid (show Moves (Tch f d v) W w3' from ((Moves.refl _ _).drew).grown hg3 (fun i hi => .inl (.inr (.inr (by rw [HVL.out]; exact hi.symm)))))
  have T3 := Lib.hid (show (Value.slice (some ⟨g, 0, none⟩) pe c).ownBlock = v.ownBlock ∨ ∃ b, (Value.slice (some ⟨g, 0, none⟩) pe c).ownBlock = some b ∧ W.heap.size ≤ b from .inl (by rw [HVL.out]; rfl))
  clear hr3 hg3
  refine hK.out _ _ ⟨O3.out.c4, by rw [← HVL.out]; exact O3.out.n1⟩ (fun hHeld => ?_)
  clear hK K
  refine norm_ (a' := ?_) ?_ ?_
  rotate_left
  · show Act.put _ (some 117) _ = _
    simp only [Act.put, List.setIfInBounds_toArray, List.set_cons_zero, List.set_cons_succ, i64_w, i32_w]
    rfl
  refine pure_ (i := 15) (N := some 118) (v := ?_) (a' := ?_) #[true, true, true, true, true, true, true, true, true, true, true, true, true, true, true, true, false, false] rfl rfl (by kernel_rfl) (fun _ _ _ h => h) (Or.inl ⟨by rfl, ?_⟩) ?_ ?_
  rotate_left
  · intro w'
    go_simp
    with_reducible rfl
  rotate_left
  · simp only [Act.put, List.setIfInBounds_toArray, List.set_cons_zero, List.set_cons_succ, i64_w, i32_w]
    rfl
  refine pure_ (i := 16) (N := some 119) (v := ?_) (a' := ?_) #[true, true, true, true, true, true, true, true, true, true, true, true, true, true, true, true, true, false] rfl rfl (by kernel_rfl) (fun _ _ _ h => h) (Or.inl ⟨by rfl, ?_⟩) ?_ ?_
  rotate_left
  · intro w'
    go_simp
    with_reducible rfl
  rotate_left
  · simp only [Act.put, List.setIfInBounds_toArray, List.set_cons_zero, List.set_cons_succ, i64_w, i32_w]
    rfl
  refine last_ (i := 17) (N := none) #[true, true, true, true, true, true, true, true, true, true, true, true, true, true, true, true, true, true] rfl rfl (by kernel_rfl) (by decide) (fun K hK => ?_)
  have x1 := O3.out.n1
  have xz := blk_frozen O3.out.hd 1
  refine skip_ (w1 := ?_) (by rfl) rfl ?_ ?_
  rotate_left
  · go_simp
    rfl
  refine hK.out _ _ ?_
  clear x1 xz
  clear hK K
  refine done_ (by kernel_rfl) ?_
  have RF4 := Lib.hid (Kd.R_set RF.out O3.out.hd (Fil.types 92 (.inr rfl)) 1 (.slice (some ⟨g, 0, none⟩) pe c))
  have X4 := Lib.hid (O3.out.set R3.out)
  have M4 := Lib.hid (show Moves (Tch f d v) W (w3'.setCell ⟨d, 1, none⟩ (.slice (some ⟨g, 0, none⟩) pe c)) from M3.out.setCell (p := ⟨d, 1, none⟩) (.inl (.inr (.inl rfl))) _)
  go_wp2_with fail
  generalize w3'.setCell ⟨d, 1, none⟩ (.slice (some ⟨g, 0, none⟩) pe c) = W4 at *
  clear HS0
  have HS0 := Lib.hid (show W4.drew.cell? ⟨f, 4, none⟩ = some (.pointer (some ⟨d, 0, none⟩)) ∧ W4.drew.cell? ⟨d, 1, none⟩ = some (.slice (some ⟨g, 0, none⟩) pe c) from ⟨X4.out.c4, X4.out.n1⟩)
  have NE4 := Lib.hid X4.out.nef
  have ND4 := Lib.hid X4.out.ned
  have HB4 := Lib.hid (show base ≤ W4.drew.heap.size from Nat.le_trans hbs M4.out.size)
  have HC4 := Lib.hid (show Kd.C (Kd.int .u8) W4.drew (some ⟨g, pe, none⟩) (len - pe) (data.drop (p + m)) from mid_tail RF4.out HBL.out HPM.out HPE.out HL.out)
  have HLN := Lib.hid (show (data.take p ++ b).length + (len - pe) ≤ 140737488355328 by rw [List.length_append, List.length_take, HBL.out]; omega)
  refine start_ (n := 16) (S := fun w' => w'.cell? ⟨f, 4, none⟩ = some (.pointer (some ⟨d, 0, none⟩)) ∧ w'.cell? ⟨d, 1, none⟩ = some (.slice (some ⟨g, 0, none⟩) pe c)) (ds := [15]) #[false, false, false, false, false, false, false, false, false, false, false, false, false, false, false, false] (by kernel_rfl) rfl rfl (by first | exact HS0.out | trivial) (fun hHeld => ?_)
  refine pure_ (i := 0) (N := some 120) (v := ?_) (a' := ?_) #[true, false, false, false, false, false, false, false, false, false, false, false, false, false, false, false] rfl rfl (by kernel_rfl) (fun _ _ _ h => h) (Or.inl ⟨by rfl, ?_⟩) ?_ ?_
  rotate_left
  · intro w'
    go_simp
    with_reducible rfl
  rotate_left
  · simp only [Act.put, List.setIfInBounds_toArray, List.set_cons_zero, List.set_cons_succ, i64_w, i32_w]
    rfl
  refine pure_ (i := 1) (N := some 121) (v := ?_) (a' := ?_) #[true, true, false, false, false, false, false, false, false, false, false, false, false, false, false, false] rfl rfl (by kernel_rfl) (fun _ _ _ h => h) (Or.inl ⟨by rfl, ?_⟩) ?_ ?_
  rotate_left
  · intro w'
    go_simp
    with_reducible rfl
  rotate_left
  · simp only [Act.put, List.setIfInBounds_toArray, List.set_cons_zero, List.set_cons_succ, i64_w, i32_w]
    rfl
  refine pure_ (i := 2) (N := some 122) (v := ?_) (a' := ?_) #[true, true, true, false, false, false, false, false, false, false, false, false, false, false, false, false] rfl rfl (by kernel_rfl) (fun _ _ _ h => h) (Or.inl ⟨by rfl, ?_⟩) ?_ ?_
  rotate_left
  · intro w'
    go_simp
    with_reducible rfl
  rotate_left
  · simp only [Act.put, List.setIfInBounds_toArray, List.set_cons_zero, List.set_cons_succ, i64_w, i32_w]
    rfl
  refine take_ (i := 3) (N := some 123) (v := ?_) (a' := ?_) #[true, true, true, true, false, false, false, false, false, false, false, false, false, false, false, false] rfl rfl (by kernel_rfl) (fun _ _ _ h => h) (Or.inl ⟨by rfl, ?_⟩) hHeld ?_ ?_
  rotate_left
  · rintro w' ⟨s0, s1⟩
    go_simp
    with_reducible rfl
  rotate_left
  · simp only [Act.put, List.setIfInBounds_toArray, List.set_cons_zero, List.set_cons_succ, i64_w, i32_w]
    rfl
  refine pure_ (i := 4) (N := some 124) (v := ?_) (a' := ?_) #[true, true, true, true, true, false, false, false, false, false, false, false, false, false, false, false] rfl rfl (by kernel_rfl) (fun _ _ _ h => h) (Or.inl ⟨by rfl, ?_⟩) ?_ ?_
  rotate_left
  · intro w'
    go_simp
    with_reducible rfl
  rotate_left
  · simp only [Act.put, List.setIfInBounds_toArray, List.set_cons_zero, List.set_cons_succ, i64_w, i32_w]
    rfl
  refine pure_ (i := 5) (N := some 125) (v := ?_) (a' := ?_) #[true, true, true, true, true, true, false, false, false, false, false, false, false, false, false, false] rfl rfl (by kernel_rfl) (fun _ _ _ h => h) (Or.inl ⟨by rfl, ?_⟩) ?_ ?_
  rotate_left
  · intro w'
    go_simp
    with_reducible rfl
  rotate_left
  · simp only [Act.put, List.setIfInBounds_toArray, List.set_cons_zero, List.set_cons_succ, i64_w, i32_w]
    rfl
  refine pure_ (i := 6) (N := some 126) (v := ?_) (a' := ?_) #[true, true, true, true, true, true, true, false, false, false, false, false, false, false, false, false] rfl rfl (by kernel_rfl) (fun _ _ _ h => h) (Or.inl ⟨by rfl, ?_⟩) ?_ ?_
  rotate_left
  · intro w'
    go_simp
    with_reducible rfl
  rotate_left
  · simp only [Act.put, List.setIfInBounds_toArray, List.set_cons_zero, List.set_cons_succ, i64_w, i32_w]
    rfl
  refine take_ (i := 7) (N := some 127) (v := ?_) (a' := ?_) #[true, true, true, true, true, true, true, true, false, false, false, false, false, false, false, false] rfl rfl (by kernel_rfl) (fun _ _ _ h => h) (Or.inl ⟨by rfl, ?_⟩) hHeld ?_ ?_
  rotate_left
  · rintro w' ⟨s0, s1⟩
    go_simp
    with_reducible rfl
  rotate_left
  · simp only [Act.put, List.setIfInBounds_toArray, List.set_cons_zero, List.set_cons_succ, i64_w, i32_w]
    rfl
  refine pure_ (i := 8) (N := some 128) (v := ?_) (a' := ?_) #[true, true, true, true, true, true, true, true, true, false, false, false, false, false, false, false] rfl rfl (by kernel_rfl) (fun _ _ _ h => h) (Or.inl ⟨by rfl, ?_⟩) ?_ ?_
  rotate_left
  · intro w'
    go_simp
    with_reducible rfl
  rotate_left
  · simp only [Act.put, List.setIfInBounds_toArray, List.set_cons_zero, List.set_cons_succ, i64_w, i32_w]
    rfl
  refine pure_ (i := 9) (N := some 129) (v := ?_) (a' := ?_) #[true, true, true, true, true, true, true, true, true, true, false, false, false, false, false, false] rfl rfl (by kernel_rfl) (fun _ _ _ h => h) (Or.inl ⟨by rfl, ?_⟩) ?_ ?_
  rotate_left
  · intro w'
    go_simp
    with_reducible rfl
  rotate_left
  · simp only [Act.put, List.setIfInBounds_toArray, List.set_cons_zero, List.set_cons_succ, i64_w, i32_w]
    rfl
  refine take_ (i := 10) (N := some 130) (v := ?_) (a' := ?_) #[true, true, true, true, true, true, true, true, true, true, true, false, false, false, false, false] rfl rfl (by kernel_rfl) (fun _ _ _ h => h) (Or.inl ⟨by rfl, ?_⟩) hHeld ?_ ?_
  rotate_left
  · rintro w' ⟨s0, s1⟩
    go_simp
    with_reducible rfl
  rotate_left
  · simp only [Act.put, List.setIfInBounds_toArray, List.set_cons_zero, List.set_cons_succ, i64_w, i32_w]
    rfl
  refine pure_ (i := 11) (N := some 131) (v := ?_) (a' := ?_) #[true, true, true, true, true, true, true, true, true, true, true, true, false, false, false, false] rfl rfl (by kernel_rfl) (fun _ _ _ h => h) (Or.inl ⟨by rfl, ?_⟩) ?_ ?_
  rotate_left
  · intro w'
    go_simp
    with_reducible rfl
  rotate_left
  · simp only [Act.put, List.setIfInBounds_toArray, List.set_cons_zero, List.set_cons_succ, i64_w, i32_w]
    rfl
  refine one_ (i := 12) (N := some 132) #[true, true, true, true, true, true, true, true, true, true, true, true, true, false, false, false] rfl rfl (by kernel_rfl) (by decide) (fun K hK => ?_)
  refine app_bytes_step base (by rfl) _ _ (by rfl) (.slice (some ⟨g, 0, none⟩) pe c) (data.take p ++ b) (data.drop (p + m)) (some ⟨g, pe, none⟩) (len - pe) (c - pe) (by rfl) (by rfl) X4.out.drew.row HC4.out HB4.out HLN.out ?_
  intro A5 n5 c5 w5 hr5 hg5 ho5
  have O5 := Lib.hid (X4.out.drew.own.grown hg5 NE4.out ND4.out)
  have R5 := Lib.hid hr5
  have M5 := Lib.hid (tch_then M4.out T3.out (((Moves.refl (Tch f d (.slice (some ⟨g, 0, none⟩) pe c)) W4).drew).grown hg5 (fun i hi => .inr (.inr hi.symm) |> .inl)))
  have T5 := Lib.hid (own_then (w := W) (w1 := W4.drew) M4.out.size T3.out ho5)
  clear hr5 hg5 ho5
  refine hK.out _ _ ⟨O5.out.c4, O5.out.n1⟩ (fun hHeld => ?_)
  clear hK K
  refine norm_ (a' := ?_) ?_ ?_
  rotate_left
  · show Act.put _ (some 132) _ = _
    simp only [Act.put, List.setIfInBounds_toArray, List.set_cons_zero, List.set_cons_succ, i64_w, i32_w]
    rfl
  refine pure_ (i := 13) (N := some 133) (v := ?_) (a' := ?_) #[true, true, true, true, true, true, true, true, true, true, true, true, true, true, false, false] rfl rfl (by kernel_rfl) (fun _ _ _ h => h) (Or.inl ⟨by rfl, ?_⟩) ?_ ?_
  rotate_left
  · intro w'
    go_simp
    with_reducible rfl
  rotate_left
  · simp only [Act.put, List.setIfInBounds_toArray, List.set_cons_zero, List.set_cons_succ, i64_w, i32_w]
    rfl
  refine pure_ (i := 14) (N := some 134) (v := ?_) (a' := ?_) #[true, true, true, true, true, true, true, true, true, true, true, true, true, true, true, false] rfl rfl (by kernel_rfl) (fun _ _ _ h => h) (Or.inl ⟨by rfl, ?_⟩) ?_ ?_
  rotate_left
  · intro w'
    go_simp
    with_reducible rfl
  rotate_left
  · simp only [Act.put, List.setIfInBounds_toArray, List.set_cons_zero, List.set_cons_succ, i64_w, i32_w]
    rfl
  refine last_ (i := 15) (N := none) #[true, true, true, true, true, true, true, true, true, true, true, true, true, true, true, true] rfl rfl (by kernel_rfl) (by decide) (fun K hK => ?_)
  have x1 := O5.out.n1
  have xz := blk_frozen O5.out.hd 1
  refine skip_ (w1 := ?_) (by rfl) rfl ?_ ?_
  rotate_left
  · go_simp
    rfl
  refine hK.out _ _ ?_
  clear x1 xz
  clear hK K
  refine done_ (by kernel_rfl) ?_
  have X6 := Lib.hid (O5.out.set R5.out)
  have M6 := Lib.hid (show Moves (Tch f d v) W (w5.setCell ⟨d, 1, none⟩ (.slice A5 n5 c5)) from M5.out.setCell (p := ⟨d, 1, none⟩) (.inl (.inr (.inl rfl))) _)
  generalize w5.setCell ⟨d, 1, none⟩ (.slice A5 n5 c5) = W6 at *
  have c4 := X6.out.c4
  have c0 := X6.out.c0
  have m5 := X6.out.n5
  have z5 := blk_frozen X6.out.hd 5
  have X7 := Lib.hid (X6.out.setTm 0)
  have k0 := X7.out.c0
  have kz := blk_frozen X7.out.hf 0
  have w8 : IntKind.i64.wrap ((p : Int) + (m : Int)) = (p : Int) + (m : Int) := IntWalk.i64_in _ (by omega)
  go_wp2_with (first | (go_at_call 84; (with_reducible refine (mod84 d 0 tm _ m5 z5).mono ?_); rintro e w' ⟨rfl, rfl⟩))
  go_ret2
  refine ⟨rfl, _, ?_, (M6.out.setCell (p := ⟨d, 5, none⟩) (.inl (.inr (.inl rfl))) _).setCell (p := ⟨f, 0, none⟩) (.inl (.inl rfl)) _, T5.out⟩
  have := X7.out.setPos ((p : Int) + (m : Int))
  exact this
end
end Go.Proofs.YtljcdjggjphedaaDoor.Hd
namespace Go.Proofs.YtljcdjggjphedaaDoor.Hd
open Go.RowKit Go.Proofs.YtljcdjggjphedaaDoorW.PrintWords Go.Proofs.YtljcdjggjphedaaDoorW.PrintLast Go.Proofs.YtljcdjggjphedaaDoorW.PrintMore
open Go.Proofs.YtljcdjggjphedaaDoor.PFnHandleScript
set_option linter.unusedVariables false
set_option linter.unusedSimpArgs false
/-- An answer, its parts in blocks from base on that are ok. -/
def Ans (base : Nat) (ok : Nat → Prop) (x : S33) (e : Ending) (w' : World) : Prop :=
  ∃ v3 v4 v5, e = .returned (.agg #[.int .i64 x.f0, .int .i64 x.f1, .int .i64 x.f2, v3, v4, v5]) ∧ (Kd.int .u8).R 5 w' base ok v3 x.f3 ∧ Kd.string.R 9 w' base ok v4 x.f4 ∧ k75.R 75 w' base ok v5 x.f5
/-- What a step on an open file answers and leaves. -/
def Stp (f d : Nat) (h : Hnd) (n : Nod) (data : List Int) (base : Nat) (v : Value) (x : S33) (w : World) (e : Ending) (w' : World) : Prop :=
  ∃ v', Ans w.heap.size (fun k => some k ≠ v'.ownBlock) x e w' ∧ Fil f d h n v' data base w' ∧ Moves (Tch f d v) w w' ∧ (v'.ownBlock = v.ownBlock ∨ ∃ b, v'.ownBlock = some b ∧ w.heap.size ≤ b)
def ans (e n off : Int) (data : List Int) : S33 := ⟨e, n, off, data, [], []⟩
/-- A step's fields. -/
def stepV (op : Int) (nm ot : ByteArray) (fl pe hh : Int) (dv : Value) (off wh n : Int) : Value := .agg #[.int .i64 op, .string nm, .string ot, .int .i64 fl, .int .i64 pe, .int .i64 hh, dv, .int .i64 off, .int .i64 wh, .int .i64 n]
theorem blk_at_ {w : World} {o : Obj} {g : Nat} (h : w.heap.size = g) : (w.alloc o).heap[g]? = some o := h ▸ blk_new w o
section
variable {f d base : Nat} {h : Hnd} {n : Nod} {v : Value} {data b : List Int} {W : World}
theorem Fil.lt (F : Fil f d h n v data base W) : ∀ k, Tch f d v k → k < W.heap.size := by
  intro k hk
  rcases hk with rfl | rfl | hk
  · exact blk_lt F.hf
  · exact blk_lt F.hd
  · exact Kd.R_lt F.row k hk.symm
theorem moves_new {WX w1 : World} (F : Fil f d h n v data base W) (hA : Moves (Tch f d v) WX w1) (g : Nat) (hg : W.heap.size ≤ g) (hlt : g < WX.heap.size) :
    (∀ i, w1.cell? ⟨g, i, none⟩ = WX.cell? ⟨g, i, none⟩) ∧ (∀ i, w1.frozen? ⟨g, i, none⟩ = WX.frozen? ⟨g, i, none⟩) := by
  have := hA.block g hlt (fun ht => by have := F.lt g ht; omega)
  exact ⟨fun i => World.cell?_of_block (a := ⟨g, i, none⟩) this, fun i => World.frozen?_of_block (a := ⟨g, i, none⟩) this⟩
theorem moves_ne {WX w1 : World} {h' : Hnd} {n' : Nod} {v1 : Value} {data' : List Int} (F : Fil f d h n v data base W) (hX : Fil f d h' n' v1 data' base w1) (hA : Moves (Tch f d v) WX w1) (g : Nat) (hg : W.heap.size ≤ g) {cs : Array Value} {t : TypeId} (hb : WX.heap[g]? = some (.cells cs t (0, 0))) (ht : 5 ≠ t) :
    v1.ownBlock ≠ some g := by
  have hb1 : w1.heap[g]? = some (.cells cs t (0, 0)) := (hA.block g (blk_lt hb) (fun ht => by have := F.lt g ht; omega)).trans hb
  exact fun e => Kd.R_ne hX.row hb1 ht e.symm
theorem own_up {v1 v : Value} {w WX : World} (h : v1.ownBlock = v.ownBlock ∨ ∃ b, v1.ownBlock = some b ∧ WX.heap.size ≤ b) (hb : Below w.heap.size w WX) : v1.ownBlock = v.ownBlock ∨ ∃ b, v1.ownBlock = some b ∧ w.heap.size ≤ b := by
  rcases h with h | ⟨b, e, hl⟩
  · exact .inl h
  · exact .inr ⟨b, e, Nat.le_trans hb.size hl⟩
theorem moves_from {w WX w1 : World} (hA : Moves (Tch f d v) WX w1) (hb : Below w.heap.size w WX) : Moves (Tch f d v) w w1 := (Moves.of_below hb _).then_ hA (fun i hi => .inl hi)
theorem Fil.setFar (F : Fil f d h n v data base W) {g : Nat} (hf : f ≠ g) (hd : d ≠ g) (ho : v.ownBlock ≠ some g) (j : Nat) (u : Value) : Fil f d h n v data base (W.setCell ⟨g, j, none⟩ u) :=
  ⟨blk_far F.hf hf _, blk_far F.hd hd _, Kd.R_mono (Kd.R_far (Kd.R_tight rfl F.row) (fun k hk e => ho (by rw [← hk, e])) u) (fun _ _ => trivial)⟩
theorem Fil.nef' (F : Fil f d h n v data base W) {g : Nat} (hg : W.heap.size ≤ g) : f ≠ g := by have := blk_lt F.hf; omega
theorem Fil.ned' (F : Fil f d h n v data base W) {g : Nat} (hg : W.heap.size ≤ g) : d ≠ g := by have := blk_lt F.hd; omega
theorem Fil.nev' (F : Fil f d h n v data base W) {g : Nat} (hg : W.heap.size ≤ g) : v.ownBlock ≠ some g := fun e => by have := Kd.R_lt F.row g e; omega
/-- The errors that have a name lie below base; the file's blocks do not. -/
structure SentB (A : Nat → Addr) (B : Nat) (W : World) : Prop where
  sent : Sent A W
  le : 11 ≤ B
  lt : ∀ k, k < 11 → (A k).block < B
theorem SentB.moves {A : Nat → Addr} {S : Nat → Prop} {w w1 : World} (h : SentB A base w) (hM : Moves S w w1) (hs : ∀ k, S k → base ≤ k) (hb : base ≤ w.heap.size) : SentB A base w1 :=
  ⟨⟨fun k hk => (World.cell?_of_block (a := ⟨k, 0, none⟩) (hM.block k (by have := h.le; omega) (fun hS => by have := hs k hS; have := h.le; omega))).trans (h.sent.var k hk), fun k hk => by
    obtain ⟨c, t, e⟩ := h.sent.blk k hk
    exact ⟨c, t, (hM.block _ (blk_lt e) (fun hS => by have := hs _ hS; have := h.lt k hk; omega)).trans e⟩, h.sent.inj⟩, h.le, h.lt⟩
theorem Fil.tch (F : Fil f d h n v data base W) (hf : base ≤ f) (hd : base ≤ d) : ∀ k, Tch f d v k → base ≤ k := by
  rintro k (rfl | rfl | hk)
  · exact hf
  · exact hd
  · exact Kd.R_base F.row k hk.symm
theorem Acts.below {w' : World} (F : Fil f d h n v data base W) (hb : Below W.heap.size W w') : Acts f d h n data base v W w' := ⟨v, F.below hb, Moves.of_below hb _, .inl rfl⟩
set_option maxHeartbeats 1000000 in
set_option maxRecDepth 100000 in
theorem on_seek (F : Fil f d h n v data base W) (off wh N : Int) (nm ot : ByteArray) (fl pe hh : Int) (Ad : Option Addr) (md cd : Nat) (hcl : h.cl = false) (hp1 : -4611686018427387904 ≤ h.pos) (hp2 : h.pos ≤ 4611686018427387904) (ho1 : -4611686018427387904 ≤ off) (ho2 : off ≤ 4611686018427387903) (hl : data.length ≤ 4611686018427387904) :
    Calls Tryd.prog 27 #[.pointer (some ⟨f, 0, none⟩), stepV 16 nm ot fl pe hh (.slice Ad md cd) off wh N] W (Stp f d { h with pos := seekTo h.pos data.length off wh } n data base v (ans 0 0 (seekTo h.pos data.length off wh) []) W) := by
  have HF := Lib.hid F
  have HC := Lib.hid (fun W1 (hb : Below W.heap.size W W1) => seek44 (F.below hb) off wh hcl hp1 hp2 ho1 ho2 hl)
  have HK := Lib.hid (fun W1 => kind_nil W1)
  unfold stepV
  clear F
  generalize seekTo h.pos data.length off wh = sk at *
  go_enter Tryd.func27, Tryd.ntmps27
  go_wp2_with (first | (go_at_call 44; (refine (HC.out _ ?_).mono ?_); (repeat (first | exact Below.refl _ _ | apply below_alloc | apply below_drew)); rintro e w1 ⟨rfl, v1, hX, hM, hO⟩; have HX := Lib.hid hX; have HM := Lib.hid hM; have HO := Lib.hid (own_up hO (w := W) (by repeat (first | exact Below.refl _ _ | apply below_alloc | apply below_drew))); have NE5 := Lib.hid (moves_ne HF.out hX hM (W.heap.size + 1 + 1) (by omega) (t := 33) (blk_at_ (by simp)) (by decide)); have NE4 := Lib.hid (moves_ne HF.out hX hM (W.heap.size + 1) (by omega) (t := 33) (blk_alloc (blk_at_ (by simp)) _) (by decide)); have MW := Lib.hid (moves_from hM (w := W) (by repeat (first | exact Below.refl _ _ | apply below_alloc | apply below_drew))); obtain ⟨kc5, kz5⟩ := moves_new HF.out hM (W.heap.size + 1 + 1) (by omega) (by simp); obtain ⟨kc4, kz4⟩ := moves_new HF.out hM (W.heap.size + 1) (by omega) (by simp); clear hX hM hO) | (go_at_call 53; (with_reducible refine (HK.out _).mono ?_); rintro e w' ⟨rfl, rfl⟩))
  refine bodyPost_ret (v := .agg #[.int .i64 0, .int .i64 0, .int .i64 sk, .slice none 0 0, .slice none 0 0, .slice none 0 0]) (by simp [results, Tryd.results27, go_sem, kc4, kc5]) rfl ?_
  exact ⟨v1, ⟨_, _, _, rfl, Kd.R_nil _ _ _ _ _, Kd.R_nil _ _ _ _ _, Kd.R_nil _ _ _ _ _⟩, (by repeat (first | with_reducible exact HX.out | with_reducible refine Fil.setFar ?_ (HF.out.nef' (by omega)) (HF.out.ned' (by omega)) NE4.out _ _ | with_reducible refine Fil.setFar ?_ (HF.out.nef' (by omega)) (HF.out.ned' (by omega)) NE5.out _ _)), (by repeat (first | with_reducible exact MW.out | with_reducible refine Moves.setCell (p := ⟨W.heap.size + 1, _, none⟩) ?_ (.inr (by show W.heap.size ≤ W.heap.size + 1; omega)) _ | with_reducible refine Moves.setCell (p := ⟨W.heap.size + 1 + 1, _, none⟩) ?_ (.inr (by show W.heap.size ≤ W.heap.size + 1 + 1; omega)) _)), HO.out⟩
set_option maxHeartbeats 1000000 in
set_option maxRecDepth 100000 in
theorem on_seekc (F : Fil f d h n v data base W) (off wh N : Int) (nm ot : ByteArray) (fl pe hh : Int) (Ad : Option Addr) (md cd : Nat) (A : Nat → Addr) (hS : SentB A base W) (hf : base ≤ f) (hd : base ≤ d) (hcl : h.cl = true) :
    Calls Tryd.prog 27 #[.pointer (some ⟨f, 0, none⟩), stepV 16 nm ot fl pe hh (.slice Ad md cd) off wh N] W (Stp f d h n data base v (ans 3 0 0 []) W) := by
  have HF := Lib.hid F
  have HSM := Lib.hid (fun w1 (hM : Moves (Tch f d v) W w1) => (hS.moves hM (F.tch hf hd) (Nat.le_trans hf (Nat.le_of_lt (blk_lt F.hf)))).sent)
  have HC := Lib.hid (fun W1 (hb : Below W.heap.size W W1) => (seek44c (F.below hb) A (hS.sent.later hb) off wh hcl).mono (fun e w' q => (⟨q.1, Acts.below (F.below hb) q.2⟩ : e = .returned (.tuple #[.int .i64 0, .iface 149 (.pointer (some (A 0)))]) ∧ Acts f d h n data base v W1 w')))
  unfold stepV
  clear F hS
  go_enter Tryd.func27, Tryd.ntmps27
  go_wp2_with (first | (go_at_call 44; (refine (HC.out _ ?_).mono ?_); (repeat (first | exact Below.refl _ _ | apply below_alloc | apply below_drew)); rintro e w1 ⟨rfl, v1, hX, hM, hO⟩; have HX := Lib.hid hX; have HM := Lib.hid hM; have HO := Lib.hid (own_up hO (w := W) (by repeat (first | exact Below.refl _ _ | apply below_alloc | apply below_drew))); have NE5 := Lib.hid (moves_ne HF.out hX hM (W.heap.size + 1 + 1) (by omega) (t := 33) (blk_at_ (by simp)) (by decide)); have NE4 := Lib.hid (moves_ne HF.out hX hM (W.heap.size + 1) (by omega) (t := 33) (blk_alloc (blk_at_ (by simp)) _) (by decide)); have MW := Lib.hid (moves_from hM (w := W) (by repeat (first | exact Below.refl _ _ | apply below_alloc | apply below_drew))); obtain ⟨kc5, kz5⟩ := moves_new HF.out hM (W.heap.size + 1 + 1) (by omega) (by simp); obtain ⟨kc4, kz4⟩ := moves_new HF.out hM (W.heap.size + 1) (by omega) (by simp); clear hX hM hO) | (go_at_call 53; (refine (kind_s0 A _ (HSM.out _ ?_)).mono ?_); (exact (by repeat (first | with_reducible exact MW.out | with_reducible refine Moves.setCell (p := ⟨W.heap.size + 1, _, none⟩) ?_ (.inr (by show W.heap.size ≤ W.heap.size + 1; omega)) _ | with_reducible refine Moves.setCell (p := ⟨W.heap.size + 1 + 1, _, none⟩) ?_ (.inr (by show W.heap.size ≤ W.heap.size + 1 + 1; omega)) _))); rintro e w' ⟨rfl, rfl⟩))
  refine bodyPost_ret (v := .agg #[.int .i64 3, .int .i64 0, .int .i64 0, .slice none 0 0, .slice none 0 0, .slice none 0 0]) (by simp [results, Tryd.results27, go_sem, kc4, kc5]) rfl ?_
  exact ⟨v1, ⟨_, _, _, rfl, Kd.R_nil _ _ _ _ _, Kd.R_nil _ _ _ _ _, Kd.R_nil _ _ _ _ _⟩, (by repeat (first | with_reducible exact HX.out | with_reducible refine Fil.setFar ?_ (HF.out.nef' (by omega)) (HF.out.ned' (by omega)) NE4.out _ _ | with_reducible refine Fil.setFar ?_ (HF.out.nef' (by omega)) (HF.out.ned' (by omega)) NE5.out _ _)), (by repeat (first | with_reducible exact MW.out | with_reducible refine Moves.setCell (p := ⟨W.heap.size + 1, _, none⟩) ?_ (.inr (by show W.heap.size ≤ W.heap.size + 1; omega)) _ | with_reducible refine Moves.setCell (p := ⟨W.heap.size + 1 + 1, _, none⟩) ?_ (.inr (by show W.heap.size ≤ W.heap.size + 1 + 1; omega)) _)), HO.out⟩
set_option maxHeartbeats 1000000 in
set_option maxRecDepth 100000 in
theorem on_truncc (F : Fil f d h n v data base W) (off wh N : Int) (nm ot : ByteArray) (fl pe hh : Int) (Ad : Option Addr) (md cd : Nat) (A : Nat → Addr) (hS : SentB A base W) (hf : base ≤ f) (hd : base ≤ d) (hcl : h.cl = true) :
    Calls Tryd.prog 27 #[.pointer (some ⟨f, 0, none⟩), stepV 17 nm ot fl pe hh (.slice Ad md cd) off wh N] W (Stp f d h n data base v (ans 3 0 0 []) W) := by
  have HF := Lib.hid F
  have HSM := Lib.hid (fun w1 (hM : Moves (Tch f d v) W w1) => (hS.moves hM (F.tch hf hd) (Nat.le_trans hf (Nat.le_of_lt (blk_lt F.hf)))).sent)
  have HC := Lib.hid (fun W1 (hb : Below W.heap.size W W1) => (trunc45c (F.below hb) A (hS.sent.later hb) off hcl).mono (fun e w' q => (⟨q.1, Acts.below (F.below hb) q.2⟩ : e = .returned (.iface 149 (.pointer (some (A 0)))) ∧ Acts f d h n data base v W1 w')))
  unfold stepV
  clear F hS
  go_enter Tryd.func27, Tryd.ntmps27
  go_wp2_with (first | (go_at_call 45; (refine (HC.out _ ?_).mono ?_); (repeat (first | exact Below.refl _ _ | apply below_alloc | apply below_drew)); rintro e w1 ⟨rfl, v1, hX, hM, hO⟩; have HX := Lib.hid hX; have HM := Lib.hid hM; have HO := Lib.hid (own_up hO (w := W) (by repeat (first | exact Below.refl _ _ | apply below_alloc | apply below_drew))); have NE5 := Lib.hid (moves_ne HF.out hX hM (W.heap.size + 1 + 1) (by omega) (t := 33) (blk_at_ (by simp)) (by decide)); have NE4 := Lib.hid (moves_ne HF.out hX hM (W.heap.size + 1) (by omega) (t := 33) (blk_alloc (blk_at_ (by simp)) _) (by decide)); have MW := Lib.hid (moves_from hM (w := W) (by repeat (first | exact Below.refl _ _ | apply below_alloc | apply below_drew))); obtain ⟨kc5, kz5⟩ := moves_new HF.out hM (W.heap.size + 1 + 1) (by omega) (by simp); obtain ⟨kc4, kz4⟩ := moves_new HF.out hM (W.heap.size + 1) (by omega) (by simp); clear hX hM hO) | (go_at_call 53; (refine (kind_s0 A _ (HSM.out _ ?_)).mono ?_); (exact (by repeat (first | with_reducible exact MW.out | with_reducible refine Moves.setCell (p := ⟨W.heap.size + 1, _, none⟩) ?_ (.inr (by show W.heap.size ≤ W.heap.size + 1; omega)) _ | with_reducible refine Moves.setCell (p := ⟨W.heap.size + 1 + 1, _, none⟩) ?_ (.inr (by show W.heap.size ≤ W.heap.size + 1 + 1; omega)) _))); rintro e w' ⟨rfl, rfl⟩))
  refine bodyPost_ret (v := .agg #[.int .i64 3, .int .i64 0, .int .i64 0, .slice none 0 0, .slice none 0 0, .slice none 0 0]) (by simp [results, Tryd.results27, go_sem, kc4, kc5]) rfl ?_
  exact ⟨v1, ⟨_, _, _, rfl, Kd.R_nil _ _ _ _ _, Kd.R_nil _ _ _ _ _, Kd.R_nil _ _ _ _ _⟩, (by repeat (first | with_reducible exact HX.out | with_reducible refine Fil.setFar ?_ (HF.out.nef' (by omega)) (HF.out.ned' (by omega)) NE4.out _ _ | with_reducible refine Fil.setFar ?_ (HF.out.nef' (by omega)) (HF.out.ned' (by omega)) NE5.out _ _)), (by repeat (first | with_reducible exact MW.out | with_reducible refine Moves.setCell (p := ⟨W.heap.size + 1, _, none⟩) ?_ (.inr (by show W.heap.size ≤ W.heap.size + 1; omega)) _ | with_reducible refine Moves.setCell (p := ⟨W.heap.size + 1 + 1, _, none⟩) ?_ (.inr (by show W.heap.size ≤ W.heap.size + 1 + 1; omega)) _)), HO.out⟩
set_option maxHeartbeats 1000000 in
set_option maxRecDepth 100000 in
theorem on_truncn (F : Fil f d h n v data base W) (off wh N : Int) (nm ot : ByteArray) (fl pe hh : Int) (Ad : Option Addr) (md cd : Nat) (A : Nat → Addr) (hS : SentB A base W) (hf : base ≤ f) (hd : base ≤ d) (hcl : h.cl = false) (hro : h.ro = false) (ho : off < 0) :
    Calls Tryd.prog 27 #[.pointer (some ⟨f, 0, none⟩), stepV 17 nm ot fl pe hh (.slice Ad md cd) off wh N] W (Stp f d h n data base v (ans 7 0 0 []) W) := by
  have HF := Lib.hid F
  have HSM := Lib.hid (fun w1 (hM : Moves (Tch f d v) W w1) => (hS.moves hM (F.tch hf hd) (Nat.le_trans hf (Nat.le_of_lt (blk_lt F.hf)))).sent)
  have HC := Lib.hid (fun W1 (hb : Below W.heap.size W W1) => (trunc45n (F.below hb) A (hS.sent.later hb) off hcl hro ho).mono (fun e w' q => (⟨q.1, Acts.below (F.below hb) q.2⟩ : e = .returned (.iface 149 (.pointer (some (A 3)))) ∧ Acts f d h n data base v W1 w')))
  unfold stepV
  clear F hS
  go_enter Tryd.func27, Tryd.ntmps27
  go_wp2_with (first | (go_at_call 45; (refine (HC.out _ ?_).mono ?_); (repeat (first | exact Below.refl _ _ | apply below_alloc | apply below_drew)); rintro e w1 ⟨rfl, v1, hX, hM, hO⟩; have HX := Lib.hid hX; have HM := Lib.hid hM; have HO := Lib.hid (own_up hO (w := W) (by repeat (first | exact Below.refl _ _ | apply below_alloc | apply below_drew))); have NE5 := Lib.hid (moves_ne HF.out hX hM (W.heap.size + 1 + 1) (by omega) (t := 33) (blk_at_ (by simp)) (by decide)); have NE4 := Lib.hid (moves_ne HF.out hX hM (W.heap.size + 1) (by omega) (t := 33) (blk_alloc (blk_at_ (by simp)) _) (by decide)); have MW := Lib.hid (moves_from hM (w := W) (by repeat (first | exact Below.refl _ _ | apply below_alloc | apply below_drew))); obtain ⟨kc5, kz5⟩ := moves_new HF.out hM (W.heap.size + 1 + 1) (by omega) (by simp); obtain ⟨kc4, kz4⟩ := moves_new HF.out hM (W.heap.size + 1) (by omega) (by simp); clear hX hM hO) | (go_at_call 53; (refine (kind_s3 A _ (HSM.out _ ?_)).mono ?_); (exact (by repeat (first | with_reducible exact MW.out | with_reducible refine Moves.setCell (p := ⟨W.heap.size + 1, _, none⟩) ?_ (.inr (by show W.heap.size ≤ W.heap.size + 1; omega)) _ | with_reducible refine Moves.setCell (p := ⟨W.heap.size + 1 + 1, _, none⟩) ?_ (.inr (by show W.heap.size ≤ W.heap.size + 1 + 1; omega)) _))); rintro e w' ⟨rfl, rfl⟩))
  refine bodyPost_ret (v := .agg #[.int .i64 7, .int .i64 0, .int .i64 0, .slice none 0 0, .slice none 0 0, .slice none 0 0]) (by simp [results, Tryd.results27, go_sem, kc4, kc5]) rfl ?_
  exact ⟨v1, ⟨_, _, _, rfl, Kd.R_nil _ _ _ _ _, Kd.R_nil _ _ _ _ _, Kd.R_nil _ _ _ _ _⟩, (by repeat (first | with_reducible exact HX.out | with_reducible refine Fil.setFar ?_ (HF.out.nef' (by omega)) (HF.out.ned' (by omega)) NE4.out _ _ | with_reducible refine Fil.setFar ?_ (HF.out.nef' (by omega)) (HF.out.ned' (by omega)) NE5.out _ _)), (by repeat (first | with_reducible exact MW.out | with_reducible refine Moves.setCell (p := ⟨W.heap.size + 1, _, none⟩) ?_ (.inr (by show W.heap.size ≤ W.heap.size + 1; omega)) _ | with_reducible refine Moves.setCell (p := ⟨W.heap.size + 1 + 1, _, none⟩) ?_ (.inr (by show W.heap.size ≤ W.heap.size + 1 + 1; omega)) _)), HO.out⟩
set_option maxHeartbeats 1000000 in
set_option maxRecDepth 100000 in
theorem on_close (F : Fil f d h n v data base W) (off wh N : Int) (nm ot : ByteArray) (fl pe hh : Int) (Ad : Option Addr) (md cd : Nat) (A : Nat → Addr) (hS : SentB A base W) (hf : base ≤ f) (hd : base ≤ d) :
    Calls Tryd.prog 27 #[.pointer (some ⟨f, 0, none⟩), stepV 18 nm ot fl pe hh (.slice Ad md cd) off wh N] W (Stp f d { h with cl := true } { n with tm := if h.ro then n.tm else 0 } data base v (ans 0 0 0 []) W) := by
  have HF := Lib.hid F
  have HSM := Lib.hid (fun w1 (hM : Moves (Tch f d v) W w1) => (hS.moves hM (F.tch hf hd) (Nat.le_trans hf (Nat.le_of_lt (blk_lt F.hf)))).sent)
  have HC := Lib.hid (fun W1 (hb : Below W.heap.size W W1) => close46 (F.below hb))
  have HK := Lib.hid (fun W1 => kind_nil W1)
  unfold stepV
  clear F hS
  generalize ({ n with tm := if h.ro then n.tm else 0 } : Nod) = n2 at *
  generalize ({ h with cl := true } : Hnd) = h2 at *
  go_enter Tryd.func27, Tryd.ntmps27
  go_wp2_with (first | (go_at_call 46; (refine (HC.out _ ?_).mono ?_); (repeat (first | exact Below.refl _ _ | apply below_alloc | apply below_drew)); rintro e w1 ⟨rfl, v1, hX, hM, hO⟩; have HX := Lib.hid hX; have HM := Lib.hid hM; have HO := Lib.hid (own_up hO (w := W) (by repeat (first | exact Below.refl _ _ | apply below_alloc | apply below_drew))); have NE5 := Lib.hid (moves_ne HF.out hX hM (W.heap.size + 1 + 1) (by omega) (t := 33) (blk_at_ (by simp)) (by decide)); have NE4 := Lib.hid (moves_ne HF.out hX hM (W.heap.size + 1) (by omega) (t := 33) (blk_alloc (blk_at_ (by simp)) _) (by decide)); have MW := Lib.hid (moves_from hM (w := W) (by repeat (first | exact Below.refl _ _ | apply below_alloc | apply below_drew))); obtain ⟨kc5, kz5⟩ := moves_new HF.out hM (W.heap.size + 1 + 1) (by omega) (by simp); obtain ⟨kc4, kz4⟩ := moves_new HF.out hM (W.heap.size + 1) (by omega) (by simp); clear hX hM hO) | (go_at_call 53; (with_reducible refine (HK.out _).mono ?_); rintro e w' ⟨rfl, rfl⟩))
  refine bodyPost_ret (v := .agg #[.int .i64 0, .int .i64 0, .int .i64 0, .slice none 0 0, .slice none 0 0, .slice none 0 0]) (by simp [results, Tryd.results27, go_sem, kc4, kc5]) rfl ?_
  exact ⟨v1, ⟨_, _, _, rfl, Kd.R_nil _ _ _ _ _, Kd.R_nil _ _ _ _ _, Kd.R_nil _ _ _ _ _⟩, (by repeat (first | with_reducible exact HX.out | with_reducible refine Fil.setFar ?_ (HF.out.nef' (by omega)) (HF.out.ned' (by omega)) NE4.out _ _ | with_reducible refine Fil.setFar ?_ (HF.out.nef' (by omega)) (HF.out.ned' (by omega)) NE5.out _ _)), (by repeat (first | with_reducible exact MW.out | with_reducible refine Moves.setCell (p := ⟨W.heap.size + 1, _, none⟩) ?_ (.inr (by show W.heap.size ≤ W.heap.size + 1; omega)) _ | with_reducible refine Moves.setCell (p := ⟨W.heap.size + 1 + 1, _, none⟩) ?_ (.inr (by show W.heap.size ≤ W.heap.size + 1 + 1; omega)) _)), HO.out⟩
theorem trunc45 (F : Fil f d h n v data base W) (s : Nat) (hcl : h.cl = false) (hro : h.ro = false) (hs : s ≤ 10000000) (hl : data.length ≤ 10000000) (hb : base ≤ W.heap.size) :
    Calls Tryd.prog 45 #[.pointer (some ⟨f, 0, none⟩), .int .i64 s] W fun e w' => e = .returned .nilIface ∧ Acts f d h { n with tm := 0 } (cutTo data s) base v W w' := by
  unfold cutTo
  by_cases hc : s ≤ data.length
  · rw [show s - data.length = 0 by omega, List.replicate_zero, List.append_nil]
    exact trunc45d F s hcl hro hc hl
  · rw [List.take_of_length_le (by omega)]
    exact trunc45g F s hcl hro (by omega) hs hb
/-- The refusal, as a step leaves it. -/
def RefA (A : Nat → Addr) (op : ByteArray) (f d : Nat) (h : Hnd) (n : Nod) (data : List Int) (base : Nat) (v : Value) (w : World) (x : Value) (w' : World) : Prop :=
  ∃ (p bb : Nat), x = .iface 130 (.pointer (some ⟨p, 0, none⟩)) ∧ Acts f d h n data base v w w' ∧ w'.cell? ⟨p, 0, none⟩ = some (.string op) ∧ w'.cell? ⟨p, 2, none⟩ = some (.iface 149 (.pointer (some ⟨bb, 0, none⟩))) ∧ (∀ k, k < 11 → (⟨bb, 0, none⟩ : Addr) ≠ A k) ∧ ∃ c t, w'.heap[bb]? = some (.cells c t (0, 0))
theorem refA_of {A : Nat → Addr} {op : ByteArray} {w' : World} {x : Value} (F : Fil f d h n v data base W) (hS : SentB A base W) (hb : base ≤ W.heap.size) (q : Refused op W (.returned x) w') : RefA A op f d h n data base v W x w' := by
  obtain ⟨p, bb, path, e, hbw, h0, h2, hle, hk⟩ := q
  injection e with e
  refine ⟨p, bb, e, Acts.below F hbw, h0, h2, fun k hk e => ?_, hk⟩
  have := hS.lt k hk
  rw [← e] at this
  simp only at this
  omega
theorem trunc45R {A : Nat → Addr} (F : Fil f d h n v data base W) (hS : SentB A base W) (hb : base ≤ W.heap.size) (s : Int) (hcl : h.cl = false) (hro : h.ro = true) :
    Calls Tryd.prog 45 #[.pointer (some ⟨f, 0, none⟩), .int .i64 s] W fun e w' => ∃ x, e = .returned x ∧ RefA A { data := #[116, 114, 117, 110, 99, 97, 116, 101] } f d h n data base v W x w' :=
  (trunc45r F s hcl hro).mono (fun e w' q => by
    obtain ⟨p, bb, path, rfl, q2⟩ := q
    exact ⟨_, rfl, refA_of F hS hb ⟨p, bb, path, rfl, q2⟩⟩)
set_option maxHeartbeats 1000000 in
set_option maxRecDepth 100000 in
theorem on_trunc (F : Fil f d h n v data base W) (off wh N : Int) (nm ot : ByteArray) (fl pe hh : Int) (Ad : Option Addr) (md cd : Nat) (A : Nat → Addr) (hS : SentB A base W) (hf : base ≤ f) (hd : base ≤ d) (s : Nat) (hcl : h.cl = false) (hro : h.ro = false) (hs : s ≤ 10000000) (hl : data.length ≤ 10000000) (ho : off = s) :
    Calls Tryd.prog 27 #[.pointer (some ⟨f, 0, none⟩), stepV 17 nm ot fl pe hh (.slice Ad md cd) off wh N] W (Stp f d h { n with tm := 0 } (cutTo data s) base v (ans 0 0 0 []) W) := by
  have HF := Lib.hid F
  have HSM := Lib.hid (fun w1 (hM : Moves (Tch f d v) W w1) => (hS.moves hM (F.tch hf hd) (Nat.le_trans hf (Nat.le_of_lt (blk_lt F.hf)))).sent)
  subst ho
  have HC := Lib.hid (fun W1 (hb : Below W.heap.size W W1) => trunc45 (F.below hb) s hcl hro hs hl (Nat.le_trans (Nat.le_trans hf (Nat.le_of_lt (blk_lt F.hf))) hb.size))
  have HK := Lib.hid (fun W1 => kind_nil W1)
  unfold stepV
  clear F hS
  go_enter Tryd.func27, Tryd.ntmps27
  go_wp2_with (first | (go_at_call 45; (refine (HC.out _ ?_).mono ?_); (repeat (first | exact Below.refl _ _ | apply below_alloc | apply below_drew)); rintro e w1 ⟨rfl, v1, hX, hM, hO⟩; have HX := Lib.hid hX; have HM := Lib.hid hM; have HO := Lib.hid (own_up hO (w := W) (by repeat (first | exact Below.refl _ _ | apply below_alloc | apply below_drew))); have NE5 := Lib.hid (moves_ne HF.out hX hM (W.heap.size + 1 + 1) (by omega) (t := 33) (blk_at_ (by simp)) (by decide)); have NE4 := Lib.hid (moves_ne HF.out hX hM (W.heap.size + 1) (by omega) (t := 33) (blk_alloc (blk_at_ (by simp)) _) (by decide)); have MW := Lib.hid (moves_from hM (w := W) (by repeat (first | exact Below.refl _ _ | apply below_alloc | apply below_drew))); obtain ⟨kc5, kz5⟩ := moves_new HF.out hM (W.heap.size + 1 + 1) (by omega) (by simp); obtain ⟨kc4, kz4⟩ := moves_new HF.out hM (W.heap.size + 1) (by omega) (by simp); clear hX hM hO) | (go_at_call 53; (with_reducible refine (HK.out _).mono ?_); rintro e w' ⟨rfl, rfl⟩))
  refine bodyPost_ret (v := .agg #[.int .i64 0, .int .i64 0, .int .i64 0, .slice none 0 0, .slice none 0 0, .slice none 0 0]) (by simp [results, Tryd.results27, go_sem, kc4, kc5]) rfl ?_
  exact ⟨v1, ⟨_, _, _, rfl, Kd.R_nil _ _ _ _ _, Kd.R_nil _ _ _ _ _, Kd.R_nil _ _ _ _ _⟩, (by repeat (first | with_reducible exact HX.out | with_reducible refine Fil.setFar ?_ (HF.out.nef' (by omega)) (HF.out.ned' (by omega)) NE4.out _ _ | with_reducible refine Fil.setFar ?_ (HF.out.nef' (by omega)) (HF.out.ned' (by omega)) NE5.out _ _)), (by repeat (first | with_reducible exact MW.out | with_reducible refine Moves.setCell (p := ⟨W.heap.size + 1, _, none⟩) ?_ (.inr (by show W.heap.size ≤ W.heap.size + 1; omega)) _ | with_reducible refine Moves.setCell (p := ⟨W.heap.size + 1 + 1, _, none⟩) ?_ (.inr (by show W.heap.size ≤ W.heap.size + 1 + 1; omega)) _)), HO.out⟩
set_option maxHeartbeats 1000000 in
set_option maxRecDepth 100000 in
theorem on_truncr (F : Fil f d h n v data base W) (off wh N : Int) (nm ot : ByteArray) (fl pe hh : Int) (Ad : Option Addr) (md cd : Nat) (A : Nat → Addr) (hS : SentB A base W) (hf : base ≤ f) (hd : base ≤ d) (hcl : h.cl = false) (hro : h.ro = true) :
    Calls Tryd.prog 27 #[.pointer (some ⟨f, 0, none⟩), stepV 17 nm ot fl pe hh (.slice Ad md cd) off wh N] W (Stp f d h n data base v (ans 6 0 0 []) W) := by
  have HF := Lib.hid F
  have HSM := Lib.hid (fun w1 (hM : Moves (Tch f d v) W w1) => (hS.moves hM (F.tch hf hd) (Nat.le_trans hf (Nat.le_of_lt (blk_lt F.hf)))).sent)
  have HC := Lib.hid (fun W1 (hb : Below W.heap.size W W1) => trunc45R (F.below hb) (hS.moves (Moves.of_below hb (fun _ => False)) (fun _ q => q.elim) (Nat.le_trans hf (Nat.le_of_lt (blk_lt F.hf)))) (Nat.le_trans (Nat.le_trans hf (Nat.le_of_lt (blk_lt F.hf))) hb.size) off hcl hro)
  unfold stepV
  clear F hS
  go_enter Tryd.func27, Tryd.ntmps27
  go_wp2_with (first | (go_at_call 45; (refine (HC.out _ ?_).mono ?_); (repeat (first | exact Below.refl _ _ | apply below_alloc | apply below_drew)); rintro e w1 ⟨_, rfl, p, bb, rfl, ⟨v1, hX, hM, hO⟩, hp0, hp2, hbb, hblk⟩; have P0 := Lib.hid hp0; have P2 := Lib.hid hp2; have PB := Lib.hid hbb; have PK := Lib.hid hblk; clear hp0 hp2 hbb hblk; have HX := Lib.hid hX; have HM := Lib.hid hM; have HO := Lib.hid (own_up hO (w := W) (by repeat (first | exact Below.refl _ _ | apply below_alloc | apply below_drew))); have NE5 := Lib.hid (moves_ne HF.out hX hM (W.heap.size + 1 + 1) (by omega) (t := 33) (blk_at_ (by simp)) (by decide)); have NE4 := Lib.hid (moves_ne HF.out hX hM (W.heap.size + 1) (by omega) (t := 33) (blk_alloc (blk_at_ (by simp)) _) (by decide)); have MW := Lib.hid (moves_from hM (w := W) (by repeat (first | exact Below.refl _ _ | apply below_alloc | apply below_drew))); obtain ⟨kc5, kz5⟩ := moves_new HF.out hM (W.heap.size + 1 + 1) (by omega) (by simp); obtain ⟨kc4, kz4⟩ := moves_new HF.out hM (W.heap.size + 1) (by omega) (by simp); clear hX hM hO) | (go_at_call 53; (refine (kind_truncate A _ (HSM.out _ ?_) p (.string ⟨#[]⟩) ⟨bb, 0, none⟩ P0.out P2.out PK.out PB.out).mono ?_); (exact (by repeat (first | with_reducible exact MW.out | with_reducible refine Moves.setCell (p := ⟨W.heap.size + 1, _, none⟩) ?_ (.inr (by show W.heap.size ≤ W.heap.size + 1; omega)) _ | with_reducible refine Moves.setCell (p := ⟨W.heap.size + 1 + 1, _, none⟩) ?_ (.inr (by show W.heap.size ≤ W.heap.size + 1 + 1; omega)) _))); rintro e w' ⟨rfl, rfl⟩))
  refine bodyPost_ret (v := .agg #[.int .i64 6, .int .i64 0, .int .i64 0, .slice none 0 0, .slice none 0 0, .slice none 0 0]) (by simp [results, Tryd.results27, go_sem, kc4, kc5]) rfl ?_
  exact ⟨v1, ⟨_, _, _, rfl, Kd.R_nil _ _ _ _ _, Kd.R_nil _ _ _ _ _, Kd.R_nil _ _ _ _ _⟩, (by repeat (first | with_reducible exact HX.out | with_reducible refine Fil.setFar ?_ (HF.out.nef' (by omega)) (HF.out.ned' (by omega)) NE4.out _ _ | with_reducible refine Fil.setFar ?_ (HF.out.nef' (by omega)) (HF.out.ned' (by omega)) NE5.out _ _)), (by repeat (first | with_reducible exact MW.out | with_reducible refine Moves.setCell (p := ⟨W.heap.size + 1, _, none⟩) ?_ (.inr (by show W.heap.size ≤ W.heap.size + 1; omega)) _ | with_reducible refine Moves.setCell (p := ⟨W.heap.size + 1 + 1, _, none⟩) ?_ (.inr (by show W.heap.size ≤ W.heap.size + 1 + 1; omega)) _)), HO.out⟩
end
end Go.Proofs.YtljcdjggjphedaaDoor.Hd
namespace Go.Proofs.YtljcdjggjphedaaDoor.Hd
open Go.RowKit Go.Proofs.YtljcdjggjphedaaDoorW.PrintWords Go.Proofs.YtljcdjggjphedaaDoorW.PrintLast Go.Proofs.YtljcdjggjphedaaDoorW.PrintMore
open Go.Proofs.YtljcdjggjphedaaDoor.PFnHandleScript
set_option linter.unusedVariables false
set_option linter.unusedSimpArgs false
section
variable {ops : Array Oper} {rest : List Oper} {o : Oper} {a : Act} {Q : Exit → Act → World → Prop}
theorem app_bytes {W : World} (base : Nat) (hgd : o.guard = none) (s x : Operand) (ho : o.op = .call { callee := .builtin .append, args := #[s, x], argTypes := #[22, 22] })
    (v : Value) (xs ys : List Int) (A : Option Addr) (m c : Nat) (hs : a.eval s = v) (hx : a.eval x = .slice A m c) (HO : Kd.R (Kd.int .u8) 5 W base (fun _ => True) v xs) (HR : Kd.C (Kd.int .u8) W A m ys) (hbase : base ≤ W.heap.size) (hl : xs.length + m ≤ 140737488355328)
    (h : ∀ A1 nl c1 w1, Kd.R (Kd.int .u8) 5 w1 base (fun _ => True) (.slice A1 nl c1) (xs ++ ys) → W.grownBy w1 v.ownBlock → wpList Tryd.prog ops Q rest (a.put o.dst (.slice A1 nl c1)) w1) :
    wpList Tryd.prog ops Q (o :: rest) a W := by
  refine Kd.R_append_rows (Kd.int .u8) (w0 := W) base hgd s x 22 5 (.int .u8 0) 1 ho Tryd.underlying22 PFnHandleScript.info5 rfl (by decide) (by decide) v xs ys A m c (fun _ => True) (fun _ => False) hs hx HO HR (fun x cs hc => hc) (fun _ hk => hk.elim) (fun _ _ => trivial) (Below.refl _ _) hbase (by omega) ?_
  intro v1 w1 h1 _ h2 h3
  obtain ⟨A1, c1, e1, _, _⟩ := Kd.R_reads h1
  subst e1
  exact h _ _ _ _ h1 h2
end
section
variable {f d base : Nat} {h : Hnd} {n : Nod} {v : Value} {data b : List Int} {W : World}
/-- What a writer does, as the step asks it; its error's kind can be told, whatever becomes of the step's own three blocks. -/
def WrC (fn : Nat) (more : Array Value) (f d : Nat) (h' : Hnd) (n' : Nod) (v : Value) (data' : List Int) (base m : Nat) (b : List Int) (kn kd : Int) (W : World) : Prop :=
  ∀ (W1 : World) (Ab : Option Addr) (cb : Nat), Below W.heap.size W W1 → W.heap.size + 2 < W1.heap.size → Kd.C (Kd.int .u8) W1 Ab m b → m ≤ cb →
    Calls Tryd.prog fn (#[.pointer (some ⟨f, 0, none⟩), .slice Ab m cb] ++ more) W1 fun e w1 => ∃ ev, e = .returned (.tuple #[.int .i64 kn, ev]) ∧ Acts f d h' n' data' base v W1 w1 ∧ ∀ w2, Moves (fun i => W.heap.size ≤ i ∧ i < W.heap.size + 3) w1 w2 → Calls Tryd.prog 53 #[ev] w2 fun e w' => e = .returned (.int .i64 kd) ∧ w2 = w'
theorem nil_app {WX wm : World} {A1 : Option Addr} {nl c1 : Nat} {b : List Int} (hr : Kd.R (Kd.int .u8) 5 wm WX.heap.size (fun _ => True) (.slice A1 nl c1) ([] ++ b)) (hg : WX.grownBy wm (Value.slice none 0 0).ownBlock) (m : Nat) (hb : b.length = m) :
    nl = m ∧ Hid (m ≤ c1) ∧ Hid (Kd.C (Kd.int .u8) wm A1 m b) ∧ Hid (Below WX.heap.size WX wm) := by
  rw [List.nil_append] at hr
  obtain ⟨e, hc, hC⟩ := Kd.R_reads' hr
  rw [hb] at hC e
  subst e
  exact ⟨rfl, Lib.hid hc, Lib.hid hC, Lib.hid ⟨hg.os, hg.tape, hg.output, hg.size, fun k hk => hg.block k hk (by simp [Value.ownBlock])⟩⟩
theorem below_sz2 {WX wm w : World} (hb : Below WX.heap.size WX wm) (h : Below w.heap.size w WX) (h3 : w.heap.size + 2 < WX.heap.size) : Below w.heap.size w wm ∧ w.heap.size + 2 < wm.heap.size := ⟨below_then h h.size hb, Nat.lt_of_lt_of_le h3 hb.size⟩
theorem below_new {WX wm : World} (hb : Below WX.heap.size WX wm) (g : Nat) (hlt : g < WX.heap.size) : (∀ i, wm.cell? ⟨g, i, none⟩ = WX.cell? ⟨g, i, none⟩) ∧ (∀ i, wm.frozen? ⟨g, i, none⟩ = WX.frozen? ⟨g, i, none⟩) :=
  ⟨fun i => World.cell?_of_block (a := ⟨g, i, none⟩) (hb.block g hlt), fun i => World.frozen?_of_block (a := ⟨g, i, none⟩) (hb.block g hlt)⟩
theorem new_blk {WX w1 : World} (F : Fil f d h n v data base W) (hA : Moves (Tch f d v) WX w1) {g : Nat} {o : Obj} (hb : WX.heap[g]? = some o) (hg : W.heap.size ≤ g) : w1.heap[g]? = some o := (hA.block g (blk_lt hb) (fun ht => by have := F.lt g ht; omega)).trans hb
theorem row_ne {WX wm w1 : World} {h' : Hnd} {n' : Nod} {v1 : Value} {data' : List Int} (F : Fil f d h n v data base W) (hbm : Below WX.heap.size WX wm) (hX : Fil f d h' n' v1 data' base w1) (hA : Moves (Tch f d v) wm w1) (g : Nat) (hg : W.heap.size ≤ g) {cs : Array Value} {t : TypeId} (hb : WX.heap[g]? = some (.cells cs t (0, 0))) (ht : 5 ≠ t) :
    v1.ownBlock ≠ some g := moves_ne F hX hA g hg (blk_below hb hbm) ht
set_option maxHeartbeats 2000000 in
set_option maxRecDepth 100000 in
theorem on_write_any (F : Fil f d h n v data base W) (h' : Hnd) (n' : Nod) (data' : List Int) (kn kd : Int) (off : Int) (Ad : Option Addr) (md cd : Nat) (hD : Kd.C (Kd.int .u8) W Ad md b) (hm : md ≤ 10000000) (hWr : WrC 42 #[] f d h' n' v data' base md b kn kd W)
    (wh N : Int) (nm ot : ByteArray) (fl pe hh : Int) :
    Calls Tryd.prog 27 #[.pointer (some ⟨f, 0, none⟩), stepV 14 nm ot fl pe hh (.slice Ad md cd) off wh N] W (Stp f d h' n' data' base v (ans kd kn 0 []) W) := by
  have HF := Lib.hid F
  have HC := Lib.hid hWr
  have HL := Lib.hid hD.1
  have HD := Lib.hid hD
  unfold stepV
  clear F hWr hD
  go_enter Tryd.func27, Tryd.ntmps27
  go_wp2_with (first | ((with_reducible refine gate_builtin (b := .append) (xs := #[.const (.slice none 0 0), .tmp 58]) rfl ?_); at_builtin; refine app_bytes _ rfl _ _ rfl (.slice none 0 0) [] b Ad md cd rfl rfl (Kd.R_nil _ _ _ _ _) (Kd.C_below HD.out (by repeat (first | exact Below.refl _ _ | apply below_alloc | apply below_drew) : Below W.heap.size W _)) (Nat.le_refl _) (by simp; omega) ?_; intro A1 m' c1 wm hr1 hg1; obtain ⟨rfl, MC, CC, BM⟩ := nil_app hr1 hg1 md HL.out; have SZ := Lib.hid (below_sz2 BM.out (by repeat (first | exact Below.refl _ _ | apply below_alloc | apply below_drew) : Below W.heap.size W _) (by simp)); obtain ⟨ka0, kb0⟩ := below_new BM.out W.heap.size (by simp; omega); obtain ⟨ka1, kb1⟩ := below_new BM.out (W.heap.size + 1) (by simp); obtain ⟨ka2, kb2⟩ := below_new BM.out (W.heap.size + 1 + 1) (by simp); clear hr1 hg1) | (go_at_call 42; (refine (HC.out wm A1 c1 SZ.out.1 SZ.out.2 CC.out MC.out).mono ?_); rintro e w1 ⟨ev, rfl, ⟨v1, hX, hM, hO⟩, hK⟩; have HX := Lib.hid hX; have HM := Lib.hid hM; have HK := Lib.hid hK; have HO := Lib.hid (own_up hO SZ.out.1); have NE5 := Lib.hid (row_ne HF.out BM.out hX hM (W.heap.size + 1 + 1) (by omega) (t := 33) (blk_at_ (by simp)) (by decide)); have NE4 := Lib.hid (row_ne HF.out BM.out hX hM (W.heap.size + 1) (by omega) (t := 33) (blk_alloc (blk_at_ (by simp)) _) (by decide)); have MW := Lib.hid (moves_from hM SZ.out.1); obtain ⟨kc5, kz5⟩ := moves_new HF.out hM (W.heap.size + 1 + 1) (by omega) (by have := SZ.out.2; omega); obtain ⟨kc4, kz4⟩ := moves_new HF.out hM (W.heap.size + 1) (by omega) (by have := SZ.out.2; omega); clear hX hM hO hK) | (go_at_call 53; (refine (HK.out _ ?_).mono ?_); (exact (by repeat (first | exact Moves.refl _ _ | with_reducible refine Moves.setCell (p := ⟨W.heap.size + 1 + 1, _, none⟩) ?_ (.inl ⟨by show W.heap.size ≤ W.heap.size + 1 + 1; omega, by show W.heap.size + 1 + 1 < W.heap.size + 3; omega⟩) _))); rintro e w' ⟨rfl, rfl⟩))
  refine bodyPost_ret (v := .agg #[.int .i64 kd, .int .i64 kn, .int .i64 0, .slice none 0 0, .slice none 0 0, .slice none 0 0]) (by simp [results, Tryd.results27, go_sem, kc4, kc5, ka1, ka2]) rfl ?_
  exact ⟨v1, ⟨_, _, _, rfl, Kd.R_nil _ _ _ _ _, Kd.R_nil _ _ _ _ _, Kd.R_nil _ _ _ _ _⟩, (by repeat (first | with_reducible exact HX.out | with_reducible refine Fil.setFar ?_ (HF.out.nef' (by omega)) (HF.out.ned' (by omega)) NE4.out _ _ | with_reducible refine Fil.setFar ?_ (HF.out.nef' (by omega)) (HF.out.ned' (by omega)) NE5.out _ _)), (by repeat (first | with_reducible exact MW.out | with_reducible refine Moves.setCell (p := ⟨W.heap.size + 1, _, none⟩) ?_ (.inr (by show W.heap.size ≤ W.heap.size + 1; omega)) _ | with_reducible refine Moves.setCell (p := ⟨W.heap.size + 1 + 1, _, none⟩) ?_ (.inr (by show W.heap.size ≤ W.heap.size + 1 + 1; omega)) _)), HO.out⟩
set_option maxHeartbeats 2000000 in
set_option maxRecDepth 100000 in
theorem on_writeat_any (F : Fil f d h n v data base W) (h' : Hnd) (n' : Nod) (data' : List Int) (kn kd : Int) (off : Int) (Ad : Option Addr) (md cd : Nat) (hD : Kd.C (Kd.int .u8) W Ad md b) (hm : md ≤ 10000000) (hWr : WrC 43 #[.int .i64 off] f d h' n' v data' base md b kn kd W)
    (wh N : Int) (nm ot : ByteArray) (fl pe hh : Int) :
    Calls Tryd.prog 27 #[.pointer (some ⟨f, 0, none⟩), stepV 15 nm ot fl pe hh (.slice Ad md cd) off wh N] W (Stp f d h' n' data' base v (ans kd kn 0 []) W) := by
  have HF := Lib.hid F
  have HC := Lib.hid hWr
  have HL := Lib.hid hD.1
  have HD := Lib.hid hD
  have HMD := Lib.hid (show ([] : List Int).length + md ≤ 140737488355328 by simp; omega)
  unfold stepV
  clear F hWr hD
  go_enter Tryd.func27, Tryd.ntmps27
  go_wp2_with fail
  have HBW := Lib.hid (show Below W.heap.size W (((W.alloc (.cells #[.int .i64 15, .string nm, .string ot, .int .i64 fl, .int .i64 pe, .int .i64 hh, .slice Ad md cd, .int .i64 off, .int .i64 wh, .int .i64 N] 26)).alloc (.cells #[.int .i64 0, .int .i64 0, .int .i64 0, .slice none 0 0, .slice none 0 0, .slice none 0 0] 33)).alloc (.cells #[.int .i64 0, .int .i64 0, .int .i64 0, .slice none 0 0, .slice none 0 0, .slice none 0 0] 33)).drew from below_drew (below_alloc (below_alloc (below_alloc (Below.refl _ _) _) _) _))
  have H3 := Lib.hid (show W.heap.size + 2 < (((W.alloc (.cells #[.int .i64 15, .string nm, .string ot, .int .i64 fl, .int .i64 pe, .int .i64 hh, .slice Ad md cd, .int .i64 off, .int .i64 wh, .int .i64 N] 26)).alloc (.cells #[.int .i64 0, .int .i64 0, .int .i64 0, .slice none 0 0, .slice none 0 0, .slice none 0 0] 33)).alloc (.cells #[.int .i64 0, .int .i64 0, .int .i64 0, .slice none 0 0, .slice none 0 0, .slice none 0 0] 33)).drew.heap.size by simp)
  have q5 : (((W.alloc (.cells #[.int .i64 15, .string nm, .string ot, .int .i64 fl, .int .i64 pe, .int .i64 hh, .slice Ad md cd, .int .i64 off, .int .i64 wh, .int .i64 N] 26)).alloc (.cells #[.int .i64 0, .int .i64 0, .int .i64 0, .slice none 0 0, .slice none 0 0, .slice none 0 0] 33)).alloc (.cells #[.int .i64 0, .int .i64 0, .int .i64 0, .slice none 0 0, .slice none 0 0, .slice none 0 0] 33)).drew.heap[W.heap.size + 1 + 1]? = some (.cells #[.int .i64 0, .int .i64 0, .int .i64 0, .slice none 0 0, .slice none 0 0, .slice none 0 0] 33 (0, 0)) := blk_at_ (by simp)
  have q4 : (((W.alloc (.cells #[.int .i64 15, .string nm, .string ot, .int .i64 fl, .int .i64 pe, .int .i64 hh, .slice Ad md cd, .int .i64 off, .int .i64 wh, .int .i64 N] 26)).alloc (.cells #[.int .i64 0, .int .i64 0, .int .i64 0, .slice none 0 0, .slice none 0 0, .slice none 0 0] 33)).alloc (.cells #[.int .i64 0, .int .i64 0, .int .i64 0, .slice none 0 0, .slice none 0 0, .slice none 0 0] 33)).drew.heap[W.heap.size + 1]? = some (.cells #[.int .i64 0, .int .i64 0, .int .i64 0, .slice none 0 0, .slice none 0 0, .slice none 0 0] 33 (0, 0)) := blk_alloc (blk_at_ (by simp)) _
  have q3 : (((W.alloc (.cells #[.int .i64 15, .string nm, .string ot, .int .i64 fl, .int .i64 pe, .int .i64 hh, .slice Ad md cd, .int .i64 off, .int .i64 wh, .int .i64 N] 26)).alloc (.cells #[.int .i64 0, .int .i64 0, .int .i64 0, .slice none 0 0, .slice none 0 0, .slice none 0 0] 33)).alloc (.cells #[.int .i64 0, .int .i64 0, .int .i64 0, .slice none 0 0, .slice none 0 0, .slice none 0 0] 33)).drew.heap[W.heap.size]? = some (.cells #[.int .i64 15, .string nm, .string ot, .int .i64 fl, .int .i64 pe, .int .i64 hh, .slice Ad md cd, .int .i64 off, .int .i64 wh, .int .i64 N] 26 (0, 0)) := blk_alloc (blk_alloc (blk_at_ rfl) _) _
  have s6 : (((W.alloc (.cells #[.int .i64 15, .string nm, .string ot, .int .i64 fl, .int .i64 pe, .int .i64 hh, .slice Ad md cd, .int .i64 off, .int .i64 wh, .int .i64 N] 26)).alloc (.cells #[.int .i64 0, .int .i64 0, .int .i64 0, .slice none 0 0, .slice none 0 0, .slice none 0 0] 33)).alloc (.cells #[.int .i64 0, .int .i64 0, .int .i64 0, .slice none 0 0, .slice none 0 0, .slice none 0 0] 33)).cell? ⟨W.heap.size, 6, none⟩ = some (.slice Ad md cd) := blk_cell q3 6
  have s7 : (((W.alloc (.cells #[.int .i64 15, .string nm, .string ot, .int .i64 fl, .int .i64 pe, .int .i64 hh, .slice Ad md cd, .int .i64 off, .int .i64 wh, .int .i64 N] 26)).alloc (.cells #[.int .i64 0, .int .i64 0, .int .i64 0, .slice none 0 0, .slice none 0 0, .slice none 0 0] 33)).alloc (.cells #[.int .i64 0, .int .i64 0, .int .i64 0, .slice none 0 0, .slice none 0 0, .slice none 0 0] 33)).cell? ⟨W.heap.size, 7, none⟩ = some (.int .i64 off) := blk_cell q3 7
  have Q3 := Lib.hid q3
  have Q4 := Lib.hid q4
  have Q5 := Lib.hid q5
  clear q3 q4 q5
  generalize (((W.alloc (.cells #[.int .i64 15, .string nm, .string ot, .int .i64 fl, .int .i64 pe, .int .i64 hh, .slice Ad md cd, .int .i64 off, .int .i64 wh, .int .i64 N] 26)).alloc (.cells #[.int .i64 0, .int .i64 0, .int .i64 0, .slice none 0 0, .slice none 0 0, .slice none 0 0] 33)).alloc (.cells #[.int .i64 0, .int .i64 0, .int .i64 0, .slice none 0 0, .slice none 0 0, .slice none 0 0] 33)) = W0 at *
  go_region_held3 (fun w' => w'.cell? ⟨W.heap.size, 6, none⟩ = some (.slice Ad md cd) ∧ w'.cell? ⟨W.heap.size, 7, none⟩ = some (.int .i64 off))
    (first | exact ⟨blk_cell P3.out 6, blk_cell P3.out 7⟩ | exact ⟨blk_cell R3.out 6, blk_cell R3.out 7⟩ | exact ⟨blk_cell (blk_far R3.out (by omega) _) 6, blk_cell (blk_far R3.out (by omega) _) 7⟩ | exact ⟨blk_cell (blk_far R3.out (by show W.heap.size ≠ W.heap.size + 1 + 1; omega) _) 6, blk_cell (blk_far R3.out (by show W.heap.size ≠ W.heap.size + 1 + 1; omega) _) 7⟩ | go_keep)
    (first | (go_at_call 43; (refine (HC.out wm A1 c1 SZ.out.1 SZ.out.2 CC.out MC.out).mono ?_); rintro e w1 ⟨ev, rfl, ⟨v1, hX, hM, hO⟩, hK⟩; have HX := Lib.hid hX; have HM := Lib.hid hM; have HK := Lib.hid hK; have HO := Lib.hid (own_up hO SZ.out.1); have NE5 := Lib.hid (row_ne HF.out BM.out hX hM (W.heap.size + 1 + 1) (by omega) (t := 33) Q5.out (by decide)); have NE4 := Lib.hid (row_ne HF.out BM.out hX hM (W.heap.size + 1) (by omega) (t := 33) Q4.out (by decide)); have MW := Lib.hid (moves_from hM SZ.out.1); have R3 := Lib.hid (new_blk HF.out hM P3.out (by omega)); have R4 := Lib.hid (new_blk HF.out hM P4.out (by omega)); have R5 := Lib.hid (new_blk HF.out hM P5.out (by omega)); have c51 := blk_cell R5.out 1; have z51 := blk_frozen R5.out 1; clear hX hM hO hK) | (refine app_bytes_step _ (by rfl) _ _ (by rfl) (.slice none 0 0) [] b Ad md cd (by rfl) (by rfl) (Kd.R_nil _ _ _ _ _) (Kd.C_below HD.out HBW.out) (Nat.le_refl _) HMD.out ?_; intro A1 m' c1 wm hr1 hg1 ho1; obtain ⟨rfl, MC, CC, BM⟩ := nil_app hr1 hg1 md HL.out; have SZ := Lib.hid (below_sz2 BM.out HBW.out H3.out); have P3 := Lib.hid (blk_below Q3.out BM.out); have P4 := Lib.hid (blk_below Q4.out BM.out); have P5 := Lib.hid (blk_below Q5.out BM.out); clear hr1 hg1 ho1))
  have c50 := blk_cell R5.out 0
  have c52 := blk_cell R5.out 2
  have c53 := blk_cell R5.out 3
  have c54 := blk_cell R5.out 4
  have c55 := blk_cell R5.out 5
  have c40 := blk_cell R4.out 0
  have c41 := blk_cell R4.out 1
  have c42 := blk_cell R4.out 2
  have c43 := blk_cell R4.out 3
  have c44 := blk_cell R4.out 4
  have c45 := blk_cell R4.out 5
  have z50 := blk_frozen R5.out 0
  have kz4 := fun i => blk_frozen R4.out i
  go_wp2_with (first | (go_at_call 53; (refine (HK.out _ ?_).mono ?_); (exact (by repeat (first | exact Moves.refl _ _ | with_reducible refine Moves.setCell (p := ⟨W.heap.size + 1 + 1, _, none⟩) ?_ (.inl ⟨by show W.heap.size ≤ W.heap.size + 1 + 1; omega, by show W.heap.size + 1 + 1 < W.heap.size + 3; omega⟩) _))); rintro e w' ⟨rfl, rfl⟩))
  refine bodyPost_ret (v := .agg #[.int .i64 kd, .int .i64 kn, .int .i64 0, .slice none 0 0, .slice none 0 0, .slice none 0 0]) (by simp [results, Tryd.results27, go_sem, c40, c41, c42, c43, c44, c45, c50, c51, c52, c53, c54, c55]) rfl ?_
  exact ⟨v1, ⟨_, _, _, rfl, Kd.R_nil _ _ _ _ _, Kd.R_nil _ _ _ _ _, Kd.R_nil _ _ _ _ _⟩, (by repeat (first | with_reducible exact HX.out | with_reducible refine Fil.setFar ?_ (HF.out.nef' (by omega)) (HF.out.ned' (by omega)) NE4.out _ _ | with_reducible refine Fil.setFar ?_ (HF.out.nef' (by omega)) (HF.out.ned' (by omega)) NE5.out _ _)), (by repeat (first | with_reducible exact MW.out | with_reducible refine Moves.setCell (p := ⟨W.heap.size + 1, _, none⟩) ?_ (.inr (by show W.heap.size ≤ W.heap.size + 1; omega)) _ | with_reducible refine Moves.setCell (p := ⟨W.heap.size + 1 + 1, _, none⟩) ?_ (.inr (by show W.heap.size ≤ W.heap.size + 1 + 1; omega)) _)), HO.out⟩
/-- The refusal of a write, its blocks new. -/
def RefW (w : World) (e : Ending) (w' : World) : Prop :=
  ∃ (p b : Nat), e = .returned (.tuple #[.int .i64 0, .iface 130 (.pointer (some ⟨p, 0, none⟩))]) ∧ Below w.heap.size w w' ∧ w.heap.size ≤ p ∧ w.heap.size ≤ b ∧ w'.cell? ⟨p, 0, none⟩ = some (.string { data := #[119, 114, 105, 116, 101] }) ∧ w'.cell? ⟨p, 2, none⟩ = some (.iface 149 (.pointer (some ⟨b, 0, none⟩))) ∧ p < w'.heap.size ∧ b < w'.heap.size ∧ ∃ c t, w'.heap[b]? = some (.cells c t (0, 0))
theorem refW_mk (op nm s : ByteArray) (W : World) (ho : op = { data := #[119, 114, 105, 116, 101] }) : RefW W (.returned (.tuple #[.int .i64 0, .iface 130 (.pointer (some ⟨W.heap.size + 1, 0, none⟩))])) (((W.alloc (.cells #[.string s] 151)).alloc (.cells #[.string op, .string nm, .iface 149 (.pointer (some ⟨W.heap.size, 0, none⟩))] 133)).drew) := by
  subst ho
  have hb := blk_alloc (blk_new W (.cells #[.string s] 151)) (.cells #[.string { data := #[119, 114, 105, 116, 101] }, .string nm, .iface 149 (.pointer (some ⟨W.heap.size, 0, none⟩))] 133)
  have hn := blk_new (W.alloc (.cells #[.string s] 151)) (.cells #[.string { data := #[119, 114, 105, 116, 101] }, .string nm, .iface 149 (.pointer (some ⟨W.heap.size, 0, none⟩))] 133)
  have hs : (W.alloc (.cells #[.string s] 151)).heap.size = W.heap.size + 1 := by simp
  rw [hs] at hn
  exact ⟨W.heap.size + 1, W.heap.size, rfl, below_drew (below_alloc (below_alloc (Below.refl _ _) _) _), by omega, by omega, blk_cell hn 0, blk_cell hn 2, blk_lt hn, blk_lt hb, _, _, hb⟩
set_option maxHeartbeats 1000000 in
set_option maxRecDepth 100000 in
theorem write42s (F : Fil f d h n v data base W) (vb : Value) (hcl : h.cl = false) (hro : h.ro = true) :
    Calls Tryd.prog 42 #[.pointer (some ⟨f, 0, none⟩), vb] W (RefW W) := by
  have c2 := F.c2
  have c3 := F.c3
  have c4 := F.c4
  have n0 := F.n0
  rw [hcl] at c2
  rw [hro] at c3
  obtain ⟨nm, vm, dir, md, tm⟩ := n
  simp only at n0
  have y4 := World.new_ne W _ c4
  have y0 := World.new_ne W _ n0
  have HE := Lib.hid (fun s W => err83 (W := W) s)
  clear F hcl hro
  go_enter Tryd.func42, Tryd.ntmps42
  go_wp2_with fail
  go_region_held3 (fun w' => w'.cell? ⟨f, 4, none⟩ = some (.pointer (some ⟨d, 0, none⟩)) ∧ w'.cell? ⟨d, 0, none⟩ = some (.string nm))
    (go_keep)
    ((go_at_call 83; (with_reducible refine (HE.out _ _).mono ?_); rintro e w1 ⟨rfl, rfl⟩))
  go_wp2
  go_ret2
  exact refW_mk _ _ _ _ rfl
/-- Bytes laid over others, with zeros in a gap. -/
def overB (data : List Int) (p : Nat) (b : List Int) : List Int := data.take p ++ (List.replicate (p - data.length) 0 ++ b) ++ data.drop (p + b.length)
theorem sent_after {A : Nat → Addr} {W1 w1 w2 : World} (F : Fil f d h n v data base W) (hS : SentB A base W) (hf : base ≤ f) (hd : base ≤ d) (hb : Below W.heap.size W W1) (hM : Moves (Tch f d v) W1 w1) (h2 : Moves (fun i => W.heap.size ≤ i ∧ i < W.heap.size + 3) w1 w2) : Sent A w2 := by
  have hB : base ≤ W.heap.size := Nat.le_trans hf (Nat.le_of_lt (blk_lt F.hf))
  have s1 := hS.moves (Moves.of_below hb (fun _ => False)) (fun _ q => q.elim) hB
  have s2 := s1.moves hM (F.tch hf hd) (Nat.le_trans hB hb.size)
  exact (s2.moves h2 (fun k hk => Nat.le_trans hB hk.1) (Nat.le_trans (Nat.le_trans hB hb.size) hM.size)).sent
theorem write_c {A : Nat → Addr} (F : Fil f d h n v data base W) (hS : SentB A base W) (hf : base ≤ f) (hd : base ≤ d) (m : Nat) (hcl : h.cl = true) : WrC 42 #[] f d h n v data base m b 0 3 W := by
  intro W1 Ab cb hb h3 hC hm
  refine (write42c (F.below hb) A (hS.sent.later hb) (.slice Ab m cb) hcl).mono ?_
  rintro e w1 ⟨rfl, hbw⟩
  exact ⟨_, rfl, Acts.below (F.below hb) hbw, fun w2 h2 => kind_s0 A w2 (sent_after F hS hf hd hb (Moves.of_below hbw _) h2)⟩
theorem write_r {A : Nat → Addr} (F : Fil f d h n v data base W) (hS : SentB A base W) (hf : base ≤ f) (hd : base ≤ d) (m : Nat) (hcl : h.cl = false) (hro : h.ro = true) : WrC 42 #[] f d h n v data base m b 0 6 W := by
  intro W1 Ab cb hb h3 hC hm
  refine (write42s (F.below hb) (.slice Ab m cb) hcl hro).mono ?_
  rintro e w1 ⟨p, bb, rfl, hbw, hp, hbb, k0, k2, hpl, hbl, ct, tt, kb⟩
  have hB : base ≤ W.heap.size := Nat.le_trans hf (Nat.le_of_lt (blk_lt F.hf))
  refine ⟨_, rfl, Acts.below (F.below hb) hbw, fun w2 h2 => kind_write A w2 (sent_after F hS hf hd hb (Moves.of_below hbw _) h2) p (.string ⟨#[]⟩) ⟨bb, 0, none⟩ ?_ ?_ ?_ ?_⟩
  · exact (World.cell?_of_block (a := ⟨p, 0, none⟩) (h2.block p hpl (fun q => by omega))).trans k0
  · exact (World.cell?_of_block (a := ⟨p, 2, none⟩) (h2.block p hpl (fun q => by omega))).trans k2
  · exact ⟨ct, tt, (h2.block bb hbl (fun q => by omega)).trans kb⟩
  · intro k hk e
    have := hS.lt k hk
    rw [← e] at this
    simp only at this
    have := hb.size
    omega
theorem write_o (F : Fil f d h n v data base W) (hf : base ≤ f) (m p : Nat) (hcl : h.cl = false) (hro : h.ro = false) (hp : h.pos = p) (hpm : p ≤ 10000000) (hm : m ≤ 10000000) (hdl : data.length ≤ 10000000) :
    WrC 42 #[] f d { h with pos := (p : Int) + m } { n with tm := 0 } v (overB data p b) base m b m 0 W := by
  intro W1 Ab cb hb h3 hC hmc
  have hB : base ≤ W1.heap.size := Nat.le_trans (Nat.le_trans hf (Nat.le_of_lt (blk_lt F.hf))) hb.size
  have hbl : b.length = m := hC.1
  have F1 := F.below hb
  have key : Calls Tryd.prog 42 #[.pointer (some ⟨f, 0, none⟩), .slice Ab m cb] W1 fun e w' => e = .returned (.tuple #[.int .i64 m, .nilIface]) ∧ Acts f d { h with pos := p + m } { n with tm := 0 } (overB data p b) base v W1 w' := by
    unfold overB
    rw [hbl]
    by_cases h1 : data.length < p
    · rw [List.take_of_length_le (by omega), List.drop_eq_nil_of_le (by omega), List.append_nil]
      exact write42g F1 Ab m cb p hC hcl hro hp h1 hpm hm (by omega) hB
    · rw [show p - data.length = 0 by omega, List.replicate_zero, List.nil_append]
      by_cases h2 : data.length ≤ m + p
      · rw [List.drop_eq_nil_of_le (by omega), List.append_nil]
        exact write42e F1 Ab m cb p hC hcl hro hp (by omega) h2 hm (by omega) hB
      · exact write42m F1 Ab m cb p hC hcl hro hp (by omega) (by omega) hB
  refine key.mono ?_
  rintro e w1 ⟨rfl, hA⟩
  exact ⟨_, rfl, hA, fun w2 _ => kind_nil w2⟩
set_option maxHeartbeats 1000000 in
theorem writeat43 (F : Fil f d h n v data base W) (vb : Value) (off : Int) (R : Ending → World → Prop)
    (hC : Calls Tryd.prog 42 #[.pointer (some ⟨f, 0, none⟩), vb] (W.setCell ⟨f, 0, none⟩ (.int .i64 off)) fun e w' => ∃ k ev, e = .returned (.tuple #[.int .i64 k, ev]) ∧ R e w') :
    Calls Tryd.prog 43 #[.pointer (some ⟨f, 0, none⟩), vb, .int .i64 off] W R := by
  have c0 := F.c0
  have z0 := blk_frozen F.hf 0
  have HC := Lib.hid hC
  clear F hC
  go_enter Tryd.func43, Tryd.ntmps43
  go_wp2_with (first | (go_at_call 42; (with_reducible refine (HC.out).mono ?_); rintro e w1 ⟨k, ev, rfl, hR⟩; have HR := Lib.hid hR; clear hR))
  exact HR.out
/-- Writing at a place: from what writing does with the place put there. -/
theorem writeat_of {h' : Hnd} {n' : Nod} {data' : List Int} {m : Nat} {kn kd : Int} (F : Fil f d h n v data base W) (hf : base ≤ f) (off : Int)
    (hW : ∀ (W0 : World), Fil f d { h with pos := off } n v data base W0 → Moves (fun i => i = f) W W0 → W0.heap.size = W.heap.size → WrC 42 #[] f d h' n' v data' base m b kn kd W0) : WrC 43 #[.int .i64 off] f d h' n' v data' base m b kn kd W := by
  intro W1 Ab cb hb h3 hC hm
  have F1 := F.below hb
  have hB : base ≤ W.heap.size := Nat.le_trans hf (Nat.le_of_lt (blk_lt F.hf))
  have hsz : (W.setCell ⟨f, 0, none⟩ (.int .i64 off)).heap.size = W.heap.size := by simp [World.setCell]
  have hM0 : Moves (fun i => i = f) W (W.setCell ⟨f, 0, none⟩ (.int .i64 off)) := (Moves.refl (fun i => i = f) W).setCell (p := ⟨f, 0, none⟩) (.inl rfl) _
  have hM1 : Moves (fun i => i = f) W1 (W1.setCell ⟨f, 0, none⟩ (.int .i64 off)) := (Moves.refl (fun i => i = f) W1).setCell (p := ⟨f, 0, none⟩) (.inl rfl) _
  have hbl : Below (W.setCell ⟨f, 0, none⟩ (.int .i64 off)).heap.size (W.setCell ⟨f, 0, none⟩ (.int .i64 off)) (W1.setCell ⟨f, 0, none⟩ (.int .i64 off)) := by
    rw [hsz]
    refine ⟨hb.os, hb.tape, hb.output, by simpa [World.setCell] using hb.size, fun k hk => ?_⟩
    by_cases hkf : k = f
    · subst hkf
      exact (F1.setPos off).hf.trans (F.setPos off).hf.symm
    · rw [Below.heap_setCell _ _ _ k hkf, Below.heap_setCell _ _ _ k hkf]
      exact hb.block k hk
  have hC2 : Kd.C (Kd.int .u8) (W1.setCell ⟨f, 0, none⟩ (.int .i64 off)) Ab m b := by
    refine ⟨hC.1, hC.2.1, fun h0 => ?_⟩
    obtain ⟨ad, e, hc⟩ := hC.2.2 h0
    refine ⟨ad, e, fun j x hj => ?_⟩
    obtain ⟨c, hc1, hc2, hc3⟩ := hc j x hj
    refine ⟨c, hc1, hc2, fun i u hi => ?_⟩
    have hcell := hc3 i u hi
    have hu : ∃ z, u = .int .u8 z := by
      have hcc : c = [.int .u8 x] := hc2
      subst hcc
      match i, hi with
      | 0, hi => simp at hi; exact ⟨x, hi.symm⟩
    obtain ⟨z, rfl⟩ := hu
    have hne : (⟨f, 0, none⟩ : Addr) ≠ ad.add (j * (Kd.int IntKind.u8).sz + i) := by
      intro e
      rw [← e, F1.c0] at hcell
      cases hcell
    rw [World.cell?_setCell_other _ _ _ _ hne]
    exact hcell
  refine writeat43 F1 (.slice Ab m cb) off _ ((hW _ (F.setPos off) hM0 hsz (W1.setCell ⟨f, 0, none⟩ (.int .i64 off)) Ab cb hbl (by simpa [World.setCell] using h3) hC2 hm).mono ?_)
  rintro e w1 ⟨ev, rfl, ⟨v1, hX, hM, hO⟩, hK⟩
  refine ⟨_, _, rfl, ev, rfl, ⟨v1, hX, (hM1.mono (fun i hi => .inl hi)).then_ hM (fun i hi => .inl hi), ?_⟩, fun w2 h2 => hK w2 (by rw [hsz]; exact h2)⟩
  have := own_then (w := W1) hM1.size (.inl rfl) hO
  exact this
end
end Go.Proofs.YtljcdjggjphedaaDoor.Hd
namespace Go.Proofs.YtljcdjggjphedaaDoor.Hd
open Go.RowKit Go.Proofs.YtljcdjggjphedaaDoorW.PrintWords Go.Proofs.YtljcdjggjphedaaDoorW.PrintLast Go.Proofs.YtljcdjggjphedaaDoorW.PrintMore
open Go.Proofs.YtljcdjggjphedaaDoor.PFnHandleScript
set_option linter.unusedVariables false
set_option linter.unusedSimpArgs false
section
variable {ops : Array Oper} {rest : List Oper} {o : Oper} {a : Act} {Q : Exit → Act → World → Prop}
theorem make_bytes {W : World} (hgd : o.guard = none) {N : Tmp} (hd : o.dst = some N) (x y : Operand) (ho : o.op = .makeSlice 22 x y) (n : Nat) (hx : a.eval x = .int .i64 n) (hy : a.eval y = .int .i64 n) (hn : n ≤ 100000000)
    (h : ∀ A1 c1 w1, Kd.R (Kd.int .u8) 5 w1 W.heap.size (fun _ => True) (.slice A1 n c1) (List.replicate n 0) → Below W.heap.size W w1 → wpList Tryd.prog ops Q rest (a.put o.dst (.slice A1 n c1)) w1) :
    wpList Tryd.prog ops Q (o :: rest) a W := by
  refine Kd.R_make (Kd.int .u8) (w0 := W) W.heap.size 5 hgd hd 22 x y ho n hx hy Tryd.underlying22 (.int .u8 0) 1 PFnHandleScript.info5 rfl (by decide) (by decide) 0 (ok := fun _ => True) (okp := fun _ => False) rfl (fun _ hk => hk.elim) trivial (by omega) (by simp; omega) (Below.refl _ _) (Nat.le_refl _) ?_
  intro v1 w1 h1 h2 _ _
  rw [Int.toNat_natCast] at h1
  obtain ⟨A1, c1, e1, _, _⟩ := Kd.R_reads h1
  rw [List.length_replicate] at e1
  subst e1
  exact h _ _ _ h1 h2
end
theorem moved_new {S : Nat → Prop} {WX wm : World} (hb : Moves S WX wm) (g : Nat) (hlt : g < WX.heap.size) (hn : ¬ S g) : (∀ i, wm.cell? ⟨g, i, none⟩ = WX.cell? ⟨g, i, none⟩) ∧ (∀ i, wm.frozen? ⟨g, i, none⟩ = WX.frozen? ⟨g, i, none⟩) :=
  ⟨fun i => World.cell?_of_block (a := ⟨g, i, none⟩) (hb.block g hlt hn), fun i => World.frozen?_of_block (a := ⟨g, i, none⟩) (hb.block g hlt hn)⟩
section
variable {f d base : Nat} {h : Hnd} {n : Nod} {v : Value} {data b : List Int} {W : World}
theorem cap_ok {wm : World} {bb m cb k : Nat} {Ab : Option Addr} {xs : List Int} (h : Kd.R (Kd.int .u8) 5 wm bb (fun _ => True) (.slice Ab m cb) xs) (hk : k ≤ m) : (k : Int) ≤ (cb : Int) := by
  have := (Kd.R_reads' h).2.1; omega
theorem wx_lt {WX wm : World} (_ : Below WX.heap.size WX wm) {g : Nat} (h : g < WX.heap.size) : g < WX.heap.size := h
def RdR (W : World) (v : Value) (w1 : World) (vb : Value) (res : List Int) : Prop := Kd.R (Kd.int .u8) 5 w1 W.heap.size (fun i => some i ≠ v.ownBlock ∧ i ≠ W.heap.size + 1 ∧ i ≠ W.heap.size + 1 + 1) vb res
theorem RdR.far1 {w1 : World} {vb : Value} {res : List Int} (h : RdR W v w1 vb res) (j : Nat) (u : Value) : RdR W v (w1.setCell ⟨W.heap.size + 1, j, none⟩ u) vb res := Kd.R_far (p := ⟨W.heap.size + 1, j, none⟩) h (fun i hi => hi.2.1) u
theorem RdR.far2 {w1 : World} {vb : Value} {res : List Int} (h : RdR W v w1 vb res) (j : Nat) (u : Value) : RdR W v (w1.setCell ⟨W.heap.size + 1 + 1, j, none⟩ u) vb res := Kd.R_far (p := ⟨W.heap.size + 1 + 1, j, none⟩) h (fun i hi => hi.2.2) u
theorem RdR.fin {w1 : World} {vb : Value} {res : List Int} (h : RdR W v w1 vb res) : Kd.R (Kd.int .u8) 5 w1 W.heap.size (fun i => some i ≠ v.ownBlock) vb res := Kd.R_mono h (fun i hi => hi.1)
/-- What was read, as the answer holds it. -/
theorem rd_row {w1 : World} {bb m cb k : Nat} {Ab : Option Addr} {res rest : List Int} (F : Fil f d h n v data base W) (hR : Kd.R (Kd.int .u8) 5 w1 bb (fun _ => True) (.slice Ab m cb) (res ++ rest)) (hk : res.length = k) (hbb : W.heap.size + 1 + 1 < bb) :
    RdR W v w1 (.slice Ab k cb) res := by
  have h1 := Kd.R_take (m := k) hR (by rw [List.length_append]; omega)
  rw [List.take_append_of_le_length (by omega), List.take_of_length_le (by omega)] at h1
  refine Kd.R_lower (Kd.R_mono (Kd.R_tight rfl h1) (fun i hi => ?_)) (by omega)
  have hb := Kd.R_base h1 i hi.symm
  refine ⟨fun e => ?_, by omega, by omega⟩
  have := Kd.R_lt F.row i e.symm
  omega
theorem below_sz {WX wm w : World} (hb : Below WX.heap.size WX wm) (h : Below w.heap.size w WX) : Below w.heap.size w wm ∧ w.heap.size ≤ WX.heap.size := ⟨below_then h h.size hb, h.size⟩
theorem new_lt {WX wm : World} (hb : Below WX.heap.size WX wm) {g : Nat} (hg : g < WX.heap.size) : g < wm.heap.size := Nat.lt_of_lt_of_le hg hb.size
theorem not_mine {vb : Value} {bb g : Nat} (F : Fil f d h n v data base W) (hb : ∀ k, vb.ownBlock = some k → bb ≤ k) (hg : W.heap.size ≤ g) (hlt : g < bb) : ¬ (g = f ∨ some g = vb.ownBlock) := by
  rintro (rfl | e)
  · have := blk_lt F.hf; omega
  · have := hb g e.symm; omega
theorem moves_rd {vb : Value} {bb : Nat} {w wm w1 : World} (hM : Moves (fun i => i = f ∨ some i = vb.ownBlock) wm w1) (hb : Below w.heap.size w wm) (ho : ∀ k, vb.ownBlock = some k → bb ≤ k) (hbb : w.heap.size ≤ bb) : Moves (Tch f d v) w w1 :=
  (Moves.of_below hb _).then_ hM (fun i hi => by
    rcases hi with hi | hi
    · exact .inl (.inl hi)
    · exact .inr (Nat.le_trans hbb (ho i hi.symm)))
/-- What a reader of m bytes does, as the step asks it. -/
def RdC (fn : Nat) (more : Array Value) (f d : Nat) (h' : Hnd) (n : Nod) (v : Value) (data : List Int) (base m k : Nat) (res : List Int) (ev : Value) (W : World) : Prop :=
  ∀ (W1 : World) (Ab : Option Addr) (cb bb : Nat), Below W.heap.size W W1 → W.heap.size ≤ bb → bb ≤ W1.heap.size → Kd.R (Kd.int .u8) 5 W1 bb (fun _ => True) (.slice Ab m cb) (List.replicate m 0) →
    Calls Tryd.prog fn (#[.pointer (some ⟨f, 0, none⟩), .slice Ab m cb] ++ more) W1 fun e w1 => e = .returned (.tuple #[.int .i64 k, ev]) ∧ Fil f d h' n v data base w1 ∧ Kd.R (Kd.int .u8) 5 w1 bb (fun _ => True) (.slice Ab m cb) (res ++ List.replicate (m - k) 0) ∧ Moves (fun i => i = f ∨ some i = (Value.slice Ab m cb).ownBlock) W1 w1
set_option maxHeartbeats 2000000 in
set_option maxRecDepth 100000 in
theorem on_read_any (F : Fil f d h n v data base W) (m k : Nat) (res : List Int) (h' : Hnd) (ev : Value) (kd : Int) (hres : res.length = k) (hkm : k ≤ m) (hm : m ≤ 1000000) (off : Int) (hRd : RdC 40 #[] f d h' n v data base m k res ev W)
    (hK : ∀ w2, Moves (Tch f d v) W w2 → Calls Tryd.prog 53 #[ev] w2 fun e w' => e = .returned (.int .i64 kd) ∧ w2 = w') (wh : Int) (nm ot : ByteArray) (fl pe hh : Int) (Ad : Option Addr) (md cd : Nat) :
    Calls Tryd.prog 27 #[.pointer (some ⟨f, 0, none⟩), stepV 12 nm ot fl pe hh (.slice Ad md cd) off wh m] W (Stp f d h' n data base v (ans kd 0 0 res) W) := by
  have HF := Lib.hid F
  have HC := Lib.hid hRd
  have HK := Lib.hid hK
  have HR := Lib.hid hres
  unfold stepV
  clear F hRd hK hres
  have hmx : (if (0 : Int) < (m : Int) then (m : Int) else 0) = (m : Int) := by split <;> omega
  have hmy : (if 0 < m then (m : Int) else 0) = (m : Int) := by split <;> omega
  have hmz : (if m = 0 then (0 : Int) else (m : Int)) = (m : Int) := by split <;> omega
  have hk1 : (k : Int) ≤ (m : Int) := by omega
  have hk2 : (0 : Int) ≤ (k : Int) := by omega
  go_enter Tryd.func27, Tryd.ntmps27
  go_wp2_with (first | ((with_reducible refine gate_dst (N := 23) rfl ?_); refine make_bytes rfl rfl _ _ rfl m rfl rfl (by omega) ?_; intro Ab cb wm hrb hbm; have RB := Lib.hid hrb; have BM := Lib.hid hbm; have mcb := cap_ok hrb hkm; have S3 := Lib.hid (wx_lt hbm (g := W.heap.size + 1 + 1) (by simp)); have SZ := Lib.hid (below_sz hbm (by repeat (first | exact Below.refl _ _ | apply below_alloc | apply below_drew) : Below W.heap.size W _)); obtain ⟨ka0, kb0⟩ := below_new hbm W.heap.size (by simp; omega); obtain ⟨ka1, kb1⟩ := below_new hbm (W.heap.size + 1) (by simp); obtain ⟨ka2, kb2⟩ := below_new hbm (W.heap.size + 1 + 1) (by simp); clear hrb hbm) | (go_at_call 40; (refine (HC.out wm Ab cb _ SZ.out.1 SZ.out.2 BM.out.size RB.out).mono ?_); rintro e w1 ⟨rfl, hX, hR2, hM⟩; have HX := Lib.hid hX; have HR2 := Lib.hid hR2; have HM := Lib.hid hM; have OB := Lib.hid (Kd.R_base RB.out); obtain ⟨kc1, kd1⟩ := moved_new hM (W.heap.size + 1) (new_lt BM.out (by simp)) (not_mine HF.out OB.out (by omega) (by simp)); obtain ⟨kc2, kd2⟩ := moved_new hM (W.heap.size + 1 + 1) (new_lt BM.out (by simp)) (not_mine HF.out OB.out (by omega) (by simp)); clear hX hR2 hM) | (go_at_call 53; have MW := Lib.hid (moves_rd (f := f) (d := d) (v := v) HM.out SZ.out.1 OB.out SZ.out.2); (refine (HK.out _ ?_).mono ?_); (exact (by repeat (first | with_reducible exact MW.out | with_reducible refine Moves.setCell (p := ⟨W.heap.size + 1, _, none⟩) ?_ (.inr (by show W.heap.size ≤ W.heap.size + 1; omega)) _ | with_reducible refine Moves.setCell (p := ⟨W.heap.size + 1 + 1, _, none⟩) ?_ (.inr (by show W.heap.size ≤ W.heap.size + 1 + 1; omega)) _))); rintro e w' ⟨rfl, rfl⟩))
  refine bodyPost_ret (v := .agg #[.int .i64 kd, .int .i64 0, .int .i64 0, .slice Ab k cb, .slice none 0 0, .slice none 0 0]) (by simp [results, Tryd.results27, go_sem, kc1, kc2, ka1, ka2]) rfl ?_
  have RR := Lib.hid (rd_row HF.out HR2.out HR.out S3.out)
  exact ⟨v, ⟨_, _, _, rfl, RdR.fin (res := res) (by repeat (first | with_reducible exact RR.out | with_reducible refine RdR.far1 ?_ _ _ | with_reducible refine RdR.far2 ?_ _ _)), Kd.R_nil _ _ _ _ _, Kd.R_nil _ _ _ _ _⟩, (by repeat (first | with_reducible exact HX.out | with_reducible refine Fil.setFar ?_ (HF.out.nef' (by omega)) (HF.out.ned' (by omega)) (HF.out.nev' (g := W.heap.size + 1) (by omega)) _ _ | with_reducible refine Fil.setFar ?_ (HF.out.nef' (by omega)) (HF.out.ned' (by omega)) (HF.out.nev' (g := W.heap.size + 1 + 1) (by omega)) _ _)), (by repeat (first | with_reducible exact MW.out | with_reducible refine Moves.setCell (p := ⟨W.heap.size + 1, _, none⟩) ?_ (.inr (by show W.heap.size ≤ W.heap.size + 1; omega)) _ | with_reducible refine Moves.setCell (p := ⟨W.heap.size + 1 + 1, _, none⟩) ?_ (.inr (by show W.heap.size ≤ W.heap.size + 1 + 1; omega)) _)), .inl rfl⟩
set_option maxHeartbeats 2000000 in
set_option maxRecDepth 100000 in
theorem on_readat_any (F : Fil f d h n v data base W) (m k : Nat) (res : List Int) (h' : Hnd) (ev : Value) (kd : Int) (hres : res.length = k) (hkm : k ≤ m) (hm : m ≤ 1000000) (off : Int) (hRd : RdC 41 #[.int .i64 off] f d h' n v data base m k res ev W)
    (hK : ∀ w2, Moves (Tch f d v) W w2 → Calls Tryd.prog 53 #[ev] w2 fun e w' => e = .returned (.int .i64 kd) ∧ w2 = w') (wh : Int) (nm ot : ByteArray) (fl pe hh : Int) (Ad : Option Addr) (md cd : Nat) :
    Calls Tryd.prog 27 #[.pointer (some ⟨f, 0, none⟩), stepV 13 nm ot fl pe hh (.slice Ad md cd) off wh m] W (Stp f d h' n data base v (ans kd 0 0 res) W) := by
  have HF := Lib.hid F
  have HC := Lib.hid hRd
  have HK := Lib.hid hK
  have HR := Lib.hid hres
  unfold stepV
  clear F hRd hK hres
  have hmx : (if (0 : Int) < (m : Int) then (m : Int) else 0) = (m : Int) := by split <;> omega
  have hmy : (if 0 < m then (m : Int) else 0) = (m : Int) := by split <;> omega
  have hmz : (if m = 0 then (0 : Int) else (m : Int)) = (m : Int) := by split <;> omega
  have hk1 : (k : Int) ≤ (m : Int) := by omega
  have hk2 : (0 : Int) ≤ (k : Int) := by omega
  go_enter Tryd.func27, Tryd.ntmps27
  go_wp2_with (first | ((with_reducible refine gate_dst (N := 40) rfl ?_); refine make_bytes rfl rfl _ _ rfl m rfl rfl (by omega) ?_; intro Ab cb wm hrb hbm; have RB := Lib.hid hrb; have BM := Lib.hid hbm; have mcb := cap_ok hrb hkm; have S3 := Lib.hid (wx_lt hbm (g := W.heap.size + 1 + 1) (by simp)); have SZ := Lib.hid (below_sz hbm (by repeat (first | exact Below.refl _ _ | apply below_alloc | apply below_drew) : Below W.heap.size W _)); obtain ⟨ka0, kb0⟩ := below_new hbm W.heap.size (by simp; omega); obtain ⟨ka1, kb1⟩ := below_new hbm (W.heap.size + 1) (by simp); obtain ⟨ka2, kb2⟩ := below_new hbm (W.heap.size + 1 + 1) (by simp); clear hrb hbm) | (go_at_call 41; (refine (HC.out wm Ab cb _ SZ.out.1 SZ.out.2 BM.out.size RB.out).mono ?_); rintro e w1 ⟨rfl, hX, hR2, hM⟩; have HX := Lib.hid hX; have HR2 := Lib.hid hR2; have HM := Lib.hid hM; have OB := Lib.hid (Kd.R_base RB.out); obtain ⟨kc1, kd1⟩ := moved_new hM (W.heap.size + 1) (new_lt BM.out (by simp)) (not_mine HF.out OB.out (by omega) (by simp)); obtain ⟨kc2, kd2⟩ := moved_new hM (W.heap.size + 1 + 1) (new_lt BM.out (by simp)) (not_mine HF.out OB.out (by omega) (by simp)); clear hX hR2 hM) | (go_at_call 53; have MW := Lib.hid (moves_rd (f := f) (d := d) (v := v) HM.out SZ.out.1 OB.out SZ.out.2); (refine (HK.out _ ?_).mono ?_); (exact (by repeat (first | with_reducible exact MW.out | with_reducible refine Moves.setCell (p := ⟨W.heap.size + 1, _, none⟩) ?_ (.inr (by show W.heap.size ≤ W.heap.size + 1; omega)) _ | with_reducible refine Moves.setCell (p := ⟨W.heap.size + 1 + 1, _, none⟩) ?_ (.inr (by show W.heap.size ≤ W.heap.size + 1 + 1; omega)) _))); rintro e w' ⟨rfl, rfl⟩))
  refine bodyPost_ret (v := .agg #[.int .i64 kd, .int .i64 0, .int .i64 0, .slice Ab k cb, .slice none 0 0, .slice none 0 0]) (by simp [results, Tryd.results27, go_sem, kc1, kc2, ka1, ka2]) rfl ?_
  have RR := Lib.hid (rd_row HF.out HR2.out HR.out S3.out)
  exact ⟨v, ⟨_, _, _, rfl, RdR.fin (res := res) (by repeat (first | with_reducible exact RR.out | with_reducible refine RdR.far1 ?_ _ _ | with_reducible refine RdR.far2 ?_ _ _)), Kd.R_nil _ _ _ _ _, Kd.R_nil _ _ _ _ _⟩, (by repeat (first | with_reducible exact HX.out | with_reducible refine Fil.setFar ?_ (HF.out.nef' (by omega)) (HF.out.ned' (by omega)) (HF.out.nev' (g := W.heap.size + 1) (by omega)) _ _ | with_reducible refine Fil.setFar ?_ (HF.out.nef' (by omega)) (HF.out.ned' (by omega)) (HF.out.nev' (g := W.heap.size + 1 + 1) (by omega)) _ _)), (by repeat (first | with_reducible exact MW.out | with_reducible refine Moves.setCell (p := ⟨W.heap.size + 1, _, none⟩) ?_ (.inr (by show W.heap.size ≤ W.heap.size + 1; omega)) _ | with_reducible refine Moves.setCell (p := ⟨W.heap.size + 1 + 1, _, none⟩) ?_ (.inr (by show W.heap.size ≤ W.heap.size + 1 + 1; omega)) _)), .inl rfl⟩
set_option maxHeartbeats 4000000 in
set_option maxRecDepth 100000 in
theorem read40y {bb : Nat} {vb : Value} (F : Fil f d h n v data base W) (hb : Kd.R (Kd.int .u8) 5 W bb (fun _ => True) vb []) (hcl : h.cl = false) (p : Nat) (hp : h.pos = p) (hpl : p ≤ data.length) (hdl : data.length ≤ 10000000) :
    Calls Tryd.prog 40 #[.pointer (some ⟨f, 0, none⟩), vb] W fun e w' => e = .returned (.tuple #[.int .i64 0, .nilIface]) ∧ Fil f d h n v data base w' ∧ Moves (fun i => i = f) W w' := by
  obtain ⟨pos, ls, cl, ro⟩ := h
  simp only at hp hcl
  subst hp hcl
  obtain ⟨Ab, cb, hvb, _, _⟩ := Kd.R_reads hb
  simp only [List.length_nil] at hvb
  have c0 := F.c0
  have c2 := F.c2
  have c4 := F.c4
  have n1 := F.n1
  have z0 := blk_frozen F.hf 0
  have HF := Lib.hid F
  have HB := Lib.hid hb
  have HVB := Lib.hid hvb
  have NE1 := Lib.hid (Kd.R_ne hb F.hf (by decide))
  have NE2 := Lib.hid (Kd.R_ne hb F.hd (by decide))
  simp only at c0 c2
  rw [hvb]
  obtain ⟨len, hlen⟩ : ∃ len, len = data.length := ⟨_, rfl⟩
  rw [← hlen] at hpl hdl
  have w1 : (p : Int) ≤ (len : Int) := by omega
  have b0 : (0 : Int) ≤ (p : Int) := by omega
  have w0 : (0 : Int) ≤ (len : Int) - (p : Int) := by omega
  have w3 : IntKind.i64.wrap ((len : Int) - (p : Int)) = (len : Int) - (p : Int) := IntWalk.i64_in _ (by omega)
  have hcp : ∀ (A : Option Addr) (c1 : Nat) (W1 : World), (Builtin.copy_ #[22, 22] 3 #[.slice Ab 0 cb, .slice A 0 c1]).run Tryd.prog W1 = .ok (goInt 0) W1 := fun A c1 W1 => run_copy_none W1 22 22 3 5 Ab A 0 cb 0 c1 Tryd.underlying22 info5s rfl
  rcases row_cases F.row with ⟨hv, hd0⟩ | ⟨g, c, hv, hc⟩
  · rw [hd0] at hlen
    have HV := Lib.hid hv
    rw [hv] at n1
    obtain rfl : p = 0 := by simp at hlen; omega
    obtain rfl : len = 0 := by simpa using hlen
    clear F hb hvb hlen hv
    go_enter Tryd.func40, Tryd.ntmps40
    go_wp2_with fail
    go_quiet (fail)
    go_wp2
    go_quiet (fail)
    go_wp2
    go_quiet (fail)
    go_wp2
    go_quiet (fail)
    go_wp2
    all_goals go_ret2
    all_goals exact ⟨rfl, by first | exact (HF.out.drewN _).setPos _ | exact ((HF.out.drewN _).drewN _).setPos _ | exact (((HF.out.drewN _).drewN _).drewN _).setPos _ | exact ((((HF.out.drewN _).drewN _).drewN _).drewN _).setPos _, by first | exact ((Moves.refl (fun i => i = f) _).drewN _).setCell (p := ⟨f, 0, none⟩) (.inl rfl) _ | exact (((Moves.refl (fun i => i = f) _).drewN _).drewN _).setCell (p := ⟨f, 0, none⟩) (.inl rfl) _ | exact ((((Moves.refl (fun i => i = f) _).drewN _).drewN _).drewN _).setCell (p := ⟨f, 0, none⟩) (.inl rfl) _ | exact (((((Moves.refl (fun i => i = f) _).drewN _).drewN _).drewN _).drewN _).setCell (p := ⟨f, 0, none⟩) (.inl rfl) _⟩
  · have HV := Lib.hid (show v = .slice (some ⟨g, 0, none⟩) len c by rw [hlen]; exact hv)
    rw [hv, ← hlen] at n1
    rw [← hlen] at hc
    have w2 : IntKind.i64.wrap ((p : Int) + 0) = (p : Int) := by rw [IntWalk.i64_in _ (by omega)]; omega
    have b2 : (p : Int) ≤ (c : Int) := by omega
    clear F hb hvb hlen hv
    go_enter Tryd.func40, Tryd.ntmps40
    go_wp2_with fail
    go_quiet (fail)
    go_wp2
    go_quiet (fail)
    go_wp2
    go_quiet (fail)
    go_wp2
    go_quiet (fail)
    go_wp2
    all_goals go_ret2
    all_goals exact ⟨rfl, by first | exact (HF.out.drewN _).setPos _ | exact ((HF.out.drewN _).drewN _).setPos _ | exact (((HF.out.drewN _).drewN _).drewN _).setPos _ | exact ((((HF.out.drewN _).drewN _).drewN _).drewN _).setPos _, by first | exact ((Moves.refl (fun i => i = f) _).drewN _).setCell (p := ⟨f, 0, none⟩) (.inl rfl) _ | exact (((Moves.refl (fun i => i = f) _).drewN _).drewN _).setCell (p := ⟨f, 0, none⟩) (.inl rfl) _ | exact ((((Moves.refl (fun i => i = f) _).drewN _).drewN _).drewN _).setCell (p := ⟨f, 0, none⟩) (.inl rfl) _ | exact (((((Moves.refl (fun i => i = f) _).drewN _).drewN _).drewN _).drewN _).setCell (p := ⟨f, 0, none⟩) (.inl rfl) _⟩
/-- What reading tells, and gives. -/
def rdE (cl : Bool) (len : Nat) (p : Int) (m : Nat) : Int := if cl then 3 else if 0 < m ∧ p = len then 4 else if (len : Int) < p then 5 else 0
def rdD (cl : Bool) (data : List Int) (p : Int) (m : Nat) : List Int := if rdE cl data.length p m = 0 then (data.drop p.toNat).take m else []
theorem rdD_len (cl : Bool) (data : List Int) (p : Int) (m : Nat) : (rdD cl data p m).length ≤ m := by
  unfold rdD; split
  · rw [List.length_take]; omega
  · simp
def rdV (A : Nat → Addr) (e : Int) : Value := if e = 3 then .iface 149 (.pointer (some (A 0))) else if e = 4 then .iface 149 (.pointer (some (A 1))) else if e = 5 then .iface 149 (.pointer (some (A 2))) else .nilIface
theorem kind_rd (A : Nat → Addr) (cl : Bool) (len : Nat) (p : Int) (m : Nat) (w : World) (h : Sent A w) : Calls Tryd.prog 53 #[rdV A (rdE cl len p m)] w fun e w' => e = .returned (.int .i64 (rdE cl len p m)) ∧ w = w' := by
  unfold rdE
  split
  · exact kind_s0 A w h
  · split
    · exact kind_s1 A w h
    · split
      · exact kind_s2 A w h
      · exact kind_nil w
/-- Reading, whatever it comes to. -/
theorem read_here (A : Nat → Addr) {W1 : World} {Ab : Option Addr} {cb bb : Nat} (F1 : Fil f d h n v data base W1) (S1 : Sent A W1) (hbs : bb ≤ W1.heap.size) (m : Nat) (hm : m ≤ 1000000) (hdl : data.length ≤ 1000000) (hp : h.cl = false → 0 ≤ h.pos) (hbv : ∀ i, v.ownBlock = some i → (Value.slice Ab m cb).ownBlock ≠ some i) (hR : Kd.R (Kd.int .u8) 5 W1 bb (fun _ => True) (.slice Ab m cb) (List.replicate m 0)) :
    Calls Tryd.prog 40 (#[.pointer (some ⟨f, 0, none⟩), .slice Ab m cb] ++ #[]) W1 fun e w1 => e = .returned (.tuple #[.int .i64 (rdD h.cl data h.pos m).length, rdV A (rdE h.cl data.length h.pos m)]) ∧ Fil f d { h with pos := h.pos + (rdD h.cl data h.pos m).length } n v data base w1 ∧ Kd.R (Kd.int .u8) 5 w1 bb (fun _ => True) (.slice Ab m cb) (rdD h.cl data h.pos m ++ List.replicate (m - (rdD h.cl data h.pos m).length) 0) ∧ Moves (fun i => i = f ∨ some i = (Value.slice Ab m cb).ownBlock) W1 w1 := by
  obtain ⟨pos, ls, cl, ro⟩ := h
  simp only at hp ⊢
  have fail : ∀ (kd : Int) (ev : Value), rdE cl data.length pos m = kd → kd ≠ 0 → rdV A kd = ev → Calls Tryd.prog 40 #[.pointer (some ⟨f, 0, none⟩), .slice Ab m cb] W1 (fun e w' => e = .returned (.tuple #[.int .i64 0, ev]) ∧ Below W1.heap.size W1 w') →
      Calls Tryd.prog 40 (#[.pointer (some ⟨f, 0, none⟩), .slice Ab m cb] ++ #[]) W1 fun e w1 => e = .returned (.tuple #[.int .i64 (rdD cl data pos m).length, rdV A (rdE cl data.length pos m)]) ∧ Fil f d { pos := pos + (rdD cl data pos m).length, ls := ls, cl := cl, ro := ro } n v data base w1 ∧ Kd.R (Kd.int .u8) 5 w1 bb (fun _ => True) (.slice Ab m cb) (rdD cl data pos m ++ List.replicate (m - (rdD cl data pos m).length) 0) ∧ Moves (fun i => i = f ∨ some i = (Value.slice Ab m cb).ownBlock) W1 w1 := by
    intro kd ev he h0 hv hC
    have hD : rdD cl data pos m = [] := by unfold rdD; rw [he, if_neg h0]
    rw [hD, he, hv]
    refine hC.mono ?_
    rintro e w1 ⟨rfl, hbw⟩
    refine ⟨rfl, ?_, ?_, Moves.of_below hbw _⟩
    · have := F1.below hbw
      simpa using this
    · have := Kd.R_below hR hbw
      simpa using this
  cases cl with
  | true =>
    exact fail 3 _ rfl (by decide) rfl (read40c F1 A S1 _ rfl)
  | false =>
    have hcl : ({ pos := pos, ls := ls, cl := false, ro := ro } : Hnd).cl = false := rfl
    by_cases h4 : 0 < m ∧ pos = data.length
    · exact fail 4 _ (by simp [rdE, h4]) (by decide) rfl (read40e F1 A S1 Ab m cb hcl h4.1 h4.2)
    · by_cases h5 : (data.length : Int) < pos
      · exact fail 5 _ (by simp only [rdE]; rw [if_neg (by simp), if_neg h4, if_pos h5]) (by decide) rfl (read40u F1 A S1 Ab m cb hcl h5)
      · have he : rdE false data.length pos m = 0 := by simp only [rdE]; rw [if_neg (by simp), if_neg h4, if_neg h5]
        have hD : rdD false data pos m = (data.drop pos.toNat).take m := by unfold rdD; rw [he, if_pos rfl]
        have hpp := hp rfl
        clear fail
        obtain ⟨p, rfl⟩ : ∃ p : Nat, pos = p := ⟨pos.toNat, by omega⟩
        rw [hD, he]
        have hlen : ((data.drop (p : Int).toNat).take m).length = min m (data.length - p) := by rw [List.length_take, List.length_drop, Int.toNat_natCast]
        rw [hlen]
        rcases Nat.eq_zero_or_pos m with hm0 | hm0
        · subst hm0
          have h0 : min 0 (data.length - p) = 0 := by omega
          rw [h0, List.take_zero]
          refine (read40y F1 (by simpa using hR) hcl p rfl (by omega) (by omega)).mono ?_
          rintro e w1 ⟨rfl, h1, h2⟩
          refine ⟨rfl, by simpa using h1, ?_, h2.mono (fun i hi => .inl hi)⟩
          have hne := Kd.R_ne hR F1.hf (by decide)
          exact Kd.R_mono (h2.row (Kd.R_tight rfl (by simpa using hR)) (fun i hi e => hne (by rw [← hi, e]))) (fun _ _ => trivial)
        · refine (read40 F1 hcl hR hbs hbv p m rfl (by simp) (by omega) hm0 (by omega) (by omega)).mono ?_
          rintro e w1 ⟨rfl, h1, h2, h3⟩
          refine ⟨rfl, h1, ?_, h3⟩
          rw [List.drop_replicate] at h2
          rw [show (data.drop (p : Int).toNat).take m = (data.drop (p : Int).toNat).take (min m (data.length - p)) by rw [List.take_eq_take_iff]; simp]
          exact h2
/-- Reading at the place, and at another place. -/
theorem read_spec (A : Nat → Addr) (F : Fil f d h n v data base W) (hS : Sent A W) (m : Nat) (hm : m ≤ 1000000) (hdl : data.length ≤ 1000000) (hp : h.cl = false → 0 ≤ h.pos) :
    RdC 40 #[] f d { h with pos := h.pos + (rdD h.cl data h.pos m).length } n v data base m (rdD h.cl data h.pos m).length (rdD h.cl data h.pos m) (rdV A (rdE h.cl data.length h.pos m)) W := by
  intro W1 Ab cb bb hb hbb hbs hR
  exact read_here A (F.below hb) (hS.later hb) hbs m hm hdl hp (fun i hi e => by
    have h1 := Kd.R_lt F.row i hi
    have h2 := Kd.R_base hR i e
    omega) hR
theorem readat_spec (A : Nat → Addr) (F : Fil f d h n v data base W) (hS : SentB A base W) (hf : base ≤ f) (hd : base ≤ d) (m : Nat) (hm : m ≤ 1000000) (hdl : data.length ≤ 1000000) (off : Int) (hp : h.cl = false → 0 ≤ off) :
    RdC 41 #[.int .i64 off] f d h n v data base m (rdD h.cl data off m).length (rdD h.cl data off m) (rdV A (rdE h.cl data.length off m)) W := by
  intro W1 Ab cb bb hb hbb hbs hR
  have F1 := F.below hb
  have F2 := F1.setPos off
  have hbv : ∀ i, v.ownBlock = some i → (Value.slice Ab m cb).ownBlock ≠ some i := fun i hi e => by
    have h1 := Kd.R_lt F.row i hi
    have h2 := Kd.R_base hR i e
    omega
  have hB : base ≤ W.heap.size := Nat.le_trans hf (Nat.le_of_lt (blk_lt F.hf))
  have hM : Moves (fun i => i = f) W1 (W1.setCell ⟨f, 0, none⟩ (.int .i64 off)) := (Moves.refl (fun i => i = f) W1).setCell (p := ⟨f, 0, none⟩) (.inl rfl) _
  have S2 := ((hS.moves (Moves.of_below hb (fun _ => False)) (fun _ q => q.elim) hB).moves hM (fun k hk => by subst hk; exact hf) (Nat.le_trans hB hb.size)).sent
  have R2 := Kd.R_set hR F1.hf (Fil.types 94 (.inl rfl)) 0 (.int .i64 off)
  have hC := read_here A F2 S2 (Nat.le_trans hbs hM.size) m hm hdl hp hbv R2
  refine (readat41 F1 (.slice Ab m cb) off (rdD h.cl data off m).length (off + (rdD h.cl data off m).length) (rdV A (rdE h.cl data.length off m)) (fun w1 => Kd.R (Kd.int .u8) 5 w1 bb (fun _ => True) (.slice Ab m cb) (rdD h.cl data off m ++ List.replicate (m - (rdD h.cl data off m).length) 0) ∧ Moves (fun i => i = f ∨ some i = (Value.slice Ab m cb).ownBlock) W1 w1) (hC.mono (fun e w' q => ⟨q.1, q.2.1, q.2.2.1, (hM.mono (fun i hi => .inl hi)).then_ q.2.2.2 (fun i hi => .inl hi)⟩))).mono ?_
  rintro e w' ⟨rfl, w1, ⟨hR1, hM1⟩, hF1, rfl⟩
  refine ⟨rfl, ?_, Kd.R_set hR1 hF1.hf (Fil.types 94 (.inl rfl)) 0 _, hM1.setCell (p := ⟨f, 0, none⟩) (.inl (.inl rfl)) _⟩
  have := hF1.setPos h.pos
  exact this
end
end Go.Proofs.YtljcdjggjphedaaDoor.Hd
namespace Go.Proofs.YtljcdjggjphedaaDoor.Hd
open Go.RowKit Go.Proofs.YtljcdjggjphedaaDoorW.PrintWords Go.Proofs.YtljcdjggjphedaaDoorW.PrintLast Go.Proofs.YtljcdjggjphedaaDoorW.PrintMore
open Go.Proofs.YtljcdjggjphedaaDoor.PFnHandleScript
set_option linter.unusedVariables false
set_option linter.unusedSimpArgs false
theorem info33 : (Tryd.prog.info? 33).map (fun i => (i.zero, i.size, i.bytes)) = some (some (.agg #[.int .i64 0, .int .i64 0, .int .i64 0, .slice none 0 0, .slice none 0 0, .slice none 0 0]), 6, 96) := by kernel_rfl
section
variable {ops : Array Oper} {rest : List Oper} {o : Oper} {a : Act} {Q : Exit → Act → World → Prop}
theorem app_ans {W : World} (base : Nat) (hgd : o.guard = none) (s x : Operand) (ho : o.op = .call { callee := .builtin .append, args := #[s, x], argTypes := #[27, 27] })
    (v : Value) (xs : List S33) (p : S33) (v3 v4 v5 : Value) (ok okp : Nat → Prop) (hs : a.eval s = v) (hx : a.eval x = .slice (some ⟨W.heap.size, 0, none⟩) 1 1)
    (g3 : (Kd.int .u8).R 5 W base okp v3 p.f3) (g4 : Kd.string.R 9 W base okp v4 p.f4) (g5 : k75.R 75 W base okp v5 p.f5) (hokp : ∀ k, okp k → ok k ∧ some k ≠ v.ownBlock) (hfresh : ∀ k, W.heap.size ≤ k → ok k)
    (HO : k33.R 33 W base ok v xs) (hbase : base ≤ W.heap.size) (hl : xs.length ≤ 1000)
    (h : ∀ v1 w1, k33.R 33 w1 base ok v1 (xs ++ [p]) → W.grownBy w1 v.ownBlock → wpList Tryd.prog ops Q rest (a.put o.dst v1) w1) :
    wpList Tryd.prog ops Q (o :: rest) a (W.alloc (.cells #[.int .i64 p.f0, .int .i64 p.f1, .int .i64 p.f2, v3, v4, v5] 33)) := by
  refine Kd.R_append k33 (w0 := W) base hgd s x 27 33 _ 96 ho Tryd.underlying27 info33 rfl (by decide) (by decide) v xs p [.int .i64 p.f0, .int .i64 p.f1, .int .i64 p.f2, v3, v4, v5] ok okp hs hx (k33_mkM W base okp p g3 g4 g5) hokp hfresh HO (Below.refl _ _) hbase (by omega) ?_
  intro v1 w1 h1 _ h2 _
  exact h v1 w1 h1 h2
end
/-- The blocks that no file's step touches. -/
def okk (f d : Nat) (v : Value) (k : Nat) : Prop := k ≠ f ∧ k ≠ d ∧ some k ≠ v.ownBlock
/-- What a script on an open file has done so far. -/
structure Sc (A : Nat → Addr) (base f d : Nat) (w0 : World) (h : Hnd) (n : Nod) (data : List Int) (v out : Value) (xs : List S33) (W : World) : Prop where
  fil : Fil f d h n v data base W
  out : k33.R 33 W base (okk f d v) out xs
  sen : SentB A base W
  bel : Below base w0 W
  hf : base ≤ f
  hd : base ≤ d
/-- A step on an open file does so. -/
def Does (A : Nat → Addr) (h : Hnd) (n : Nod) (data : List Int) (s : S26) (x : S33) (h' : Hnd) (n' : Nod) (data' : List Int) : Prop :=
  ∀ (f d base : Nat) (v : Value) (W : World), Fil f d h n v data base W → SentB A base W → base ≤ f → base ≤ d → ∀ (Ad : Option Addr) (cd : Nat), Kd.C (Kd.int .u8) W Ad s.f6.length s.f6 → s.f6.length ≤ cd →
    Calls Tryd.prog 27 #[.pointer (some ⟨f, 0, none⟩), .agg #[.int .i64 s.f0, .string s.f1, .string s.f2, .int .i64 s.f3, .int .i64 s.f4, .int .i64 s.f5, .slice Ad s.f6.length cd, .int .i64 s.f7, .int .i64 s.f8, .int .i64 s.f9]] W (Stp f d h' n' data' base v x W)
section
variable {A : Nat → Addr} {base f d : Nat} {w0 W w1 : World} {h h' : Hnd} {n n' : Nod} {data data' : List Int} {v out : Value} {xs : List S33}
theorem Sc.size (S : Sc A base f d w0 h n data v out xs W) : base ≤ W.heap.size := Nat.le_trans S.hf (Nat.le_of_lt (blk_lt S.fil.hf))
theorem Sc.below (S : Sc A base f d w0 h n data v out xs W) (hb : Below W.heap.size W w1) : Sc A base f d w0 h n data v out xs w1 :=
  ⟨S.fil.below hb, Kd.R_below S.out hb, S.sen.moves (Moves.of_below hb (fun _ => False)) (fun _ q => q.elim) S.size, below_then S.bel S.size hb, S.hf, S.hd⟩
theorem Sc.step {x : S33} {e : Ending} (S : Sc A base f d w0 h n data v out xs W) (hs : Stp f d h' n' data' base v x W e w1) :
    ∃ v' v3 v4 v5, e = .returned (.agg #[.int .i64 x.f0, .int .i64 x.f1, .int .i64 x.f2, v3, v4, v5]) ∧ Sc A base f d w0 h' n' data' v' out xs w1 ∧ (Kd.int .u8).R 5 w1 base (fun k => okk f d v' k ∧ some k ≠ out.ownBlock) v3 x.f3 ∧ Kd.string.R 9 w1 base (fun k => okk f d v' k ∧ some k ≠ out.ownBlock) v4 x.f4 ∧ k75.R 75 w1 base (fun k => okk f d v' k ∧ some k ≠ out.ownBlock) v5 x.f5 := by
  obtain ⟨v', ⟨v3, v4, v5, rfl, r3, r4, r5⟩, F, M, O⟩ := hs
  have hB := S.size
  have hfl := blk_lt S.fil.hf
  have hdl := blk_lt S.fil.hd
  have hol : ∀ k, out.ownBlock = some k → k < W.heap.size := fun k hk => Kd.R_lt S.out k hk
  have hnew : ∀ k, W.heap.size ≤ k → some k ≠ v'.ownBlock → okk f d v' k ∧ some k ≠ out.ownBlock := fun k hk hv =>
    ⟨⟨by omega, by omega, hv⟩, fun e => by have := hol k e.symm; omega⟩
  have hout : k33.R 33 w1 base (okk f d v') out xs := by
    have h1 := M.row (Kd.R_bound S.out) (fun k hk ht => by
      rcases ht with rfl | rfl | ht
      · exact hk.1.1 rfl
      · exact hk.1.2.1 rfl
      · exact hk.1.2.2 ht)
    refine Kd.R_mono h1 (fun k hk => ⟨hk.1.1, hk.1.2.1, fun e => ?_⟩)
    rcases O with O | ⟨b, O, hb⟩
    · exact hk.1.2.2 (e.trans O)
    · rw [O] at e
      injection e with e
      have := hk.2.2.1
      omega
  refine ⟨v', v3, v4, v5, rfl, ⟨F, hout, S.sen.moves M (S.fil.tch S.hf S.hd) hB, M.toBelow S.bel hB (S.fil.tch S.hf S.hd), S.hf, S.hd⟩, ?_, ?_, ?_⟩
  · exact Kd.R_lower (Kd.R_mono (Kd.R_bound r3) (fun k hk => hnew k hk.2.1 hk.1)) hB
  · exact Kd.R_lower (Kd.R_mono (Kd.R_bound r4) (fun k hk => hnew k hk.2.1 hk.1)) hB
  · exact Kd.R_lower (Kd.R_mono (Kd.R_bound r5) (fun k hk => hnew k hk.2.1 hk.1)) hB
theorem Sc.fresh (S : Sc A base f d w0 h n data v out xs W) : ∀ k, W.heap.size ≤ k → okk f d v k := fun k hk => by
  have hfl := blk_lt S.fil.hf
  have hdl := blk_lt S.fil.hd
  exact ⟨by omega, by omega, fun e => by have := Kd.R_lt S.fil.row k e.symm; omega⟩
theorem Sc.app {out' : Value} {ys : List S33} (S : Sc A base f d w0 h n data v out xs W) (hr : k33.R 33 w1 base (okk f d v) out' ys) (hg : W.grownBy w1 out.ownBlock) : Sc A base f d w0 h n data v out' ys w1 := by
  have hM : Moves (fun k => some k = out.ownBlock) W w1 := (Moves.refl _ W).grown hg (fun k hk => .inl hk.symm)
  have hb : ∀ k, some k = out.ownBlock → base ≤ k := fun k hk => Kd.R_base S.out k hk.symm
  refine ⟨S.fil.grown hg (fun e => (S.out.1 f e.symm).1 rfl) (fun e => (S.out.1 d e.symm).2.1 rfl) (fun i hi e => (S.out.1 i e).2.2 hi.symm), hr, S.sen.moves hM hb S.size, hM.toBelow S.bel S.size hb, S.hf, S.hd⟩
/-- The beginning. -/
theorem Sc.start {nm : ByteArray} {ro : Bool} {w W W1 : World} {A1 : Option Addr} {nl c1 : Nat} (hS : SentB A w.heap.size w) (hb : Below w.heap.size w W) (hr : Kd.R (Kd.int .u8) 5 W w.heap.size (fun _ => True) (.slice A1 nl c1) data)
    (hd : W1.heap[d]? = some (.cells (ncs n (.slice A1 nl c1)) 92 (0, 0))) (hd1 : d = W.heap.size) (hb1 : Below W.heap.size W W1) : Sc A w.heap.size W1.heap.size d w ⟨0, 0, false, ro⟩ n data (.slice A1 nl c1) (.slice none 0 0) [] (W1.alloc (.cells (hcs ⟨0, 0, false, ro⟩ d) 94)) := by
  have hbb := below_alloc hb1 (.cells (hcs ⟨0, 0, false, ro⟩ d) 94)
  have hbw : Below w.heap.size w (W1.alloc (.cells (hcs ⟨0, 0, false, ro⟩ d) 94)) := below_then hb hb.size hbb
  exact ⟨⟨blk_new _ _, blk_alloc hd _, Kd.R_below hr hbb⟩, Kd.R_nil _ _ _ _ _, hS.moves (Moves.of_below hbw (fun _ => False)) (fun _ q => q.elim) (Nat.le_refl _), hbw, Nat.le_trans hb.size hb1.size, by rw [hd1]; exact hb.size⟩
end
set_option maxHeartbeats 2000000 in
set_option maxRecDepth 100000 in
theorem handle13 (w : World) (A : Nat → Addr) (hS : SentB A w.heap.size w) (data : List Int) (Ad : Option Addr) (md cd : Nat) (hD : Kd.C (Kd.int .u8) w Ad md data) (hmd : md ≤ 10000000) (ro : Bool)
    (ss : List S26) (As : Option Addr) (ms cs : Nat) (hSS : k26.C w As ms ss) (hms : ms ≤ 100) (st : Nat → Hnd × Nod × List Int) (ys : Nat → S33)
    (h0 : st 0 = (⟨0, 0, false, ro⟩, ⟨⟨#[47, 102]⟩, .map none, false, 268435456, 0⟩, data)) (hDo : ∀ i : Nat, i < ms → Does A (st i).1 (st i).2.1 (st i).2.2 (rd_T26 ss i) (ys i) (st (i + 1)).1 (st (i + 1)).2.1 (st (i + 1)).2.2) (hL : (st ms).2.2.length ≤ 10000000) :
    Calls Tryd.prog 13 #[.slice Ad md cd, .bool ro, .slice As ms cs] w fun e w' => ∃ A1 c1 A2 c2, e = .returned (.tuple #[.slice A1 ms c1, .slice A2 (st ms).2.2.length c2]) ∧ k33.C w' A1 ms ((List.range ms).map ys) ∧ ms ≤ c1 ∧ (Kd.int .u8).C w' A2 (st ms).2.2.length (st ms).2.2 ∧ (st ms).2.2.length ≤ c2 ∧ Below w.heap.size w w' := by
  have HL := Lib.hid hD.1
  have HD := Lib.hid hD
  have HSS := Lib.hid hSS
  have HDO := Lib.hid hDo
  have HLL := Lib.hid hL
  have HSN := Lib.hid hS
  have HST0 := Lib.hid h0
  have HW := Lib.hid (fun W1 A m c => with24 (W := W1) ⟨#[47, 102]⟩ A m c)
  have H25 := Lib.hid (fun W1 nd => new25 (W := W1) nd)
  have H26 := Lib.hid (fun W1 nd => new26 (W := W1) nd)
  clear hD hSS hDo hL hS h0
  go_enter Tryd.func13, Tryd.ntmps13
  go_upto_if 18 with (first | ((with_reducible refine gate_builtin (b := .append) (xs := #[.const (.slice none 0 0), .tmp 13]) rfl ?_); at_builtin; refine app_bytes w.heap.size rfl _ _ rfl (.slice none 0 0) [] data Ad md cd rfl rfl (Kd.R_nil _ _ _ _ _) HD.out (Nat.le_refl _) (by simp; omega) ?_; intro A1 m' c1 wm hr1 hg1; have R1 := Lib.hid hr1; have G1 := Lib.hid hg1; clear hr1 hg1) | (go_at_call 24; (refine (HW.out _ _ _ _).mono ?_); rintro e w2 ⟨rfl, hn2, hb2⟩; have N2 := Lib.hid hn2; have B2 := Lib.hid hb2; clear hn2 hb2) | (go_at_call 25; (refine (H25.out _ _).mono ?_); rintro e w3 ⟨rfl, _, rfl⟩))
  have BW := Lib.hid (show Below w.heap.size w wm from ⟨G1.out.os, G1.out.tape, G1.out.output, G1.out.size, fun k hk => G1.out.block k hk (by simp [Value.ownBlock])⟩)
  have RW := Lib.hid (show Kd.R (Kd.int .u8) 5 wm w.heap.size (fun _ => True) (.slice A1 m' c1) data by have := R1.out; rwa [List.nil_append] at this)
  clear R1 G1
  go_cut [9] (fun v9 wx => ∃ f, v9 = .pointer (some ⟨f, 0, none⟩) ∧ Hid (Sc A w.heap.size f wm.heap.size w (st 0).1 (st 0).2.1 (st 0).2.2 (.slice A1 m' c1) (.slice none 0 0) [] wx))
  case first =>
    by_cases hro : ro = true
    · subst hro
      go_wp2_with (first | (go_at_call 26; (refine (H26.out _ _).mono ?_); rintro e w3 ⟨rfl, _, rfl⟩))
      go_meet
      exact ⟨_, rfl, Lib.hid (by rw [HST0.out, show w2.heap.size + 1 = (w2.alloc (.cells (hcs ⟨0, 0, false, false⟩ wm.heap.size) 94)).heap.size by simp]; exact Sc.start (nm := ⟨#[]⟩) HSN.out BW.out RW.out (blk_alloc N2.out _) rfl (below_alloc B2.out _))⟩
    · obtain rfl : ro = false := by simpa using hro
      go_wp2_with fail
      go_meet
      exact ⟨_, rfl, Lib.hid (by rw [HST0.out]; exact Sc.start (nm := ⟨#[]⟩) HSN.out BW.out RW.out N2.out rfl B2.out)⟩
  case rest =>
    obtain ⟨f, rfl, SC0⟩ := hcut
    rename World => wx
    have BX := Lib.hid SC0.out.bel
    clear N2 B2 BW RW
    generalize wm.heap.size = d at *
    go_wp2_with fail
    go_loopw [10, 23] (fun v10 v23 wr => ∃ (i : Nat) (v : Value), v23 = .int .i64 i ∧ i ≤ ms ∧ Hid (Sc A w.heap.size f d w (st i).1 (st i).2.1 (st i).2.2 v v10 ((List.range i).map ys) wr)) (fun _ v23 _ => (ms : Int).toNat - (intOf v23).toNat)
    case atStart => exact ⟨0, _, rfl, by omega, SC0⟩
    case round =>
      obtain ⟨i, v, rfl, hi, HSC⟩ := hrel
      by_cases hlt : i < ms
      · obtain ⟨ad, A6, c6, rfl, k0, k1, k2, k3, k4, k5, k6, k7, k8, k9, l6, g6⟩ := at_T26 (Kd.C_below HSS.out HSC.out.bel) (i : Int) (by omega) (by omega)
        have HX := Lib.hid (fun (W1 : World) (hb : Below wr.heap.size wr W1) => (HDO.out i hlt f d w.heap.size v W1 (HSC.out.below hb).fil (HSC.out.below hb).sen HSC.out.hf HSC.out.hd A6 c6 (Kd.C_below g6 hb) l6).mono (fun e w1 q => (HSC.out.below hb).step q))
        clear g6 l6
        simp only [Int.toNat_natCast] at k0 k1 k2 k3 k4 k5 k6 k7 k8 k9
        generalize rd_T26 ss (i : Int) = s at *
        go_wp2_with (first | (go_at_call 27; (refine (HX.out _ ?_).mono ?_); (repeat (first | exact Below.refl _ _ | apply below_alloc | apply below_drew)); rintro e w1 ⟨v', v3, v4, v5, rfl, hsn, hg3, hg4, hg5⟩; have SCN := Lib.hid hsn; have G3 := Lib.hid hg3; have G4 := Lib.hid hg4; have G5 := Lib.hid hg5; clear hsn hg3 hg4 hg5) | ((with_reducible refine gate_builtin (b := .append) (xs := #[.tmp 27, .tmp 31]) rfl ?_); at_builtin; refine app_ans w.heap.size rfl (.tmp 27) (.tmp 31) rfl u10 _ (ys i) v3 v4 v5 (okk f d v') _ rfl rfl G3.out G4.out G5.out (fun _ h => h) SCN.out.fresh SCN.out.out SCN.out.size (by simp; omega) ?_; intro v10 wn hr hg; have SCM := Lib.hid (SCN.out.app hr hg); clear hr hg))
        go_roundw
        case rel => exact ⟨i + 1, v', by push_cast; rfl, hlt, Lib.hid (by rw [List.range_succ, List.map_append, List.map_singleton]; exact SCM.out)⟩
        case measure => simp only [intOf]; omega
      · obtain rfl : i = ms := by omega
        obtain ⟨A2, c2, rfl, hc2, hC2⟩ := Kd.R_reads HSC.out.fil.row
        have HC2 := Lib.hid hC2
        have HL2 := Lib.hid hc2
        have H28 := Lib.hid (bytes28 HSC.out.fil)
        obtain ⟨A3, c3, rfl, hc3, hC3⟩ := Kd.R_reads HSC.out.out
        have HC3 := Lib.hid hC3
        have HL3 := Lib.hid hc3
        clear hC2 hc2 hC3 hc3
        go_wp2_with (first | (go_at_call 28; (refine (H28.out).mono ?_); rintro e w1 ⟨rfl, rfl⟩) | ((with_reducible refine gate_builtin (b := .append) (xs := #[.const (.slice none 0 0), .tmp 36]) rfl ?_); at_builtin; refine app_bytes w.heap.size rfl _ _ rfl (.slice none 0 0) [] (st i).2.2 A2 (st i).2.2.length c2 rfl rfl (Kd.R_nil _ _ _ _ _) HC2.out HSC.out.size (by have := HLL.out; simp; omega) ?_; intro A4 m4 c4 wl hr hg; have R4 := Lib.hid hr; have G4 := Lib.hid hg; clear hr hg))
        have hb : Below w1.heap.size w1 wl := ⟨G4.out.os, G4.out.tape, G4.out.output, G4.out.size, fun k hk => G4.out.block k hk (by simp [Value.ownBlock])⟩
        have r := R4.out
        rw [List.nil_append] at r
        obtain ⟨rfl, hc4, hC4⟩ := Kd.R_reads' r
        have h3 := Kd.C_below HC3.out hb
        have h3c := HL3.out
        have e3 : (List.map ys (List.range i)).length = i := by simp
        rw [e3] at h3 h3c
        have hbw := below_then HSC.out.bel HSC.out.size hb
        go_ret2
        exact ⟨A3, c3, A4, c4, rfl, h3, h3c, hC4, hc4, hbw⟩
end Go.Proofs.YtljcdjggjphedaaDoor.Hd
