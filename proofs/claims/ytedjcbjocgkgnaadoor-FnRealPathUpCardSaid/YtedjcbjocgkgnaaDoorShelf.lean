/- Contracts of the library at this dump (laid by the kit's lay-shelf and lay-plain). -/
import Derived.Ground.PaProg
import Derived.Shelf.Path.LazyBuf
import Derived.Shelf.Path.CleanRel
import Derived.Shelf.Path.CleanAbs
import Derived.Shelf.Path.Clean
import Derived.Shelf.Path.Join
import Derived.Shelf.Path.CleanRules
import Derived.Shelf.Path.JoinRules
import Derived.Test.YtedjcbjocgkgnaaDoorProg
namespace Go.Proofs
open Go.Shelf
def Tryd.laysPah30_ren : Go.Shelf.Ren := ⟨fun | 30 => 26 | 46 => 31 | 47 => 32 | 48 => 33 | n => n, fun | 9 => 9 | 4 => 4 | 5 => 5 | 3 => 3 | 42 => 71 | 0 => 0 | 48 => 77 | 30 => 22 | n => n, fun | n => n⟩
theorem Tryd.laysPah30 : Go.Proofs.Lays.ph30 Tryd.prog Tryd.laysPah30_ren := {
  mixed := by kernel_rfl
  f30 := Tryd.func26.trans (congrArg some (by kernel_rfl))
  f46 := Tryd.func31.trans (congrArg some (by kernel_rfl))
  f47 := Tryd.func32.trans (congrArg some (by kernel_rfl))
  f48 := Tryd.func33.trans (congrArg some (by kernel_rfl))
  t0 := Tryd.underlying0
  a0 := Tryd.isAgg0
  z0 := Tryd.sizeOf0
  v0 := Tryd.zeroValue0
  t3 := Tryd.underlying3
  a3 := Tryd.isAgg3
  z3 := Tryd.sizeOf3
  v3 := Tryd.zeroValue3
  t4 := Tryd.underlying4
  a4 := Tryd.isAgg4
  z4 := Tryd.sizeOf4
  v4 := Tryd.zeroValue4
  t5 := Tryd.underlying5
  a5 := Tryd.isAgg5
  z5 := Tryd.sizeOf5
  v5 := Tryd.zeroValue5
  t9 := Tryd.underlying9
  a9 := Tryd.isAgg9
  z9 := Tryd.sizeOf9
  v9 := Tryd.zeroValue9
  t30 := Tryd.underlying22
  a30 := Tryd.isAgg22
  z30 := Tryd.sizeOf22
  v30 := Tryd.zeroValue22
  t42 := Tryd.underlying71
  a42 := Tryd.isAgg71
  z42 := Tryd.sizeOf71
  v42 := Tryd.zeroValue71
  t48 := Tryd.underlying77
  a48 := Tryd.isAgg77
  z48 := Tryd.sizeOf77
  v48 := Tryd.zeroValue77
  info5 := by kernel_rfl }
def Tryd.laysPah31_ren : Go.Shelf.Ren := ⟨fun | 31 => 27 | 30 => 26 | 46 => 31 | 47 => 32 | 48 => 33 | n => n, fun | 26 => 29 | 9 => 9 | 3 => 3 | 0 => 0 | 4 => 4 | 30 => 22 | 5 => 5 | 42 => 71 | 48 => 77 | n => n, fun | n => n⟩
theorem Tryd.laysPah31 : Go.Proofs.Lays.ph31 Tryd.prog Tryd.laysPah31_ren := {
  mixed := by kernel_rfl
  f30 := Tryd.func26.trans (congrArg some (by kernel_rfl))
  f31 := Tryd.func27.trans (congrArg some (by kernel_rfl))
  f46 := Tryd.func31.trans (congrArg some (by kernel_rfl))
  f47 := Tryd.func32.trans (congrArg some (by kernel_rfl))
  f48 := Tryd.func33.trans (congrArg some (by kernel_rfl))
  t0 := Tryd.underlying0
  a0 := Tryd.isAgg0
  z0 := Tryd.sizeOf0
  v0 := Tryd.zeroValue0
  t3 := Tryd.underlying3
  a3 := Tryd.isAgg3
  z3 := Tryd.sizeOf3
  v3 := Tryd.zeroValue3
  t4 := Tryd.underlying4
  a4 := Tryd.isAgg4
  z4 := Tryd.sizeOf4
  v4 := Tryd.zeroValue4
  t5 := Tryd.underlying5
  a5 := Tryd.isAgg5
  z5 := Tryd.sizeOf5
  v5 := Tryd.zeroValue5
  t9 := Tryd.underlying9
  a9 := Tryd.isAgg9
  z9 := Tryd.sizeOf9
  v9 := Tryd.zeroValue9
  t26 := Tryd.underlying29
  a26 := Tryd.isAgg29
  z26 := Tryd.sizeOf29
  v26 := Tryd.zeroValue29
  t30 := Tryd.underlying22
  a30 := Tryd.isAgg22
  z30 := Tryd.sizeOf22
  v30 := Tryd.zeroValue22
  t42 := Tryd.underlying71
  a42 := Tryd.isAgg71
  z42 := Tryd.sizeOf71
  v42 := Tryd.zeroValue71
  t48 := Tryd.underlying77
  a48 := Tryd.isAgg77
  z48 := Tryd.sizeOf77
  v48 := Tryd.zeroValue77
  info5 := by kernel_rfl }
open Go.RowKit Go.Lib in
theorem Tryd.path_Clean_rules (s : ByteArray) (w : World) (hbig : s.size ≤ 281474976710656) :
    Calls Tryd.prog 26 #[.string s] w fun e w' => e = .returned (.string ⟨(Pa.cleanEls s.data.toList).toArray⟩) ∧ Below w.heap.size w w' := Any.path_Clean_rules Tryd.laysPah30 s w hbig
open Go.RowKit Go.Lib in
theorem Tryd.path_Join_rules (bk o c : Nat) (xs : List ByteArray) (w : World) (hcells : ∀ (j : Nat) x, xs[j]? = some x → w.cell? ⟨bk, o + j, none⟩ = some (.string x)) (hbk : bk < w.heap.size) (hlen : Pa.lens (xs.map (·.data.toList)) + xs.length ≤ 281474976710656) :
    Calls Tryd.prog 27 #[.slice (some ⟨bk, o, none⟩) xs.length c] w fun e w' => e = .returned (.string ⟨(Pa.join (xs.map (·.data.toList))).toArray⟩) ∧ Below w.heap.size w w' := Any.path_Join_rules Tryd.laysPah31 bk o c xs w hcells hbk hlen
end Go.Proofs
