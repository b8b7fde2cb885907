/- A file's info: what is told of it; the last element of a name. -/
import Derived.Test.YtckjbgneblfceaaMx8
import Derived.Test.YtckjbgneblfceaaPFnMergeDirsx4
import Derived.Test.YtckjbgneblfceaaPFnMergeDirsx5
import Derived.Handy
import Derived.Lib.Hide
import Derived.IntWalk
namespace Go.Proofs.Ytckjbgneblfceaa.Ma
open Go.RowKit Go.Proofs.YtckjbgneblfceaaW.PrintWords Go.Proofs.YtckjbgneblfceaaW.PrintLast Go.Proofs.YtckjbgneblfceaaW.PrintMore
open Go.Proofs.Ytckjbgneblfceaa.PFnMergeDirs
set_option linter.unusedVariables false
set_option linter.unusedSimpArgs false
/-- The last slash ahead of a place. -/
def lastSl (a : ByteArray) : Nat → Option Nat
  | 0 => none
  | n + 1 => if bt a (n : Int) = 47 then some n else lastSl a n
/-- The last element of a name. -/
def baseOf (a : ByteArray) : ByteArray := match lastSl a a.size with
  | none => a
  | some i => a.extract (i + 1) a.size
theorem wrapS (x : Int) (h : -9223372036854775808 ≤ x) (h1 : x < 9223372036854775808) : wrap64 x = x := by unfold wrap64; omega
theorem lastSl_lt (a : ByteArray) : ∀ n i, lastSl a n = some i → i < n
  | 0, i, h => by cases h
  | n + 1, i, h => by
    unfold lastSl at h
    split at h
    · obtain rfl := Option.some.inj h; omega
    · have := lastSl_lt a n i h; omega
theorem li_law (a : ByteArray) (hs : a.size ≤ 4294967296) : ∀ n, n ≤ a.size → bytealg_LastIndexByteString.l0 (n + 1) a 47 ((n : Int) - 1) = some (match lastSl a n with | none => -1 | some i => (i : Int))
  | 0, _ => by
    rw [bytealg_LastIndexByteString.l0, if_neg (by omega)]; rfl
  | n + 1, h => by
    have ih := li_law a hs n (by omega)
    have e : ((n + 1 : Nat) : Int) - 1 = (n : Int) := by omega
    rw [bytealg_LastIndexByteString.l0, e, if_pos (by omega), if_pos (by omega), if_pos (by omega)]
    by_cases hb : bt a (n : Int) = 47
    · rw [if_pos hb]; unfold lastSl; rw [if_pos hb]
    · rw [if_neg hb, wrapS _ (by omega) (by omega), ih]
      conv => rhs; unfold lastSl
      rw [if_neg hb]
theorem mb_law (a : ByteArray) (hs : a.size ≤ 4294967296) : ∀ n, n ≤ a.size → spec_MemBase.l0 (n + 1) a ((n : Int) - 1) = some (match lastSl a n with | none => a | some i => a.extract (i + 1) a.size)
  | 0, _ => by
    rw [spec_MemBase.l0, if_neg (by omega)]; rfl
  | n + 1, h => by
    have ih := mb_law a hs n (by omega)
    have e : ((n + 1 : Nat) : Int) - 1 = (n : Int) := by omega
    rw [spec_MemBase.l0, e, if_pos (by omega), if_pos (by omega), if_pos (by omega)]
    by_cases hb : bt a (n : Int) = 47
    · rw [if_pos hb, wrapS _ (by omega) (by omega), if_pos (by omega), if_pos (by omega)]
      unfold lastSl; rw [if_pos hb]
      rfl
    · rw [if_neg hb, wrapS _ (by omega) (by omega), ih]
      conv => rhs; unfold lastSl
      rw [if_neg hb]
theorem base_law (a : ByteArray) (hs : a.size ≤ 4294967296) : spec_MemBase.f (a.size + 1) a = some (baseOf a) := by
  unfold spec_MemBase.f baseOf
  rw [wrapS _ (by omega) (by omega), mb_law a hs a.size (Nat.le_refl _)]
theorem li_f (a : ByteArray) (hs : a.size ≤ 4294967296) : bytealg_LastIndexByteString.f (a.size + 1) a 47 = some (match lastSl a a.size with | none => -1 | some i => (i : Int)) := by
  unfold bytealg_LastIndexByteString.f
  rw [wrapS ((a.size : Int) - 1) (by omega) (by omega), li_law a hs a.size (Nat.le_refl _)]
theorem cut_at (a : ByteArray) (t : Int) (n : Nat) (ht : wrap64 (t + 1) = (n : Int)) (hn : n ≤ a.size) : (if 0 ≤ (wrap64 (t + 1)) then (if (wrap64 (t + 1)) ≤ (a.size : Int) then (some (a.extract 0 ((wrap64 (t + 1)) : Int).toNat, a.extract ((wrap64 (t + 1)) : Int).toNat a.size)) else (none)) else (none)) = some (a.extract 0 n, a.extract n a.size) := by
  rw [ht, if_pos (by omega), if_pos (by omega), Int.toNat_natCast]
theorem split_law (a : ByteArray) (hs : a.size ≤ 4294967296) : ∃ r, path_Split.f (a.size + 1) a = some (r, baseOf a) := by
  unfold path_Split.f baseOf
  rw [li_f a hs]
  cases h : lastSl a a.size with
  | none =>
    rw [Option.bind_some]
    refine ⟨a.extract 0 0, ?_⟩
    rw [cut_at a (-1) 0 (wrapS (-1 + 1) (by omega) (by omega)) (Nat.zero_le _)]
    rw [ByteArray.extract_zero_size]
  | some i =>
    have := lastSl_lt a _ _ h
    rw [Option.bind_some]
    refine ⟨a.extract 0 (i + 1), ?_⟩
    rw [cut_at a (i : Int) (i + 1) (wrapS _ (by omega) (by omega)) (by omega)]
theorem cell_blk {W : World} {g : Nat} {cs : Array Value} {t : TypeId} (h : W.heap[g]? = some (.cells cs t (0, 0))) (i : Nat) (v : Value) (hv : cs[i]? = some v) : W.cell? ⟨g, i, none⟩ = some v ∧ W.frozen? ⟨g, i, none⟩ = false := cell_blkM h i v hv
/-- Block p is an info of such an entry. -/
def fdC (x : S30) (A : Option Addr) (c : Nat) : Array Value := #[.string x.f0, .slice A x.f3.length c, .map none, .bool x.f2, .int .u32 x.f1, .int .i64 x.f4, .int .i64 0, .int .i64 0]
structure Fi (p : Nat) (x : S30) (w : World) : Prop where mk ::
  out : ∃ q A c, w.heap[p]? = some (.cells #[.pointer (some ⟨q, 0, none⟩)] 61 (0, 0)) ∧ w.heap[q]? = some (.cells (fdC x A c) 59 (0, 0))
theorem Fi.later {p : Nat} {x : S30} {w W : World} (h : Fi p x w) (hb : Below w.heap.size w W) : Fi p x W := by
  obtain ⟨q, A, c, h1, h2⟩ := h.out
  exact ⟨q, A, c, by rw [hb.block _ (blk_ltM h1)]; exact h1, by rw [hb.block _ (blk_ltM h2)]; exact h2⟩
theorem info18 (x : S30) (A : Option Addr) (c : Nat) (w : World) : Calls Try.prog 18 #[.string x.f0, .int .u32 x.f1, .bool x.f2, .slice A x.f3.length c, .int .i64 x.f4] w fun e w' => ∃ p, e = .returned (.pointer (some ⟨p, 0, none⟩)) ∧ Fi p x w' ∧ w.heap.size ≤ p ∧ Below w.heap.size w w' := by
  go_enter Try.func18, Try.ntmps18
  go_wp2
  go_returns
  refine ⟨_, rfl, ⟨w.heap.size, A, c, ?_, ?_⟩, Nat.le_succ _, below_alloc (below_alloc (Below.refl _ _) _) _⟩
  · have : w.heap.size + 1 = (w.alloc (.cells (fdC x A c) 59)).heap.size := by simp
    rw [this]
    exact blk_newM _ _ _
  · rw [Below.heap_alloc _ _ _ (by simp)]
    exact blk_newM _ _ _
theorem fields {p : Nat} {x : S30} {w : World} (h : Fi p x w) : ∃ q A c, w.cell? ⟨p, 0, none⟩ = some (.pointer (some ⟨q, 0, none⟩)) ∧ w.cell? ⟨q, 0, none⟩ = some (.string x.f0) ∧ w.cell? ⟨q, 1, none⟩ = some (.slice A x.f3.length c) ∧ w.cell? ⟨q, 3, none⟩ = some (.bool x.f2) ∧ w.cell? ⟨q, 4, none⟩ = some (.int .u32 x.f1) ∧ w.cell? ⟨q, 5, none⟩ = some (.int .i64 x.f4) := by
  obtain ⟨q, A, c, h1, h2⟩ := h.out
  exact ⟨q, A, c, (cell_blk h1 0 _ rfl).1, (cell_blk h2 0 _ rfl).1, (cell_blk h2 1 _ rfl).1, (cell_blk h2 3 _ rfl).1, (cell_blk h2 4 _ rfl).1, (cell_blk h2 5 _ rfl).1⟩
theorem name21 {p : Nat} {x : S30} {w : World} (h : Fi p x w) (hs : x.f0.size ≤ 4294967296) : Calls Try.prog 21 #[.pointer (some ⟨p, 0, none⟩)] w fun e w' => e = .returned (.string (baseOf x.f0)) ∧ Below w.heap.size w w' := by
  obtain ⟨q, A, c, h0, h1, h2, h3, h4, h5⟩ := fields h
  obtain ⟨r, hr⟩ := split_law x.f0 hs
  go_enter Try.func21, Try.ntmps21
  go_wp2_with (first | (go_at_call 27; (with_reducible refine (path_Split.calls _ x.f0 _ _ _ hr).mono ?_); rintro e w1 ⟨rfl, hd⟩; have HD := Lib.hid hd.below; clear hd))
  go_returns
  exact ⟨rfl, HD.out⟩
theorem mode24 {p : Nat} {x : S30} {w : World} (h : Fi p x w) : Calls Try.prog 24 #[.pointer (some ⟨p, 0, none⟩)] w fun e w' => e = .returned (.int .u32 x.f1) ∧ w' = w := by
  obtain ⟨q, A, c, h0, h1, h2, h3, h4, h5⟩ := fields h
  go_enter Try.func24, Try.ntmps24
  go_wp2
  go_returns
  exact ⟨rfl, rfl⟩
theorem dir25 {p : Nat} {x : S30} {w : World} (h : Fi p x w) : Calls Try.prog 25 #[.pointer (some ⟨p, 0, none⟩)] w fun e w' => e = .returned (.bool x.f2) ∧ w' = w := by
  obtain ⟨q, A, c, h0, h1, h2, h3, h4, h5⟩ := fields h
  go_enter Try.func25, Try.ntmps25
  go_wp2
  go_returns
  exact ⟨rfl, rfl⟩
theorem time26 {p : Nat} {x : S30} {w : World} (h : Fi p x w) : Calls Try.prog 26 #[.pointer (some ⟨p, 0, none⟩)] w fun e w' => e = .returned (.int .i64 x.f4) ∧ w' = w := by
  obtain ⟨q, A, c, h0, h1, h2, h3, h4, h5⟩ := fields h
  go_enter Try.func26, Try.ntmps26
  go_wp2
  go_returns
  exact ⟨rfl, rfl⟩
def sizeOf (x : S30) : Int := if x.f2 = true then 42 else (x.f3.length : Int)
theorem size23 {p : Nat} {x : S30} {w : World} (h : Fi p x w) : Calls Try.prog 23 #[.pointer (some ⟨p, 0, none⟩)] w fun e w' => e = .returned (.int .i64 (sizeOf x)) ∧ w' = w := by
  obtain ⟨q, A, c, h0, h1, h2, h3, h4, h5⟩ := fields h
  unfold sizeOf
  cases hx : x.f2 with
  | true =>
    go_enter Try.func23, Try.ntmps23
    go_wp2_with (first | (go_at_call 25; (with_reducible refine (dir25 h).mono ?_); rw [hx]; rintro e w1 ⟨rfl, rfl⟩))
    go_returns
    exact ⟨rfl, rfl⟩
  | false =>
    go_enter Try.func23, Try.ntmps23
    go_wp2_with (first | (go_at_call 25; (with_reducible refine (dir25 h).mono ?_); rw [hx]; rintro e w1 ⟨rfl, rfl⟩))
    go_returns
    exact ⟨rfl, rfl⟩
/-- What is told of an entry. -/
def tell (x : S30) : S35 := ⟨baseOf x.f0, sizeOf x, x.f1, x.f2, x.f4⟩
theorem from19 {p : Nat} {x : S30} {w : World} (h : Fi p x w) (hs : x.f0.size ≤ 4294967296) (hm : 0 ≤ x.f1 ∧ x.f1 < 4294967296) :
    Calls Try.prog 19 #[.pointer (some ⟨p, 0, none⟩)] w fun e w' => e = .returned (.agg #[.string (tell x).f0, .int .i64 (tell x).f1, .int .i64 (tell x).f2, .bool (tell x).f3, .int .i64 (tell x).f4]) ∧ Below w.heap.size w w' := by
  have hw : IntKind.i64.wrap x.f1 = x.f1 := IntWalk.i64_in _ (by omega)
  unfold tell
  simp only []
  have H := Lib.hid (h.later (below_alloc (Below.refl _ _) (.cells (infC ⟨#[]⟩ 0 0 false 0) 35)))
  have V0 := Lib.hid (blk_newM w (infC ⟨#[]⟩ 0 0 false 0) 35)
  unfold infC at H V0
  clear h
  go_enter Try.func19, Try.ntmps19
  go_wp2_with (first | (go_at_call 21; (with_reducible refine (name21 H.out hs).mono ?_); rintro e w1 ⟨rfl, hb1⟩; have H1 := Lib.hid (H.out.later hb1); have V1 := Lib.hid (show w1.heap[w.heap.size]? = _ from (hb1.block _ (blk_ltM V0.out)).trans V0.out); have B1 := Lib.hid hb1; obtain ⟨⟨e0, e1, e2, e3, e4⟩, ⟨f0, f1, f2, f3, f4⟩⟩ := fiveM V1.out; clear hb1) | (go_at_call 23; (with_reducible refine (size23 H1.out).mono ?_); rintro e w2 ⟨rfl, rfl⟩) | (go_at_call 24; (with_reducible refine (mode24 H1.out).mono ?_); rintro e w2 ⟨rfl, rfl⟩) | (go_at_call 25; (with_reducible refine (dir25 H1.out).mono ?_); rintro e w2 ⟨rfl, rfl⟩) | (go_at_call 26; (with_reducible refine (time26 H1.out).mono ?_); rintro e w2 ⟨rfl, rfl⟩))
  obtain ⟨V, hV⟩ : ∃ V, V = (((((w2.setCell ⟨w.heap.size, 0, none⟩ (.string (baseOf x.f0))).setCell ⟨w.heap.size, 1, none⟩ (.int .i64 (sizeOf x))).setCell ⟨w.heap.size, 2, none⟩ (.int .i64 x.f1)).setCell ⟨w.heap.size, 3, none⟩ (.bool x.f2)).setCell ⟨w.heap.size, 4, none⟩ (.int .i64 x.f4)) := ⟨_, rfl⟩
  obtain ⟨⟨r0, r1, r2, r3, r4⟩, _⟩ := fiveM (store5 V1.out (.string (baseOf x.f0)) (.int .i64 (sizeOf x)) (.int .i64 x.f1) (.bool x.f2) (.int .i64 x.f4))
  have hbl := below5 (show Below w.heap.size w w2 from below_then (below_alloc (Below.refl _ _) _) (by simp) B1.out) (Nat.le_refl w.heap.size) (.string (baseOf x.f0)) (.int .i64 (sizeOf x)) (.int .i64 x.f1) (.bool x.f2) (.int .i64 x.f4)
  rw [← hV] at r0 r1 r2 r3 r4 hbl ⊢
  refine bodyPost_ret (by simp [results, Try.results19, go_sem, r0, r1, r2, r3, r4]; try rfl) rfl ?_
  exact ⟨rfl, hbl⟩
end Go.Proofs.Ytckjbgneblfceaa.Ma
