/- Steps of a script, each as it does; rows of steps; onOne. -/
import Derived.Test.YtljcdjggjphedaaDoorHz
import Derived.IntWalk
namespace Go.Proofs.YtljcdjggjphedaaDoor.Hd
open Go.RowKit Go.Proofs.YtljcdjggjphedaaDoorW.PrintWords Go.Proofs.YtljcdjggjphedaaDoorW.PrintLast Go.Proofs.YtljcdjggjphedaaDoorW.PrintMore
open Go.Proofs.YtljcdjggjphedaaDoor.PFnHandleScript
set_option linter.unusedVariables false
set_option linter.unusedSimpArgs false
theorem flat_at {α : Type} (k : Nat) : ∀ (L : List (List α)), (∀ l ∈ L, l.length = k) → ∀ (j : Nat) (l : List α), L[j]? = some l → ∀ (i : Nat) (u : α), l[i]? = some u → L.flatten[j * k + i]? = some u
  | [], _, j, l, h, _, _, _ => by simp at h
  | x :: L, hk, 0, l, h, i, u, hi => by
    simp at h
    subst h
    have := (List.getElem?_eq_some_iff.1 hi).1
    rw [List.flatten_cons, Nat.zero_mul, Nat.zero_add, List.getElem?_append_left this]
    exact hi
  | x :: L, hk, j + 1, l, h, i, u, hi => by
    have hx : x.length = k := hk x (by simp)
    rw [List.flatten_cons, Nat.succ_mul, List.getElem?_append_right (by omega), hx, show j * k + k + i - k = j * k + i by omega]
    exact flat_at k L (fun l hl => hk l (by simp [hl])) j l (by simpa using h) i u hi
/-- Steps that were laid beside one another. -/
theorem built26 {W : World} {g : Nat} (L : List (S26 × List Value)) (cells : Array Value) (t : TypeId) (hW : W.heap[g]? = some (.cells cells t (0, 0))) (hc : cells = (L.map (·.2)).flatten.toArray) (hk : ∀ p ∈ L, p.2.length = 10 ∧ k26.K W p.1 p.2) (hl : L.length ≤ 1000) :
    k26.C W (some ⟨g, 0, none⟩) L.length (L.map (·.1)) := by
  subst hc
  refine ⟨by simp, by omega, fun _ => ⟨_, rfl, fun j p hj => ?_⟩⟩
  rw [List.getElem?_map] at hj
  obtain ⟨q, hq, rfl⟩ := Option.map_eq_some_iff.1 hj
  obtain ⟨h10, hK⟩ := hk q (List.mem_of_getElem? hq)
  refine ⟨q.2, h10, hK, fun i u hi => ?_⟩
  have hf := flat_at 10 (L.map (·.2)) (fun l hl => by
    obtain ⟨p, hp, rfl⟩ := List.mem_map.1 hl
    exact (hk p hp).1) j q.2 (by rw [List.getElem?_map, hq]; rfl) i u hi
  have : W.cell? ⟨g, j * 10 + i, none⟩ = some u := by
    have hb := blk_cell hW (j * 10 + i)
    rw [hb]
    simpa using hf
  show W.cell? (Addr.add ⟨g, 0, none⟩ (j * 10 + i)) = some u
  by_cases hz : j * 10 + i = 0
  · rw [hz] at this ⊢
    exact this
  · have e : Addr.add ⟨g, 0, none⟩ (j * 10 + i) = ⟨g, j * 10 + i, none⟩ := by simp [Addr.add]; omega
    rw [e]
    exact this
/-- A step of a law: an operation, an offset, from where, how many, and bytes. -/
def stp (op off wh N : Int) (b : List Int) : S26 := ⟨op, ⟨#[]⟩, ⟨#[]⟩, 0, 0, 0, b, off, wh, N⟩
def stpCs (op off wh N : Int) (dv : Value) : List Value := [.int .i64 op, .string ⟨#[]⟩, .string ⟨#[]⟩, .int .i64 0, .int .i64 0, .int .i64 0, dv, .int .i64 off, .int .i64 wh, .int .i64 N]
theorem stp_nil (W : World) (op off wh N : Int) : k26.K W (stp op off wh N []) (stpCs op off wh N (.slice none 0 0)) := k26_mk W (stp op off wh N []) (A6 := none) (c6 := 0) (Nat.le_refl _) (Kd.C_nil _ _)
theorem stp_row (W : World) (op off wh N : Int) (b : List Int) (A : Option Addr) (m c : Nat) (hm : b.length = m) (hc : m ≤ c) (hC : (Kd.int .u8).C W A m b) : k26.K W (stp op off wh N b) (stpCs op off wh N (.slice A m c)) := by
  subst hm
  exact k26_mk W (stp op off wh N b) (A6 := A) (c6 := c) hc hC
section
variable {A : Nat → Addr} {h : Hnd} {n : Nod} {data : List Int} {s : S26}
theorem does_trunc (k : Nat) (hop : s.f0 = 17) (ho : s.f7 = k) (hcl : h.cl = false) (hro : h.ro = false) (hk : k ≤ 10000000) (hl : data.length ≤ 10000000) : Does A h n data s (ans 0 0 0 []) h { n with tm := 0 } (cutTo data k) := by
  intro f d base v W F hS hf hd Ad cd hC hc
  rw [hop]
  exact on_trunc F s.f7 s.f8 s.f9 s.f1 s.f2 s.f3 s.f4 s.f5 Ad s.f6.length cd A hS hf hd k hcl hro hk hl ho
theorem does_truncr (hop : s.f0 = 17) (hcl : h.cl = false) (hro : h.ro = true) : Does A h n data s (ans 6 0 0 []) h n data := by
  intro f d base v W F hS hf hd Ad cd hC hc
  rw [hop]
  exact on_truncr F s.f7 s.f8 s.f9 s.f1 s.f2 s.f3 s.f4 s.f5 Ad s.f6.length cd A hS hf hd hcl hro
theorem does_truncn (hop : s.f0 = 17) (hcl : h.cl = false) (hro : h.ro = false) (ho : s.f7 < 0) : Does A h n data s (ans 7 0 0 []) h n data := by
  intro f d base v W F hS hf hd Ad cd hC hc
  rw [hop]
  exact on_truncn F s.f7 s.f8 s.f9 s.f1 s.f2 s.f3 s.f4 s.f5 Ad s.f6.length cd A hS hf hd hcl hro ho
theorem does_truncc (hop : s.f0 = 17) (hcl : h.cl = true) : Does A h n data s (ans 3 0 0 []) h n data := by
  intro f d base v W F hS hf hd Ad cd hC hc
  rw [hop]
  exact on_truncc F s.f7 s.f8 s.f9 s.f1 s.f2 s.f3 s.f4 s.f5 Ad s.f6.length cd A hS hf hd hcl
theorem does_seek (hop : s.f0 = 16) (hcl : h.cl = false) (hp1 : -4611686018427387904 ≤ h.pos) (hp2 : h.pos ≤ 4611686018427387904) (ho1 : -4611686018427387904 ≤ s.f7) (ho2 : s.f7 ≤ 4611686018427387903) (hl : data.length ≤ 4611686018427387904) :
    Does A h n data s (ans 0 0 (seekTo h.pos data.length s.f7 s.f8) []) { h with pos := seekTo h.pos data.length s.f7 s.f8 } n data := by
  intro f d base v W F hS hf hd Ad cd hC hc
  rw [hop]
  exact on_seek F s.f7 s.f8 s.f9 s.f1 s.f2 s.f3 s.f4 s.f5 Ad s.f6.length cd hcl hp1 hp2 ho1 ho2 hl
theorem does_seekc (hop : s.f0 = 16) (hcl : h.cl = true) : Does A h n data s (ans 3 0 0 []) h n data := by
  intro f d base v W F hS hf hd Ad cd hC hc
  rw [hop]
  exact on_seekc F s.f7 s.f8 s.f9 s.f1 s.f2 s.f3 s.f4 s.f5 Ad s.f6.length cd A hS hf hd hcl
theorem does_close (hop : s.f0 = 18) : Does A h n data s (ans 0 0 0 []) { h with cl := true } { n with tm := if h.ro then n.tm else 0 } data := by
  intro f d base v W F hS hf hd Ad cd hC hc
  rw [hop]
  exact on_close F s.f7 s.f8 s.f9 s.f1 s.f2 s.f3 s.f4 s.f5 Ad s.f6.length cd A hS hf hd
theorem does_write (p : Nat) (hop : s.f0 = 14) (hcl : h.cl = false) (hro : h.ro = false) (hp : h.pos = p) (hpm : p ≤ 10000000) (hm : s.f6.length ≤ 10000000) (hl : data.length ≤ 10000000) :
    Does A h n data s (ans 0 s.f6.length 0 []) { h with pos := (p : Int) + s.f6.length } { n with tm := 0 } (overB data p s.f6) := by
  intro f d base v W F hS hf hd Ad cd hC hc
  rw [hop]
  exact on_write_any F _ _ _ s.f6.length 0 s.f7 Ad s.f6.length cd hC hm (write_o F hf s.f6.length p hcl hro hp hpm hm hl) s.f8 s.f9 s.f1 s.f2 s.f3 s.f4 s.f5
theorem does_writec (hop : s.f0 = 14) (hcl : h.cl = true) (hm : s.f6.length ≤ 10000000) : Does A h n data s (ans 3 0 0 []) h n data := by
  intro f d base v W F hS hf hd Ad cd hC hc
  rw [hop]
  exact on_write_any F _ _ _ 0 3 s.f7 Ad s.f6.length cd hC hm (write_c F hS hf hd s.f6.length hcl) s.f8 s.f9 s.f1 s.f2 s.f3 s.f4 s.f5
theorem does_writer (hop : s.f0 = 14) (hcl : h.cl = false) (hro : h.ro = true) (hm : s.f6.length ≤ 10000000) : Does A h n data s (ans 6 0 0 []) h n data := by
  intro f d base v W F hS hf hd Ad cd hC hc
  rw [hop]
  exact on_write_any F _ _ _ 0 6 s.f7 Ad s.f6.length cd hC hm (write_r F hS hf hd s.f6.length hcl hro) s.f8 s.f9 s.f1 s.f2 s.f3 s.f4 s.f5
theorem does_writeat (p : Nat) (hop : s.f0 = 15) (hcl : h.cl = false) (hro : h.ro = false) (hp : s.f7 = p) (hpm : p ≤ 10000000) (hm : s.f6.length ≤ 10000000) (hl : data.length ≤ 10000000) :
    Does A h n data s (ans 0 s.f6.length 0 []) { h with pos := (p : Int) + s.f6.length } { n with tm := 0 } (overB data p s.f6) := by
  intro f d base v W F hS hf hd Ad cd hC hc
  rw [hop]
  exact on_writeat_any F _ _ _ s.f6.length 0 s.f7 Ad s.f6.length cd hC hm (writeat_of F hf s.f7 (fun W0 F0 hM hs => write_o F0 hf s.f6.length p hcl hro hp hpm hm hl)) s.f8 s.f9 s.f1 s.f2 s.f3 s.f4 s.f5
end
set_option maxHeartbeats 1000000 in
set_option maxRecDepth 100000 in
theorem one20 (w : World) (A : Nat → Addr) (hS : SentB A w.heap.size w) (data : List Int) (Ad : Option Addr) (md cd : Nat) (hD : Kd.C (Kd.int .u8) w Ad md data) (hmd : md ≤ 10000000)
    (ss : List S26) (As : Option Addr) (ms cs : Nat) (hSS : k26.C w As ms ss) (hms : ms ≤ 100) (st : Nat → Hnd × Nod × List Int) (ys : Nat → S33)
    (h0 : st 0 = (⟨0, 0, false, false⟩, ⟨⟨#[47, 102]⟩, .map none, false, 268435456, 0⟩, data)) (hDo : ∀ i : Nat, i < ms → Does A (st i).1 (st i).2.1 (st i).2.2 (rd_T26 ss i) (ys i) (st (i + 1)).1 (st (i + 1)).2.1 (st (i + 1)).2.2) (hL : (st ms).2.2.length ≤ 10000000) :
    Calls Tryd.prog 20 #[.slice Ad md cd, .slice As ms cs] w fun e w' => ∃ A1 c1 A2 c2, e = .returned (.tuple #[.slice A1 ms c1, .slice A2 (st ms).2.2.length c2, .bool true]) ∧ k33.C w' A1 ms ((List.range ms).map ys) ∧ ms ≤ c1 ∧ (Kd.int .u8).C w' A2 (st ms).2.2.length (st ms).2.2 ∧ (st ms).2.2.length ≤ c2 ∧ Below w.heap.size w w' := by
  have HC := Lib.hid (handle13 w A hS data Ad md cd hD hmd false ss As ms cs hSS hms st ys h0 hDo hL)
  clear hS hD hSS h0 hDo hL
  go_enter Tryd.func20, Tryd.ntmps20
  go_wp2_with (first | (go_at_call 13; (refine (HC.out).mono ?_); rintro e w1 ⟨A1, c1, A2, c2, rfl, h⟩; have HH := Lib.hid h; clear h))
  refine bodyPost_ret (v := .tuple #[.slice A1 ms c1, .slice A2 (st ms).2.2.length c2, .bool true]) (by simp [results, Tryd.results20, go_sem]) rfl ?_
  exact ⟨A1, c1, A2, c2, rfl, HH.out⟩
theorem SentB.of {A : Nat → Addr} {W : World} (h : Sent A W) : SentB A W.heap.size W := by
  refine ⟨h, ?_, fun k hk => ?_⟩
  · have := h.var 10 (by omega)
    rcases Nat.lt_or_ge 10 W.heap.size with hc | hc
    · exact hc
    · have hn : W.heap[10]? = none := Array.getElem?_eq_none hc
      simp [World.cell?, hn] at this
  · obtain ⟨c, t, e⟩ := h.blk k hk
    exact blk_lt e
end Go.Proofs.YtljcdjggjphedaaDoor.Hd
