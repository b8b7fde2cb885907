/- The contract of the footer's sum. -/
import Derived.Test.YtbakmlhjfjjfoaaVhd
namespace Go.Proofs.Ytbakmlhjfjjfoaa.Vh
open Go.RowKit Go.Proofs.YtbakmlhjfjjfoaaW.PrintWords Go.Proofs.YtbakmlhjfjjfoaaW.PrintLast Go.Proofs.YtbakmlhjfjjfoaaW.PrintMore
open Go.Proofs.Ytbakmlhjfjjfoaa.PFnVhdSum
set_option linter.unusedVariables false
set_option linter.unusedSimpArgs false
theorem foot_split (ck : List Int) (sz chk : Int) (u : List Int) : ∃ A B : List Value, (ck.length = 8 → A.length = 25) ∧ ∀ c, footCells ck sz c u = A ++ .int .u32 c :: B := by
  refine ⟨u8s ck ++ [.int .u32 2, .int .u32 65536, .int .i64 (-1), .int .u32 0] ++ u8s (List.replicate 4 0) ++ [.int .u32 655360] ++ u8s (List.replicate 4 0) ++ [.int .i64 sz, .int .i64 sz, .int .u32 0, .int .u32 2], u8s u ++ [.int .u8 0] ++ u8s (List.replicate 427 0), ?_, ?_⟩
  · intro h
    have hz : ∀ n, (u8s (List.replicate n 0)).length = n := by simp [u8s]
    have l1 : (u8s ck).length = 8 := by simp [u8s, h]
    simp only [List.length_append, l1, hz, List.length_cons, List.length_nil]
  · intro c
    unfold footCells
    simp only [List.append_assoc, List.cons_append, List.nil_append, List.singleton_append]
theorem Foot.set {g : Nat} {ck : List Int} {sz chk : Int} {u : List Int} {W : World} (h : Foot g ck sz chk u W) (hck : ck.length = 8) (c : Int) : Foot g ck sz c u (W.setCell ⟨g, 25, none⟩ (.int .u32 c)) := by
  obtain ⟨A, B, hA, hs⟩ := foot_split ck sz chk u
  have hA := hA hck
  refine ⟨by simpa using h.lt, fun k v hk => ?_⟩
  by_cases h25 : k = 25
  · subst h25
    have e1 : (footCells ck sz c u)[25]? = some (.int .u32 c) := by rw [hs c, List.getElem?_append_right (by omega), hA]; rfl
    rw [e1] at hk
    obtain rfl := Option.some.inj hk
    have e2 : (footCells ck sz chk u)[25]? = some (.int .u32 chk) := by rw [hs chk, List.getElem?_append_right (by omega), hA]; rfl
    exact World.cell?_setCell_same (w := W) (a := _) (v := _) (h.cell 25 _ e2)
  · rw [World.cell?_setCell_other (w := W) (a := ⟨g, 25, none⟩) (b := ⟨g, k, none⟩) (v := _) (by intro e; simp at e <;> omega)]
    refine h.cell k v ?_
    rw [← hk, hs c, hs chk]
    rcases Nat.lt_or_ge k 25 with hlt | hge
    · rw [List.getElem?_append_left (by omega), List.getElem?_append_left (by omega)]
    · rw [List.getElem?_append_right (by omega), List.getElem?_append_right (by omega)]
      obtain ⟨j, hj⟩ : ∃ j, k - A.length = j + 1 := ⟨k - A.length - 1, by omega⟩
      rw [hj]; rfl
def sumU (l : List Int) : Int := l.foldl (fun a x => (a + x) % 4294967296) 0
theorem footBytes_len (ck : List Int) (sz chk : Int) (u : List Int) (hck : ck.length = 8) (hu : u.length = 16) : (footBytes ck sz chk u).length = 512 := by
  unfold footBytes
  simp only [List.length_append, be32_len, be64_len, List.length_replicate, List.length_nil, List.length_cons, hck, hu]
def InBytes (l : List Int) : Prop := ∀ x ∈ l, 0 ≤ x ∧ x < 256
theorem be32_in (x : Int) : InBytes (be32 x) := by
  intro y hy; simp [be32] at hy; rcases hy with h | h | h | h <;> omega
theorem inb_app {a b : List Int} (ha : InBytes a) (hb : InBytes b) : InBytes (a ++ b) := by
  intro x hx; rcases List.mem_append.1 hx with h | h
  · exact ha x h
  · exact hb x h
theorem be64_in (x : Int) : InBytes (be64 x) := inb_app (be32_in _) (be32_in _)
theorem rep_in (n : Nat) : InBytes (List.replicate n 0) := by intro x hx; rw [List.eq_of_mem_replicate hx]; omega
theorem footBytes_in (ck : List Int) (sz chk : Int) (u : List Int) (hck : InBytes ck) (hu : InBytes u) : InBytes (footBytes ck sz chk u) := by
  unfold footBytes
  have h0 : InBytes [0] := by intro x hx; simp at hx; omega
  repeat (first | with_reducible exact hck | with_reducible exact hu | with_reducible exact be32_in _ | with_reducible exact be64_in _ | with_reducible exact rep_in _ | with_reducible exact h0 | with_reducible apply inb_app)
theorem sumU_snoc (l : List Int) (x : Int) : sumU (l ++ [x]) = (sumU l + x) % 4294967296 := by simp [sumU]
theorem sumU_range (l : List Int) : 0 ≤ sumU l ∧ sumU l < 4294967296 := by
  rcases List.eq_nil_or_concat l with rfl | ⟨t, x, rfl⟩
  · simp [sumU]
  · rw [List.concat_eq_append, sumU_snoc]; omega
theorem row_at {w W : World} {v : Value} {l : List Int} (h : Row w v l W) (hl : 0 < l.length) : ∃ g c, v = .slice (some ⟨g, 0, none⟩) l.length c ∧ l.length ≤ c ∧ ∀ j x, l[j]? = some x → W.cell? ⟨g, j, none⟩ = some (.int .u8 x) := by
  obtain ⟨A, c, hv, hcc, hC⟩ := Kd.R_reads h.1
  obtain ⟨inner, ho⟩ := Kd.R_own h.1
  obtain ⟨g, cap, hf, _, _⟩ := ho.form hl
  rw [hv] at hf
  simp only [Value.slice.injEq] at hf
  obtain ⟨hA, _, rfl⟩ := hf
  subst hA
  refine ⟨g, c, hv, hcc, fun j x hj => ?_⟩
  have hrd := Kd.reads_of_C (d := (0 : Int)) hC
  obtain ⟨ad, hA, hcell⟩ := hrd.2.2 hl
  obtain rfl := Option.some.inj hA
  have hlt := (List.getElem?_eq_some_iff.1 hj).1
  have h1 := hcell j hlt
  rw [List.getD_eq_getElem?_getD, hj] at h1
  have h2 : (⟨g, 0, none⟩ : Addr).add j = ⟨g, j, none⟩ := by simp [Addr.add]; intro e; rw [e]
  rw [h2] at h1; exact h1
/-- The footer is as it was, and nothing below it has changed. -/
def Sums (g : Nat) (ck : List Int) (sz old : Int) (u : List Int) (w : World) (e : Ending) (w' : World) : Prop :=
  e = .returned (.int .u32 (bits BinOp.xor IntKind.u32 IntKind.u32.max (sumU (footBytes ck sz 0 u)))) ∧ Foot g ck sz old u w' ∧ w'.frozen? ⟨g, 25, none⟩ = false ∧ w.heap.size ≤ w'.heap.size ∧ ∀ B w0, B ≤ g → B ≤ w.heap.size → Below B w0 w → Below B w0 w'
theorem below_both {w w2 : World} {g : Nat} {x y : Value} (h : Below (w.setCell ⟨g, 25, none⟩ x).heap.size (w.setCell ⟨g, 25, none⟩ x) w2) (B : Nat) (w0 : World) (hg : B ≤ g) (hw : B ≤ w.heap.size) (hb : Below B w0 w) : Below B w0 (w2.setCell ⟨g, 25, none⟩ y) := by
  have h1 : Below B w0 (w.setCell ⟨g, 25, none⟩ x) := hb.setCell hg x
  exact (below_then h1 (by simpa using hw) h).setCell hg y
set_option maxHeartbeats 4000000 in
set_option maxRecDepth 100000 in
theorem sum25 (g : Nat) (ck : List Int) (sz old : Int) (u : List Int) (w : World) (hf : Foot g ck sz old u w) (hfz : w.frozen? ⟨g, 25, none⟩ = false) (hck : ck.length = 8) (hu : u.length = 16) (hic : InBytes ck) (hiu : InBytes u) :
    Calls Try.prog 25 #[.pointer (some ⟨g, 0, none⟩)] w (Sums g ck sz old u w) := by
  have hc25 := (hf.reads hck hu).c25
  have HF2 := Lib.hid (hf.set hck 0)
  have HF := Lib.hid hf
  have HL := Lib.hid (footBytes_len ck sz 0 u hck hu)
  have HI := Lib.hid (footBytes_in ck sz 0 u hic hiu)
  have HB := Lib.hid (fun W hf => bytes20 g ck sz 0 u W hf hck hu)
  clear hf hic hiu
  unfold Sums
  generalize hbb : footBytes ck sz 0 u = bs at HL HI HB
  go_enter Try.func25, Try.ntmps25
  go_wp2_with (first | (go_at_call 20; (with_reducible refine (HB.out _ HF2.out).mono ?_); rintro e w2 ⟨v, rfl, hr⟩; have HR := Lib.hid hr; clear hr))
  obtain ⟨gb, c, hv, hcc, hcell⟩ := row_at HR.out (by rw [HL.out]; decide)
  rw [HL.out] at hv
  subst hv
  have HCELL := Lib.hid hcell
  clear hcell hcc
  go_loop [5, 6] (fun v5 v6 => ∃ k : Nat, v6 = .int .i64 k ∧ v5 = .int .u32 (sumU (bs.take k)) ∧ k ≤ 512) (fun _ i => 512 - (intOf i).toNat)
  case atStart => exact ⟨0, rfl, rfl, by omega⟩
  case round =>
    obtain ⟨k, rfl, rfl, hk⟩ := hrel
    have hsr := sumU_range (bs.take k)
    by_cases hlt : k < 512
    · obtain ⟨x, hx⟩ : ∃ x, bs[k]? = some x := ⟨_, List.getElem?_eq_getElem (by rw [HL.out]; exact hlt)⟩
      have hc := HCELL.out k x hx
      have hxr := HI.out x (List.mem_of_getElem? hx)
      have HS := Lib.hid (show sumU (bs.take (k + 1)) = (sumU (bs.take k) + x) % 4294967296 by
        rw [List.take_add_one, hx]; exact sumU_snoc _ _)
      generalize sumU (bs.take k) = s at hsr HS
      clear hx
      go_wp2_with fail
      go_round
      case rel =>
        refine ⟨k + 1, by first | rfl | go_num, ?_, by omega⟩
        rw [HS.out]
      case measure => simp [intOf] <;> omega
    · obtain rfl : k = 512 := by omega
      have HS := Lib.hid (show sumU (bs.take 512) = sumU bs by rw [List.take_of_length_le (by rw [HL.out]; decide)])
      generalize sumU (bs.take 512) = s at hsr HS
      have HB2 := Lib.hid HR.out.2
      have hf2 := (HF2.out.later HR.out.2)
      have hc25b := (hf2.reads hck hu).c25
      have hfz2 : w2.frozen? ⟨g, 25, none⟩ = false := (HB2.out.frozen (p := ⟨g, 25, none⟩) HF2.out.lt).trans (by simpa using hfz)
      have HF3 := Lib.hid (hf2.set hck old)
      have HSZ := Lib.hid (show w.heap.size ≤ w2.heap.size by have := HB2.out.size; simpa using this)
      clear hf2 HCELL HI HF2 HR
      go_wp2_with fail
      go_ret
      refine ⟨by rw [HS.out]; rfl, HF3.out, by simpa using hfz2, by simpa using HSZ.out, fun B w0 h1 h2 h3 => below_both HB2.out B w0 h1 h2 h3⟩
end Go.Proofs.Ytbakmlhjfjjfoaa.Vh
