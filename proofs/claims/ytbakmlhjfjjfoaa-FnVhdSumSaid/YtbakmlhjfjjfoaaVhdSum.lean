/- Proved: for every size, other size and UUID FnVhdSum answers true: the bytes of a footer, but those of the sum, add up to the complement of the sum; footers of two sizes differ in the size and the sum alone. -/
import Derived.Test.YtbakmlhjfjjfoaaRows
import Derived.Test.YtbakmlhjfjjfoaaAdapter
import Derived.ChangeSlices
import Derived.Test.YtbakmlhjfjjfoaaVhu
import Derived.Lib.ConvBytes
import Derived.Laws.BitsLemmas
import Derived.Laws.BytesArg
namespace Go.Proofs.Ytbakmlhjfjjfoaa.Vh
open Go.RowKit Go.Proofs.YtbakmlhjfjjfoaaW.PrintWords Go.Proofs.YtbakmlhjfjjfoaaW.PrintLast Go.Proofs.YtbakmlhjfjjfoaaW.PrintMore
open Go.Proofs.Ytbakmlhjfjjfoaa.PFnVhdSum
set_option linter.unusedVariables false
set_option linter.unusedSimpArgs false
theorem strOfNums_inj (a b : List Int) (ha : InBytes a) (hb : InBytes b) (h : strOfNums a = strOfNums b) : a = b := by
  have h1 : a.map (fun n => UInt8.ofNat n.toNat) = b.map (fun n => UInt8.ofNat n.toNat) := by
    have := congrArg (fun s => s.data.toList) h
    simpa [strOfNums] using this
  clear h
  induction a generalizing b with
  | nil => cases b with
    | nil => rfl
    | cons y t => simp at h1
  | cons x s ih =>
    cases b with
    | nil => simp at h1
    | cons y t =>
      simp only [List.map_cons, List.cons.injEq] at h1
      have hx := ha x (List.mem_cons_self ..)
      have hy := hb y (List.mem_cons_self ..)
      have e : x = y := by
        have := congrArg UInt8.toNat h1.1
        simp at this
        omega
      rw [e, ih t (fun z hz => ha z (List.mem_cons_of_mem _ hz)) (fun z hz => hb z (List.mem_cons_of_mem _ hz)) h1.2]
def toldF (l : List Int) : Int := l.foldl (fun t x => t * 256 + x) 0
def headB (ck : List Int) : List Int := ck ++ be32 2 ++ be32 65536 ++ be64 (IntKind.u64.wrap (-1)) ++ be32 0 ++ List.replicate 4 0 ++ be32 655360 ++ List.replicate 4 0
def sizeB (sz : Int) : List Int := be64 (IntKind.u64.wrap sz) ++ be64 (IntKind.u64.wrap sz)
def tailB (u : List Int) : List Int := u ++ [0] ++ List.replicate 427 0
theorem foot_parts (ck : List Int) (sz chk : Int) (u : List Int) : footBytes ck sz chk u = headB ck ++ (sizeB sz ++ (be32 0 ++ be32 2 ++ (be32 chk ++ tailB u))) := by
  unfold footBytes headB sizeB tailB
  simp only [List.append_assoc]
theorem headB_len : (headB cookie).length = 40 := rfl
theorem sizeB_len (sz : Int) : (sizeB sz).length = 16 := rfl
theorem five {α : Type} (H D M C T : List α) (h1 : H.length = 40) (h2 : D.length = 16) (h3 : M.length = 8) (h4 : C.length = 4) (i : Nat) :
    (H ++ (D ++ (M ++ (C ++ T))))[i]? = if i < 40 then H[i]? else if i < 56 then D[i - 40]? else if i < 64 then M[i - 56]? else if i < 68 then C[i - 64]? else T[i - 68]? := by
  by_cases a : i < 40
  · rw [if_pos a, List.getElem?_append_left (by omega)]
  rw [if_neg a, List.getElem?_append_right (by omega), h1]
  by_cases b : i < 56
  · rw [if_pos b, List.getElem?_append_left (by omega)]
  rw [if_neg b, List.getElem?_append_right (by omega), h2]
  by_cases c : i < 64
  · rw [if_pos c, List.getElem?_append_left (by omega)]; congr 1
  rw [if_neg c, List.getElem?_append_right (by omega), h3]
  by_cases d : i < 68
  · rw [if_pos d, List.getElem?_append_left (by omega)]; congr 1
  rw [if_neg d, List.getElem?_append_right (by omega), h4]; congr 1
theorem toldF_be32 (c : Int) (h0 : 0 ≤ c) (h1 : c < 4294967296) : toldF (be32 c) = c := by
  simp only [toldF, be32, List.foldl_cons, List.foldl_nil]; omega
theorem be32_inj (x y : Int) (hx : 0 ≤ x) (hx1 : x < 4294967296) (hy : 0 ≤ y) (hy1 : y < 4294967296) (h : be32 x = be32 y) : x = y := by
  have := congrArg toldF h
  rwa [toldF_be32 x hx hx1, toldF_be32 y hy hy1] at this
theorem be64_inj (x y : Int) (hx : 0 ≤ x) (hx1 : x < 18446744073709551616) (hy : 0 ≤ y) (hy1 : y < 18446744073709551616) (h : be64 x = be64 y) : x = y := by
  unfold be64 at h
  obtain ⟨e1, e2⟩ := List.append_inj h rfl
  have e1 := be32_inj _ _ (by omega) (by omega) (by omega) (by omega) e1
  have e2 := be32_inj _ _ (by omega) (by omega) (by omega) (by omega) e2
  omega
theorem wrap_u64 (n : Int) : IntKind.u64.wrap n = n % 18446744073709551616 := by simp [IntKind.wrap, IntKind.bits, IntKind.signed]
theorem chkOf_range (sz : Int) (u : List Int) : 0 ≤ chkOf sz u ∧ chkOf sz u < 4294967296 := by
  unfold chkOf
  simp only [bits]
  rw [IntKind.wrap_u32]; omega
theorem foot_inj (sz ot c d : Int) (u : List Int) (h1 : -9223372036854775808 ≤ sz) (h2 : sz ≤ 9223372036854775807) (h3 : -9223372036854775808 ≤ ot) (h4 : ot ≤ 9223372036854775807) (h : footBytes cookie sz c u = footBytes cookie ot d u) : sz = ot := by
  rw [foot_parts, foot_parts] at h
  have h := (List.append_inj h rfl).2
  have h := (List.append_inj h rfl).1
  unfold sizeB at h
  have h := be64_inj _ _ (by rw [wrap_u64]; omega) (by rw [wrap_u64]; omega) (by rw [wrap_u64]; omega) (by rw [wrap_u64]; omega) (List.append_inj h rfl).1
  rw [wrap_u64, wrap_u64] at h
  omega
/-- What the law asks of the two footers. -/
structure LawFacts (sz ot : Int) (As Bs Zs : List Int) (chk : Int) : Prop where
  la : As.length = 512
  lb : Bs.length = 512
  lz : Zs.length = 512
  ia : InBytes As
  ib : InBytes Bs
  same : ∀ i : Nat, i < 40 ∨ (56 ≤ i ∧ i < 64) ∨ 68 ≤ i → Bs[i]? = As[i]?
  zero : ∀ i : Nat, 64 ≤ i → i < 68 → Zs[i]? = some 0
  rest : ∀ i : Nat, i < 64 ∨ 68 ≤ i → Zs[i]? = As[i]?
  told : toldF ((As.drop 64).take 4) = chk
  chk : chk = bits BinOp.xor IntKind.u32 IntKind.u32.max (sumU Zs)
  both : (sz = ot) ↔ As = Bs
theorem told_keep (As : List Int) (k : Nat) (hl : As.length = 512) (hk : k < 512) (h : ¬ (64 ≤ k ∧ k < 68)) : ((As.take (k + 1)).drop 64).take 4 = ((As.take k).drop 64).take 4 := by
  rw [List.drop_take, List.drop_take, List.take_take, List.take_take]
  rcases Nat.lt_or_ge k 64 with h1 | h1
  · rw [show k + 1 - 64 = 0 by omega, show k - 64 = 0 by omega]
  · rw [show min 4 (k + 1 - 64) = 4 by omega, show min 4 (k - 64) = 4 by omega]
theorem told_step (As : List Int) (k : Nat) (x : Int) (hl : As.length = 512) (hx : As[k]? = some x) (h1 : 64 ≤ k) (h2 : k < 68) : ((As.take (k + 1)).drop 64).take 4 = ((As.take k).drop 64).take 4 ++ [x] := by
  rw [List.drop_take, List.drop_take, List.take_take, List.take_take, show min 4 (k + 1 - 64) = (k - 64) + 1 by omega, show min 4 (k - 64) = k - 64 by omega, List.take_add_one, List.getElem?_drop, show 64 + (k - 64) = k by omega, hx]
  rfl
theorem toldF_snoc (l : List Int) (x : Int) : toldF (l ++ [x]) = toldF l * 256 + x := by simp [toldF]
theorem wraps_u32 (n : Int) (h₀ : 0 ≤ n) (h₁ : n < 2 ^ 32) : IntKind.u32.wrap n = n := by rw [IntKind.wrap_u32]; omega
theorem u32_or8 (x y : Int) (hx₀ : 0 ≤ x) (hx : x % 256 = 0) (hx₁ : x < 4294967296) (h₀ : 0 ≤ y) (h₁ : y < 256) : bits .or .u32 x y = x + y :=
  bits_join .u32 32 (by decide) wraps_u32 8 x y hx₀ hx hx₁ h₀ h₁ (by omega)
theorem or8 (t x : Int) (h0 : 0 ≤ t) (h1 : t < 16777216) (h2 : 0 ≤ x) (h3 : x < 256) : bits .or .u32 (t * 256 % 4294967296) x = t * 256 + x := by
  have e : t * 256 % 4294967296 = t * 256 := by omega
  rw [e]
  exact u32_or8 _ _ (by omega) (by omega) (by omega) h2 h3
theorem toldF_range (l : List Int) (h : InBytes l) : ∀ n : Nat, l.length ≤ n → 0 ≤ toldF l ∧ toldF l < (256 : Int) ^ n := by
  intro n
  induction n generalizing l with
  | zero => intro hl; have : l = [] := List.eq_nil_of_length_eq_zero (by omega); subst this; simp [toldF]
  | succ n ih =>
    intro hl
    rcases List.eq_nil_or_concat l with rfl | ⟨r, x, rfl⟩
    · simp only [toldF, List.foldl_nil]; exact ⟨by omega, Int.pow_pos (by decide)⟩
    · rw [List.concat_eq_append] at hl h ⊢
      rw [toldF_snoc]
      have h1 := ih r (fun y hy => h y (List.mem_append_left _ hy)) (by simp at hl; omega)
      have h2 := h x (by simp)
      rw [Int.pow_succ]
      omega
set_option maxHeartbeats 4000000 in
set_option maxRecDepth 100000 in
theorem law4in (sz ot : Int) (A : Option Addr) (n c : Nat) (w : World) (As Bs Zs : List Int) (chk : Int) (hl : n ≤ 100) (hF : LawFacts sz ot As Bs Zs chk)
    (ha : ∀ W, Below w.heap.size w W → Calls Try.prog 7 #[.int .i64 sz, .slice A n c] W (Gives W As)) (hb : ∀ W, Below w.heap.size w W → Calls Try.prog 7 #[.int .i64 ot, .slice A n c] W (Gives W Bs)) :
    Calls Try.prog 4 #[.int .i64 sz, .int .i64 ot, .slice A n c] w fun e w' => e = .returned (.bool true) ∧ Below w.heap.size w w' := by
  have HA := Lib.hid ha
  have HBB := Lib.hid hb
  have HF := Lib.hid hF
  clear ha hb hF
  go_enter Try.func4, Try.ntmps4
  go_wp2_with (first | (go_at_call 7; ((with_reducible refine (HA.out _ (Below.refl _ _)).mono ?_); rintro e w1 ⟨v1, rfl, hr⟩; have R1 := Lib.hid hr; clear hr)))
  refine (HBB.out _ R1.out.2).mono ?_
  rintro e w2 ⟨v2, rfl, hr⟩
  have R2 := Lib.hid hr
  clear hr
  obtain ⟨g1, c1, e1, hc1, hcell1⟩ := row_at R1.out (by rw [HF.out.la]; decide)
  obtain ⟨g2, c2, e2, hc2, hcell2⟩ := row_at R2.out (by rw [HF.out.lb]; decide)
  rw [HF.out.la] at e1
  rw [HF.out.lb] at e2
  subst e1
  subst e2
  have HC1 := Lib.hid (fun j x hj => cell_later R2.out.2 (hcell1 j x hj))
  have HC2 := Lib.hid hcell2
  clear hcell1 hcell2 hc1 hc2
  go_wp2_with fail
  have HB := Lib.hid (below_then R1.out.2 R1.out.2.size R2.out.2)
  clear HA HBB
  go_loop [9, 10, 35] (fun v9 v10 v35 => ∃ k : Nat, v35 = .int .i64 k ∧ k ≤ 512 ∧ v9 = .int .u32 (sumU (Zs.take k)) ∧ v10 = .int .u32 (toldF (((As.take k).drop 64).take 4))) (fun _ _ i => 512 - (intOf i).toNat)
  case atStart => exact ⟨0, rfl, by omega, by simp [sumU], by simp [toldF]⟩
  case round =>
    obtain ⟨k, rfl, hk, rfl, rfl⟩ := hrel
    have hsr := sumU_range (Zs.take k)
    by_cases hlt : k < 512
    · obtain ⟨x, hx⟩ : ∃ x, As[k]? = some x := ⟨_, List.getElem?_eq_getElem (by rw [HF.out.la]; exact hlt)⟩
      obtain ⟨y, hy⟩ : ∃ y, Bs[k]? = some y := ⟨_, List.getElem?_eq_getElem (by rw [HF.out.lb]; exact hlt)⟩
      have hc := HC1.out k x hx
      have hd := HC2.out k y hy
      have hxr := HF.out.ia x (List.mem_of_getElem? hx)
      by_cases h64 : 64 ≤ k ∧ k < 68
      · have HS : Hid (sumU (Zs.take (k + 1)) = sumU (Zs.take k)) := Lib.hid (by
          rw [List.take_add_one, HF.out.zero k h64.1 h64.2]
          show sumU (Zs.take k ++ [0]) = _
          rw [sumU_snoc]; omega)
        have hrg := toldF_range (((As.take k).drop 64).take 4) (fun z hz => HF.out.ia z (List.mem_of_mem_take (List.mem_of_mem_drop (List.mem_of_mem_take hz)))) 3 (by
          rw [List.length_take, List.length_drop, List.length_take, HF.out.la]; omega)
        have HT : Hid (toldF (((As.take (k + 1)).drop 64).take 4) = toldF (((As.take k).drop 64).take 4) * 256 + x) := Lib.hid (by
          rw [told_step As k x HF.out.la hx h64.1 h64.2, toldF_snoc])
        generalize sumU (Zs.take k) = s at *
        generalize toldF (((As.take k).drop 64).take 4) = t at *
        have HO := Lib.hid (or8 t x hrg.1 (by have := hrg.2; omega) hxr.1 hxr.2)
        clear hx hy hrg
        obtain ⟨h641, h642⟩ := h64
        go_wp2_with fail
        go_round
        case rel => exact ⟨k + 1, by first | rfl | go_num, by omega, by rw [HS.out], by rw [HT.out, HO.out]⟩
        case measure => simp [intOf] <;> omega
      · have HS : Hid (sumU (Zs.take (k + 1)) = (sumU (Zs.take k) + x) % 4294967296) := Lib.hid (by
          rw [List.take_add_one, HF.out.rest k (by omega), hx]
          exact sumU_snoc _ _)
        have HT : Hid (toldF (((As.take (k + 1)).drop 64).take 4) = toldF (((As.take k).drop 64).take 4)) := Lib.hid (by
          rw [told_keep As k HF.out.la hlt h64])
        have hxy : k < 40 ∨ 56 ≤ k → y = x := fun h => by
          have := HF.out.same k (by omega)
          rw [hx, hy] at this
          exact Option.some.inj this
        generalize sumU (Zs.take k) = s at *
        generalize toldF (((As.take k).drop 64).take 4) = t at *
        clear hx hy
        by_cases hin : k < 40 ∨ 56 ≤ k
        · obtain rfl := hxy hin
          clear hxy
          rcases hin with hin | hin
          · go_wp2_with fail
            go_round
            case rel => exact ⟨k + 1, by first | rfl | go_num, by omega, by rw [HS.out] <;> (congr 2; omega), by rw [HT.out]⟩
            case measure => simp [intOf] <;> omega
          · rcases (show k < 64 ∨ 68 ≤ k by omega) with h | h
            all_goals go_wp2_with fail
            all_goals go_round
            all_goals first | exact ⟨k + 1, by first | rfl | go_num, by omega, by rw [HS.out] <;> (congr 2; omega), by rw [HT.out]⟩ | (simp [intOf] <;> omega)
        · clear hxy
          have h1 : 40 ≤ k := by omega
          have h2 : k < 56 := by omega
          clear hin h64
          go_wp2_with fail
          all_goals go_round
          all_goals first | exact ⟨k + 1, by first | rfl | go_num, by omega, by rw [HS.out] <;> (congr 2; omega), by rw [HT.out]⟩ | (simp [intOf] <;> omega)
    · obtain rfl : k = 512 := by omega
      have HS := Lib.hid (show sumU (Zs.take 512) = sumU Zs by rw [List.take_of_length_le (by rw [HF.out.lz]; omega)])
      have HT := Lib.hid (show toldF (((As.take 512).drop 64).take 4) = chk by rw [List.take_of_length_le (l := As) (by rw [HF.out.la]; omega)]; exact HF.out.told)
      generalize sumU (Zs.take 512) = s at *
      generalize toldF (((As.take 512).drop 64).take 4) = t at *
      have HE := Lib.hid (show t = bits BinOp.xor IntKind.u32 IntKind.u32.max s by rw [HT.out, HF.out.chk, HS.out])
      clear hsr hk hlt
      have hv1 := run_convert_bytes_arg (P := Try.prog) w2 27 5 Try.underlying27 Try.underlying5 g1 0 512 c1 As HF.out.la (fun i hi => by
        have hg : As[i]? = some (As.getD i 0) := by rw [List.getD_eq_getElem?_getD, List.getElem?_eq_getElem (by rw [HF.out.la]; exact hi)]; rfl
        rw [Nat.zero_add]; exact HC1.out i _ hg) 9 Try.underlying9
      have hv2 := run_convert_bytes_arg (P := Try.prog) w2 27 5 Try.underlying27 Try.underlying5 g2 0 512 c2 Bs HF.out.lb (fun i hi => by
        have hg : Bs[i]? = some (Bs.getD i 0) := by rw [List.getD_eq_getElem?_getD, List.getElem?_eq_getElem (by rw [HF.out.lb]; exact hi)]; rfl
        rw [Nat.zero_add]; exact HC2.out i _ hg) 9 Try.underlying9
      have hne : sz ≠ ot → strOfNums As ≠ strOfNums Bs := fun h e => h (HF.out.both.2 (strOfNums_inj As Bs HF.out.ia HF.out.ib e))
      by_cases he : sz = ot
      · have hAB := HF.out.both.1 he
        subst he
        rw [← hAB] at hv2
        generalize strOfNums As = S1 at hv1 hv2
        have q1 : (S1.toList == S1.toList) = true := by simp
        have q2 : (sz == sz) = true := by simp
        clear hne hAB HF HC1 HC2 R1 R2
        go_wp2_with fail
        go_ret
        exact ⟨rfl, HB.out⟩
      · have hne2 := hne he
        generalize strOfNums As = S1 at hv1 hne2
        generalize strOfNums Bs = S2 at hv2 hne2
        have q1 : (S1.toList == S2.toList) = false := by
          have : S1.toList ≠ S2.toList := fun e => hne2 (by
            rw [ByteArray.toList_eq, ByteArray.toList_eq] at e
            exact ByteArray.ext (Array.ext' e))
          simpa using this
        have q2 : (sz == ot) = false := by simpa using he
        clear hne hne2 he HF HC1 HC2 R1 R2
        go_wp2_with fail
        go_ret
        exact ⟨rfl, HB.out⟩
theorem law_facts (sz ot : Int) (u : List Int) (hu : u.length = 16) (hi : InBytes u) (h1 : -9223372036854775808 ≤ sz) (h2 : sz ≤ 9223372036854775807) (h3 : -9223372036854775808 ≤ ot) (h4 : ot ≤ 9223372036854775807) :
    LawFacts sz ot (footBytes cookie sz (chkOf sz u) u) (footBytes cookie ot (chkOf ot u) u) (footBytes cookie sz 0 u) (chkOf sz u) := by
  have hc := chkOf_range sz u
  refine ⟨footBytes_len _ _ _ _ rfl hu, footBytes_len _ _ _ _ rfl hu, footBytes_len _ _ _ _ rfl hu, footBytes_in _ _ _ _ cookie_in hi, footBytes_in _ _ _ _ cookie_in hi, ?_, ?_, ?_, ?_, rfl, ?_⟩
  · intro i hi
    rw [foot_parts, foot_parts, five _ _ _ _ _ headB_len (sizeB_len _) rfl rfl, five _ _ _ _ _ headB_len (sizeB_len _) rfl rfl]
    rcases hi with h | h | h
    · rw [if_pos h, if_pos h]
    · rw [if_neg (by omega), if_neg (by omega), if_pos (by omega), if_neg (by omega), if_neg (by omega), if_pos (by omega)]
    · rw [if_neg (by omega), if_neg (by omega), if_neg (by omega), if_neg (by omega), if_neg (by omega), if_neg (by omega), if_neg (by omega), if_neg (by omega)]
  · intro i ha hb
    rw [foot_parts, five _ _ _ _ _ headB_len (sizeB_len _) rfl rfl, if_neg (by omega), if_neg (by omega), if_neg (by omega), if_pos hb]
    have : i - 64 = 0 ∨ i - 64 = 1 ∨ i - 64 = 2 ∨ i - 64 = 3 := by omega
    rcases this with h | h | h | h <;> rw [h] <;> rfl
  · intro i hi
    rw [foot_parts, foot_parts, five _ _ _ _ _ headB_len (sizeB_len _) rfl rfl, five _ _ _ _ _ headB_len (sizeB_len _) rfl rfl]
    by_cases a : i < 40
    · rw [if_pos a, if_pos a]
    rw [if_neg a, if_neg a]
    by_cases b : i < 56
    · rw [if_pos b, if_pos b]
    rw [if_neg b, if_neg b]
    by_cases c : i < 64
    · rw [if_pos c, if_pos c]
    rw [if_neg c, if_neg c, if_neg (by omega), if_neg (by omega)]
  · rw [foot_parts]
    have e : headB cookie ++ (sizeB sz ++ (be32 0 ++ be32 2 ++ (be32 (chkOf sz u) ++ tailB u))) = (headB cookie ++ sizeB sz ++ (be32 0 ++ be32 2)) ++ (be32 (chkOf sz u) ++ tailB u) := by simp only [List.append_assoc]
    have l1 : (headB cookie ++ sizeB sz ++ (be32 0 ++ be32 2)).length = 64 := rfl
    rw [e]
    generalize headB cookie ++ sizeB sz ++ (be32 0 ++ be32 2) = X at l1
    have e2 : (X ++ (be32 (chkOf sz u) ++ tailB u)).drop 64 = be32 (chkOf sz u) ++ tailB u := by rw [← l1]; exact List.drop_left
    have e3 : (be32 (chkOf sz u) ++ tailB u).take 4 = be32 (chkOf sz u) := List.take_left (l₁ := be32 (chkOf sz u)) (l₂ := tailB u)
    rw [e2, e3]
    exact toldF_be32 _ hc.1 hc.2
  · exact ⟨fun h => by rw [h], fun h => foot_inj sz ot _ _ u h1 h2 h3 h4 h⟩
theorem breads_later {A : Option Addr} {n : Nat} {b : List Int} {w W : World} (h : BReads A n b w) (hb : Below w.heap.size w W) : BReads A n b W :=
  ⟨h.1, fun h0 => by obtain ⟨ad, e, hc⟩ := h.2 h0; exact ⟨ad, e, fun j x hj => cell_later hb (hc j x hj)⟩⟩
set_option maxHeartbeats 1000000 in
theorem law4big (sz ot : Int) (A : Option Addr) (n c : Nat) (w : World) (hn : n ≤ 9223372036854775807) (h : 100 < n) :
    Calls Try.prog 4 #[.int .i64 sz, .int .i64 ot, .slice A n c] w fun e w' => e = .returned (.bool true) ∧ Below w.heap.size w w' := by
  go_enter Try.func4, Try.ntmps4
  go_wp2_with fail
  all_goals (go_ret; exact ⟨rfl, Below.refl _ _⟩)
theorem law4 (sz ot : Int) (A : Option Addr) (n c : Nat) (b : List Int) (w : World) (hr : BReads A n b w) (hn : n ≤ 9223372036854775807) (hi : InBytes b) (h1 : -9223372036854775808 ≤ sz) (h2 : sz ≤ 9223372036854775807) (h3 : -9223372036854775808 ≤ ot) (h4 : ot ≤ 9223372036854775807) :
    Calls Try.prog 4 #[.int .i64 sz, .int .i64 ot, .slice A n c] w fun e w' => e = .returned (.bool true) ∧ Below w.heap.size w w' := by
  by_cases h : n ≤ 100
  · exact law4in sz ot A n c w _ _ _ _ h (law_facts sz ot (pad b) (pad_len b) (pad_in b hi) h1 h2 h3 h4)
      (fun W hb => vhd7 sz A n c b W (breads_later hr hb) h hi) (fun W hb => vhd7 ot A n c b W (breads_later hr hb) h hi)
  · exact law4big sz ot A n c w hn (by omega)

open Go.ChangeShapes Go.WideShapes Go.ChangeAt
theorem own : ownKnob Try.prog.godebug = none := by kernel_rfl
theorem laidOut : laidOutB Try.prog = true := by kernel_rfl
theorem readable4 : ∀ t ∈ Try.f4.params.toList, Try.prog.readableRec t = true ∧ t < Try.prog.types.size := by
  have h : (Try.f4.params.toList.all fun t => Try.prog.readableRec t && decide (t < Try.prog.types.size)) = true := by kernel_rfl
  intro t ht
  have := List.all_eq_true.1 h t ht
  simpa using this
set_option maxRecDepth 100000 in
theorem lifted (os : Os) (started : os.Started) (H : Type) (enc : TypeId × Value → H) :
    ReturnsInHanded {} Try.checked os 4 .any (Rows.fnVhdSumSpec.pre6 enc Try.prog Try.f4 Rows.fnVhdSumRow.domain false) (Rows.fnVhdSumSpec.post enc Try.prog Try.f4 false true false false) := by
  refine Adapter.law_lifted (C := Try.checked) own started (by kernel_rfl) Try.func4
    (ChangeSpec.witness6 (enc := enc) (C := Try.checked) false ⟨#[], #[.int .i64 0, .int .i64 0, .slice none 0 0], []⟩ 8 (by kernel_rfl) (by kernel_rfl) (by kernel_rfl) (by kernel_rfl))
    laidOut readable4 (tb := 4) (by kernel_rfl) (by kernel_rfl) rfl ?_ ?_
  · intro ds hds
    rw [show Try.f4.params.size = 3 from by kernel_rfl] at hds
    match ds, hds with
    | [d1, d2, d3], _ => rfl
  · intro W base args ds p hval hA _ _
    rw [Try.params4] at hA hval
    obtain ⟨v0, vs0, d0, ds0, p0, q0, hargs, rfl, rfl, h0, r0⟩ := trodAll_cons hA
    obtain ⟨v1, vs1, d1, ds1, p1, q1, rfl, rfl, rfl, h1, r1⟩ := trodAll_cons r0
    obtain ⟨v2, vs2, d2, ds2, p2, q2, rfl, rfl, rfl, h2, r2⟩ := trodAll_cons r1
    obtain ⟨rfl, rfl, rfl⟩ := trodAll_nil r2
    obtain rfl : args = #[v0, v1, v2] := by cases args; simp_all
    obtain ⟨sz, rfl, rfl, rfl, w0⟩ := open_int Try.underlying2 (hval 0 2 v0 rfl rfl) h0
    obtain ⟨ot, rfl, rfl, rfl, w1⟩ := open_int Try.underlying2 (hval 1 2 v1 rfl rfl) h1
    have b0 : -9223372036854775808 ≤ sz ∧ sz ≤ 9223372036854775807 := by simpa [Lit.wf, IntKind.min, IntKind.max, IntKind.bits, IntKind.signed] using w0
    have b1 : -9223372036854775808 ≤ ot ∧ ot ≤ 9223372036854775807 := by simpa [Lit.wf, IntKind.min, IntKind.max, IntKind.bits, IntKind.signed] using w1
    obtain ⟨a0, len, cap, rfl⟩ := okWide_slice Try.underlying27 (hval 2 27 v2 rfl rfl)
    obtain ⟨fuel, hf⟩ := h2
    rcases Go.ChangeShapes.open_ints Try.underlying27 Try.underlying5 (by kernel_rfl) hf with ⟨hcs, hx⟩ | ⟨a, len', cap', zs, hcs, _, hl, hm, hz, hx, hcell, hwz⟩
    · simp [Value.cells] at hcs
      obtain ⟨rfl, rfl, rfl⟩ := hcs
      exact law4 sz ot none 0 0 [] W ⟨rfl, fun h => absurd h (by omega)⟩ (by omega) (fun x hx => by cases hx) b0.1 b0.2 b1.1 b1.2
    · simp [Value.cells] at hcs
      obtain ⟨rfl, rfl, rfl⟩ := hcs
      unfold maxLen at hm
      have hzl : len ≤ zs.length := by rw [hz]; split <;> omega
      refine law4 sz ot (some a) len cap (zs.take len) W ⟨by rw [List.length_take]; omega, fun _ => ⟨a, rfl, fun j x hj => ?_⟩⟩ (by omega) (fun x hx => ?_) b0.1 b0.2 b1.1 b1.2
      · have hlt := (List.getElem?_eq_some_iff.1 hj).1
        rw [List.length_take] at hlt
        rw [List.getElem?_take, if_pos (by omega)] at hj
        have h := hcell j (by omega)
        rw [List.getD_eq_getElem?_getD, hj] at h
        exact h
      · have hw := hwz x (List.mem_of_mem_take hx)
        have : 0 ≤ x ∧ x ≤ 255 := by simpa [Lit.wf, IntKind.min, IntKind.max, IntKind.bits, IntKind.signed] using hw
        omega
theorem over : Rows.fnVhdSumRow.holds Try.pinned (OpenSpec.ofChange Rows.fnVhdSumSpec) :=
  OpenClaim.holds_of_wide 4 Try.f4 rfl rfl rfl rfl rfl rfl rfl ⟨rfl, rfl, rfl, rfl, rfl⟩ rfl rfl rfl rfl rfl (by kernel_rfl) Try.func4 (by kernel_rfl)
    (of_decide_eq_true (by kernel_rfl)) (by unfold Func.isWrapper; first | (rw [if_pos (by decide +kernel)]; kernel_rfl) | (rw [if_neg (by decide +kernel)]; exact ⟨rfl, rfl⟩))
    (fun os started H enc _ => lifted os started H enc)
theorem holds : Rows.FnVhdSumSaid := over
#print axioms holds
end Go.Proofs.Ytbakmlhjfjjfoaa.Vh
