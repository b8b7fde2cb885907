/- Numbers and hexadecimal digits of bytes that lie at a place; the hash of two byte strings. -/
import Derived.Test.YtckjbgneblfceaaDoorDb
import Derived.Laws.BitsLemmas
namespace Go.Proofs.YtckjbgneblfceaaDoor.Da
open Go.RowKit Go.Maps Go.Proofs.YtckjbgneblfceaaDoorW.PrintWords Go.Proofs.YtckjbgneblfceaaDoorW.PrintLast Go.Proofs.YtckjbgneblfceaaDoorW.PrintMore
open Go.Proofs.YtckjbgneblfceaaDoor.PFnVerityRead Go.Proofs.YtckjbgneblfceaaDoor.Fa
set_option linter.unusedVariables false
set_option linter.unusedSimpArgs false
theorem C_of_lies {W : World} {g o : Nat} {l : List Int} (h : Lies g o l W) (hl : l.length ≤ 10000000) : Kd.C (Kd.int .u8) W (some ⟨g, o, none⟩) l.length l := row_u8L W g o l hl h
theorem Lies.part {g o : Nat} {b : List Int} {w : World} (h : Lies g o b w) (i m : Nat) : Lies g (o + i) ((b.drop i).take m) w := by
  intro k x hk
  rw [Nat.add_assoc]
  refine h (i + k) x ?_
  rw [List.getElem?_take] at hk
  split at hk
  · rwa [List.getElem?_drop] at hk
  · cases hk
theorem Lies.tail {g o : Nat} {b : List Int} {w : World} (h : Lies g o b w) (i : Nat) : Lies g (o + i) (b.drop i) w := by
  intro k x hk
  rw [Nat.add_assoc]
  exact h (i + k) x (by rwa [List.getElem?_drop] at hk)
theorem InBytes.drop {b : List Int} (h : InBytes b) (i : Nat) : InBytes (b.drop i) := fun x hx => h x (List.mem_of_mem_drop hx)
theorem InBytes.take {b : List Int} (h : InBytes b) (i : Nat) : InBytes (b.take i) := fun x hx => h x (List.mem_of_mem_take hx)
theorem InBytes.at {b : List Int} (h : InBytes b) (i : Nat) : 0 ≤ b.getD i 0 ∧ b.getD i 0 < 256 := by
  rw [List.getD_eq_getElem?_getD]
  by_cases hi : i < b.length
  · rw [List.getElem?_eq_getElem hi]; exact h _ (List.getElem_mem hi)
  · rw [List.getElem?_eq_none (by omega)]; decide
/-- The number of n bytes from a place on, the lowest first. -/
def leF (b : List Int) (o : Nat) : Nat → Int
  | 0 => 0
  | n + 1 => b.getD o 0 + 256 * leF b (o + 1) n
theorem leF_range {b : List Int} (h : InBytes b) : ∀ n o, 0 ≤ leF b o n ∧ leF b o n < 256 ^ n
  | 0, o => by simp [leF]
  | n + 1, o => by
    have h1 := leF_range h n (o + 1)
    have h2 := h.at o
    simp only [leF, Int.pow_succ]
    omega
theorem bor_comm (k : IntKind) (a b : Int) : bits .or k a b = bits .or k b a := by
  simp only [bits, BitVec.or_comm]
theorem w16 (n : Int) (h : 0 ≤ n) (h1 : n < 2 ^ 16) : IntKind.u16.wrap n = n := by simp only [IntKind.wrap, IntKind.bits, IntKind.signed]; simp; omega
theorem w32 (n : Int) (h : 0 ≤ n) (h1 : n < 2 ^ 32) : IntKind.u32.wrap n = n := by rw [IntKind.wrap_u32]; omega
theorem w64 (n : Int) (h : 0 ≤ n) (h1 : n < 2 ^ 64) : IntKind.u64.wrap n = n := by simp only [IntKind.wrap, IntKind.bits, IntKind.signed]; simp; omega
theorem or64 (x y : Int) (hx : 0 ≤ x) (hx1 : x * 256 < 2 ^ 64) (hy : 0 ≤ y) (hy1 : y < 256) : bits .or .u64 (x * 256) y = y + 256 * x := by
  rw [bits_join .u64 64 (by decide) w64 8 _ _ (by omega) (by omega) hx1 hy (by omega) (by omega)]; omega
theorem get32_law (b : List Int) (h : InBytes b) (hl : 4 ≤ b.length) : dmverity_get32.f b = some (leF b 0 4) := by
  have b0 := h.at 0
  have b1 := h.at 1
  have b2 := h.at 2
  have b3 := h.at 3
  have r : ∀ i : Nat, rd b (i : Int) = b.getD i 0 := fun i => by unfold rd; rw [Int.toNat_natCast]
  have r0 : rd b 0 = b.getD 0 0 := r 0
  have r1 : rd b 1 = b.getD 1 0 := r 1
  have r2 : rd b 2 = b.getD 2 0 := r 2
  have r3 : rd b 3 = b.getD 3 0 := r 3
  unfold dmverity_get32.f
  rw [if_pos (by omega), if_pos (by omega), if_pos (by omega), if_pos (by omega), r0, r1, r2, r3]
  simp only [leF, Nat.zero_add, Nat.reduceAdd]
  generalize b.getD 0 0 = x0 at *
  generalize b.getD 1 0 = x1 at *
  generalize b.getD 2 0 = x2 at *
  generalize b.getD 3 0 = x3 at *
  have e1 : Go.bits .or .u32 (x0 % 4294967296) (((x1 % 4294967296) * 256) % 4294967296) = x0 + 256 * x1 := by
    rw [bor_comm, bits_join .u32 32 (by decide) w32 8 _ _ (by omega) (by omega) (by omega) (by omega) (by omega) (by omega)]; omega
  rw [e1]
  have e2 : Go.bits .or .u32 (x0 + 256 * x1) (((x2 % 4294967296) * 65536) % 4294967296) = x0 + 256 * x1 + 65536 * x2 := by
    rw [bor_comm, bits_join .u32 32 (by decide) w32 16 _ _ (by omega) (by omega) (by omega) (by omega) (by omega) (by omega)]; omega
  rw [e2]
  have e3 : Go.bits .or .u32 (x0 + 256 * x1 + 65536 * x2) (((x3 % 4294967296) * 16777216) % 4294967296) = x0 + 256 * x1 + 65536 * x2 + 16777216 * x3 := by
    rw [bor_comm, bits_join .u32 32 (by decide) w32 24 _ _ (by omega) (by omega) (by omega) (by omega) (by omega) (by omega)]; omega
  rw [e3]
  congr 1
  omega
set_option maxRecDepth 100000 in
theorem le_law (b : List Int) (h : InBytes b) (o n : Nat) (hn : n ≤ 8) (hl : o + n ≤ b.length) (hb : b.length ≤ 10000000) : ∀ i : Nat, i ≤ n → spec_le.l0 (i + 1) b o (leF b (o + i) (n - i)) i = some (leF b o n)
  | 0, _ => by
    rw [spec_le.l0, if_neg (by decide)]; rfl
  | i + 1, hi => by
    have h1 := leF_range h (n - (i + 1)) (o + (i + 1))
    have h2 := h.at (o + i)
    have h3 : leF b (o + i) (n - i) = b.getD (o + i) 0 + 256 * leF b (o + (i + 1)) (n - (i + 1)) := by
      rw [show n - i = (n - (i + 1)) + 1 by omega]; rfl
    have hp : (256 : Int) ^ (n - (i + 1)) ≤ 256 ^ 7 := by
      have : (256 : Nat) ^ (n - (i + 1)) ≤ 256 ^ 7 := Nat.pow_le_pow_right (by decide) (by omega)
      exact_mod_cast this
    have hp2 : (256 : Int) ^ 7 * 256 = 2 ^ 64 := by decide
    generalize (256 : Int) ^ (n - (i + 1)) = P at h1 hp
    have e1 : IntKind.u64.wrap ((o : Int) + ((i + 1 : Nat) : Int)) = (o : Int) + (i + 1 : Nat) := w64 _ (by omega) (by omega)
    have e2 : IntKind.u64.wrap ((o : Int) + ((i + 1 : Nat) : Int) - 1) = ((o + i : Nat) : Int) := by rw [w64 _ (by omega) (by omega)]; omega
    have e3 : IntKind.u64.wrap ((b.length : Nat) : Int) = b.length := w64 _ (by omega) (by omega)
    have e4 : IntKind.u64.wrap (leF b (o + (i + 1)) (n - (i + 1)) * 256) = leF b (o + (i + 1)) (n - (i + 1)) * 256 := w64 _ (by omega) (by omega)
    have e5 : rd b ((o + i : Nat) : Int) = b.getD (o + i) 0 := by unfold rd; rw [Int.toNat_natCast]
    have e6 : IntKind.u64.wrap (b.getD (o + i) 0) = b.getD (o + i) 0 := w64 _ (by omega) (by omega)
    have e7 : IntKind.u64.wrap (((i + 1 : Nat) : Int) - 1) = (i : Int) := by rw [w64 _ (by omega) (by omega)]; omega
    rw [spec_le.l0]
    rw [if_pos (by omega), e1, e2, e3, if_pos (by omega), if_pos (by omega), if_pos (by omega), if_pos (by omega), e4, e5, e6, e7, or64 _ _ (by omega) (by omega) (by omega) (by omega), ← h3]
    exact le_law b h o n hn hl hb i (by omega)
/-- Hexadecimal digits. -/
def digs : ByteArray := ⟨#[48, 49, 50, 51, 52, 53, 54, 55, 56, 57, 97, 98, 99, 100, 101, 102]⟩
def hexL (b : List Int) : List Int := b.flatMap fun c => [bt digs (c / 16), bt digs (c % 16)]
theorem digs_at (i : Nat) (h : i < 16) : digs.extract i (i + 1) = strOfNums [bt digs (i : Int)] := by
  match i, h with
  | 0, _ => rfl
  | 1, _ => rfl
  | 2, _ => rfl
  | 3, _ => rfl
  | 4, _ => rfl
  | 5, _ => rfl
  | 6, _ => rfl
  | 7, _ => rfl
  | 8, _ => rfl
  | 9, _ => rfl
  | 10, _ => rfl
  | 11, _ => rfl
  | 12, _ => rfl
  | 13, _ => rfl
  | 14, _ => rfl
  | 15, _ => rfl
  | n + 16, h => omega
theorem str_app (a b : List Int) : strOfNums (a ++ b) = strOfNums a ++ strOfNums b := by
  apply ByteArray.ext
  simp [strOfNums]
theorem hexL_len (b : List Int) : (hexL b).length = 2 * b.length := by
  unfold hexL
  induction b with
  | nil => rfl
  | cons a t ih => rw [List.flatMap_cons, List.length_append, ih, List.length_cons]; simp; omega
theorem hexL_take (b : List Int) (i : Nat) (c : Int) (h : b[i]? = some c) : hexL (b.take (i + 1)) = hexL (b.take i) ++ [bt digs (c / 16), bt digs (c % 16)] := by
  unfold hexL
  rw [List.take_add_one, h]; simp
theorem hex_law (b : List Int) (h : InBytes b) (hb : b.length ≤ 100000) : ∀ k i : Nat, i + k = b.length → dmverity_hex.l0 (k + 1) (strOfNums (hexL (b.take i))) b b.length i = some (strOfNums (hexL b))
  | 0, i, hi => by
    rw [dmverity_hex.l0, if_neg (by omega), List.take_of_length_le (by omega)]
  | k + 1, i, hi => by
    obtain ⟨c, hc⟩ : ∃ c, b[i]? = some c := ⟨_, List.getElem?_eq_getElem (by omega)⟩
    have hr : rd b (i : Int) = c := by unfold rd; rw [Int.toNat_natCast, List.getD_eq_getElem?_getD, hc]; rfl
    have hcr := h c (List.mem_of_getElem? hc)
    have e1 : bits .and .u8 c 15 = c % 16 := u8_and15 _ hcr.1 hcr.2
    have e2 : (c / 16 + 1) % 256 = c / 16 + 1 := by omega
    have e3 : (c % 16 + 1) % 256 = c % 16 + 1 := by omega
    have d1 : digs.extract (c / 16).toNat (c / 16 + 1).toNat = strOfNums [bt digs (c / 16)] := by
      have := digs_at (c / 16).toNat (by omega)
      rw [show (c / 16 + 1).toNat = (c / 16).toNat + 1 by omega, this, Int.toNat_of_nonneg (by omega)]
    have d2 : digs.extract (c % 16).toNat (c % 16 + 1).toNat = strOfNums [bt digs (c % 16)] := by
      have := digs_at (c % 16).toNat (by omega)
      rw [show (c % 16 + 1).toNat = (c % 16).toNat + 1 by omega, this, Int.toNat_of_nonneg (by omega)]
    have hw : wrap64 ((i : Int) + 1) = ((i + 1 : Nat) : Int) := by unfold wrap64; omega
    have hs : strOfNums (hexL (b.take i)) ++ (strOfNums [bt digs (c / 16)] ++ strOfNums [bt digs (c % 16)]) = strOfNums (hexL (b.take (i + 1))) := by
      rw [hexL_take b i c hc, str_app, ← str_app]; rfl
    have hsz : (strOfNums (hexL (b.take (i + 1)))).size ≤ 9223372036854775807 := by
      rw [strOfNums_size, hexL_len, List.length_take]; omega
    have hsz0 : (strOfNums (hexL (b.take i))).size + (strOfNums [bt digs (c / 16)] ++ strOfNums [bt digs (c % 16)]).size ≤ 9223372036854775807 := by
      rw [← str_app, strOfNums_size, strOfNums_size, hexL_len, List.length_take]; simp; omega
    rw [dmverity_hex.l0]
    simp only [hr, e1, e2, e3]
    rw [if_pos (by omega), if_pos (by omega), if_pos (by omega), if_pos (by omega), if_pos (by omega), if_pos (by omega), if_pos (by omega), if_pos (by omega), if_pos (by omega)]
    show (if (digs.extract _ _).size + (digs.extract _ _).size ≤ _ then (if _ + (digs.extract _ _ ++ digs.extract _ _).size ≤ _ then dmverity_hex.l0 _ (_ ++ (digs.extract _ _ ++ digs.extract _ _)) _ _ _ else none) else none) = _
    rw [d1, d2, if_pos (by simp [strOfNums_size]), if_pos hsz0, hs, hw]
    exact hex_law b h hb k (i + 1) (by omega)
theorem hexS_law (b : List Int) (h : InBytes b) (hb : b.length ≤ 100000) : ∀ k i : Nat, i + k = b.length → spec_Hexadecimal.l0 (k + 1) (hexL (b.take i)) b b.length i = some (strOfNums (hexL b))
  | 0, i, hi => by
    rw [spec_Hexadecimal.l0, if_neg (by omega), List.take_of_length_le (by omega)]
  | k + 1, i, hi => by
    obtain ⟨c, hc⟩ : ∃ c, b[i]? = some c := ⟨_, List.getElem?_eq_getElem (by omega)⟩
    have hr : rd b (i : Int) = c := by unfold rd; rw [Int.toNat_natCast, List.getD_eq_getElem?_getD, hc]; rfl
    have hcr := h c (List.mem_of_getElem? hc)
    have e1 : bits .and .u8 c 15 = c % 16 := u8_and15 _ hcr.1 hcr.2
    have hw : wrap64 ((i : Int) + 1) = ((i + 1 : Nat) : Int) := by unfold wrap64; omega
    have hl : (hexL (b.take i)).length ≤ 200000 := by rw [hexL_len, List.length_take]; omega
    rw [spec_Hexadecimal.l0]
    simp only [hr, e1]
    rw [if_pos (by omega), if_pos (by omega), if_pos (by omega), if_pos (by omega), if_pos (by omega), if_pos (by omega), if_pos (by omega)]
    show (if _ + 2 < _ then spec_Hexadecimal.l0 _ (_ ++ [bt digs _, bt digs _]) _ _ _ else none) = _
    rw [if_pos (by omega), ← hexL_take b i c hc, hw]
    exact hexS_law b h hb k (i + 1) (by omega)
theorem drawn_below {w w' : World} (h : Drawn0 w w') : Below w.heap.size w w' := h.below
/-- The contracts at bytes that lie at a place. -/
theorem get32_at (g o n c : Nat) (b : List Int) (w : World) (hb : b.length = n) (hn : n ≤ 10000000) (hnc : n ≤ c) (h4 : 4 ≤ n) (hi : InBytes b) (hl : Lies g o b w) :
    Calls Tryd.prog 67 #[.slice (some ⟨g, o, none⟩) n c] w fun e w' => e = .returned (.int .u32 (leF b 0 4)) ∧ Drawn0 w w' := by
  subst hb
  exact dmverity_get32.calls _ c b _ w (C_of_lies hl hn) hnc (get32_law b hi h4)
theorem le_at (g o n c : Nat) (b : List Int) (w : World) (p m : Nat) (hb : b.length = n) (hn : n ≤ 10000000) (hnc : n ≤ c) (hm : m ≤ 8) (hp : p + m ≤ n) (hi : InBytes b) (hl : Lies g o b w) :
    Calls Tryd.prog 33 #[.slice (some ⟨g, o, none⟩) n c, .int .u64 p, .int .u64 m] w fun e w' => e = .returned (.int .u64 (leF b p m)) ∧ Drawn0 w w' := by
  subst hb
  refine spec_le.calls (m + 1) _ c b p m _ w (C_of_lies hl hn) hnc ?_
  have := le_law b hi p m hm hp hn m (Nat.le_refl _)
  rw [Nat.sub_self] at this
  exact this
theorem hex_at (g o n c : Nat) (b : List Int) (w : World) (hb : b.length = n) (hn : n ≤ 100000) (hnc : n ≤ c) (hi : InBytes b) (hl : Lies g o b w) :
    Calls Tryd.prog 55 #[.slice (some ⟨g, o, none⟩) n c] w fun e w' => e = .returned (.string (strOfNums (hexL b))) ∧ Drawn0 w w' := by
  subst hb
  exact dmverity_hex.calls (b.length + 1) _ c b _ w (C_of_lies hl (by omega)) hnc (hex_law b hi hn b.length 0 (by omega))
theorem hexS_at (g o n c : Nat) (b : List Int) (w : World) (hb : b.length = n) (hn : n ≤ 100000) (hnc : n ≤ c) (hi : InBytes b) (hl : Lies g o b w) :
    Calls Tryd.prog 34 #[.slice (some ⟨g, o, none⟩) n c] w fun e w' => e = .returned (.string (strOfNums (hexL b))) ∧ Below w.heap.size w w' := by
  subst hb
  exact spec_Hexadecimal.calls (b.length + 1) _ c b _ w (C_of_lies hl (by omega)) hnc (hexS_law b hi hn b.length 0 (by omega))
set_option maxHeartbeats 4000000 in
set_option maxRecDepth 100000 in
theorem hash54 (A B C D : Int) (s b : List Int) (g1 o1 n1 c1 g2 o2 n2 c2 gd : Nat) (w : World) (hs : s.length = n1) (hn1 : n1 ≤ 1000) (his : InBytes s) (hz : Lies g1 o1 s w) (hb : b.length = n2) (hn2 : n2 ≤ 5000) (hpos : 0 < n2) (hib : InBytes b) (hl : Lies g2 o2 b w) (hd : Dig gd A B C D w) :
    Calls Tryd.prog 54 #[.slice (some ⟨g1, o1, none⟩) n1 c1, .slice (some ⟨g2, o2, none⟩) n2 c2, .func (.func 56) #[] #[.pointer (some ⟨gd, 0, none⟩)]] w (Gives w (digTo [A, B, C, D] (s ++ b) 4)) := by
  have HZ := Lib.hid hz
  have HL := Lib.hid hl
  have HD := Lib.hid hd
  have HS := Lib.hid hs
  have HB := Lib.hid hb
  have hin : InBytes (s ++ b) := inb_app his hib
  have HIN := Lib.hid hin
  have HLN := Lib.hid (show (s ++ b).length = n1 + n2 by rw [List.length_append, hs, hb])
  clear hz hl hd hib his hin hb hs
  go_enter Tryd.func54, Tryd.ntmps54
  go_wp2_with (first | ((with_reducible refine gate_builtin (b := .append) (xs := #[.const (.slice none 0 0), .tmp 8]) rfl ?_); at_builtin; refine app_rowL (w := w) rfl _ _ rfl (.slice none 0 0) [] s g1 o1 n1 c1 rfl rfl HS.out (Row.nil w) HZ.out (by simp) (by rw [HS.out]; omega) ?_; intro v1 w1 hr; have R1 := Lib.hid hr; clear hr) | ((with_reducible refine gate_builtin (b := .append) (xs := #[.tmp 9, .tmp 10]) rfl ?_); at_builtin; refine app_rowL (w := w) rfl _ _ rfl v1 _ b g2 o2 n2 c2 rfl rfl HB.out R1.out (HL.out.later R1.out.2) (by simp [HS.out]; omega) (by rw [HB.out]; omega) ?_; intro v2 w2 hr; have R2 := Lib.hid hr; clear hr; obtain ⟨g3, c3, e3, _, hc3⟩ := row_at R2.out (by rw [List.nil_append, HLN.out]; omega); rw [List.nil_append, HLN.out] at e3; subst e3; have HC3 := Lib.hid hc3; clear hc3))
  refine (dig56 g3 (n1 + n2) c3 gd _ A B C D _ HLN.out (by omega) HC3.out HIN.out (HD.out.later R2.out.2).1 (HD.out.later R2.out.2).2.1 (HD.out.later R2.out.2).2.2.1 (HD.out.later R2.out.2).2.2.2).mono ?_
  rintro e w3 ⟨v, rfl, hr⟩
  have R3 := Lib.hid hr
  clear hr
  go_wp2
  go_ret
  exact ⟨v, rfl, Kd.R_lower R3.out.1 R2.out.2.size, below_then R2.out.2 R2.out.2.size R3.out.2⟩
end Go.Proofs.YtckjbgneblfceaaDoor.Da
