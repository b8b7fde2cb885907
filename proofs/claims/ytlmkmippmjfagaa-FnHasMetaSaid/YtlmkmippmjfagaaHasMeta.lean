/- Proved: for every pattern FnHasMeta answers true: it has a special character exactly if it has an asterisk, a question mark or an opening bracket (at most 200 bytes, no backslashes; else the law answers true at once). -/
import Derived.Test.YtlmkmippmjfagaaRows
import Derived.Test.YtlmkmippmjfagaaAdapter
import Derived.Test.YtlmkmippmjfagaaWMore
import Derived.Test.YtlmkmippmjfagaaProg
import Derived.BigQuiet
import Derived.Deep.QuietTactic
import Derived.Lib.ConvBytes
import Derived.WalkKit
import Derived.WalkSpells
import Derived.Lib.Hide
import Derived.Lib.OthersKept
import Derived.Handy
import Derived.WalkSmall
import Derived.WalkLawsBesides
import Derived.LoopTactic
namespace Go.Proofs.Ytlmkmippmjfagaa.Hm
open Go.RowKit
set_option linter.unusedVariables false

theorem width_pos (s : ByteArray) (pos : Nat) (h : pos < s.size) : 1 ≤ (Utf8.decode s pos).2 := by
  by_cases ha : (s[pos]'h).toNat < 128
  · rw [decode_ascii s pos h ha]; exact Nat.le_refl _
  · exact (decode_high s pos h (by omega)).2
def metaAt (s : ByteArray) (j : Nat) : Prop := s.get! j = 42 ∨ s.get! j = 63 ∨ s.get! j = 91
def metaRune (r : Nat) : Prop := r = 42 ∨ r = 63 ∨ r = 91
theorem get_ (s : ByteArray) (pos : Nat) (h : pos < s.size) : s.get! pos = s[pos]'h := by
  simp [ByteArray.get!, getElem!_pos, h]; rfl
theorem metaAt_nat (s : ByteArray) (j : Nat) : metaAt s j ↔ metaRune (s.get! j).toNat := by
  unfold metaAt metaRune
  constructor
  · rintro (h | h | h) <;> simp [h]
  · rintro (h | h | h)
    · left; exact UInt8.toNat_inj.1 h
    · right; left; exact UInt8.toNat_inj.1 h
    · right; right; exact UInt8.toNat_inj.1 h
/-- What a step over a rune passes has a special character exactly if the rune is one, and that stands first. -/
theorem step_meta (s : ByteArray) (pos : Nat) (h : pos < s.size) :
    (metaRune (Utf8.decode s pos).1 ↔ metaAt s pos) ∧ ∀ j, pos < j → j < pos + (Utf8.decode s pos).2 → ¬ metaAt s j := by
  by_cases ha : (s[pos]'h).toNat < 128
  · rw [decode_ascii s pos h ha, metaAt_nat, get_ s pos h]
    exact ⟨Iff.rfl, fun j h1 h2 => by omega⟩
  · have hh := decode_high s pos h (by omega)
    refine ⟨?_, ?_⟩
    · rw [metaAt_nat, get_ s pos h]
      unfold metaRune
      omega
    · intro j h1 h2
      rw [metaAt_nat]
      have key : (s.get! j).toNat / 64 = 2 := by
        have h0 : ¬ (s.get! (pos + 0)).toNat < 128 := by rw [Nat.add_zero, get_ s pos h]; exact ha
        simp only [Utf8.decode] at h2
        rw [if_neg h0] at h2
        split at h2
        · rename_i hc
          simp only [Bool.and_eq_true, beq_iff_eq, decide_eq_true_eq] at hc
          split at h2
          · simp at h2
            obtain rfl : j = pos + 1 := by omega
            exact hc.2.2
          · simp at h2; omega
        · split at h2
          · rename_i hc
            simp only [Bool.and_eq_true, beq_iff_eq, decide_eq_true_eq] at hc
            split at h2
            · simp at h2
              have : j = pos + 1 ∨ j = pos + 2 := by omega
              rcases this with rfl | rfl
              · exact hc.1.2.2
              · exact hc.2.2
            · simp at h2; omega
          · split at h2
            · rename_i hc
              simp only [Bool.and_eq_true, beq_iff_eq, decide_eq_true_eq] at hc
              split at h2
              · simp at h2
                have : j = pos + 1 ∨ j = pos + 2 ∨ j = pos + 3 := by omega
                rcases this with rfl | rfl | rfl
                · exact hc.1.1.2.2
                · exact hc.1.2.2
                · exact hc.2.2
              · simp at h2; omega
            · simp at h2; omega
      unfold metaRune
      omega
theorem width_le (s : ByteArray) (pos : Nat) (h : pos < s.size) : pos + (Utf8.decode s pos).2 ≤ s.size := by
  simp only [Utf8.decode]
  split
  · simp; omega
  · split
    · rename_i hc
      simp only [Bool.and_eq_true, beq_iff_eq, decide_eq_true_eq] at hc
      split <;> simp <;> omega
    · split
      · rename_i hc
        simp only [Bool.and_eq_true, beq_iff_eq, decide_eq_true_eq] at hc
        split <;> simp <;> omega
      · split
        · rename_i hc
          simp only [Bool.and_eq_true, beq_iff_eq, decide_eq_true_eq] at hc
          split <;> simp <;> omega
        · simp; omega
def abc : ByteArray := ⟨#[42, 63, 91]⟩
/-- What the index of the first special character tells. -/
def IdxPost (s : ByteArray) (w : World) (e : Ending) (w' : World) : Prop :=
  ∃ r : Int, e = .returned (.int .i64 r) ∧ -1 ≤ r ∧ r ≤ 9223372036854775807 ∧ (0 ≤ r ↔ ∃ j, j < s.size ∧ metaAt s j) ∧ Below w.heap.size w w'
set_option maxHeartbeats 2000000 in
theorem idx (s : ByteArray) (w : World) (hs : s.size ≤ 9223372036854775807) :
    Calls Try.prog 25 #[.string s, .string { data := #[42, 63, 91] }] w (IdxPost s w) := by
  go_enter Try.func25, Try.ntmps25
  go_wp2
  go_loopw [] (fun wr => ∃ pos : Nat, pos ≤ s.size ∧ wr.heap[w.heap.size]? = some (.stringIter s pos) ∧ Below w.heap.size w wr ∧ Hid (∀ j, j < pos → ¬ metaAt s j)) (fun wr => s.size - wr.iterPos w.heap.size)
  case atStart => exact ⟨0, Nat.zero_le _, World.iter_heap w s 0, (Below.refl _ _).alloc (Nat.le_refl _) _, Lib.hid (fun j hj => by omega)⟩
  case round =>
    obtain ⟨pos, hpos, hit, hbw, HN⟩ := hrel
    have hpos0 := iterPos_of hit
    by_cases hp : pos < s.size
    · have hnx : ∀ ty, (Instr.next (.pointer (some ⟨w.heap.size, 0, none⟩)) true ty).run Try.prog wr = _ := fun ty => Lib.run_next_any_at wr w.heap.size s pos ty hit hp
      have hwd := width_pos s pos hp
      have hwl := width_le s pos hp
      obtain ⟨hm1, hm2⟩ := step_meta s pos hp
      have hit2 := Lib.iterAt_heap wr w.heap.size s pos (pos + (Utf8.decode s pos).2) hit
      have hbw2 := Lib.below_iterAt hbw (k := w.heap.size) (Nat.le_refl _) s (pos + (Utf8.decode s pos).2)
      have hdl := decode_le s pos
      obtain ⟨W1, hW1⟩ : ∃ W1, W1 = wr.iterAt w.heap.size s (pos + (Utf8.decode s pos).2) := ⟨_, rfl⟩
      rw [← hW1] at hnx hit2 hbw2
      obtain ⟨c, hc⟩ : ∃ c, c = (Utf8.decode s pos).1 := ⟨_, rfl⟩
      rw [← hc] at hnx hm1 hdl
      obtain ⟨pos', hpos'⟩ : ∃ p, p = pos + (Utf8.decode s pos).2 := ⟨_, rfl⟩
      rw [← hpos'] at hit2 hm2 hwl
      have hlt2 : pos < pos' := by omega
      have HI := Lib.hid (show ∀ p, Below w.heap.size w (W1.iter { data := #[42, 63, 91] } p) from fun p => hbw2.alloc hbw2.size _)
      have hlt3 := (Array.getElem?_eq_some_iff.1 hit2).1
      have HT := Lib.hid (show ∀ p, (W1.iter { data := #[42, 63, 91] } p).heap[w.heap.size]? = some (.stringIter s pos') from fun p => (Below.heap_alloc _ _ _ hlt3).trans hit2)
      have HM1 := Lib.hid hm1
      have HM2 := Lib.hid hm2
      clear hW1 hit hbw hm1 hm2 hpos' hc
      have n0 : ∀ ty, (Instr.next (.pointer (some ⟨W1.heap.size, 0, none⟩)) true ty).run Try.prog (W1.iter { data := #[42, 63, 91] } 0) = .ok (.tuple #[.bool true, .int .i64 0, .int .i32 42]) (W1.iter { data := #[42, 63, 91] } 1) := fun ty => run_next_ascii (P := Try.prog) W1 { data := #[42, 63, 91] } 0 ty (by decide) (by decide)
      have n1 : ∀ ty, (Instr.next (.pointer (some ⟨W1.heap.size, 0, none⟩)) true ty).run Try.prog (W1.iter { data := #[42, 63, 91] } 1) = .ok (.tuple #[.bool true, .int .i64 1, .int .i32 63]) (W1.iter { data := #[42, 63, 91] } 2) := fun ty => run_next_ascii (P := Try.prog) W1 { data := #[42, 63, 91] } 1 ty (by decide) (by decide)
      have n2 : ∀ ty, (Instr.next (.pointer (some ⟨W1.heap.size, 0, none⟩)) true ty).run Try.prog (W1.iter { data := #[42, 63, 91] } 2) = .ok (.tuple #[.bool true, .int .i64 2, .int .i32 91]) (W1.iter { data := #[42, 63, 91] } 3) := fun ty => run_next_ascii (P := Try.prog) W1 { data := #[42, 63, 91] } 2 ty (by decide) (by decide)
      have n3 := fun ty => run_next_end (P := Try.prog) W1 { data := #[42, 63, 91] } 3 ty (by decide)
      by_cases h1 : c = 42
      · subst h1
        go_wp2
        go_rounds 1
        go_ret
        exact ⟨(pos : Int), rfl, by omega, by omega, ⟨fun _ => ⟨pos, hp, HM1.out.1 (.inl rfl)⟩, fun _ => by omega⟩, HI.out _⟩
      · have b1 : ((c : Int) == 42) = false := beq_eq_false_iff_ne.mpr (by omega)
        by_cases h2 : c = 63
        · subst h2
          go_wp2
          go_rounds 2
          go_ret
          exact ⟨(pos : Int), rfl, by omega, by omega, ⟨fun _ => ⟨pos, hp, HM1.out.1 (.inr (.inl rfl))⟩, fun _ => by omega⟩, HI.out _⟩
        · have b2 : ((c : Int) == 63) = false := beq_eq_false_iff_ne.mpr (by omega)
          by_cases h3 : c = 91
          · subst h3
            go_wp2
            go_rounds 3
            go_ret
            exact ⟨(pos : Int), rfl, by omega, by omega, ⟨fun _ => ⟨pos, hp, HM1.out.1 (.inr (.inr rfl))⟩, fun _ => by omega⟩, HI.out _⟩
          · have b3 : ((c : Int) == 91) = false := beq_eq_false_iff_ne.mpr (by omega)
            have HN' := Lib.hid (show ∀ j, j < pos' → ¬ metaAt s j from fun j hj => by
              by_cases hj1 : j < pos
              · exact HN.out j hj1
              · by_cases hj2 : j = pos
                · subst hj2
                  exact fun hm => by
                    have := HM1.out.2 hm
                    unfold metaRune at this
                    omega
                · exact HM2.out j (by omega) hj)
            go_wp2
            go_rounds 4
            go_roundw
            case rel => exact ⟨pos', hwl, HT.out _, HI.out _, HN'⟩
            case measure => rw [iterPos_of (HT.out _), hpos0]; omega
    · have hnx := fun ty => Lib.run_next_end_at (P := Try.prog) wr w.heap.size s pos ty hit hp
      go_wp2
      go_ret
      exact ⟨-1, rfl, by omega, by omega, ⟨fun h => by omega, fun ⟨j, hj, hm⟩ => absurd hm (HN.out j (by omega))⟩, hbw⟩
def HasMeta (s : ByteArray) : Prop := ∃ j, j < s.size ∧ metaAt s j
def BoolPost (p : Prop) (w : World) (e : Ending) (w' : World) : Prop := ∃ b : Bool, e = .returned (.bool b) ∧ (b = true ↔ p) ∧ Below w.heap.size w w'
set_option maxHeartbeats 1000000 in
theorem any_ (s : ByteArray) (w : World) (hs : s.size ≤ 9223372036854775807) :
    Calls Try.prog 24 #[.string s, .string { data := #[42, 63, 91] }] w (BoolPost (HasMeta s) w) := by
  go_enter Try.func24, Try.ntmps24
  go_wp2_with fail
  refine (idx s _ hs).mono ?_
  rintro e w' ⟨r, rfl, h1, h2, h3, hb⟩
  have H3 := Lib.hid h3
  clear h3
  go_wp2
  go_ret
  exact ⟨decide (0 ≤ r), rfl, by rw [decide_eq_true_iff]; exact H3.out, hb⟩
set_option maxHeartbeats 1000000 in
theorem has_ (s : ByteArray) (w : World) (hs : s.size ≤ 9223372036854775807) :
    Calls Try.prog 22 #[.string s] w (BoolPost (HasMeta s) w) := by
  go_enter Try.func22, Try.ntmps22
  go_wp2_with fail
  refine (any_ s _ hs).mono ?_
  rintro e w' ⟨b, rfl, h3, hb⟩
  have H3 := Lib.hid h3
  clear h3
  go_wp2
  go_ret
  exact ⟨b, rfl, H3.out, hb⟩
set_option maxHeartbeats 1000000 in
theorem door_ (s : ByteArray) (w : World) (hs : s.size ≤ 9223372036854775807) :
    Calls Try.prog 18 #[.string s] w (BoolPost (HasMeta s) w) := by
  go_enter Try.func18, Try.ntmps18
  go_wp2_with fail
  refine (has_ s _ hs).mono ?_
  rintro e w' ⟨b, rfl, h3, hb⟩
  have H3 := Lib.hid h3
  clear h3
  go_wp2
  go_ret
  exact ⟨b, rfl, H3.out, hb⟩
set_option maxHeartbeats 1000000 in
theorem impl_ (s : ByteArray) (w : World) (hs : s.size ≤ 9223372036854775807) :
    Calls Try.prog 11 #[.string s] w (BoolPost (HasMeta s) w) := by
  go_enter Try.func11, Try.ntmps11
  go_wp2_with fail
  refine (door_ s _ hs).mono ?_
  rintro e w' ⟨b, rfl, h3, hb⟩
  have H3 := Lib.hid h3
  clear h3
  go_wp2
  go_ret
  exact ⟨b, rfl, H3.out, hb⟩
set_option maxHeartbeats 1000000 in
theorem spec_ (s : ByteArray) (w : World) (hs : s.size ≤ 9223372036854775807) :
    Calls Try.prog 12 #[.string s] w (BoolPost (HasMeta s) w) := by
  go_enter Try.func12, Try.ntmps12
  go_wp2
  go_loop [3] (fun i => ∃ k : Nat, k ≤ s.size ∧ i = .int .i64 k ∧ Hid (∀ j, j < k → ¬ metaAt s j)) (fun i => s.size - (intOf i).toNat)
  case atStart => exact ⟨0, Nat.zero_le _, rfl, Lib.hid (fun j hj => by omega)⟩
  case round =>
    obtain ⟨k, hk, rfl, HN⟩ := hrel
    by_cases hlt : k < s.size
    · have hm := metaAt_nat s k
      rw [get_ s k hlt] at hm
      have hb := s[k].toNat_lt
      obtain ⟨c, hc⟩ : ∃ c, c = s[k].toNat := ⟨_, rfl⟩
      by_cases hh : metaRune s[k].toNat
      · have HP := Lib.hid (show HasMeta s from ⟨k, hlt, hm.2 hh⟩)
        clear hm
        unfold metaRune at hh
        have h5 : ((s[k].toNat : Int) == 42) = true ∨ ((s[k].toNat : Int) == 42) = false ∧ ((s[k].toNat : Int) == 63) = true ∨ ((s[k].toNat : Int) == 42) = false ∧ ((s[k].toNat : Int) == 63) = false ∧ ((s[k].toNat : Int) == 91) = true := by
          rcases hh with h | h | h <;> rw [h] <;> decide
        clear hh hc
        rcases h5 with h5 | ⟨h5, h6⟩ | ⟨h5, h6, h7⟩
        all_goals
          go_wp2
          go_ret
          exact ⟨true, rfl, ⟨fun _ => HP.out, fun _ => rfl⟩, Below.refl _ _⟩
      · have HN' := Lib.hid (show ∀ j, j < k + 1 → ¬ metaAt s j from fun j hj => by
          by_cases hj2 : j = k
          · subst hj2; exact fun h => hh (hm.1 h)
          · exact HN.out j (by omega))
        unfold metaRune at hh
        have h5 : ((s[k].toNat : Int) == 42) = false := beq_eq_false_iff_ne.mpr (by omega)
        have h6 : ((s[k].toNat : Int) == 63) = false := beq_eq_false_iff_ne.mpr (by omega)
        have h7 : ((s[k].toNat : Int) == 91) = false := beq_eq_false_iff_ne.mpr (by omega)
        clear hm hh hc
        go_wp2
        go_round
        case rel => exact ⟨k + 1, by omega, by go_num, HN'⟩
        case measure => simp [intOf]; omega
    · go_wp2
      go_ret
      exact ⟨false, rfl, ⟨fun h => (by cases h), fun ⟨j, hj, hm⟩ => absurd hm (HN.out j (by omega))⟩, Below.refl _ _⟩


open Go.Proofs.YtlmkmippmjfagaaW.PrintWords
def AnyBool (w : World) (e : Ending) (w' : World) : Prop := ∃ b : Bool, e = .returned (.bool b) ∧ Below w.heap.size w w'
theorem C_one (w : World) (a : Addr) (x : Int) (hc : w.cell? (a.add 0) = some (.int .u8 x)) : Kd.C (Kd.int .u8) w (some a) 1 [x] :=
  Kd.C_of_reads (d := (0 : Int)) ⟨rfl, by omega, fun _ => ⟨a, rfl, fun j hj => by obtain rfl : j = 0 := by omega
                                                                                  exact hc⟩⟩
set_option maxHeartbeats 1000000 in
theorem holds_ (b b1 c0 n : Nat) (f : Nat → Int) (hn2 : n ≤ 9223372036854775806) (w : World) (hcell : ∀ j, j < n → w.cell? ⟨b, j, none⟩ = some (.int .u8 (f j))) (hc0 : n ≤ c0) (hc1 : w.cell? ⟨b1, 0, none⟩ = some (.int .u8 92)) :
    Calls Try.prog 17 #[.slice (some ⟨b, 0, none⟩) n c0, .slice (some ⟨b1, 0, none⟩) 1 1] w (AnyBool w) := by
  have HC := Lib.hid hcell
  clear hcell
  have hcv0 := fun q => Kd.C_string (P := Try.prog) (w := w.drewN q) (A := some ⟨b1, 0, none⟩) (c := 1) Try.underlying43 Try.underlying5 Try.underlying9 (C_one _ ⟨b1, 0, none⟩ 92 hc1)
  go_enter Try.func17, Try.ntmps17
  go_wp2
  go_loopw [5] (fun i wr => ∃ k : Nat, k ≤ n ∧ i = .int .i64 k ∧ Drawn0 w wr) (fun i _ => n - (intOf i).toNat)
  case atStart => exact ⟨0, Nat.zero_le _, rfl, Drawn0.refl _⟩
  case round =>
    obtain ⟨k, hk, rfl, ⟨m, rfl⟩⟩ := hrel
    by_cases hlt : k < n
    · have hck := HC.out k hlt
      have hcv1 := fun q => Kd.C_string (P := Try.prog) (w := w.drewN q) (A := some ⟨b, k, none⟩) (c := c0 - k) Try.underlying43 Try.underlying5 Try.underlying9 (C_one _ ⟨b, k, none⟩ (f k) hck)
      by_cases h7 : (strOfNums [f k]).toList = (strOfNums [92]).toList
      · have h7b : ((strOfNums [f k]).toList == (strOfNums [92]).toList) = true := beq_iff_eq.mpr h7
        clear h7
        go_wp2
        go_quiet (fail)
        go_wp2
        go_ret
        exact ⟨true, rfl, by first | exact (Drawn0.mk ⟨_, rfl⟩).below | exact (Drawn0.step ⟨⟨m, rfl⟩⟩ _).below⟩
      · have h7b : ((strOfNums [f k]).toList == (strOfNums [92]).toList) = false := beq_eq_false_iff_ne.mpr h7
        clear h7
        go_wp2
        go_quiet (fail)
        go_wp2
        go_roundw
        case rel => exact ⟨k + 1, by omega, by go_num, ⟨⟨_, rfl⟩⟩⟩
        case measure => simp [intOf]; omega
    · go_wp2
      go_ret
      exact ⟨false, rfl, Drawn0.below ⟨⟨m, rfl⟩⟩⟩
set_option maxHeartbeats 1000000 in
theorem slash_ (s : ByteArray) (w : World) (hs : s.size ≤ 9223372036854775806) :
    Calls Try.prog 10 #[.string s] w (AnyBool w) := by
  have kc := fun w => Lib.run_convert_string_bytes (P := Try.prog) w 9 43 5 s Try.underlying9 Try.underlying43 Try.underlying5
  go_enter Try.func10, Try.ntmps10
  go_wp2_with fail
  have hb : Below w.heap.size w ((Lib.bytesWorld w 5 s).alloc (Obj.cells #[Value.int IntKind.u8 92] 5)) :=
    (bytes_below (Below.refl _ w) (Nat.le_refl _) 5 s).alloc (by rw [Lib.bytesWorld_size]; omega) _
  refine (holds_ _ _ _ _ (fun j => (s.data.toList.getD j 0).toNat) hs _ ?_ (grownCap_ge _ _ _ _) ?_).mono ?_
  · intro j hj
    rw [← Lib.bytesWorld_cell w 5 s j hj]
    exact Below.cell ((Below.refl _ _).alloc (Nat.le_refl _) _) (p := ⟨w.heap.size, j, none⟩) (by show w.heap.size < _; rw [Lib.bytesWorld_size]; omega)
  · simp [go_sem]
  · rintro e w' ⟨b, rfl, hb2⟩
    go_wp2
    go_ret
    exact ⟨b, rfl, below_then hb hb.size hb2⟩
set_option maxHeartbeats 1000000 in
theorem law_ (s : ByteArray) (w : World) (hs : s.size ≤ 9223372036854775807) :
    Calls Try.prog 5 #[.string s] w fun e w' => e = .returned (.bool true) ∧ Below w.heap.size w w' := by
  by_cases h : s.size ≤ 200
  · go_enter Try.func5, Try.ntmps5
    go_wp2_with fail
    refine (slash_ s w (by omega)).mono ?_
    rintro e w1 ⟨b, rfl, hb⟩
    cases b with
    | true =>
      go_wp2
      go_ret
      exact ⟨rfl, hb⟩
    | false =>
      go_wp2_with fail
      refine (impl_ s _ (by omega)).mono ?_
      rintro e w2 ⟨b1, rfl, h1, hb1⟩
      have H1 := Lib.hid h1
      clear h1
      go_wp2_with fail
      refine (spec_ s _ (by omega)).mono ?_
      rintro e w3 ⟨b2, rfl, h2, hb2⟩
      obtain rfl : b2 = b1 := by
        have := H1.out
        cases b1 <;> cases b2 <;> simp_all
      have H2 := Lib.hid h2
      clear h2
      go_wp2
      go_ret
      exact ⟨by simp, below_then (below_then hb hb.size hb1) (Nat.le_trans hb.size hb1.size) hb2⟩
  · by_cases h2 : s.size ≤ 2147483647
    all_goals
      go_enter Try.func5, Try.ntmps5
      go_wp2_with fail
      go_ret
      exact ⟨rfl, Below.refl _ _⟩
open Go.ChangeMaps (open_string shut_string)

open Go.ChangeShapes Go.WideShapes Go.ChangeAt
theorem own : ownKnob Try.prog.godebug = none := by kernel_rfl
theorem laidOut : laidOutB Try.prog = true := by kernel_rfl
theorem readable5 : ∀ t ∈ Try.f5.params.toList, Try.prog.readableRec t = true ∧ t < Try.prog.types.size := by
  have h : (Try.f5.params.toList.all fun t => Try.prog.readableRec t && decide (t < Try.prog.types.size)) = true := by kernel_rfl
  intro t ht
  have := List.all_eq_true.1 h t ht
  simpa using this
set_option maxRecDepth 100000 in
theorem lifted (os : Os) (started : os.Started) (H : Type) (enc : TypeId × Value → H) :
    ReturnsInHanded {} Try.checked os 5 .any (Rows.fnHasMetaSpec.pre6 enc Try.prog Try.f5 Rows.fnHasMetaRow.domain false) (Rows.fnHasMetaSpec.post enc Try.prog Try.f5 false true false false) := by
  refine Adapter.law_lifted (C := Try.checked) own started (by kernel_rfl) Try.func5
    (ChangeSpec.witness6 (enc := enc) (C := Try.checked) false ⟨#[], #[.string ⟨#[]⟩], []⟩ 8 (by kernel_rfl) (by kernel_rfl) (by kernel_rfl) (by kernel_rfl))
    laidOut readable5 (tb := 4) (by kernel_rfl) (by kernel_rfl) rfl ?_ ?_
  · intro ds hds
    rw [show Try.f5.params.size = 1 from by kernel_rfl] at hds
    match ds, hds with
    | [d1], _ => rfl
  · intro W base args ds p hval hA _ _
    rw [Try.params5] at hA hval
    obtain ⟨v0, vs0, d0, ds0, p0, q0, hargs, rfl, rfl, h0, r0⟩ := trodAll_cons hA
    obtain ⟨rfl, rfl, rfl⟩ := trodAll_nil r0
    obtain rfl : args = #[v0] := by cases args; simp_all
    obtain ⟨s, rfl, rfl, rfl, ws⟩ := open_string Try.underlying9 (hval 0 9 v0 rfl rfl) h0
    unfold maxLen at ws
    exact law_ s W (by omega)
theorem over : Rows.fnHasMetaRow.holds Try.pinned (OpenSpec.ofChange Rows.fnHasMetaSpec) :=
  OpenClaim.holds_of_wide 5 Try.f5 rfl rfl rfl rfl rfl rfl rfl ⟨rfl, rfl, rfl, rfl, rfl⟩ rfl rfl rfl rfl rfl (by kernel_rfl) Try.func5 (by kernel_rfl)
    (of_decide_eq_true (by kernel_rfl)) (by unfold Func.isWrapper; first | (rw [if_pos (by decide +kernel)]; kernel_rfl) | (rw [if_neg (by decide +kernel)]; exact ⟨rfl, rfl⟩))
    (fun os started H enc _ => lifted os started H enc)
theorem holds : Rows.FnHasMetaSaid := over
#print axioms holds
end Go.Proofs.Ytlmkmippmjfagaa.Hm
