/- The caller's weaving of two directories. -/
import Derived.Test.YtckjbgneblfceaaMd
namespace Go.Proofs.Ytckjbgneblfceaa.Ma
open Go.RowKit Go.Maps Go.Proofs.YtckjbgneblfceaaW.PrintWords Go.Proofs.YtckjbgneblfceaaW.PrintLast Go.Proofs.YtckjbgneblfceaaW.PrintMore
open Go.Proofs.Ytckjbgneblfceaa.PFnMergeDirs
set_option linter.unusedVariables false
set_option linter.unusedSimpArgs false
def woven (la lb : List S30) : List UInt8 → Option S30 := und (ovr (fun _ => none) la) lb
theorem ovr_mem : ∀ (l : List S30) (f : List UInt8 → Option S30) (s : List UInt8) (x : S30), ovr f l s = some x → x ∈ l ∨ f s = some x
  | [], f, s, x, h => .inr h
  | y :: l, f, s, x, h => by
    rcases ovr_mem l (updE f (kof y) y) s x h with h | h
    · exact .inl (List.mem_cons_of_mem _ h)
    · unfold updE at h
      by_cases e : s = kof y
      · rw [if_pos e] at h; obtain rfl := Option.some.inj h; exact .inl (List.mem_cons_self ..)
      · rw [if_neg e] at h; exact .inr h
theorem und_mem : ∀ (l : List S30) (f : List UInt8 → Option S30) (s : List UInt8) (x : S30), und f l s = some x → x ∈ l ∨ f s = some x
  | [], f, s, x, h => .inr h
  | y :: l, f, s, x, h => by
    rcases und_mem l (if (f (kof y)).isSome then f else updE f (kof y) y) s x h with h | h
    · exact .inl (List.mem_cons_of_mem _ h)
    · by_cases hy : (f (kof y)).isSome = true
      · rw [if_pos hy] at h; exact .inr h
      · rw [if_neg hy] at h
        unfold updE at h
        by_cases e : s = kof y
        · rw [if_pos e] at h; obtain rfl := Option.some.inj h; exact .inl (List.mem_cons_self ..)
        · rw [if_neg e] at h; exact .inr h
theorem woven_mem {la lb es : List S30} (h : Woven es (woven la lb)) : ∀ x ∈ es, x ∈ la ∨ x ∈ lb := by
  intro x hx
  have h1 := (h.2 (kof x) x).2 ⟨hx, rfl⟩
  rcases und_mem _ _ _ _ h1 with h2 | h2
  · exact .inr h2
  · rcases ovr_mem _ _ _ _ h2 with h3 | h3
    · exact .inl h3
    · cases h3
theorem door12 (A : Option Addr) (n c : Nat) (qs : List Nat) (la : List S30) (B : Option Addr) (m d : Nat) (rs : List Nat) (lb : List S30) (w : World) (hA : kp.C w A n qs) (hnc : n ≤ c) (hn : n ≤ 1000) (hB : kp.C w B m rs) (hmd : m ≤ d) (hm : m ≤ 1000) (hFa : Fis qs la w) (hFb : Fis rs lb w) (hla : ∀ x ∈ la, x.f0.size ≤ 4294967296) (hlb : ∀ x ∈ lb, x.f0.size ≤ 4294967296) :
    Calls Try.prog 12 #[.slice A n c, .slice B m d] w fun e w' => ∃ v ps es, e = .returned (.tuple #[v, .nilIface]) ∧ PRow v ps w' ∧ Fis ps es w' ∧ Woven es (woven la lb) ∧ Below w.heap.size w w' := by
  have H := Lib.hid (merge17 A n c qs la B m d rs lb w hA hnc hn hB hmd hm hFa hFb hla hlb)
  clear hA hB hFa hFb hla hlb
  go_enter Try.func12, Try.ntmps12
  go_wp2_with (first | (go_at_call 17; (with_reducible refine (H.out).mono ?_); rintro e w2 ⟨v, ps, es, rfl, h1, h2, h3, h4⟩; have H1 := Lib.hid h1; have H2 := Lib.hid h2; have H3 := Lib.hid h3; have H4 := Lib.hid h4; clear h1 h2 h3 h4))
  go_returns
  exact ⟨v, ps, es, rfl, H1.out, H2.out, H3.out, H4.out⟩
set_option maxHeartbeats 4000000 in
theorem dirs7 (A : Option Addr) (n c : Nat) (la : List S30) (B : Option Addr) (m d : Nat) (lb : List S30) (w : World) (hA : k30.C w A n la) (hnc : n ≤ c) (hn : n ≤ 1000) (hB : k30.C w B m lb) (hmd : m ≤ d) (hm : m ≤ 1000) (hla : ∀ x ∈ la, x.f0.size ≤ 4294967296 ∧ (0 ≤ x.f1 ∧ x.f1 < 4294967296) ∧ x.f3.length ≤ 4294967296) (hlb : ∀ x ∈ lb, x.f0.size ≤ 4294967296 ∧ (0 ≤ x.f1 ∧ x.f1 < 4294967296) ∧ x.f3.length ≤ 4294967296) :
    Calls Try.prog 7 #[.slice A n c, .slice B m d] w fun e w' => ∃ v es, e = .returned v ∧ k35.R 35 w' w.heap.size (fun _ => True) v (es.map tell) ∧ Woven es (woven la lb) ∧ Below w.heap.size w w' := by
  have CA := Lib.hid hA
  have CB := Lib.hid hB
  have NA := Lib.hid hla
  have NB := Lib.hid hlb
  have LA := Lib.hid (show la.length = n from Kd.C_len hA)
  have LB := Lib.hid (show lb.length = m from Kd.C_len hB)
  clear hA hB hla hlb
  go_enter Try.func7, Try.ntmps7
  go_wp2_with (first
    | (go_at_call 13; (fail_if_success (have := R1)); (with_reducible refine (infos13 A n c la _ CA.out hnc hn (fun x hx => (NA.out x hx).2.1) (fun x hx => (NA.out x hx).2.2)).mono ?_); rintro e w1 ⟨v1, qs, rfl, hr, hf, hb⟩; have R1 := Lib.hid hr; have F1 := Lib.hid hf; have B1 := Lib.hid hb; clear hr hf hb)
    | (go_at_call 13; (with_reducible refine (infos13 B m d lb _ (Kd.C_below CB.out B1.out) hmd hm (fun x hx => (NB.out x hx).2.1) (fun x hx => (NB.out x hx).2.2)).mono ?_); rintro e w2 ⟨v2, rs, rfl, hr, hf, hb⟩; have R2 := Lib.hid hr; have F2 := Lib.hid hf; have B2 := Lib.hid hb; have R1' := Lib.hid (Kd.R_below R1.out hb); have F1' := Lib.hid (F1.out.later hb); clear hr hf hb; obtain ⟨A1, c1, e1, hc1, g1⟩ := Kd.R_reads R1'.out; obtain ⟨A2, c2, e2, hc2, g2⟩ := Kd.R_reads R2.out; have l1 := F1'.out.len; have l2 := F2.out.len; rw [l1, LA.out] at e1 hc1 g1; rw [l2, LB.out] at e2 hc2 g2; subst e1 e2; have G1 := Lib.hid g1; have G2 := Lib.hid g2; clear g1 g2 l1 l2)
    | (go_at_call 12; (with_reducible refine (door12 A1 n c1 qs la A2 m c2 rs lb _ G1.out hc1 hn G2.out hc2 hm F1'.out F2.out (fun x hx => (NA.out x hx).1) (fun x hx => (NB.out x hx).1)).mono ?_); rintro e w3 ⟨v3, ps, es, rfl, h1, h2, h3, h4⟩; have F3 := Lib.hid h2; have W3 := Lib.hid h3; have B3 := Lib.hid h4; obtain ⟨A3, k3, c3, rfl, hkc, hk2, hpl, hat⟩ := h1; have P3 := Lib.hid hat; clear h2 h3 h4 hat)
    | (go_at_call 14; (with_reducible refine (from14 A3 k3 c3 ps es _ P3.out hpl hkc hk2 F3.out (fun x hx => (woven_mem W3.out x hx).elim (fun h => (NA.out x h).2.1) (fun h => (NB.out x h).2.1)) (fun x hx => (woven_mem W3.out x hx).elim (fun h => (NA.out x h).1) (fun h => (NB.out x h).1))).mono ?_); rintro e w4 ⟨v4, rfl, hr, hb⟩; have R4 := Lib.hid hr; have B4 := Lib.hid hb; clear hr hb))
  go_returns
  have b3 := below_then (below_then B1.out B1.out.size B2.out) (by have := B1.out.size; have := B2.out.size; omega) B3.out
  exact ⟨v4, es, rfl, Kd.R_lower R4.out b3.size, W3.out, below_then b3 b3.size B4.out⟩
end Go.Proofs.Ytckjbgneblfceaa.Ma
