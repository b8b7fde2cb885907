/- The law of weaving two directories: the walk. -/
import Derived.Test.YtckjbgneblfceaaMl
namespace Go.Proofs.Ytckjbgneblfceaa.Ma
open Go.RowKit Go.Maps Go.Proofs.YtckjbgneblfceaaW.PrintWords Go.Proofs.YtckjbgneblfceaaW.PrintLast Go.Proofs.YtckjbgneblfceaaW.PrintMore
open Go.Proofs.Ytckjbgneblfceaa.PFnMergeDirs
set_option linter.unusedVariables false
set_option linter.unusedSimpArgs false
theorem fits_all {l : List S30} (h : fits l = true) : ∀ x ∈ l, x.f0.size ≤ 4294967296 ∧ x.f3.length ≤ 4294967296 := by
  intro x hx
  unfold fits at h
  rw [Bool.and_eq_true, List.all_eq_true] at h
  have := h.2 x hx
  unfold fit1 at this
  rw [Bool.and_eq_true, decide_eq_true_eq, decide_eq_true_eq] at this
  omega
theorem merged8 (A : Option Addr) (n c : Nat) (la : List S30) (B : Option Addr) (m d : Nat) (lb : List S30) (w : World) (hA : k30.C w A n la) (hnc : n ≤ c) (hB : k30.C w B m lb) (hmd : m ≤ d) (hn : n ≤ 60) (hm : m ≤ 60) (hla : ∀ x ∈ la, x.f0.size ≤ 4294967296) (hlb : ∀ x ∈ lb, x.f0.size ≤ 4294967296) :
    Calls Try.prog 8 #[.slice A n c, .slice B m d] w fun e w' => ∃ v, e = .returned v ∧ k35.R 35 w' w.heap.size (fun _ => True) v (merged la lb) ∧ Below w.heap.size w w' := by
  obtain rfl : la.length = n := Kd.C_len hA
  obtain rfl : lb.length = m := Kd.C_len hB
  obtain ⟨k, hk⟩ := merged_law la lb hla hlb (by omega) (by omega)
  exact spec_Merged.calls k A c la B d lb _ w hA hnc hB hmd hk
theorem same6 {A B : Option Addr} {n c d : Nat} {l : List S35} {w : World} (hA : k35.C w A n l) (hnc : n ≤ c) (hB : k35.C w B n l) (hmd : n ≤ d) (hn : n ≤ 100000) : Calls Try.prog 6 #[.slice A n c, .slice B n d] w fun e w' => e = .returned (.bool true) ∧ Below w.heap.size w w' := by
  obtain rfl : l.length = n := Kd.C_len hA
  obtain ⟨k, hk⟩ := same_law l hn
  exact (laws_sameInfos.calls k A c l B d l true w hA hnc hB hmd hk).mono fun e w' h => by first | exact h | exact ⟨h.1, h.2.below⟩
theorem woven_len {la lb es : List S30} (h : Woven es (woven la lb)) : es.length ≤ la.length + lb.length := by
  have h1 := merged_woven h
  have h2 : ∀ (l : List S30) (R : List S35), (l.foldl lay R).length ≤ R.length + l.length := by
    intro l
    induction l with
    | nil => intro R; exact Nat.le_refl _
    | cons e l ih => intro R; have := ih (lay R e); have := lay_len R e; rw [List.foldl_cons, List.length_cons]; omega
  have h3 := congrArg List.length h1
  rw [List.length_map] at h3
  have h4 := h2 la (lb.reverse.foldl lay [])
  have h5 := h2 lb.reverse []
  unfold merged at h3
  rw [List.length_reverse, List.length_nil] at h5
  omega
set_option maxHeartbeats 8000000 in
set_option maxRecDepth 100000 in
theorem law3 (A : Option Addr) (n c : Nat) (la : List S30) (B : Option Addr) (m d : Nat) (lb : List S30) (w : World) (hA : k30.C w A n la) (hnc : n ≤ c) (hB : k30.C w B m lb) (hmd : m ≤ d)
    (ra : ∀ x ∈ la, -9223372036854775808 ≤ x.f1 ∧ x.f1 < 9223372036854775808) (rb : ∀ x ∈ lb, -9223372036854775808 ≤ x.f1 ∧ x.f1 < 9223372036854775808) :
    Calls Try.prog 3 #[.slice A n c, .slice B m d] w fun e w' => e = .returned (.bool true) ∧ Below w.heap.size w w' := by
  have CA := Lib.hid hA
  have CB := Lib.hid hB
  have LA := Lib.hid (show la.length = n from Kd.C_len hA)
  have LB := Lib.hid (show lb.length = m from Kd.C_len hB)
  have RA := Lib.hid ra
  have RB := Lib.hid rb
  clear hA hB ra rb
  go_enter Try.func3, Try.ntmps3
  cases fa : fits la with
  | false =>
    go_wp2_with (first | (go_at_call 4; (with_reducible refine (fits4 A n c la _ CA.out hnc).mono ?_); rw [fa]; rintro e w1 ⟨rfl, hb⟩; have B1 := Lib.hid hb; clear hb))
    go_returns
    exact ⟨rfl, B1.out⟩
  | true =>
    have SA := Lib.hid (fits_all fa)
    cases fb : fits lb with
    | false =>
      go_wp2_with (first | (go_at_call 4; (fail_if_success (have := B1)); (with_reducible refine (fits4 A n c la _ CA.out hnc).mono ?_); rw [fa]; rintro e w1 ⟨rfl, hb⟩; have B1 := Lib.hid hb; clear hb) | (go_at_call 4; (with_reducible refine (fits4 B m d lb _ (Kd.C_below CB.out B1.out) hmd).mono ?_); rw [fb]; rintro e w2 ⟨rfl, hb⟩; have B2 := Lib.hid (below_then B1.out B1.out.size hb); clear hb))
      go_returns
      exact ⟨rfl, B2.out⟩
    | true =>
      have SB := Lib.hid (fits_all fb)
      go_wp2_with (first | (go_at_call 4; (fail_if_success (have := B1)); (with_reducible refine (fits4 A n c la _ CA.out hnc).mono ?_); rw [fa]; rintro e w1 ⟨rfl, hb⟩; have B1 := Lib.hid hb; clear hb) | (go_at_call 4; (with_reducible refine (fits4 B m d lb _ (Kd.C_below CB.out B1.out) hmd).mono ?_); rw [fb]; rintro e w2 ⟨rfl, hb⟩; have B2 := Lib.hid (below_then B1.out B1.out.size hb); clear hb) | (go_at_call 5; (with_reducible refine (listed5 A n c la _ (Kd.C_below CA.out B2.out) hnc fa RA.out).mono ?_); rintro e w3 ⟨b1, rfl, hq1, hb⟩; have Q1 := Lib.hid hq1; have B3 := Lib.hid (below_then B2.out B2.out.size hb); clear hb hq1; cases b1))
      · go_wp2
        go_returns
        exact ⟨rfl, B3.out⟩
      · obtain ⟨hn60, hma⟩ := Q1.out (by trivial)
        rw [LA.out] at hn60
        have MA := Lib.hid hma
        clear hma
        go_wp2_with (first | (go_at_call 5; (with_reducible refine (listed5 B m d lb _ (Kd.C_below CB.out B3.out) hmd fb RB.out).mono ?_); rintro e w4 ⟨b2, rfl, hq2, hb⟩; have Q2 := Lib.hid hq2; have B4 := Lib.hid (below_then B3.out B3.out.size hb); clear hb hq2; cases b2))
        · go_wp2
          go_returns
          exact ⟨rfl, B4.out⟩
        · obtain ⟨hm60, hmb⟩ := Q2.out (by trivial)
          rw [LB.out] at hm60
          have MB := Lib.hid hmb
          clear hmb
          go_wp2_with (first
            | (go_at_call 7; (with_reducible refine (dirs7 A n c la B m d lb _ (Kd.C_below CA.out B4.out) hnc (by omega) (Kd.C_below CB.out B4.out) hmd (by omega) (fun x hx => ⟨(SA.out x hx).1, MA.out x hx, (SA.out x hx).2⟩) (fun x hx => ⟨(SB.out x hx).1, MB.out x hx, (SB.out x hx).2⟩)).mono ?_); rintro e w5 ⟨v5, es, rfl, hr, hw, hb⟩; have R5 := Lib.hid hr; have W5 := Lib.hid hw; have B5 := Lib.hid (below_then B4.out B4.out.size hb); clear hr hw hb)
            | (go_at_call 8; (with_reducible refine (merged8 A n c la B m d lb _ (Kd.C_below CA.out B5.out) hnc (Kd.C_below CB.out B5.out) hmd hn60 hm60 (fun x hx => (SA.out x hx).1) (fun x hx => (SB.out x hx).1)).mono ?_); rintro e w6 ⟨v6, rfl, hr, hb⟩; rw [merged_woven W5.out] at hr; have hr5 := Kd.R_below R5.out hb; obtain ⟨A5, c5, e5, hc5, g5⟩ := Kd.R_reads hr5; obtain ⟨A6, c6, e6, hc6, g6⟩ := Kd.R_reads hr; rw [List.length_map] at e5 hc5 g5 e6 hc6 g6; subst e5 e6; have G5 := Lib.hid g5; have G6 := Lib.hid g6; have B6 := Lib.hid (below_then B5.out B5.out.size hb); clear hr hr5 hb g5 g6)
            | (go_at_call 6; (with_reducible refine (same6 G5.out hc5 G6.out hc6 (by have := woven_len W5.out; rw [LA.out, LB.out] at this; omega)).mono ?_); rintro e w7 ⟨rfl, hb⟩; have B7 := Lib.hid (below_then B6.out B6.out.size hb); clear hb))
          go_returns
          exact ⟨rfl, B7.out⟩
end Go.Proofs.Ytckjbgneblfceaa.Ma
