/- Proved: for every file and all steps FnClosedHandle answers true: behind closing it a handle refuses reading, writing, seeking and cutting, and nothing changes the file any more. -/
import Derived.Test.YtljcdjggjphedaaDoorRows
import Derived.Test.YtljcdjggjphedaaDoorAdapter
import Derived.Test.YtljcdjggjphedaaDoorCards
import Derived.Test.YtljcdjggjphedaaDoorTie
import Derived.SevenTiedAt
import Derived.ChangeSame
import Derived.ChangeArms
import Derived.OpenShut
import Derived.ChangeSlices
import Derived.Lib.SmallJoins
import Derived.Test.YtljcdjggjphedaaDoorHm
import Derived.Test.YtljcdjggjphedaaDoorGa
import Derived.IntWalk
import Derived.Test.YtljcdjggjphedaaDoorOg
import Derived.Lib.QuoteBits
namespace Go.Proofs.YtljcdjggjphedaaDoor.Cl
open Go.RowKit Go.Proofs.YtljcdjggjphedaaDoorW.PrintWords Go.Proofs.YtljcdjggjphedaaDoorW.PrintLast Go.Proofs.YtljcdjggjphedaaDoorW.PrintMore
open Go.Proofs.YtljcdjggjphedaaDoor.PFnHandleScript Go.Proofs.YtljcdjggjphedaaDoor.Hd
set_option linter.unusedVariables false
set_option linter.unusedSimpArgs false
def nd : Nod := ⟨⟨#[47, 102]⟩, .map none, false, 268435456, 0⟩
def clo : S26 := ⟨18, ⟨#[]⟩, ⟨#[]⟩, 0, 0, 0, [], 0, 0, 0⟩
/-- Where the closed handle stands (nobody asks). -/
def posn (ss : List S26) : Nat → Int
  | 0 => 0
  | i + 1 => if (rd_T26 ss i).f0 = 15 then (rd_T26 ss i).f7 else posn ss i
def hn (ro : Bool) (ss : List S26) : Nat → Hnd
  | 0 => ⟨0, 0, false, ro⟩
  | i + 1 => ⟨posn ss i, 0, true, ro⟩
def yn : Nat → S33
  | 0 => ans 0 0 0 []
  | _ + 1 => ans 3 0 0 []
def okS (s : S26) : Prop := 12 ≤ s.f0 ∧ s.f0 ≤ 17 ∧ 0 ≤ s.f9 ∧ s.f9 ≤ 4096 ∧ 0 ≤ s.f7 ∧ (s.f6.length : Int) ≤ 4096
theorem closed_does {A : Nat → Addr} {data : List Int} (p : Int) (ro : Bool) (s : S26) (h : okS s) (hl : data.length ≤ 4096) : Does A ⟨p, 0, true, ro⟩ nd data s (ans 3 0 0 []) ⟨if s.f0 = 15 then s.f7 else p, 0, true, ro⟩ nd data := by
  obtain ⟨h1, h2, h3, h4, h5, h6⟩ := h
  obtain ⟨m, hm⟩ := Int.eq_ofNat_of_zero_le h3
  by_cases e2 : s.f0 = 12
  · have := does_read (A := A) (h := ⟨p, 0, true, ro⟩) (n := nd) (data := data) (s := s) m e2 hm (by omega) (by omega) (by intro hc; cases hc)
    dsimp only at this
    rw [show rdD true data p m = [] from rfl, show rdE true data.length p m = 3 from rfl] at this
    rw [if_neg (by omega)]
    simpa using this
  by_cases e3 : s.f0 = 13
  · have := does_readat (A := A) (h := ⟨p, 0, true, ro⟩) (n := nd) (data := data) (s := s) m e3 hm (by omega) (by omega) (by intro hc; cases hc)
    rw [if_neg (by omega)]
    exact this
  by_cases e4 : s.f0 = 14
  · rw [if_neg (by omega)]
    exact does_writec e4 rfl (by omega)
  by_cases e5 : s.f0 = 15
  · rw [if_pos e5]
    exact does_writeatc e5 rfl (by omega)
  by_cases e6 : s.f0 = 16
  · rw [if_neg (by omega)]
    exact does_seekc e6 rfl
  · rw [if_neg (by omega)]
    exact does_truncc (by omega) rfl
theorem script (w : World) (A : Nat → Addr) (hS : Sent A w) (data : List Int) (Ad : Option Addr) (md cd : Nat) (ro : Bool) (hD : Kd.C (Kd.int .u8) w Ad md data) (hm : md ≤ 4096) (ss : List S26) (hok : ∀ i : Nat, i < ss.length → okS (rd_T26 ss i)) (hss : ss.length ≤ 40) :
    ∀ (W : World) (As : Option Addr) (cs : Nat), Below w.heap.size w W → k26.C W As (ss.length + 1) (clo :: ss) →
    Calls Tryd.prog 13 #[.slice Ad md cd, .bool ro, .slice As (ss.length + 1) cs] W fun e w' => ∃ A1 c1 A2 c2, e = .returned (.tuple #[.slice A1 (ss.length + 1) c1, .slice A2 md c2]) ∧ k33.C w' A1 (ss.length + 1) ((List.range (ss.length + 1)).map yn) ∧ ss.length + 1 ≤ c1 ∧ (Kd.int .u8).C w' A2 md data ∧ md ≤ c2 ∧ Below W.heap.size W w' := by
  intro W As cs hbw hg
  have hdl := hD.1
  subst hdl
  refine (handle13 W A (SentB.of (hS.later hbw)) data Ad data.length cd (Kd.C_below hD hbw) (by omega) ro _ _ (ss.length + 1) cs hg (by omega)
      (fun i => (hn ro ss i, nd, data)) yn rfl
      (fun i hi => by
        match i, hi with
        | 0, _ =>
          have := does_close (A := A) (h := hn ro ss 0) (n := nd) (data := data) (s := rd_T26 (clo :: ss) 0) rfl
          have e : ({ nd with tm := if ro = true then nd.tm else 0 } : Nod) = nd := by cases ro <;> rfl
          rw [show (hn ro ss 0).ro = ro from rfl, e] at this
          exact this
        | i + 1, hi =>
          have e : rd_T26 (clo :: ss) ((i + 1 : Nat) : Int) = rd_T26 ss i := by unfold rd_T26; simp
          rw [e]
          exact closed_does (posn ss i) ro _ (hok i (by omega)) hm)
      (by show data.length ≤ _; omega)).mono ?_
  rintro e w' ⟨A1, c1, A2, c2, he, hk, hc1, h2, hl, hb⟩
  exact ⟨A1, c1, A2, c2, he, hk, hc1, h2, hl, hb⟩
theorem okS_not {s : S26} (h : ¬ okS s) : s.f0 < 12 ∨ (¬ s.f0 < 12 ∧ 17 < s.f0) ∨ (¬ s.f0 < 12 ∧ ¬ 17 < s.f0 ∧ s.f9 < 0) ∨ (¬ s.f0 < 12 ∧ ¬ 17 < s.f0 ∧ ¬ s.f9 < 0 ∧ 4096 < s.f9) ∨ (¬ s.f0 < 12 ∧ ¬ 17 < s.f0 ∧ ¬ s.f9 < 0 ∧ ¬ 4096 < s.f9 ∧ s.f7 < 0) ∨ (¬ s.f0 < 12 ∧ ¬ 17 < s.f0 ∧ ¬ s.f9 < 0 ∧ ¬ 4096 < s.f9 ∧ ¬ s.f7 < 0 ∧ 4096 < (s.f6.length : Int)) := by
  unfold okS at h
  omega
theorem take_at (ss : List S26) (i : Nat) (h : i < ss.length) : ss.take (i + 1) = ss.take i ++ [rd_T26 ss i] := by
  rw [List.take_succ_eq_append_getElem h]
  unfold rd_T26
  simp [List.getElem?_eq_getElem h]
theorem yn_zero (i : Nat) : rd_T33 (List.map yn (List.range (i + 1))) 0 = ans 0 0 0 [] := by
  unfold rd_T33
  rw [List.range_succ_eq_map]
  rfl
theorem yn_drop {w : World} {A : Option Addr} {c i : Nat} (h : k33.C w A (i + 1) ((List.range (i + 1)).map yn)) (hc : i + 1 ≤ c) : k33.C w (if c = 1 then A else A.map (·.add 6)) i (List.replicate i (ans 3 0 0 [])) := by
  have el : ((List.range (i + 1)).map yn).length = i + 1 := by simp
  have h1 : k33.C w A ((List.range (i + 1)).map yn).length ((List.range (i + 1)).map yn) := by rw [el]; exact h
  have h2 := Kd.C_drop (k := k33) (m := 1) (c := c) h1 (by omega) (by omega)
  have e : ((List.range (i + 1)).map yn).drop 1 = List.replicate i (ans 3 0 0 []) := by
    rw [List.range_succ_eq_map]
    simp only [List.map_cons, List.drop_succ_cons, List.drop_zero, List.map_map]
    apply List.ext_getElem
    · simp
    · intro n h1 h2
      simp [yn]
  rw [e] at h2
  have e3 : (List.replicate i (ans 3 0 0 [])).length = i := by simp
  rw [e3] at h2
  exact h2
theorem rep_at (i j : Nat) (h : j < i) : rd_T33 (List.replicate i (ans 3 0 0 [])) j = ans 3 0 0 [] := by
  unfold rd_T33
  simp [h]
set_option maxHeartbeats 4000000 in
set_option maxRecDepth 100000 in
theorem law3in (w : World) (A : Nat → Addr) (hS : Sent A w) (data : List Int) (Ad : Option Addr) (md cd : Nat) (ro : Bool) (ss : List S26) (As : Option Addr) (ms cs : Nat) (hD : Kd.C (Kd.int .u8) w Ad md data) (hcd : md ≤ cd) (hC : k26.C w As ms ss) (hcs : ms ≤ cs) (hm : md ≤ 4096) (hms : ms ≤ 40)
    (hZ : ∀ W, Below w.heap.size w W → Calls Tryd.prog 12 #[.slice As ms cs] W fun e w' => e = .returned (.bool true) ∧ Below W.heap.size W w') :
    Calls Tryd.prog 3 #[.slice Ad md cd, .bool ro, .slice As ms cs] w fun e w' => e = .returned (.bool true) ∧ Below w.heap.size w w' := by
  have HZ := Lib.hid hZ
  have HD := Lib.hid hD
  have HC := Lib.hid hC
  have HL := Lib.hid hC.1
  have HS := Lib.hid hS
  clear hZ hD hC hS
  have b1 : (md : Int) ≤ 2147483647 := by omega
  have b2 : (md : Int) ≤ 4096 := by omega
  have b3 : (ms : Int) ≤ 40 := by omega
  go_enter Tryd.func3, Tryd.ntmps3
  go_wp2_with (first | (go_at_call 12; (refine (HZ.out _ (Below.refl _ _)).mono ?_); rintro e w1 ⟨rfl, hb1⟩; have B1 := Lib.hid hb1; clear hb1))
  have R0 := Lib.hid (lit_row (Kx w) (W := w1) (base := w.heap.size) (e := 26) (x := clo) (ok := fun _ => True) (okp := fun _ => False) (k26_mk w clo (A6 := none) (c6 := 0) (Nat.le_refl _) (Kd.C_nil _ _)) (fun _ hk => hk.elim) trivial B1.out.size)
  have B2 := Lib.hid (below_then B1.out B1.out.size (below_alloc (Below.refl _ _) _) : Below w.heap.size w (w1.alloc (.cells #[.int .i64 18, .string ⟨#[]⟩, .string ⟨#[]⟩, .int .i64 0, .int .i64 0, .int .i64 0, .slice none 0 0, .int .i64 0, .int .i64 0, .int .i64 0] 26)))
  go_loopw [34, 7] (fun v34 v7 wr => ∃ i : Nat, v34 = .int .i64 i ∧ i ≤ ms ∧ Hid ((Kx w).R 26 wr w.heap.size (fun _ => True) v7 (clo :: ss.take i)) ∧ Hid (Below w.heap.size w wr) ∧ Hid (∀ j : Nat, j < i → okS (rd_T26 ss j))) (fun v34 _ _ => ms - (intOf v34).toNat)
  case atStart => exact ⟨0, rfl, by omega, R0, B2, Lib.hid (fun j hj => absurd hj (Nat.not_lt_zero j))⟩
  case round =>
    obtain ⟨i, rfl, hi, RI, BI, OI⟩ := hrel
    clear R0 B2
    by_cases hlt : i < ms
    · obtain ⟨ad, A6, c6, rfl, k0, k1, k2, k3, k4, k5, k6, k7, k8, k9, l6, g6⟩ := at26b HC.out BI.out i hlt
      have TK := Lib.hid (take_at ss i (by have := HL.out; omega))
      have G6 := Lib.hid g6
      clear g6
      by_cases hok : okS (rd_T26 ss i)
      · have OK := Lib.hid hok
        obtain ⟨q1, q2, q3, q4, q5, q6⟩ := hok
        have OI2 := Lib.hid (show ∀ j : Nat, j < i + 1 → okS (rd_T26 ss j) from fun j hj => by
          by_cases e : j = i
          · subst e; exact OK.out
          · exact OI.out j (by omega))
        have hsz := BI.out.size
        generalize rd_T26 ss i = s at *
        go_wp2_with (first | ((with_reducible refine gate_builtin (b := .append) (xs := #[.tmp 67, .tmp 69]) rfl ?_); at_builtin; refine app_stp (w0 := w) (wb := w) w.heap.size rfl (.tmp 67) (.tmp 69) rfl u7 _ s A6 c6 rfl rfl (by simp) l6 G6.out (Kd.R_below RI.out (below_alloc (Below.refl _ _) _)) (below_then BI.out BI.out.size (below_alloc (Below.refl _ _) _)) (by simp; omega) (by simp; omega) ?_; intro v1 wn hr hb hg; have RN := Lib.hid hr; have BN := Lib.hid hb; clear hr hb hg))
        go_roundw
        case rel => exact ⟨i + 1, by push_cast; rfl, hlt, Lib.hid (by rw [TK.out]; exact RN.out), BN, OI2⟩
        case measure => simp only [intOf]; omega
      · have hx := okS_not hok
        clear hok
        generalize rd_T26 ss i = s at *
        rcases hx with h1 | ⟨h1, h2⟩ | ⟨h1, h2, h3⟩ | ⟨h1, h2, h3, h4⟩ | ⟨h1, h2, h3, h4, h5⟩ | ⟨h1, h2, h3, h4, h5, h6⟩
        all_goals
          go_wp2_with fail
          go_ret
          exact ⟨rfl, below_then BI.out BI.out.size (below_alloc (Below.refl _ _) _)⟩
    · obtain rfl : i = ms := by omega
      have hall : ss.take i = ss := List.take_of_length_le (by have := HL.out; omega)
      have ri := RI.out
      rw [hall] at ri
      obtain ⟨A7, c7, rfl, hc7, hC7⟩ := Kd.R_reads ri
      have el : (clo :: ss).length = i + 1 := by have := HL.out; simp; omega
      rw [el] at hC7 hc7
      have hZ7 := Kx_C hC7 BI.out
      have hsl := HL.out
      have HO := script w A HS.out data Ad md cd ro HD.out hm ss (fun j hj => OI.out j (by omega)) (by omega)
      rw [hsl] at HO
      have HO := Lib.hid (HO _ A7 c7 BI.out hZ7)
      rw [el] at *
      have dl := HD.out.1
      clear ri hC7 hZ7 RI hall el hlt hsl
      go_upto_region 14 with (first | (go_at_call 13; (refine (HO.out).mono ?_); rintro e w2 ⟨A1, c1, A2, c2, rfl, hk, hc1, hg2, hc2, hb2⟩; have HK := Lib.hid hk; have HG := Lib.hid hg2; have B2 := Lib.hid hb2; clear hk hg2 hb2))
      have BW := Lib.hid (below_then BI.out BI.out.size B2.out : Below w.heap.size w w2)
      obtain ⟨ad, _, _, _, _, _, _, rfl, k0, _⟩ := at_T33 HK.out 0 (by omega) (by omega)
      rw [yn_zero] at k0
      have ea : ad.add ((0 : Int).toNat * 6) = ad := by simp [Addr.add]
      rw [ea] at k0
      have k0a : w2.cell? ad = some (.int .i64 0) := k0
      clear k0 ea
      have cv2 := Kd.C_string (dst := 9) Tryd.underlying22 Tryd.underlying5 Tryd.underlying9 HG.out (c := c2)
      have cv1 := Kd.C_string (dst := 9) (P := Tryd.prog) Tryd.underlying22 Tryd.underlying5 Tryd.underlying9 (Kd.C_below HD.out BW.out) (c := cd)
      obtain ⟨i27, hi27, hz27⟩ := Option.map_eq_some_iff.1 info33
      simp only [Prod.mk.injEq] at hz27
      have cut := cut_from (P := Tryd.prog) 27 33 .i64 Tryd.underlying27 hi27 6 hz27.2.1 (some ad) (i + 1) c1 1 (by decide) (by omega)
      have hdr := yn_drop HK.out hc1
      rw [show (1 : Int).toNat * 6 = 6 from rfl, show (1 : Int).toNat = 1 from rfl, show i + 1 - 1 = i by omega] at cut
      generalize (if c1 = 1 then some ad else Option.map (fun x => x.add 6) (some ad)) = A9 at cut hdr
      have HDR := Lib.hid hdr
      clear hdr hz27 hi27
      go_wp2_with fail
      clear k0a cv1 cv2 cut
      go_loopw [101] (fun v101 wr => ∃ j : Nat, v101 = .int .i64 j ∧ j ≤ i ∧ Hid (Below w2.heap.size w2 wr)) (fun v101 _ => i - (intOf v101).toNat)
      case atStart => exact ⟨0, rfl, by omega, Lib.hid (Below.refl _ _)⟩
      case round =>
        obtain ⟨j, rfl, hj, BJ⟩ := hrel
        by_cases hjl : j < i
        · obtain ⟨ad9, A3, c3, A4, c4, A5, c5, rfl, p0, p1, p2, p3, p4, p5, _⟩ := at_T33 (Kd.C_below HDR.out BJ.out) (j : Int) (by omega) (by omega)
          rw [rep_at i j hjl] at p0 p1 p2 p3 p4 p5
          simp only [Int.toNat_natCast] at p0 p1 p2 p3 p4 p5
          simp only [ans, List.length_nil] at p0 p1 p2 p3 p4 p5
          go_wp2_with fail
          go_roundw
          case rel => exact ⟨j + 1, by push_cast; rfl, hjl, Lib.hid (below_then BJ.out BJ.out.size (below_alloc (Below.refl _ _) _))⟩
          case measure => simp only [intOf]; omega
        · obtain rfl : j = i := by omega
          go_wp2_with fail
          go_ret
          exact ⟨rfl, below_then BW.out BW.out.size BJ.out⟩
set_option maxHeartbeats 2000000 in
set_option maxRecDepth 100000 in
theorem law3 (w : World) (A : Nat → Addr) (hS : Sent A w) (data : List Int) (Ad : Option Addr) (md cd : Nat) (ro : Bool) (ss : List S26) (As : Option Addr) (ms cs : Nat) (hD : Kd.C (Kd.int .u8) w Ad md data) (hcd : md ≤ cd) (hC : k26.C w As ms ss) (hcs : ms ≤ cs) :
    Calls Tryd.prog 3 #[.slice Ad md cd, .bool ro, .slice As ms cs] w fun e w' => e = .returned (.bool true) ∧ Below w.heap.size w w' := by
  obtain ⟨r, hZ⟩ := zz12 w ss As ms cs hC hcs
  by_cases hg : r = true ∧ md ≤ 4096 ∧ ms ≤ 40
  · obtain ⟨rfl, h1, h2⟩ := hg
    exact law3in w A hS data Ad md cd ro ss As ms cs hD hcd hC hcs h1 h2 hZ
  · have HZ := Lib.hid (hZ w (Below.refl _ _))
    have hx : 2147483647 < (md : Int) ∨ ((md : Int) ≤ 2147483647 ∧ r = false) ∨ ((md : Int) ≤ 2147483647 ∧ r = true ∧ 4096 < (md : Int)) ∨ ((md : Int) ≤ 2147483647 ∧ r = true ∧ (md : Int) ≤ 4096 ∧ 40 < (ms : Int)) := by
      by_cases q : (md : Int) ≤ 2147483647
      · cases r
        · exact .inr (.inl ⟨q, rfl⟩)
        · simp at hg
          by_cases q2 : (md : Int) ≤ 4096
          · exact .inr (.inr (.inr ⟨q, rfl, q2, by omega⟩))
          · exact .inr (.inr (.inl ⟨q, rfl, by omega⟩))
      · exact .inl (by omega)
    clear hg hD hS hC hZ
    rcases hx with h1 | ⟨h1, rfl⟩ | ⟨h1, rfl, h2⟩ | ⟨h1, rfl, h2, h3⟩
    all_goals
      have B0 := Lib.hid (Below.refl w.heap.size w)
      go_enter Tryd.func3, Tryd.ntmps3
      go_wp2_with (first | (go_at_call 12; (refine (HZ.out).mono ?_); rintro e w1 ⟨rfl, hb1⟩; have B1 := Lib.hid hb1; clear hb1))
      go_ret
      first
        | exact ⟨rfl, B1.out⟩
        | exact ⟨rfl, B0.out⟩
theorem bytes_of {W : World} {a : Addr} {zs : List Int} {len : Nat} (hcell : ∀ i, i < len → W.cell? (a.add i) = some (.int .u8 (zs.getD i 0))) (hz : len ≤ zs.length) (hl : len ≤ 9223372036854775807) : (Kd.int .u8).C W (some a) len (zs.take len) := by
  refine ⟨by rw [List.length_take]; omega, hl, fun _ => ⟨a, rfl, fun j p hj => ⟨[.int .u8 p], rfl, rfl, fun i u hi => ?_⟩⟩⟩
  have hlt := (List.getElem?_eq_some_iff.1 hj).1
  rw [List.length_take] at hlt
  rw [List.getElem?_take, if_pos (by omega)] at hj
  have h := hcell j (by omega)
  rw [List.getD_eq_getElem?_getD, hj] at h
  match i, hi with
  | 0, hi =>
    simp at hi
    subst hi
    rw [show j * (Kd.int .u8).sz + 0 = j from by show j * 1 + 0 = j; omega]
    exact h
theorem opens26 : Og.Opens Tryd.prog 26 k26 := fun {H enc w base spare held n cs y} h => by
  obtain ⟨hl, hf⟩ := Og.opens_fields Tryd.underlying26 (by kernel_rfl) (by kernel_rfl) h
  match cs, hl with
  | [c0, c1, c2, c3, c4, c5, c6, c7, c8, c9], _ =>
    obtain ⟨v0, y0, n0, e0, t0⟩ := hf 0 _ rfl
    obtain rfl : c0 = v0 := Option.some.inj e0
    obtain ⟨x0, k0⟩ := Og.opens_int Tryd.underlying3 t0
    have k0' := (List.cons.inj k0).1
    subst k0'
    obtain ⟨v1, y1, n1, e1, t1⟩ := hf 1 _ rfl
    obtain rfl : c1 = v1 := Option.some.inj e1
    obtain ⟨x1, k1⟩ := Og.opens_string Tryd.underlying9 t1
    have k1' := (List.cons.inj k1).1
    subst k1'
    obtain ⟨v2, y2, n2, e2, t2⟩ := hf 2 _ rfl
    obtain rfl : c2 = v2 := Option.some.inj e2
    obtain ⟨x2, k2⟩ := Og.opens_string Tryd.underlying9 t2
    have k2' := (List.cons.inj k2).1
    subst k2'
    obtain ⟨v3, y3, n3, e3, t3⟩ := hf 3 _ rfl
    obtain rfl : c3 = v3 := Option.some.inj e3
    obtain ⟨x3, k3⟩ := Og.opens_int Tryd.underlying3 t3
    have k3' := (List.cons.inj k3).1
    subst k3'
    obtain ⟨v4, y4, n4, e4, t4⟩ := hf 4 _ rfl
    obtain rfl : c4 = v4 := Option.some.inj e4
    obtain ⟨x4, k4⟩ := Og.opens_int Tryd.underlying3 t4
    have k4' := (List.cons.inj k4).1
    subst k4'
    obtain ⟨v5, y5, n5, e5, t5⟩ := hf 5 _ rfl
    obtain rfl : c5 = v5 := Option.some.inj e5
    obtain ⟨x5, k5⟩ := Og.opens_int Tryd.underlying3 t5
    have k5' := (List.cons.inj k5).1
    subst k5'
    obtain ⟨v6, y6, n6, e6, t6⟩ := hf 6 _ rfl
    obtain rfl : c6 = v6 := Option.some.inj e6
    obtain ⟨A6, m6, d6, x6, z6, l6, g6⟩ := Og.opens_row Tryd.underlying22 (by kernel_rfl) (Og.opens_int Tryd.underlying5) t6
    have z6' := (List.cons.inj z6).1
    subst z6'
    have q6 := g6.1
    subst q6
    obtain ⟨v7, y7, n7, e7, t7⟩ := hf 7 _ rfl
    obtain rfl : c7 = v7 := Option.some.inj e7
    obtain ⟨x7, k7⟩ := Og.opens_int Tryd.underlying2 t7
    have k7' := (List.cons.inj k7).1
    subst k7'
    obtain ⟨v8, y8, n8, e8, t8⟩ := hf 8 _ rfl
    obtain rfl : c8 = v8 := Option.some.inj e8
    obtain ⟨x8, k8⟩ := Og.opens_int Tryd.underlying3 t8
    have k8' := (List.cons.inj k8).1
    subst k8'
    obtain ⟨v9, y9, n9, e9, t9⟩ := hf 9 _ rfl
    obtain rfl : c9 = v9 := Option.some.inj e9
    obtain ⟨x9, k9⟩ := Og.opens_int Tryd.underlying3 t9
    have k9' := (List.cons.inj k9).1
    subst k9'
    exact ⟨⟨x0, x1, x2, x3, x4, x5, x6, x7, x8, x9⟩, k26_mk w ⟨x0, x1, x2, x3, x4, x5, x6, x7, x8, x9⟩ l6 g6⟩

open Go.ChangeShapes Go.WideShapes Go.ChangeAt
theorem own : ownKnob Tryd.prog.godebug = none := by kernel_rfl
theorem laidOut : laidOutB Tryd.prog = true := by kernel_rfl
theorem readable3 : ∀ t ∈ Tryd.f3.params.toList, Tryd.prog.readableRec t = true ∧ t < Tryd.prog.types.size := by
  have h : (Tryd.f3.params.toList.all fun t => Tryd.prog.readableRec t && decide (t < Tryd.prog.types.size)) = true := by kernel_rfl
  intro t ht
  have := List.all_eq_true.1 h t ht
  simpa using this
def laidL : List (String × DataW Unit) := [("pub-marram/pub/afero/inner/os.ErrExist", Rows.laid_pub_marram_pub_afero_inner_os_ErrExist), ("pub-marram/pub/afero/inner/os.ErrNotExist", Rows.laid_pub_marram_pub_afero_inner_os_ErrNotExist), ("pub-marram/pub/afero/inner/os.ENOENT", Rows.laid_pub_marram_pub_afero_inner_os_ENOENT), ("pub-marram/pub/afero/inner/os.ENOTDIR", Rows.laid_pub_marram_pub_afero_inner_os_ENOTDIR), ("pub-marram/pub/afero/inner/os.EPERM", Rows.laid_pub_marram_pub_afero_inner_os_EPERM), ("pub-marram/pub/afero/inner/os.EIO", Rows.laid_pub_marram_pub_afero_inner_os_EIO), ("pub-marram/pub/afero/inner/os.EBADFD", Rows.laid_pub_marram_pub_afero_inner_os_EBADFD), ("io.EOF", Rows.laid_io_EOF), ("io.ErrUnexpectedEOF", Rows.laid_io_ErrUnexpectedEOF), ("pub-marram/pub/afero/mem.ErrFileClosed", Rows.laid_pub_marram_pub_afero_mem_ErrFileClosed), ("pub-marram/pub/afero/mem.ErrOutOfRange", Rows.laid_pub_marram_pub_afero_mem_ErrOutOfRange)]
set_option maxRecDepth 100000 in
theorem lifted (os : Os) (started : os.Started) (H : Type) (enc : TypeId × Value → H) :
    ReturnsInHanded {} Tryd.checked os 3 .any (fun w args => (Rows.fnClosedHandleSpec.pre enc Tryd.prog Tryd.f3 Rows.fnClosedHandleRow.domain false w args ∧ laidMetH Tryd.prog laidL w) ∧ sizedMet enc Tryd.prog Tryd.f3 (OpenSpec.ofChange Rows.fnClosedHandleSpec) false w args) (Rows.fnClosedHandleSpec.post enc Tryd.prog Tryd.f3 false true false false) := by
  refine Adapter.law_lifted_tied (C := Tryd.checked) (X := fun w => laidMetH Tryd.prog laidL w) (fun _ _ hh h => h.of_heap hh) own started (by kernel_rfl) Tryd.func3
    (ChangeSpec.witness_shaped (enc := enc) (C := Tryd.checked) (os := os) (X := fun w _ => laidMetH Tryd.prog laidL w) false (World.laidAll Tryd.prog os laidL) #[.slice none 0 0, .bool false, .slice none 0 0] 8 (World.laidAll_os _ _ _)
      (World.shaped_of_ZipB (by kernel_rfl) (by kernel_rfl)) (by kernel_rfl) (by kernel_rfl) (by kernel_rfl)
      (by rw [MakeChecks.laidMetH_plain _ _ _ (by kernel_rfl)]; exact laidMet_laidAll _ (by kernel_rfl) (by kernel_rfl)))
    laidOut readable3 (tb := 4) (by kernel_rfl) (by kernel_rfl) rfl ?_ ?_
  · intro ds hds
    rw [show Tryd.f3.params.size = 3 from by kernel_rfl] at hds
    match ds, hds with
    | [d1, d2, d3], _ => rfl
  · intro W base args ds p hval hA _ _ hL0
    have hL : laidMet Tryd.prog laidL W := by rw [MakeChecks.laidMetH_plain _ _ _ (by kernel_rfl)] at hL0; exact hL0
    rw [Tryd.params3] at hA hval
    obtain ⟨v0, vs0, d0, ds0, p0, q0, hargs, rfl, rfl, h0, r0⟩ := trodAll_cons hA
    obtain ⟨v1, vs1, d1, ds1, p1, q1, rfl, rfl, rfl, h1, r1⟩ := trodAll_cons r0
    obtain ⟨v2, vs2, d2, ds2, p2, q2, rfl, rfl, rfl, h2, r2⟩ := trodAll_cons r1
    obtain ⟨rfl, rfl, rfl⟩ := trodAll_nil r2
    obtain rfl : args = #[v0, v1, v2] := by cases args; simp_all
    obtain ⟨A, hS⟩ := sent_of_laid (show laidMet Tryd.prog errsL W from hL)
    obtain ⟨l0, A0, n0, c0, rfl, hC0, hn0⟩ : ∃ l A n c, v0 = .slice A n c ∧ Kd.C (Kd.int .u8) W A n l ∧ n ≤ c := by
      obtain ⟨a0, len, cap, rfl⟩ := okWide_slice Tryd.underlying22 (hval 0 22 v0 rfl rfl)
      obtain ⟨fuel, hf⟩ := h0
      obtain ⟨A, m, c, l, hcs, hl, hC⟩ := Og.opens_row Tryd.underlying22 (by kernel_rfl) (Og.opens_int Tryd.underlying5) hf
      simp [Value.cells] at hcs
      obtain ⟨rfl, rfl, rfl⟩ := hcs
      exact ⟨l, _, _, _, rfl, hC, hl⟩
    obtain ⟨x1, rfl, rfl, rfl⟩ := open_bool Tryd.underlying4 (hval 1 4 v1 rfl rfl) h1
    obtain ⟨l2, A2, n2, c2, rfl, hC2, hn2⟩ : ∃ l A n c, v2 = .slice A n c ∧ Kd.C (k26) W A n l ∧ n ≤ c := by
      obtain ⟨a0, len, cap, rfl⟩ := okWide_slice Tryd.underlying23 (hval 2 23 v2 rfl rfl)
      obtain ⟨fuel, hf⟩ := h2
      obtain ⟨A, m, c, l, hcs, hl, hC⟩ := Og.opens_row Tryd.underlying23 (by kernel_rfl) (opens26) hf
      simp [Value.cells] at hcs
      obtain ⟨rfl, rfl, rfl⟩ := hcs
      exact ⟨l, _, _, _, rfl, hC, hl⟩
    exact law3 W A hS l0 A0 n0 c0 x1 l2 A2 n2 c2 hC0 hn0 hC2 hn2

theorem over : Rows.fnClosedHandleRow.holds Tryd.pinned (OpenSpec.ofChange Rows.fnClosedHandleSpec) :=
  OpenClaim.holds_of_wide 3 Tryd.f3 rfl rfl rfl rfl rfl rfl rfl ⟨rfl, rfl, rfl, rfl, rfl⟩ rfl rfl rfl rfl rfl (by kernel_rfl) Tryd.func3 (by kernel_rfl)
    (of_decide_eq_true (by kernel_rfl)) (by unfold Func.isWrapper; first | (rw [if_pos (by decide +kernel)]; kernel_rfl) | (rw [if_neg (by decide +kernel)]; exact ⟨rfl, rfl⟩))
    (fun os started H enc _ => lifted os started H enc)
theorem card_holds : Rows.FnClosedHandleCardSaid :=
  Claim7.holds_tied_plain_at .later [] [.sentinel, .sentinel, .sentinel, .sentinel, .sentinel, .sentinel, .sentinel, .sentinel, .sentinel, .sentinel, .sentinel] true (true, "082d05495341c122149ceada623044fc8a0a6c8a5b30945a55a332597f3648b7") true over (fun _ h => by cases h) (by kernel_rfl) (fun _ h => by cases h) fnClosedHandle_row_tie rfl ⟨rfl, rfl⟩ (by kernel_rfl) rfl
    (fun f fn hf hfn => by
      obtain rfl : f = 3 := Option.some.inj ((show Tryd.prog.funcNamed "pub-marram/laws.FnClosedHandle" = some 3 by kernel_rfl).symm.trans hf) |>.symm
      obtain rfl : fn = Tryd.f3 := (Option.some.inj (Tryd.func3.symm.trans hfn)).symm
      exact ⟨by kernel_rfl, fun j t ht => by
        rw [Tryd.params3] at ht
        have hm : t ∈ [22, 4, 23] := by simpa using Array.mem_of_getElem? ht
        have hall : ([22, 4, 23].all fun u => !Tryd.prog.wantsStandIn u) = true := by kernel_rfl
        exact (show Tryd.prog.wantsStandIn t = false by simpa using List.all_eq_true.1 hall t hm)⟩)
    (by kernel_rfl)
#print axioms card_holds
end Go.Proofs.YtljcdjggjphedaaDoor.Cl
