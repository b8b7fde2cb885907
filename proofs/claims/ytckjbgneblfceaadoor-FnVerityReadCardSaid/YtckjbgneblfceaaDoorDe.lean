/- Reading a device of hashes. -/
import Derived.Test.YtckjbgneblfceaaDoorDd
namespace Go.Proofs.YtckjbgneblfceaaDoor.Da
open Go.RowKit Go.Maps Go.Proofs.YtckjbgneblfceaaDoorW.PrintWords Go.Proofs.YtckjbgneblfceaaDoorW.PrintLast Go.Proofs.YtckjbgneblfceaaDoorW.PrintMore
open Go.Proofs.YtckjbgneblfceaaDoor.PFnVerityRead Go.Proofs.YtckjbgneblfceaaDoor.Fa Go.Proofs.YtckjbgneblfceaaDoor.Fm
set_option linter.unusedVariables false
set_option linter.unusedSimpArgs false
def z8 (n : Nat) : List Value := List.replicate n (.int .u8 0)
def zero116 : List Value := z8 8 ++ [.int .u32 0, .int .u32 0] ++ z8 16 ++ z8 32 ++ [.int .u32 0, .int .u32 0, .int .u64 0, .int .u16 0] ++ z8 256
set_option maxRecDepth 100000 in
theorem build116 (a : Act) (W : World) (o : Oper) (ho : o.op = .build 116 #[]) : (execOp a.eval o).run Tryd.prog W = .ok (.value (.agg zero116.toArray)) W := by
  unfold execOp
  rw [ho]
  simp only [List.map_toArray, List.map_nil]
  clear ho
  kernel_rfl
set_option maxRecDepth 100000 in
theorem sb_new {g : Nat} {W : World} {t : TypeId} (h : W.heap[g]? = some (.cells zero116.toArray t (0, 0))) : Sb g (fun j => (zero116[j]?).getD undef) W := by
  intro j hj
  have hl : zero116.length = 318 := by kernel_rfl
  refine ⟨?_, by simp [World.frozen?, h]⟩
  unfold World.cell?
  simp only [h]
  simp only [List.getElem?_toArray, List.getElem?_eq_getElem (show j < zero116.length by omega), Option.getD_some]
  rfl
theorem leF_take (b : List Int) (m : Nat) : ∀ n o, o + n ≤ m → leF (b.take m) o n = leF b o n
  | 0, _, _ => rfl
  | n + 1, o, h => by
    rw [leF, leF, leF_take b m n (o + 1) (by omega), List.getD_eq_getElem?_getD, List.getD_eq_getElem?_getD, List.getElem?_take_of_lt (by omega)]
/-- The kinds of failure, by the number of the variable that holds the error. -/
def isVer (b : List Int) : Bool := (strOfNums (trimF (b.take 8))).toList == [118, 101, 114, 105, 116, 121]
def errOf (b : List Int) : Option Nat :=
  if b.length < 4096 then some 0 else if isVer b = false then some 2 else if 256 < leF b 80 2 then some 3 else if b.length < 8192 then some 1 else none
def saltOf (b : List Int) : List Int := (b.drop 88).take (leF b 80 2).toNat
def rootOf (A B C D : Int) (b : List Int) : List Int := digTo [A, B, C, D] (saltOf b ++ (b.drop 4096).take 4096) 4
def hexS (l : List Int) : ByteArray := strOfNums (hexL l)
def algOf (b : List Int) : ByteArray := strOfNums (trimF ((b.drop 32).take 32))
/-- What is told of a device. -/
def infoCells (A B C D : Int) (b : List Int) : Array Value := #[.int .i64 (IntKind.i64.wrap (leF b 72 8)), .bool true, .string (hexS (rootOf A B C D b)), .string (hexS (saltOf b)), .string (algOf b), .int .u32 (leF b 64 4), .int .u32 4096, .int .u64 (leF b 72 8), .int .u32 (leF b 8 4)]
def Rd30 (A B C D : Int) (b : List Int) (E : Nat → Value) (w : World) (e : Ending) (w' : World) : Prop :=
  Below w.heap.size w w' ∧ match errOf b with
    | some k => e = .returned (.tuple #[.pointer none, E k])
    | none => ∃ p t, e = .returned (.tuple #[.pointer (some ⟨p, 0, none⟩), .nilIface]) ∧ w'.heap[p]? = some (.cells (infoCells A B C D b) t (0, 0))
theorem lies_of {g o : Nat} {b : List Int} {W : World} (h : ∀ k, k < b.length → W.cell? ⟨g, o + k, none⟩ = some (.int .u8 (b.getD k 0))) : Lies g o b W := by
  intro k x hk
  obtain ⟨hl, he⟩ := List.getElem?_eq_some_iff.1 hk
  rw [h k hl, List.getD_eq_getElem?_getD, hk]; rfl
theorem short30 (A : Option Addr) (n c : Nat) (f : Value) (w : World) (E : Nat → Value) (hn : n < 4096) (h0 : w.cell? ⟨0, 0, none⟩ = some (E 0)) :
    Calls Tryd.prog 30 #[.slice A n c, f] w fun e w' => e = .returned (.tuple #[.pointer none, E 0]) ∧ Below w.heap.size w w' := by
  have h1 : decide ((n : Int) < 4096) = true := decide_eq_true (by omega)
  go_enter Tryd.func30, Tryd.ntmps30
  go_wp2
  go_region_held3 (fun w' => w'.cell? ⟨0, 0, none⟩ = some (E 0)) (go_keep) (fail)
  go_wp2
  go_ret2
  exact ⟨rfl, by first | exact Below.refl _ _ | exact below_drew (Below.refl _ _)⟩
theorem slice16 (a : Act) (W : World) (o : Oper) (gs n c o2 : Nat) (ho : o.op = .slice 33 (.tmp 15) (some (.const (.int .i64 4096))) none none) (h15 : a.eval (.tmp 15) = .slice (some ⟨gs, 0, none⟩) n c) (hn : 4096 ≤ n) (hnc : n ≤ c) (hn2 : n ≤ 1228800)
    (ho2 : o2 = if c = 4096 then 0 else 4096) :
    (execOp a.eval o).run Tryd.prog W = .ok (.value (.slice (some ⟨gs, o2, none⟩) (n - 4096) (c - 4096))) W := by
  have h1 : (4096 ≤ (n : Int)) = True := eq_true (by omega)
  have h2 : ((n : Int) ≤ (c : Int)) = True := eq_true (by omega)
  have h3 : (4096 ≤ (c : Int)) = True := eq_true (by omega)
  unfold execOp
  rw [ho]
  simp only [Option.map_some, Option.map_none, h15, show ∀ v, a.eval (.const v) = v from fun _ => rfl]
  by_cases h : c = 4096
  · rw [if_pos h] at ho2
    subst ho2
    have h4 : n = 4096 := by omega
    subst h4
    subst h
    go_simp
  · rw [if_neg h] at ho2
    subst ho2
    go_simp
/-- The superblock as read of b, in block g. -/
structure Dv (g : Nat) (b : List Int) (w W : World) : Prop where
  sig : Lies g 0 (b.take 8) W
  alg : Lies g 26 ((b.drop 32).take 32) W
  slt : Lies g 62 ((b.drop 88).take 256) W
  c8 : W.cell? ⟨g, 8, none⟩ = some (.int .u32 (leF b 8 4))
  c58 : W.cell? ⟨g, 58, none⟩ = some (.int .u32 (leF b 64 4))
  c60 : W.cell? ⟨g, 60, none⟩ = some (.int .u64 (leF b 72 8))
  c61 : W.cell? ⟨g, 61, none⟩ = some (.int .u16 (leF b 80 2))
  bel : Below w.heap.size w W
theorem Dv.later {g : Nat} {b : List Int} {w W V : World} (h : Dv g b w W) (hb : Below W.heap.size W V) : Dv g b w V :=
  ⟨h.sig.later hb, h.alg.later hb, h.slt.later hb, cell_later hb h.c8, cell_later hb h.c58, cell_later hb h.c60, cell_later hb h.c61, below_then h.bel h.bel.size hb⟩
theorem getD_take (b : List Int) (m i : Nat) (h : i < m) : (b.take m).getD i 0 = b.getD i 0 := by
  rw [List.getD_eq_getElem?_getD, List.getD_eq_getElem?_getD, List.getElem?_take_of_lt h]
theorem dv_of {g gs : Nat} {b : List Int} {w w1 W : World} {f : Nat → Value} (P : Pst g gs (b.take 4096) w1 f W) (T : Told (b.take 4096) f) (hb : 4096 ≤ b.length) (hbel : Below w.heap.size w w1) (hg : w.heap.size ≤ g) : Dv g b w W := by
  have hs := P.sb
  refine ⟨lies_of fun k hk => ?_, lies_of fun k hk => ?_, lies_of fun k hk => ?_, ?_, ?_, ?_, ?_, ?_⟩
  · rw [List.length_take] at hk
    rw [(hs (0 + k) (by omega)).1, T.sig k (by omega), getD_take _ _ _ (by omega), getD_take _ _ _ (by omega), Nat.zero_add]
  · rw [List.length_take] at hk
    rw [(hs (26 + k) (by omega)).1, T.alg k (by omega), getD_take _ _ _ (by omega), get_part _ _ _ _ (by omega)]
  · rw [List.length_take] at hk
    rw [(hs (62 + k) (by omega)).1, T.slt k (by omega), getD_take _ _ _ (by omega), get_part _ _ _ _ (by omega)]
  · rw [(hs 8 (by omega)).1, T.ver, leF_take _ _ _ _ (by omega)]
  · rw [(hs 58 (by omega)).1, T.dbs, leF_take _ _ _ _ (by omega)]
  · rw [(hs 60 (by omega)).1, T.blk, leF_take _ _ _ _ (by omega)]
  · rw [(hs 61 (by omega)).1, T.siz, leF_take _ _ _ _ (by omega)]
  · exact P.mv.toBelow hbel hbel.size (fun k hk => by rw [hk]; exact hg)
theorem Dv.four {g : Nat} {b : List Int} {w W : World} (h : Dv g b w W) {m : Nat} {x60 x58 x8 : Int} (hm : leF b 80 2 = m) (h60 : x60 = leF b 72 8) (h58 : x58 = leF b 64 4) (h8 : x8 = leF b 8 4) :
    W.cell? ⟨g, 61, none⟩ = some (.int .u16 m) ∧ W.cell? ⟨g, 60, none⟩ = some (.int .u64 x60) ∧ W.cell? ⟨g, 58, none⟩ = some (.int .u32 x58) ∧ W.cell? ⟨g, 8, none⟩ = some (.int .u32 x8) := by
  rw [h60, h58, h8, ← hm]
  exact ⟨h.c61, h.c60, h.c58, h.c8⟩
set_option maxHeartbeats 8000000 in
set_option maxRecDepth 100000 in
theorem read30 (gs n c gd : Nat) (b : List Int) (A B C D : Int) (w : World) (E : Nat → Value) (hE : ∀ k, k < 4 → w.cell? ⟨k, 0, none⟩ = some (E k))
    (hb : b.length = n) (hn : 4096 ≤ n) (hn2 : n ≤ 1228800) (hnc : n ≤ c) (hib : InBytes b) (hl : Lies gs 0 b w) (hd : Dig gd A B C D w) :
    Calls Tryd.prog 30 #[.slice (some ⟨gs, 0, none⟩) n c, .func (.func 56) #[] #[.pointer (some ⟨gd, 0, none⟩)]] w (Rd30 A B C D b E w) := by
  have HB := Lib.hid hb
  have HI := Lib.hid hib
  have HL := Lib.hid hl
  have HD := Lib.hid hd
  have HE := Lib.hid hE
  have h1 : decide ((n : Int) < 4096) = false := decide_eq_false (by omega)
  have h2 : (4096 ≤ (n : Int)) = True := eq_true (by omega)
  have h3 : ((n : Int) ≤ (c : Int)) = True := eq_true (by omega)
  have h4 : (4096 ≤ (c : Int)) = True := eq_true (by omega)
  clear hb hib hl hd hE
  obtain ⟨o2, ho2⟩ : ∃ o2, o2 = if c = 4096 then 0 else 4096 := ⟨_, rfl⟩
  have HO2 := Lib.hid (show 8192 ≤ n → o2 = 4096 from fun h => by rw [ho2, if_neg (by omega)])
  have HO := Lib.hid ho2
  clear ho2
  go_enter Tryd.func30, Tryd.ntmps30
  go_wp2_with (first | ((with_reducible refine gate_dst (N := 16) rfl ?_); refine Kd.event_run rfl (slice16 _ _ _ gs n c o2 (by rfl) (by rfl) hn hnc hn2 HO.out) ?_) | ((with_reducible refine gate_dst (N := 17) rfl ?_); refine Kd.event_run rfl (build116 _ _ _ (by rfl)) ?_) | ((with_reducible refine gate_dst (N := 18) rfl ?_); refine box_event rfl (N := 18) rfl (cs := zero116.toArray) (t := 116) ?_ ?_; rfl; intro g hgg w1 hg hb; have hgl : w.heap.size ≤ g := (by rw [hgg]; simp); clear hgg))
  have hgs : gs < w.heap.size := World.block_lt_of_cell? _ _ (HL.out 0 (b.getD 0 0) (by rw [List.getD_eq_getElem?_getD, List.getElem?_eq_getElem (by rw [HB.out]; omega)]; rfl))
  have PS : Pst g gs (b.take 4096) w1 (fun j => (zero116[j]?).getD undef) w1 := ⟨sb_new hg, by
    have := (HL.out.later hb).part 0 4096
    rw [List.drop_zero] at this
    exact this, Moves.refl _ _, by omega⟩
  have HB1 := Lib.hid hb
  refine (parse52 g gs c (b.take 4096) w1 _ (by rw [List.length_take, HB.out]; omega) (by omega) (HI.out.take 4096) PS).mono ?_
  rintro e w2 ⟨rfl, f', hP, hT⟩
  have D2 := Lib.hid (dv_of hP hT (by rw [HB.out]; exact hn) HB1.out hgl)
  clear hP hT PS hg hb HB1
  cases hver : isVer b with
  | true =>
    have HSG := Lib.hid hver
    unfold isVer at hver
    obtain ⟨m, hm⟩ : ∃ m : Nat, leF b 80 2 = m := ⟨(leF b 80 2).toNat, by have := (leF_range HI.out 2 80).1; omega⟩
    have hm2 : m < 65536 := by have := (leF_range HI.out 2 80).2; rw [hm] at this; have : (m : Int) < 65536 := this; omega
    have HM := Lib.hid hm
    clear hm
    have e61 := D2.out.c61
    rw [HM.out] at e61
    have i1 : IntKind.i64.wrap (m : Int) = m := IntWalk.i64_in _ (by omega)
    by_cases hm3 : 256 < m
    · have j1 : decide ((256 : Int) < (m : Int)) = true := decide_eq_true (by omega)
      go_wp2_with (first | (go_at_call 53; (with_reducible refine (trim53 g 0 8 8 (b.take 8) _ (by rw [List.length_take, HB.out]; omega) (by decide) (by decide) D2.out.sig).mono ?_); rintro e w3 ⟨rfl, hb3⟩; have B3 := Lib.hid hb3; have D3 := Lib.hid (D2.out.later hb3); have e61b := D3.out.c61; rw [HM.out] at e61b; have hE3 := cell_later D3.out.bel (HE.out 3 (by decide)); clear hb3))
      go_region_held3 (fun w' => w'.cell? ⟨3, 0, none⟩ = some (E 3)) (go_keep) (fail)
      go_wp2
      go_ret2
      have he : errOf b = some 3 := by
        unfold errOf
        rw [if_neg (by rw [HB.out]; omega), if_neg (by rw [HSG.out]; decide), if_pos (by rw [HM.out]; omega)]
      refine ⟨by first | exact D3.out.bel | exact below_drew D3.out.bel, ?_⟩
      rw [he]; rfl
    · have j1 : decide ((256 : Int) < (m : Int)) = false := decide_eq_false (by omega)
      by_cases hn8 : n < 8192
      · have j2 : decide (((n - 4096 : Nat) : Int) < 4096) = true := decide_eq_true (by omega)
        go_wp2_with (first | (go_at_call 53; (with_reducible refine (trim53 g 0 8 8 (b.take 8) _ (by rw [List.length_take, HB.out]; omega) (by decide) (by decide) D2.out.sig).mono ?_); rintro e w3 ⟨rfl, hb3⟩; have B3 := Lib.hid hb3; have D3 := Lib.hid (D2.out.later hb3); have e61b := D3.out.c61; rw [HM.out] at e61b; have hE3 := cell_later D3.out.bel (HE.out 1 (by decide)); clear hb3))
        go_region_held3 (fun w' => w'.cell? ⟨1, 0, none⟩ = some (E 1)) (go_keep) (fail)
        go_wp2
        go_ret2
        have he : errOf b = some 1 := by
          unfold errOf
          rw [if_neg (by rw [HB.out]; omega), if_neg (by rw [HSG.out]; decide), if_neg (by rw [HM.out]; omega), if_pos (by rw [HB.out]; omega)]
        refine ⟨by first | exact D3.out.bel | exact below_drew D3.out.bel, ?_⟩
        rw [he]; rfl
      · obtain rfl : o2 = 4096 := HO2.out (by omega)
        have j2 : decide (((n - 4096 : Nat) : Int) < 4096) = false := decide_eq_false (by omega)
        have j3 : (4096 ≤ ((n - 4096 : Nat) : Int)) = True := eq_true (by omega)
        have j4 : (4096 ≤ ((c - 4096 : Nat) : Int)) = True := eq_true (by omega)
        have j5 : (((n - 4096 : Nat) : Int) ≤ ((c - 4096 : Nat) : Int)) = True := eq_true (by omega)
        go_wp2_with (first | (go_at_call 53; (with_reducible refine (trim53 g 0 8 8 (b.take 8) _ (by rw [List.length_take, HB.out]; omega) (by decide) (by decide) D2.out.sig).mono ?_); rintro e w3 ⟨rfl, hb3⟩; have B3 := Lib.hid hb3; have D3 := Lib.hid (D2.out.later hb3); have e61b := D3.out.c61; rw [HM.out] at e61b; clear hb3))
        have k1 : ((m : Int) ≤ 256) = True := eq_true (by omega)
        have k2 : (0 ≤ (m : Int)) = True := eq_true (by omega)
        obtain ⟨s, hs⟩ : ∃ s, s = saltOf b := ⟨_, rfl⟩
        obtain ⟨b2, hb2⟩ : ∃ b2, b2 = (b.drop 4096).take 4096 := ⟨_, rfl⟩
        have hsl : s.length = m := by rw [hs]; unfold saltOf; rw [List.length_take, List.length_drop, HB.out, HM.out]; omega
        have hbl2 : b2.length = 4096 := by rw [hb2, List.length_take, List.length_drop, HB.out]; omega
        have his : InBytes s := by rw [hs]; exact (HI.out.drop 88).take _
        have hib2 : InBytes b2 := by rw [hb2]; exact (HI.out.drop 4096).take _
        have hLs : Lies g 62 s w3 := by
          have := D3.out.slt.part 0 m
          rw [List.drop_zero, List.take_take, Nat.min_eq_left (by omega)] at this
          rw [hs]; unfold saltOf; rw [HM.out]; exact this
        have hLb : Lies gs 4096 b2 w3 := by
          have := (HL.out.later D3.out.bel).part 4096 4096
          rw [Nat.zero_add] at this
          rw [hb2]; exact this
        have SL := Lib.hid hsl
        have BL := Lib.hid hbl2
        have IS := Lib.hid his
        have IB := Lib.hid hib2
        have LS := Lib.hid hLs
        have LB := Lib.hid hLb
        have SE := Lib.hid hs
        have BE := Lib.hid hb2
        clear hsl hbl2 his hib2 hLs hLb hs hb2
        go_region_held3 (fun w' => w'.cell? ⟨g, 61, none⟩ = some (.int .u16 m)) (go_keep)
          (first | (go_at_call 54; (with_reducible refine (hash54 A B C D s b2 g 62 m 256 gs 4096 4096 (c - 4096) gd _ SL.out (by omega) IS.out (LS.out.later (below_drew (Below.refl _ _))) BL.out (by decide) (by decide) IB.out (LB.out.later (below_drew (Below.refl _ _))) (HD.out.later (below_drew D3.out.bel))).mono ?_); rintro e w4 ⟨v4, rfl, hr⟩; have R4 := Lib.hid hr; have B4 := Lib.hid (below_then (below_drew (Below.refl w3.heap.size w3)) (by simp) hr.2); have D4 := Lib.hid (D3.out.later B4.out); have e61c := D4.out.c61; rw [HM.out] at e61c; clear hr))
        go_wp2
        clear e61 e61b e61c
        obtain ⟨root, hroot⟩ : ∃ r, r = digTo [A, B, C, D] (s ++ b2) 4 := ⟨_, rfl⟩
        have hrl : root.length = 32 := by rw [hroot]; exact digTo_len _ _ _ (by simp)
        have hri : InBytes root := by rw [hroot]; exact digTo_in _ _ _
        rw [← hroot] at R4
        have RO := Lib.hid hroot
        clear hroot
        obtain ⟨g4, c4, e4, hc4, hcell⟩ := row_at R4.out (by rw [hrl]; decide)
        rw [hrl] at e4 hc4
        subst e4
        have RL := Lib.hid hrl
        have RI := Lib.hid hri
        have LR := Lib.hid (show Lies g4 0 root w4 from fun k x hk => by rw [Nat.zero_add]; exact hcell k x hk)
        clear hrl hri hcell R4
        have q61 := D4.out.c61
        rw [HM.out] at q61
        have q60 := D4.out.c60
        have q58 := D4.out.c58
        have q8 := D4.out.c8
        have f60 := leF_range HI.out 8 72
        obtain ⟨x60, h60⟩ : ∃ x, x = leF b 72 8 := ⟨_, rfl⟩
        obtain ⟨x58, h58⟩ : ∃ x, x = leF b 64 4 := ⟨_, rfl⟩
        obtain ⟨x8, h8⟩ : ∃ x, x = leF b 8 4 := ⟨_, rfl⟩
        have H60 := Lib.hid h60
        have H58 := Lib.hid h58
        have H8 := Lib.hid h8
        rw [← h60] at q60 f60
        rw [← h58] at q58
        rw [← h8] at q8
        clear h60 h58 h8
        obtain ⟨f60a, f60b⟩ := f60
        go_region_held3 (fun w' => w'.cell? ⟨g, 61, none⟩ = some (.int .u16 m) ∧ w'.cell? ⟨g, 60, none⟩ = some (.int .u64 x60) ∧ w'.cell? ⟨g, 58, none⟩ = some (.int .u32 x58) ∧ w'.cell? ⟨g, 8, none⟩ = some (.int .u32 x8)) (go_keep)
          (first | (go_at_call 55; first | ((with_reducible refine (hex_at g4 0 32 c4 root _ RL.out (by decide) hc4 RI.out (LR.out.later (below_drew (Below.refl _ _)))).mono ?_); rintro e w5 ⟨rfl, hd5⟩; have B5 := Lib.hid (below_then (below_drew (Below.refl w4.heap.size w4)) (by simp) (drawn_below hd5)); have D5 := Lib.hid (D4.out.later B5.out); obtain ⟨qa1, qa2, qa3, qa4⟩ := D5.out.four HM.out H60.out H58.out H8.out; clear hd5) | ((with_reducible refine (hex_at g 62 m 256 s _ SL.out (by omega) (by omega) IS.out (LS.out.later B36.out)).mono ?_); rintro e w7 ⟨rfl, hd7⟩; have D7 := Lib.hid (D6.out.later (drawn_below hd7)); obtain ⟨qc1, qc2, qc3, qc4⟩ := D7.out.four HM.out H60.out H58.out H8.out; clear hd7)) | (go_at_call 53; (with_reducible refine (trim53 g 26 32 32 ((b.drop 32).take 32) _ (by rw [List.length_take, List.length_drop, HB.out]; omega) (by decide) (by decide) D5.out.alg).mono ?_); rintro e w6 ⟨rfl, hd6⟩; have D6 := Lib.hid (D5.out.later hd6); have B36 := Lib.hid (below_then B4.out B4.out.size (below_then B5.out B5.out.size hd6)); obtain ⟨qb1, qb2, qb3, qb4⟩ := D6.out.four HM.out H60.out H58.out H8.out; clear hd6))
        go_wp2
        go_ret2
        have he : errOf b = none := by
          unfold errOf
          rw [if_neg (by rw [HB.out]; omega), if_neg (by rw [HSG.out]; decide), if_neg (by rw [HM.out]; omega), if_neg (by rw [HB.out]; omega)]
        refine ⟨below_alloc D7.out.bel _, ?_⟩
        rw [he]
        refine ⟨_, 78, rfl, ?_⟩
        rw [blk_new]
        unfold infoCells hexS rootOf algOf
        rw [← SE.out, ← BE.out, ← RO.out, ← H60.out, ← H58.out, ← H8.out]
  | false =>
    unfold isVer at hver
    have HSG := Lib.hid (show isVer b = false from hver)
    have hE2 := cell_later D2.out.bel (HE.out 2 (by decide))
    go_wp2_with (first | (go_at_call 53; (with_reducible refine (trim53 g 0 8 8 (b.take 8) _ (by rw [List.length_take, HB.out]; omega) (by decide) (by decide) D2.out.sig).mono ?_); rintro e w3 ⟨rfl, hb3⟩; have B3 := Lib.hid hb3; have D3 := Lib.hid (D2.out.later hb3); have hE3 := cell_later D3.out.bel (HE.out 2 (by decide)); clear hb3))
    go_region_held3 (fun w' => w'.cell? ⟨2, 0, none⟩ = some (E 2)) (go_keep) (fail)
    go_wp2
    go_ret2
    have he : errOf b = some 2 := by
      unfold errOf
      rw [if_neg (by rw [HB.out]; omega), if_pos HSG.out]
    refine ⟨by first | exact D3.out.bel | exact below_drew D3.out.bel, ?_⟩
    rw [he]; rfl
end Go.Proofs.YtckjbgneblfceaaDoor.Da
