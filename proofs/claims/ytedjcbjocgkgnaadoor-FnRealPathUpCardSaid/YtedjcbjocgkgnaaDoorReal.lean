/- The contracts of the path that stands behind a name, and of what the laws ask of it. -/
import Derived.Test.YtedjcbjocgkgnaaDoorSpec
import Derived.Test.YtedjcbjocgkgnaaDoorShelf
import Derived.BigQuiet
import Derived.Deep.QuietTactic
import Derived.Stop.IfaceNil
import Derived.LaidEql
namespace Go.Proofs.YtedjcbjocgkgnaaDoor.RpWalk
open Go.RowKit Go.Proofs.YtedjcbjocgkgnaaDoorW.PrintWords Go.Proofs.YtedjcbjocgkgnaaDoorW.PrintLast Go.Proofs.YtedjcbjocgkgnaaDoorW.PrintMore
open Go.Proofs.YtedjcbjocgkgnaaDoor.PFnRealPathUp Go.Proofs.YtedjcbjocgkgnaaDoor.CleanLaw
open Go.Lib.Pa
set_option linter.unusedVariables false
/-- Whether s begins with t. -/
def preB (s t : ByteArray) : Bool := decide (t.size ≤ s.size) && ((s.extract 0 t.size).toList == t.toList)
set_option maxHeartbeats 1000000 in
theorem has34 (s t : ByteArray) (w : World) :
    Calls Tryd.prog 34 #[.string s, .string t] w fun e w' => e = .returned (.bool (preB s t)) ∧ w = w' := by
  by_cases h : t.size ≤ s.size
  · have hd := Lib.hid (show preB s t = ((s.extract 0 t.size).toList == t.toList) by simp [preB, h])
    go_enter Tryd.func34, Tryd.ntmps34
    go_wp2_with fail
    go_ret
    exact ⟨ret_bool hd.out.symm, rfl⟩
  · have hd := Lib.hid (show preB s t = false by simp [preB, h])
    go_enter Tryd.func34, Tryd.ntmps34
    go_wp2_with fail
    go_ret
    exact ⟨ret_bool hd.out.symm, rfl⟩
set_option maxHeartbeats 1000000 in
theorem begins15 (s t : ByteArray) (w : World) :
    Calls Tryd.prog 15 #[.string s, .string t] w fun e w' => e = .returned (.bool (preB s t)) ∧ w = w' := by
  by_cases h : t.size ≤ s.size
  · have hd := Lib.hid (show preB s t = ((s.extract 0 t.size).toList == t.toList) by simp [preB, h])
    go_enter Tryd.func15, Tryd.ntmps15
    go_wp2_with fail
    go_ret
    exact ⟨ret_bool hd.out.symm, rfl⟩
  · have hd := Lib.hid (show preB s t = false by simp [preB, h])
    go_enter Tryd.func15, Tryd.ntmps15
    go_wp2_with fail
    go_ret
    exact ⟨ret_bool hd.out.symm, rfl⟩
set_option maxHeartbeats 1000000 in
theorem has28 (s t : ByteArray) (w : World) :
    Calls Tryd.prog 28 #[.string s, .string t] w fun e w' => e = .returned (.bool (preB s t)) ∧ w = w' := by
  go_enter Tryd.func28, Tryd.ntmps28
  go_wp2_with (first | (go_at_call 34; (with_reducible refine (has34 _ _ _).mono ?_); rintro e w' ⟨rfl, rfl⟩))
  go_ret
  exact ⟨rfl, rfl⟩
/-- The base of a path. -/
def baseB (l : List UInt8) : List UInt8 := if l.isEmpty then [46] else match (elems l).getLast? with | none => [47] | some x => x
set_option maxHeartbeats 1000000 in
theorem base14 (l : List UInt8) (w : World)  (hs : l.length ≤ 1000000):
    Calls Tryd.prog 14 #[.string (mk l)] w fun e w' => e = .returned (.string (mk (baseB l))) ∧ Below w.heap.size w w' := by
  have hel := fun W => elements_ (mk l) W (by rw [mk_size]; exact hs)
  rw [mk_data] at hel
  have hemp : (mk l).toList.isEmpty = l.isEmpty := by rw [mk_toList]
  by_cases he : l.isEmpty = true
  · have hb9 := Lib.hid (show baseB l = [46] by simp only [baseB, he, if_true])
    rw [he] at hemp
    have HE := Lib.hid hel
    clear hel
    go_enter Tryd.func14, Tryd.ntmps14
    go_wp2_with (first | (go_at_call 11; (with_reducible refine (HE.out _).mono ?_); rintro e w' ⟨v, rfl, hr, hb⟩))
    go_ret
    exact ⟨ret_string (congrArg mk hb9.out.symm), hb⟩
  · have he2 : l.isEmpty = false := by simpa using he
    rw [he2] at hemp
    have hl := elems_len l
    by_cases hz : elems l = []
    · have hb9 := Lib.hid (show baseB l = [47] by simp [baseB, he2, hz])
      rw [hz] at hel
      have HE := Lib.hid hel
      clear hel he hz hl
      go_enter Tryd.func14, Tryd.ntmps14
      go_wp2_with (first | (go_at_call 11; (with_reducible refine (HE.out _).mono ?_); rintro e w' ⟨v, rfl, hr, hb⟩; obtain ⟨A, c, hv, hc, hrd⟩ := strs_of_R hr; have hv := hv.trans rfl; subst hv; clear hrd; cases A))
      all_goals go_ret
      all_goals exact ⟨ret_string (congrArg mk hb9.out.symm), hb⟩
    · obtain ⟨x, hx⟩ : ∃ x, (elems l).getLast? = some x := by
        cases h : (elems l).getLast? with
        | none => rw [List.getLast?_eq_none_iff] at h; exact absurd h hz
        | some x => exact ⟨x, rfl⟩
      have hb9 := Lib.hid (show baseB l = x by simp [baseB, he2, hx])
      rw [List.getLast?_eq_getElem?] at hx
      have hpos : 0 < (elems l).length := List.length_pos_iff.2 hz
      generalize elems l = xs at hel hl hx hpos
      have hlen2 : xs.length ≤ 1000001 := by omega
      have hl0 : ((xs.length : Int) == 0) = false := beq_eq_false_iff_ne.mpr (by omega)
      clear he hz hl
      have HE := Lib.hid hel
      clear hel
      go_enter Tryd.func14, Tryd.ntmps14
      go_wp2_with (first | (go_at_call 11; (with_reducible refine (HE.out _).mono ?_); rintro e w' ⟨v, rfl, hr, hb⟩; obtain ⟨A, c, hv, hc, hrd⟩ := strs_of_R hr; have hv := hv.trans rfl; subst hv; obtain ⟨bb, oo, hA, hcell⟩ := hrd hpos; subst hA; have hcc := hcell _ _ hx; clear hcell hrd))
      go_ret
      exact ⟨ret_string (congrArg mk hb9.out.symm), hb⟩
/-- Whether a path lies within another. -/
def withinB (p d : List UInt8) : Bool := decide (p = d) || (decide (d = [47]) && rootedB p) || preB (mk p) (mk (d ++ [47]))
set_option maxHeartbeats 1000000 in
theorem within13 (p d : List UInt8) (w : World)  (hs : p.length ≤ 1000000) (hdl : d.length ≤ 1000000) (hw : withinB p d = true) :
    Calls Tryd.prog 13 #[.string (mk p), .string (mk d)] w fun e w' => e = .returned (.bool true) ∧ w = w' := by
  have hro := fun W => rooted_ (mk p) W (by rw [mk_size]; exact hs)
  rw [mk_data] at hro
  have hpr := fun W => begins15 (mk p) (mk (d ++ [47])) W
  have hdz : (mk d).size ≤ 1000000 := by rw [mk_size]; exact hdl
  rw [← mk_app, show mk [47] = ({ data := #[47] } : ByteArray) from rfl] at hpr
  by_cases h1 : p = d
  · have e1 : ((mk p).toList == (mk d).toList) = true := by rw [h1]; simp
    clear hw h1 hro hpr
    go_enter Tryd.func13, Tryd.ntmps13
    go_wp2_with fail
    go_ret
    exact ⟨rfl, rfl⟩
  · have e1 : ((mk p).toList == (mk d).toList) = false := by rw [mk_toList, mk_toList]; simpa using h1
    by_cases h2 : d = [47]
    · have e2 : ((mk d).toList == [47]) = true := by rw [h2, mk_toList]; rfl
      have e3 : ((mk p).toList == [47]) = false := by rw [mk_toList]; rw [h2] at h1; simpa using h1
      cases h3 : rootedB p with
      | true =>
        rw [h3] at hro
        have HR := Lib.hid hro
        clear hw hpr hro h3 h1 h2
        go_enter Tryd.func13, Tryd.ntmps13
        go_wp2_with (first | (go_at_call 9; (with_reducible refine (HR.out _).mono ?_); rintro e w' ⟨rfl, rfl⟩))
        go_ret
        exact ⟨rfl, rfl⟩
      | false =>
        have h4 : preB (mk p) (mk d ++ { data := #[47] }) = true := by
          rw [show ({ data := #[47] } : ByteArray) = mk [47] from rfl, mk_app]; simpa [withinB, h1, h3] using hw
        rw [h4] at hpr
        rw [h3] at hro
        have HR := Lib.hid hro
        have HP := Lib.hid hpr
        clear hw hpr hro h3 h1 h2 h4
        go_enter Tryd.func13, Tryd.ntmps13
        go_wp2_with (first | (go_at_call 9; (with_reducible refine (HR.out _).mono ?_); rintro e w' ⟨rfl, rfl⟩) | (go_at_call 15; (with_reducible refine (HP.out _).mono ?_); rintro e w' ⟨rfl, rfl⟩))
        go_ret
        exact ⟨rfl, rfl⟩
    · have e2 : ((mk d).toList == [47]) = false := by rw [mk_toList]; simpa using h2
      have h4 : preB (mk p) (mk d ++ { data := #[47] }) = true := by
        rw [show ({ data := #[47] } : ByteArray) = mk [47] from rfl, mk_app]; simpa [withinB, h1, h2] using hw
      rw [h4] at hpr
      have HP := Lib.hid hpr
      clear hw hpr hro h1 h2 h4
      go_enter Tryd.func13, Tryd.ntmps13
      go_wp2_with (first | (go_at_call 15; (with_reducible refine (HP.out _).mono ?_); rintro e w' ⟨rfl, rfl⟩))
      go_ret
      exact ⟨rfl, rfl⟩

theorem cell_two (w : World) (x y : Value) (t : TypeId) : ∀ j u, [x, y][j]? = some u → (w.alloc (.cells #[x, y] t)).cell? ⟨w.heap.size, 0 + j, none⟩ = some u := by
  intro j u h
  match j, h with
  | 0, h => simp at h; subst h; simp
  | 1, h => simp at h; subst h; simp
theorem joinTwo (a b : ByteArray) (W : World) (ha : a.size ≤ 1000000) (hb : b.size ≤ 1000000) :
    Calls Tryd.prog 27 #[.slice (some ⟨W.heap.size, 0, none⟩) 2 2] (W.alloc (.cells #[.string a, .string b] 9)) fun e w' => e = .returned (.string (mk (join [a.data.toList, b.data.toList]))) ∧ Below W.heap.size W w' := by
  refine (Tryd.path_Join_rules W.heap.size 0 2 [a, b] _ ?_ ?_ ?_).mono ?_
  · intro j x h
    exact cell_two W (.string a) (.string b) 9 j (.string x) (by
      match j, h with
      | 0, h => simp at h; subst h; rfl
      | 1, h => simp at h; subst h; rfl)
  · simp
  · simp [lens]; omega
  · rintro e w' ⟨rfl, hb⟩
    refine ⟨rfl, below_then (below_alloc (Below.refl _ _) _) (by simp) hb⟩
theorem cleanEls_len (l : List UInt8) : (cleanEls l).length ≤ l.length + 1 := by rw [← clean_eq_cleanEls]; exact clean_length_le_succ l
theorem clean26 (l : List UInt8) (W : World) (h : l.length ≤ 1000000) :
    Calls Tryd.prog 26 #[.string (mk l)] W fun e w' => e = .returned (.string (mk (cleanEls l))) ∧ Below W.heap.size W w' := by
  have h := Tryd.path_Clean_rules (mk l) W (by rw [mk_size]; omega)
  rw [mk_data] at h
  exact h
set_option maxHeartbeats 1000000 in
theorem real22 (p n : List UInt8) (g o : Nat) (w : World) (hg : g < w.heap.size) (hc : w.cell? ⟨g, o + 1, none⟩ = some (.string (mk p))) (hp : p.length ≤ 100000) (hn : n.length ≤ 100000) (hpre : preB (mk (full p n)) (mk (cleanEls p)) = true) :
    Calls Tryd.prog 22 #[.pointer (some ⟨g, o, none⟩), .string (mk n)] w fun e w' => e = .returned (.tuple #[.string (mk (full p n)), .nilIface]) ∧ Below w.heap.size w w' := by
  have h1 := fun W => clean26 p W (by omega)
  have hl := cleanEls_len p
  have h2 := fun W => joinTwo (mk (cleanEls p)) (mk n) W (by rw [mk_size]; omega) (by rw [mk_size]; omega)
  have hjl := join_length_le [cleanEls p, n]
  rw [mk_data, mk_data] at h2
  have h3 := fun W => clean26 (join [cleanEls p, n]) W (by simp [lens] at hjl; omega)
  rw [show cleanEls (join [cleanEls p, n]) = full p n from rfl] at h3
  have h4 := fun W => has28 (mk (full p n)) (mk (cleanEls p)) W
  rw [hpre] at h4
  have H1 := Lib.hid h1
  have H2 := Lib.hid h2
  have H3 := Lib.hid h3
  have H4 := Lib.hid h4
  clear h1 h2 h3 h4 hl hjl hpre
  go_enter Tryd.func22, Tryd.ntmps22
  go_wp2_with (first | (go_at_call 27; (with_reducible refine (H2.out _).mono ?_); rintro e w2 ⟨rfl, hb2⟩) | (go_at_call 28; (with_reducible refine (H4.out _).mono ?_); rintro e w' ⟨rfl, rfl⟩) | (go_at_call 26; first | ((with_reducible refine (H1.out _).mono ?_); rintro e w1 ⟨rfl, hb1⟩) | ((with_reducible refine (H3.out _).mono ?_); rintro e w3 ⟨rfl, hb3⟩)))
  go_ret2
  exact ⟨rfl, below_then (below_then hb1 hb1.size hb2) (Nat.le_trans hb1.size hb2.size) hb3⟩
theorem ta_nil (w : World) : (Instr.typeAssert .nilIface 45 64 true).run Tryd.prog w = .ok (.tuple #[.pointer none, .bool false]) w := by kernel_rfl
theorem ta_err (a : Addr) (w : World) : (Instr.typeAssert (.iface 78 (.pointer (some a))) 45 64 true).run Tryd.prog w = .ok (.tuple #[.pointer none, .bool false]) w := by kernel_rfl
theorem isIf45 : Tryd.prog.isIface 45 = true := by kernel_rfl
set_option maxHeartbeats 1000000 in
theorem kind_nil (w : World) :
    Calls Tryd.prog 23 #[.nilIface] w fun e w' => e = .returned (.int .i64 0) ∧ w = w' := by
  have h1 := ta_nil
  have h2 := isIf45
  go_enter Tryd.func23, Tryd.ntmps23
  go_wp2_with fail
  go_ret
  exact ⟨rfl, rfl⟩
theorem comp78 : (Tryd.prog.info? 78).map (·.comparable) = some true := by kernel_rfl
theorem size95 : (Tryd.prog.info? 95).map (·.size) = some 1 := by kernel_rfl
set_option maxHeartbeats 1000000 in
theorem kind_notExist (a : Addr) (w : World) (hg : w.cell? ⟨0, 0, none⟩ = some (.iface 78 (.pointer (some a)))) :
    Calls Tryd.prog 23 #[.iface 78 (.pointer (some a))] w fun e w' => e = .returned (.int .i64 1) ∧ w = w' := by
  have h1 := ta_err a
  have h2 := isIf45
  obtain ⟨i, hi, hcmp⟩ := Option.map_eq_some_iff.1 comp78
  obtain ⟨j, hj, _⟩ := Option.map_eq_some_iff.1 size95
  have h3 := fun w => run_eql_iface_ptr_same w a Tryd.underlying45 Tryd.underlying78 hi hcmp hj
  clear hi hcmp hj
  go_enter Tryd.func23, Tryd.ntmps23
  go_wp2_with fail
  go_ret
  exact ⟨rfl, rfl⟩

set_option maxHeartbeats 1000000 in
theorem real22out (p n : List UInt8) (g o : Nat) (v : Value) (w : World) (hg : g < w.heap.size) (hc : w.cell? ⟨g, o + 1, none⟩ = some (.string (mk p))) (h0 : w.cell? ⟨0, 0, none⟩ = some v) (hp : p.length ≤ 100000) (hn : n.length ≤ 100000) (hpre : preB (mk (full p n)) (mk (cleanEls p)) = false) :
    Calls Tryd.prog 22 #[.pointer (some ⟨g, o, none⟩), .string (mk n)] w fun e w' => e = .returned (.tuple #[.string (mk n), v]) ∧ Below w.heap.size w w' := by
  have h1 := fun W => clean26 p W (by omega)
  have hl := cleanEls_len p
  have h2 := fun W => joinTwo (mk (cleanEls p)) (mk n) W (by rw [mk_size]; omega) (by rw [mk_size]; omega)
  have hjl := join_length_le [cleanEls p, n]
  rw [mk_data, mk_data] at h2
  have h3 := fun W => clean26 (join [cleanEls p, n]) W (by simp [lens] at hjl; omega)
  rw [show cleanEls (join [cleanEls p, n]) = full p n from rfl] at h3
  have h4 := fun W => has28 (mk (full p n)) (mk (cleanEls p)) W
  rw [hpre] at h4
  have H1 := Lib.hid h1
  have H2 := Lib.hid h2
  have H3 := Lib.hid h3
  have H4 := Lib.hid h4
  have H0 := Lib.hid h0
  clear h1 h2 h3 h4 hl hjl hpre h0
  go_enter Tryd.func22, Tryd.ntmps22
  go_wp2_with (first | (go_at_call 27; (with_reducible refine (H2.out _).mono ?_); rintro e w2 ⟨rfl, hb2⟩) | (go_at_call 28; (with_reducible refine (H4.out _).mono ?_); rintro e w' ⟨rfl, rfl⟩) | (go_at_call 26; first | ((with_reducible refine (H1.out _).mono ?_); rintro e w1 ⟨rfl, hb1⟩) | ((with_reducible refine (H3.out _).mono ?_); rintro e w3 ⟨rfl, hb3⟩; have hbb := below_then (below_then hb1 hb1.size hb2) (Nat.le_trans hb1.size hb2.size) hb3; have hv := cell_later hbb H0.out; have HBB := Lib.hid hbb; clear hbb hb1 hb2 hb3)))
  go_quiet (fail)
  go_wp2
  go_ret2
  exact ⟨rfl, pw_below_drewN HBB.out _⟩
set_option maxHeartbeats 1000000 in
theorem new21 (w : World) : Calls Tryd.prog 21 #[] w fun e w' => ∃ g, e = .returned (.pointer (some ⟨g, 0, none⟩)) ∧ Below w.heap.size w w' := by
  go_enter Tryd.func21, Tryd.ntmps21
  go_wp2_with fail
  go_ret
  exact ⟨_, rfl, below_alloc (Below.refl _ _) _⟩
set_option maxHeartbeats 1000000 in
theorem new20 (a : Addr) (p : ByteArray) (w : World) : Calls Tryd.prog 20 #[.pointer (some a), .string p] w fun e w' => ∃ g, e = .returned (.pointer (some ⟨g, 0, none⟩)) ∧ w'.cell? ⟨g, 0 + 1, none⟩ = some (.string p) ∧ g < w'.heap.size ∧ Below w.heap.size w w' := by
  go_enter Tryd.func20, Tryd.ntmps20
  go_wp2_with fail
  go_ret
  exact ⟨_, rfl, by simp, by simp, below_alloc (Below.refl _ _) _⟩
set_option maxHeartbeats 1000000 in
theorem impl12 (p n : List UInt8) (w : World) (hp : p.length ≤ 100000) (hn : n.length ≤ 100000) (hpre : preB (mk (full p n)) (mk (cleanEls p)) = true) :
    Calls Tryd.prog 12 #[.string (mk p), .string (mk n)] w fun e w' => e = .returned (.tuple #[.string (mk (full p n)), .int .i64 0]) ∧ Below w.heap.size w w' := by
  have h1 := Lib.hid (fun g o W hg hc => real22 p n g o W hg hc hp hn hpre)
  clear hpre
  go_enter Tryd.func12, Tryd.ntmps12
  go_wp2_with (first | (go_at_call 21; (with_reducible refine (new21 _).mono ?_); rintro e w1 ⟨g1, rfl, hb1⟩) | (go_at_call 20; (with_reducible refine (new20 _ _ _).mono ?_); rintro e w2 ⟨g2, rfl, hc2, hg2, hb2⟩) | (go_at_call 22; (with_reducible refine (h1.out _ _ _ hg2 hc2).mono ?_); rintro e w3 ⟨rfl, hb3⟩) | (go_at_call 23; (with_reducible refine (kind_nil _).mono ?_); rintro e w' ⟨rfl, rfl⟩))
  go_ret2
  exact ⟨rfl, below_then (below_then hb1 hb1.size hb2) (Nat.le_trans hb1.size hb2.size) hb3⟩
set_option maxHeartbeats 1000000 in
theorem impl12out (p n : List UInt8) (a : Addr) (w : World) (h0 : w.cell? ⟨0, 0, none⟩ = some (.iface 78 (.pointer (some a)))) (hp : p.length ≤ 100000) (hn : n.length ≤ 100000) (hpre : preB (mk (full p n)) (mk (cleanEls p)) = false) :
    Calls Tryd.prog 12 #[.string (mk p), .string (mk n)] w fun e w' => e = .returned (.tuple #[.string (mk n), .int .i64 1]) ∧ Below w.heap.size w w' := by
  have h1 := Lib.hid (fun g o W hg hc h0 => real22out p n g o (.iface 78 (.pointer (some a))) W hg hc h0 hp hn hpre)
  have H0 := Lib.hid h0
  clear hpre h0
  go_enter Tryd.func12, Tryd.ntmps12
  go_wp2_with (first | (go_at_call 21; (with_reducible refine (new21 _).mono ?_); rintro e w1 ⟨g1, rfl, hb1⟩) | (go_at_call 20; (with_reducible refine (new20 _ _ _).mono ?_); rintro e w2 ⟨g2, rfl, hc2, hg2, hb2⟩; have hbb := below_then hb1 hb1.size hb2) | (go_at_call 22; (with_reducible refine (h1.out _ _ _ hg2 hc2 (cell_later hbb H0.out)).mono ?_); rintro e w3 ⟨rfl, hb3⟩; have hbc := below_then hbb hbb.size hb3) | (go_at_call 23; (with_reducible refine (kind_notExist a _ (cell_later hbc H0.out)).mono ?_); rintro e w' ⟨rfl, rfl⟩))
  go_ret2
  exact ⟨rfl, hbc⟩
end Go.Proofs.YtedjcbjocgkgnaaDoor.RpWalk
