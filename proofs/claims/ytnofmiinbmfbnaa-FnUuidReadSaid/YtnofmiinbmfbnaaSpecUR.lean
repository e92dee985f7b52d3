/-
  spec.UuidRead.
-/
import Derived.Test.YtnofmiinbmfbnaaSpecRead
namespace Go.Proofs.Ytnofmiinbmfbnaa
open Go.RowKit
set_option linter.unusedVariables false
def specR (l : List UInt8) : Option (List UInt8) :=
  if 9 < l.length ∧ (l.take 9).map lowC = urn9 then plainO (l.drop 9)
  else if 2 < l.length ∧ l.getD 0 0 = 123 ∧ l.getD (l.length - 1) 0 = 125 then plainO ((l.drop 1).take (l.length - 2)) else plainO l
def specT (l : List UInt8) : Bool := if 9 < l.length ∧ (l.take 9).map lowC = urn9 then decide (l.take 9 = urn9) else true
def SRPost (r : Option (List UInt8)) (t : Bool) (w : World) (e : Ending) (w' : World) : Prop :=
  (∀ out, r = some out → (∃ v, e = .returned (.tuple #[v, .bool true, .bool t]) ∧ NewBytes w w' v out) ∧ Below w.heap.size w w') ∧
  (r = none → (∃ v, e = .returned (.tuple #[v, .bool false, .bool t])) ∧ Below w.heap.size w w')
theorem SRPost.yes {r : Option (List UInt8)} {t : Bool} {w : World} {e : Ending} {w' : World} (out : List UInt8) (h : r = some out) (v : Value) (h1 : e = .returned (.tuple #[v, .bool true, .bool t])) (h2 : NewBytes w w' v out) (h3 : Below w.heap.size w w') : SRPost r t w e w' :=
  ⟨(fun o ho => by rw [h] at ho; injection ho with ho; subst ho; exact ⟨⟨v, h1, h2⟩, h3⟩), (fun h' => by rw [h] at h'; cases h')⟩
theorem SRPost.no {r : Option (List UInt8)} {t : Bool} {w : World} {e : Ending} {w' : World} (h : r = none) (v : Value) (h1 : e = .returned (.tuple #[v, .bool false, .bool t])) (h3 : Below w.heap.size w w') : SRPost r t w e w' :=
  ⟨(fun o ho => by rw [h] at ho; cases ho), fun _ => ⟨⟨v, h1⟩, h3⟩⟩
theorem ext_list (S : ByteArray) (a b : Nat) : (S.extract a b).data.toList = (S.data.toList.drop a).take (b - a) := by
  simp [ByteArray.data_extract]
theorem str_eq (S : ByteArray) (l k : List UInt8) (h : S.data.toList = l) : (S.toList == k) = decide (l = k) := by
  rw [Bool.eq_iff_iff, beq_iff_eq, decide_eq_true_eq, ← h, ByteArray.toList_eq]
set_option maxRecDepth 100000 in
set_option maxHeartbeats 400000 in
theorem specA (S : ByteArray) (n : Nat) (hn : S.size = n) (h9 : 9 < n) (hm : n ≤ 100000) (hu : (S.data.toList.take 9).map lowC = urn9) (w : World) :
    Calls Try.prog 20 #[.string S] w (SRPost (plainO (S.data.toList.drop 9)) (decide (S.data.toList.take 9 = urn9)) w) := by
  have hl : S.data.toList.length = n := by rw [← hn]; simp
  obtain ⟨S9, h9e⟩ : ∃ S9, S9 = S.extract 0 9 := ⟨_, rfl⟩
  have l9 : S9.data.toList = S.data.toList.take 9 := by rw [h9e, ext_list]; simp
  have z9 : S9.size = 9 := by
    have : S9.data.toList.length = 9 := by rw [l9, List.length_take, hl]; omega
    simpa using this
  obtain ⟨L9, hL9⟩ : ∃ L9 : ByteArray, L9 = ⟨(S9.data.toList.map lowC).toArray⟩ := ⟨_, rfl⟩
  have LO := Lib.hid (fun w => hL9 ▸ lower_any S9 (by omega) (by omega) w)
  have tb : (L9.toList == [117, 114, 110, 58, 117, 117, 105, 100, 58]) = true := by
    rw [str_eq L9 urn9 _ (by rw [hL9, map_str, l9, hu])]
    exact decide_eq_true rfl
  obtain ⟨t, ht⟩ : ∃ t, t = decide (S.data.toList.take 9 = urn9) := ⟨_, rfl⟩
  have tt : (S9.toList == [117, 114, 110, 58, 117, 117, 105, 100, 58]) = t := by rw [str_eq S9 _ _ l9, ht]; rfl
  obtain ⟨R, hR⟩ : ∃ R, R = plainO (S.data.toList.drop 9) := ⟨_, rfl⟩
  have PX := Lib.hid (show ∀ w, Calls Try.prog 39 #[.string (S.extract 9 n)] w (HexPost R w) from fun w => by
    have := splain_any (S.extract 9 n) w
    rw [ext_list, List.take_of_length_le (by rw [List.length_drop, hl]; exact Nat.le_refl _), ← hR] at this
    exact this)
  rw [← ht, ← hR]
  have i9 : (9 : Int) < (n : Int) := by omega
  have E9 := h9e.symm
  have Z9 := Lib.hid z9
  clear hu l9 z9 hL9 ht hR hm h9 hl h9e
  go_enter Try.func20, Try.ntmps20
  go_wp2_with fail
  refine (LO.out w).mono ?_
  rintro e w1 ⟨rfl, b1⟩
  have BU := Lib.hid b1
  clear b1
  go_wp2_with fail
  refine (PX.out w1).mono ?_
  intro e w2 h2
  cases hr : R with
  | some out =>
    obtain ⟨⟨v, rfl, g, cap, hv, hg, hy⟩, b2⟩ := h2.1 out hr
    have HV := Lib.hid hv
    have HG := Lib.hid hg
    have HY := Lib.hid hy
    have B2 := Lib.hid b2
    have R2 := Lib.hid hr
    clear h2 hv hg hy b2 hr
    go_wp2
    go_quiet (fail)
    go_wp2
    go_ret3
    exact SRPost.yes out R2.out v rfl ⟨g, cap, HV.out, Nat.le_trans BU.out.size HG.out, HY.out.drewN _⟩ (below_drewN (BU.out.trans (B2.out.mono BU.out.size)) _)
  | none =>
    obtain ⟨⟨v, rfl⟩, b2⟩ := h2.2 hr
    have B2 := Lib.hid b2
    have R2 := Lib.hid hr
    clear h2 b2 hr
    go_wp2
    go_quiet (fail)
    go_wp2
    go_ret3
    exact SRPost.no R2.out v rfl (below_drewN (BU.out.trans (B2.out.mono BU.out.size)) _)
set_option maxRecDepth 100000 in
set_option maxHeartbeats 400000 in
theorem specBS (S : ByteArray) (m : Nat) (hn : S.size = m + 1) (h9 : m + 1 ≤ 9) (hm : m + 1 ≤ 100000) (w : World)
    (h2 : 2 ≤ m) (hb0 : S.data.toList.getD 0 0 = 123) (hb1 : S.data.toList.getD m 0 = 125) :
    Calls Try.prog 20 #[.string S] w (SRPost (plainO ((S.data.toList.drop 1).take (m - 1))) true w) := by
  have hl : S.data.toList.length = m + 1 := by rw [← hn]; simp
  have i9 : decide ((9 : Int) < (m : Int) + 1) = false := decide_eq_false (by omega)
  obtain ⟨x0, e0⟩ : ∃ x, x = S.data.toList.getD 0 0 := ⟨_, rfl⟩
  obtain ⟨x1, e1⟩ : ∃ x, x = S.data.toList.getD m 0 := ⟨_, rfl⟩
  have j0 : ∀ w, (Instr.index 9 (.string S) (.int .i64 0)).run Try.prog w = .ok (.int .u8 (x0.toNat : Int)) w := fun w => by rw [e0]; exact str_index S 0 (by omega) w
  have j1 : ∀ w, (Instr.index 9 (.string S) (.int .i64 (m : Int))).run Try.prog w = .ok (.int .u8 (x1.toNat : Int)) w := fun w => by rw [e1]; exact str_index S m (by omega) w
  obtain ⟨R, hR⟩ : ∃ R, R = plainO ((S.data.toList.drop 1).take (m - 1)) := ⟨_, rfl⟩
  have PX := Lib.hid (show ∀ w, Calls Try.prog 39 #[.string (S.extract 1 m)] w (HexPost R w) from fun w => by
    have := splain_any (S.extract 1 m) w
    rw [ext_list, ← hR] at this
    exact this)
  rw [← hR]
  have t0 : ((x0.toNat : Int) == 123) = true := by rw [e0, hb0]; rfl
  have t1 : ((x1.toNat : Int) == 125) = true := by rw [e1, hb1]; rfl
  have i2 : (2 : Int) < (m : Int) + 1 := by omega
  have mi : (0 : Int) ≤ (m : Int) := by omega
  have mb : (m : Int) ≤ 100000 := by omega
  have mi1 : (1 : Int) ≤ (m : Int) := by omega
  clear hb0 hb1 hR hm h9 hl h2 e0 e1
  go_enter Try.func20, Try.ntmps20
  have BU := Lib.hid (Below.refl w.heap.size w)
  go_wp2_with fail
  refine (PX.out w).mono ?_
  intro e w2 h2
  cases hr : R with
  | some out =>
    obtain ⟨⟨v, rfl, g, cap, hv, hg, hy⟩, b2⟩ := h2.1 out hr
    have HV := Lib.hid hv
    have HG := Lib.hid hg
    have HY := Lib.hid hy
    have B2 := Lib.hid b2
    have R2 := Lib.hid hr
    clear h2 hv hg hy b2 hr
    go_wp2
    go_ret3
    exact SRPost.yes out R2.out v rfl ⟨g, cap, HV.out, Nat.le_trans BU.out.size HG.out, HY.out⟩ (BU.out.trans (B2.out.mono BU.out.size))
  | none =>
    obtain ⟨⟨v, rfl⟩, b2⟩ := h2.2 hr
    have B2 := Lib.hid b2
    have R2 := Lib.hid hr
    clear h2 b2 hr
    go_wp2
    go_ret3
    exact SRPost.no R2.out v rfl (BU.out.trans (B2.out.mono BU.out.size))
set_option maxRecDepth 100000 in
set_option maxHeartbeats 400000 in
theorem specBL (S : ByteArray) (m : Nat) (hn : S.size = m + 1) (h9 : 9 < m + 1) (hm : m + 1 ≤ 100000) (hu : (S.data.toList.take 9).map lowC ≠ urn9) (w : World)
    (h2 : 2 ≤ m) (hb0 : S.data.toList.getD 0 0 = 123) (hb1 : S.data.toList.getD m 0 = 125) :
    Calls Try.prog 20 #[.string S] w (SRPost (plainO ((S.data.toList.drop 1).take (m - 1))) true w) := by
  have hl : S.data.toList.length = m + 1 := by rw [← hn]; simp
  obtain ⟨S9, h9e⟩ : ∃ S9, S9 = S.extract 0 9 := ⟨_, rfl⟩
  have l9 : S9.data.toList = S.data.toList.take 9 := by rw [h9e, ext_list]; simp
  have z9 : S9.size = 9 := by
    have : S9.data.toList.length = 9 := by rw [l9, List.length_take, hl]; omega
    simpa using this
  obtain ⟨L9, hL9⟩ : ∃ L9 : ByteArray, L9 = ⟨(S9.data.toList.map lowC).toArray⟩ := ⟨_, rfl⟩
  have LO := Lib.hid (fun w => hL9 ▸ lower_any S9 (by omega) (by omega) w)
  have tb : (L9.toList == [117, 114, 110, 58, 117, 117, 105, 100, 58]) = false := by
    rw [str_eq L9 _ _ (by rw [hL9, map_str, l9])]
    exact decide_eq_false hu
  have i9 : (9 : Int) < (m : Int) + 1 := by omega
  have E9 := h9e.symm
  clear hu l9 z9 hL9 h9e
  obtain ⟨x0, e0⟩ : ∃ x, x = S.data.toList.getD 0 0 := ⟨_, rfl⟩
  obtain ⟨x1, e1⟩ : ∃ x, x = S.data.toList.getD m 0 := ⟨_, rfl⟩
  have j0 : ∀ w, (Instr.index 9 (.string S) (.int .i64 0)).run Try.prog w = .ok (.int .u8 (x0.toNat : Int)) w := fun w => by rw [e0]; exact str_index S 0 (by omega) w
  have j1 : ∀ w, (Instr.index 9 (.string S) (.int .i64 (m : Int))).run Try.prog w = .ok (.int .u8 (x1.toNat : Int)) w := fun w => by rw [e1]; exact str_index S m (by omega) w
  obtain ⟨R, hR⟩ : ∃ R, R = plainO ((S.data.toList.drop 1).take (m - 1)) := ⟨_, rfl⟩
  have PX := Lib.hid (show ∀ w, Calls Try.prog 39 #[.string (S.extract 1 m)] w (HexPost R w) from fun w => by
    have := splain_any (S.extract 1 m) w
    rw [ext_list, ← hR] at this
    exact this)
  rw [← hR]
  have t0 : ((x0.toNat : Int) == 123) = true := by rw [e0, hb0]; rfl
  have t1 : ((x1.toNat : Int) == 125) = true := by rw [e1, hb1]; rfl
  have i2 : (2 : Int) < (m : Int) + 1 := by omega
  have mi : (0 : Int) ≤ (m : Int) := by omega
  have mb : (m : Int) ≤ 100000 := by omega
  have mi1 : (1 : Int) ≤ (m : Int) := by omega
  clear hb0 hb1 hR hm h9 hl h2 e0 e1
  go_enter Try.func20, Try.ntmps20
  go_wp2_with fail
  refine (LO.out w).mono ?_
  rintro e w1 ⟨rfl, b1⟩
  have BU := Lib.hid b1
  clear b1
  go_wp2_with fail
  refine (PX.out w1).mono ?_
  intro e w2 h2
  cases hr : R with
  | some out =>
    obtain ⟨⟨v, rfl, g, cap, hv, hg, hy⟩, b2⟩ := h2.1 out hr
    have HV := Lib.hid hv
    have HG := Lib.hid hg
    have HY := Lib.hid hy
    have B2 := Lib.hid b2
    have R2 := Lib.hid hr
    clear h2 hv hg hy b2 hr
    go_wp2
    go_ret3
    exact SRPost.yes out R2.out v rfl ⟨g, cap, HV.out, Nat.le_trans BU.out.size HG.out, HY.out⟩ (BU.out.trans (B2.out.mono BU.out.size))
  | none =>
    obtain ⟨⟨v, rfl⟩, b2⟩ := h2.2 hr
    have B2 := Lib.hid b2
    have R2 := Lib.hid hr
    clear h2 b2 hr
    go_wp2
    go_ret3
    exact SRPost.no R2.out v rfl (BU.out.trans (B2.out.mono BU.out.size))
set_option maxRecDepth 100000 in
set_option maxHeartbeats 400000 in
theorem specCS (S : ByteArray) (m : Nat) (hn : S.size = m + 1) (h9 : m + 1 ≤ 9) (hm : m + 1 ≤ 100000) (w : World)
    (hb : ¬ (2 ≤ m ∧ S.data.toList.getD 0 0 = 123 ∧ S.data.toList.getD m 0 = 125)) :
    Calls Try.prog 20 #[.string S] w (SRPost (plainO S.data.toList) true w) := by
  have hl : S.data.toList.length = m + 1 := by rw [← hn]; simp
  have i9 : decide ((9 : Int) < (m : Int) + 1) = false := decide_eq_false (by omega)
  obtain ⟨x0, e0⟩ : ∃ x, x = S.data.toList.getD 0 0 := ⟨_, rfl⟩
  obtain ⟨x1, e1⟩ : ∃ x, x = S.data.toList.getD m 0 := ⟨_, rfl⟩
  have j0 : ∀ w, (Instr.index 9 (.string S) (.int .i64 0)).run Try.prog w = .ok (.int .u8 (x0.toNat : Int)) w := fun w => by rw [e0]; exact str_index S 0 (by omega) w
  have j1 : ∀ w, (Instr.index 9 (.string S) (.int .i64 (m : Int))).run Try.prog w = .ok (.int .u8 (x1.toNat : Int)) w := fun w => by rw [e1]; exact str_index S m (by omega) w
  obtain ⟨R, hR⟩ : ∃ R, R = plainO S.data.toList := ⟨_, rfl⟩
  have PX := Lib.hid (show ∀ w, Calls Try.prog 39 #[.string S] w (HexPost R w) from fun w => by rw [hR]; exact splain_any S w)
  rw [← hR]
  have mi : (0 : Int) ≤ (m : Int) := by omega
  have mb : (m : Int) ≤ 100000 := by omega
  have DD : decide ((2 : Int) < (m : Int) + 1) = false ∨ (decide ((2 : Int) < (m : Int) + 1) = true ∧ (((x0.toNat : Int) == 123) = false ∨ (((x0.toNat : Int) == 123) = true ∧ ((x1.toNat : Int) == 125) = false))) := by
    by_cases h2 : 2 ≤ m
    · right
      refine ⟨decide_eq_true (by omega), ?_⟩
      by_cases h0 : x0 = 123
      · right
        refine ⟨by rw [h0]; rfl, ?_⟩
        rw [beq_eq_false_iff_ne]
        intro h1
        exact hb ⟨h2, by rw [← e0]; exact h0, by rw [← e1]; exact UInt8.toNat_inj.1 (by show _ = 125; omega)⟩
      · left
        rw [beq_eq_false_iff_ne]
        intro h1
        exact h0 (UInt8.toNat_inj.1 (by show _ = 123; omega))
    · left; exact decide_eq_false (by omega)
  clear hb hR hm h9 hl e0 e1
  rcases DD with t2 | ⟨t2, t0 | ⟨t0, t1⟩⟩
  all_goals
    go_enter Try.func20, Try.ntmps20
    have BU := Lib.hid (Below.refl w.heap.size w)
    go_wp2_with fail
    refine (PX.out w).mono ?_
    intro e w2 h2
    cases hr : R with
    | some out =>
      obtain ⟨⟨v, rfl, g, cap, hv, hg, hy⟩, b2⟩ := h2.1 out hr
      have HV := Lib.hid hv
      have HG := Lib.hid hg
      have HY := Lib.hid hy
      have B2 := Lib.hid b2
      have R2 := Lib.hid hr
      clear h2 hv hg hy b2 hr
      go_wp2
      go_ret3
      exact SRPost.yes out R2.out v rfl ⟨g, cap, HV.out, Nat.le_trans BU.out.size HG.out, HY.out⟩ (BU.out.trans (B2.out.mono BU.out.size))
    | none =>
      obtain ⟨⟨v, rfl⟩, b2⟩ := h2.2 hr
      have B2 := Lib.hid b2
      have R2 := Lib.hid hr
      clear h2 b2 hr
      go_wp2
      go_ret3
      exact SRPost.no R2.out v rfl (BU.out.trans (B2.out.mono BU.out.size))
set_option maxRecDepth 100000 in
set_option maxHeartbeats 400000 in
theorem specCL (S : ByteArray) (m : Nat) (hn : S.size = m + 1) (h9 : 9 < m + 1) (hm : m + 1 ≤ 100000) (hu : (S.data.toList.take 9).map lowC ≠ urn9) (w : World)
    (hb : ¬ (2 ≤ m ∧ S.data.toList.getD 0 0 = 123 ∧ S.data.toList.getD m 0 = 125)) :
    Calls Try.prog 20 #[.string S] w (SRPost (plainO S.data.toList) true w) := by
  have hl : S.data.toList.length = m + 1 := by rw [← hn]; simp
  obtain ⟨S9, h9e⟩ : ∃ S9, S9 = S.extract 0 9 := ⟨_, rfl⟩
  have l9 : S9.data.toList = S.data.toList.take 9 := by rw [h9e, ext_list]; simp
  have z9 : S9.size = 9 := by
    have : S9.data.toList.length = 9 := by rw [l9, List.length_take, hl]; omega
    simpa using this
  obtain ⟨L9, hL9⟩ : ∃ L9 : ByteArray, L9 = ⟨(S9.data.toList.map lowC).toArray⟩ := ⟨_, rfl⟩
  have LO := Lib.hid (fun w => hL9 ▸ lower_any S9 (by omega) (by omega) w)
  have tb : (L9.toList == [117, 114, 110, 58, 117, 117, 105, 100, 58]) = false := by
    rw [str_eq L9 _ _ (by rw [hL9, map_str, l9])]
    exact decide_eq_false hu
  have i9 : (9 : Int) < (m : Int) + 1 := by omega
  have E9 := h9e.symm
  clear hu l9 z9 hL9 h9e
  obtain ⟨x0, e0⟩ : ∃ x, x = S.data.toList.getD 0 0 := ⟨_, rfl⟩
  obtain ⟨x1, e1⟩ : ∃ x, x = S.data.toList.getD m 0 := ⟨_, rfl⟩
  have j0 : ∀ w, (Instr.index 9 (.string S) (.int .i64 0)).run Try.prog w = .ok (.int .u8 (x0.toNat : Int)) w := fun w => by rw [e0]; exact str_index S 0 (by omega) w
  have j1 : ∀ w, (Instr.index 9 (.string S) (.int .i64 (m : Int))).run Try.prog w = .ok (.int .u8 (x1.toNat : Int)) w := fun w => by rw [e1]; exact str_index S m (by omega) w
  obtain ⟨R, hR⟩ : ∃ R, R = plainO S.data.toList := ⟨_, rfl⟩
  have PX := Lib.hid (show ∀ w, Calls Try.prog 39 #[.string S] w (HexPost R w) from fun w => by rw [hR]; exact splain_any S w)
  rw [← hR]
  have mi : (0 : Int) ≤ (m : Int) := by omega
  have mb : (m : Int) ≤ 100000 := by omega
  have DD : decide ((2 : Int) < (m : Int) + 1) = false ∨ (decide ((2 : Int) < (m : Int) + 1) = true ∧ (((x0.toNat : Int) == 123) = false ∨ (((x0.toNat : Int) == 123) = true ∧ ((x1.toNat : Int) == 125) = false))) := by
    by_cases h2 : 2 ≤ m
    · right
      refine ⟨decide_eq_true (by omega), ?_⟩
      by_cases h0 : x0 = 123
      · right
        refine ⟨by rw [h0]; rfl, ?_⟩
        rw [beq_eq_false_iff_ne]
        intro h1
        exact hb ⟨h2, by rw [← e0]; exact h0, by rw [← e1]; exact UInt8.toNat_inj.1 (by show _ = 125; omega)⟩
      · left
        rw [beq_eq_false_iff_ne]
        intro h1
        exact h0 (UInt8.toNat_inj.1 (by show _ = 123; omega))
    · left; exact decide_eq_false (by omega)
  clear hb hR hm h9 hl e0 e1
  rcases DD with t2 | ⟨t2, t0 | ⟨t0, t1⟩⟩
  all_goals
    go_enter Try.func20, Try.ntmps20
    go_wp2_with fail
    refine (LO.out w).mono ?_
    rintro e w1 ⟨rfl, b1⟩
    have BU := Lib.hid b1
    clear b1
    go_wp2_with fail
    refine (PX.out w1).mono ?_
    intro e w2 h2
    cases hr : R with
    | some out =>
      obtain ⟨⟨v, rfl, g, cap, hv, hg, hy⟩, b2⟩ := h2.1 out hr
      have HV := Lib.hid hv
      have HG := Lib.hid hg
      have HY := Lib.hid hy
      have B2 := Lib.hid b2
      have R2 := Lib.hid hr
      clear h2 hv hg hy b2 hr
      go_wp2
      go_ret3
      exact SRPost.yes out R2.out v rfl ⟨g, cap, HV.out, Nat.le_trans BU.out.size HG.out, HY.out⟩ (BU.out.trans (B2.out.mono BU.out.size))
    | none =>
      obtain ⟨⟨v, rfl⟩, b2⟩ := h2.2 hr
      have B2 := Lib.hid b2
      have R2 := Lib.hid hr
      clear h2 b2 hr
      go_wp2
      go_ret3
      exact SRPost.no R2.out v rfl (BU.out.trans (B2.out.mono BU.out.size))
set_option maxRecDepth 100000 in
theorem specE (S : ByteArray) (hn : S.size = 0) (w : World) : Calls Try.prog 20 #[.string S] w (SRPost none true w) := by
  have PX := Lib.hid (fun w => plainX_any S 0 hn (by omega) (by omega) w)
  have BU := Lib.hid (Below.refl w.heap.size w)
  go_enter Try.func20, Try.ntmps20
  go_wp2_with fail
  refine (PX.out w).mono ?_
  intro e w2 h2
  obtain ⟨⟨v, rfl⟩, b2⟩ := h2.2 rfl
  have B2 := Lib.hid b2
  clear h2 b2
  go_wp2
  go_ret3
  exact SRPost.no rfl v rfl B2.out
end Go.Proofs.Ytnofmiinbmfbnaa
