/-
  spec.plain and spec.UuidRead.
-/
import Derived.Test.YtnofmiinbmfbnaaSpecHex2
namespace Go.Proofs.Ytnofmiinbmfbnaa
open Go.RowKit
set_option linter.unusedVariables false
def stripL (l : List UInt8) : List UInt8 := l.take 8 ++ (l.drop 9).take 4 ++ (l.drop 14).take 4 ++ (l.drop 19).take 4 ++ l.drop 24
theorem strip_len (l : List UInt8) (h : l.length = 36) : (stripL l).length = 32 := by simp [stripL, h]
theorem strip_get (l : List UInt8) (h : l.length = 36) : ∀ i, i < 16 → (stripL l).getD (2 * i) 0 = l.getD (posN i) 0 ∧ (stripL l).getD (2 * i + 1) 0 = l.getD (posN i + 1) 0 := by
  intro i hi
  have h' : i = 0 ∨ i = 1 ∨ i = 2 ∨ i = 3 ∨ i = 4 ∨ i = 5 ∨ i = 6 ∨ i = 7 ∨ i = 8 ∨ i = 9 ∨ i = 10 ∨ i = 11 ∨ i = 12 ∨ i = 13 ∨ i = 14 ∨ i = 15 := by omega
  rcases h' with rfl | rfl | rfl | rfl | rfl | rfl | rfl | rfl | rfl | rfl | rfl | rfl | rfl | rfl | rfl | rfl <;>
    simp [stripL, List.getD, h, posN]
theorem strip_dec (l : List UInt8) (h : l.length = 36) : decPos (fun i => 2 * i) (stripL l) = decPos posN l := by
  have e : ∀ i, i < 16 → okAt (stripL l) (2 * i) = okAt l (posN i) ∧ byteAt (stripL l) (2 * i) = byteAt l (posN i) := fun i hi => by
    have := strip_get l h i hi
    unfold okAt byteAt
    rw [this.1, this.2]
    exact ⟨rfl, rfl⟩
  by_cases ha : ∀ i, i < 16 → okAt l (posN i) = true
  · rw [decPos_some _ _ ha, decPos_some _ _ (fun i hi => by rw [(e i hi).1]; exact ha i hi)]
    congr 1
    unfold outP
    refine List.map_congr_left fun i hi => ?_
    exact (e i (List.mem_range.1 hi)).2
  · obtain ⟨i, hi⟩ := Classical.not_forall.1 ha
    obtain ⟨h1, h2⟩ := Classical.not_imp.1 hi
    have h3 : okAt l (posN i) = false := by cases h : okAt l (posN i) with | true => exact absurd h h2 | false => rfl
    rw [decPos_none _ _ i h1 h3, decPos_none (fun i => 2 * i) _ i h1 (by rw [← h3]; exact (e i h1).1)]
def stripS (S : ByteArray) : ByteArray := S.extract 0 8 ++ S.extract 9 13 ++ S.extract 14 18 ++ S.extract 19 23 ++ S.extract 24 36
theorem strip_str (S : ByteArray) (l : List UInt8) (hl : S.data.toList = l) (h : l.length = 36) : (stripS S).data.toList = stripL l := by
  subst hl
  simp [stripS, stripL, ByteArray.data_append, ByteArray.data_extract]
  exact List.take_of_length_le (by simp at h ⊢; omega)
set_option maxRecDepth 100000 in
set_option maxHeartbeats 2000000 in
theorem plain36_any (S : ByteArray) (l : List UInt8) (hS : S.data.toList = l) (hl : l.length = 36) (w : World) :
    Calls Try.prog 39 #[.string S] w (HexPost (plainO l) w) := by
  have hn : S.size = 36 := by rw [← hl, ← hS]; simp
  have IX := Lib.hid (show ∀ j : Nat, j < 36 → ∀ w, (Instr.index 9 (.string S) (.int .i64 (j : Int))).run Try.prog w = .ok (.int .u8 ((l.getD j 0).toNat : Int)) w from fun j hj w => by rw [← hS]; exact str_index S j (by rw [hS]; omega) w)
  have HL := Lib.hid hl
  have TS := Lib.hid (strip_str S l hS hl)
  have HX := Lib.hid (fun w => hex32 (stripS S) (stripL l) TS.out (strip_len l hl) w)
  have SD := Lib.hid (strip_dec l hl)
  obtain ⟨x8, e8⟩ : ∃ x, x = l.getD 8 0 := ⟨_, rfl⟩
  have z8 : ∀ w, (Instr.index 9 (.string S) (.int .i64 8)).run Try.prog w = .ok (.int .u8 (x8.toNat : Int)) w := fun w => by rw [e8]; exact IX.out 8 (by omega) w
  have E8 := Lib.hid e8
  clear e8
  obtain ⟨x13, e13⟩ : ∃ x, x = l.getD 13 0 := ⟨_, rfl⟩
  have z13 : ∀ w, (Instr.index 9 (.string S) (.int .i64 13)).run Try.prog w = .ok (.int .u8 (x13.toNat : Int)) w := fun w => by rw [e13]; exact IX.out 13 (by omega) w
  have E13 := Lib.hid e13
  clear e13
  obtain ⟨x18, e18⟩ : ∃ x, x = l.getD 18 0 := ⟨_, rfl⟩
  have z18 : ∀ w, (Instr.index 9 (.string S) (.int .i64 18)).run Try.prog w = .ok (.int .u8 (x18.toNat : Int)) w := fun w => by rw [e18]; exact IX.out 18 (by omega) w
  have E18 := Lib.hid e18
  clear e18
  obtain ⟨x23, e23⟩ : ∃ x, x = l.getD 23 0 := ⟨_, rfl⟩
  have z23 : ∀ w, (Instr.index 9 (.string S) (.int .i64 23)).run Try.prog w = .ok (.int .u8 (x23.toNat : Int)) w := fun w => by rw [e23]; exact IX.out 23 (by omega) w
  have E23 := Lib.hid e23
  clear e23
  clear hS hl
  by_cases hd8 : x8 = 45
  case neg =>
    have PN := Lib.hid (show plainO l = none by
      unfold plainO plain36
      rw [if_pos HL.out, if_neg (fun hh => hd8 (by rw [E8.out]; exact hh.1))])
    have t8 : ((x8.toNat : Int) != 45) = true := by rw [bne_iff_ne]; intro hh; exact hd8 (UInt8.toNat_inj.1 (by show _ = 45; omega))
    clear hd8
    go_enter Try.func39, Try.ntmps39
    go_wp2
    go_ret2
    exact HexPost.no PN.out _ rfl (Below.refl _ _)
  case pos =>
    have t8 : ((x8.toNat : Int) != 45) = false := by rw [hd8]; rfl
    have D8 := Lib.hid hd8
    clear hd8
    by_cases hd13 : x13 = 45
    case neg =>
      have PN := Lib.hid (show plainO l = none by
        unfold plainO plain36
        rw [if_pos HL.out, if_neg (fun hh => hd13 (by rw [E13.out]; exact hh.2.1))])
      have t13 : ((x13.toNat : Int) != 45) = true := by rw [bne_iff_ne]; intro hh; exact hd13 (UInt8.toNat_inj.1 (by show _ = 45; omega))
      clear hd13
      go_enter Try.func39, Try.ntmps39
      go_wp2
      go_ret2
      exact HexPost.no PN.out _ rfl (Below.refl _ _)
    case pos =>
      have t13 : ((x13.toNat : Int) != 45) = false := by rw [hd13]; rfl
      have D13 := Lib.hid hd13
      clear hd13
      by_cases hd18 : x18 = 45
      case neg =>
        have PN := Lib.hid (show plainO l = none by
          unfold plainO plain36
          rw [if_pos HL.out, if_neg (fun hh => hd18 (by rw [E18.out]; exact hh.2.2.1))])
        have t18 : ((x18.toNat : Int) != 45) = true := by rw [bne_iff_ne]; intro hh; exact hd18 (UInt8.toNat_inj.1 (by show _ = 45; omega))
        clear hd18
        go_enter Try.func39, Try.ntmps39
        go_wp2
        go_ret2
        exact HexPost.no PN.out _ rfl (Below.refl _ _)
      case pos =>
        have t18 : ((x18.toNat : Int) != 45) = false := by rw [hd18]; rfl
        have D18 := Lib.hid hd18
        clear hd18
        by_cases hd23 : x23 = 45
        case neg =>
          have PN := Lib.hid (show plainO l = none by
            unfold plainO plain36
            rw [if_pos HL.out, if_neg (fun hh => hd23 (by rw [E23.out]; exact hh.2.2.2))])
          have t23 : ((x23.toNat : Int) != 45) = true := by rw [bne_iff_ne]; intro hh; exact hd23 (UInt8.toNat_inj.1 (by show _ = 45; omega))
          clear hd23
          go_enter Try.func39, Try.ntmps39
          go_wp2
          go_ret2
          exact HexPost.no PN.out _ rfl (Below.refl _ _)
        case pos =>
          have t23 : ((x23.toNat : Int) != 45) = false := by rw [hd23]; rfl
          have D23 := Lib.hid hd23
          clear hd23
          have PL := Lib.hid (show plainO l = decPos (fun i => 2 * i) (stripL l) by rw [SD.out]; unfold plainO plain36; rw [if_pos HL.out, if_pos ⟨by rw [← E8.out]; exact D8.out, by rw [← E13.out]; exact D13.out, by rw [← E18.out]; exact D18.out, by rw [← E23.out]; exact D23.out⟩])
          go_enter Try.func39, Try.ntmps39
          go_wp2
          go_quiet (fail)
          clear z8 z13 z18 z23
          rename_i nq
          obtain ⟨u, hu⟩ : ∃ u, u = w.drewN nq := ⟨_, rfl⟩
          rw [← hu]
          have BU := Lib.hid (show Below w.heap.size w u by rw [hu]; exact below_drewN (Below.refl _ _) nq)
          clear hu
          go_wp2_with fail
          refine (HX.out u).mono ?_
          intro e w2 h2
          cases hr : decPos (fun i => 2 * i) (stripL l) with
          | some out =>
            obtain ⟨⟨v, rfl, g, cap, hv, hg, hy⟩, b2⟩ := h2.1 out hr
            have HV := Lib.hid hv
            have HG := Lib.hid hg
            have HY := Lib.hid hy
            have B2 := Lib.hid b2
            have R2 := Lib.hid hr
            clear h2 hv hg hy b2 hr
            go_wp2
            go_ret2
            exact HexPost.yes out (by rw [PL.out, R2.out]) v rfl ⟨g, cap, HV.out, Nat.le_trans BU.out.size HG.out, HY.out⟩ (BU.out.trans (B2.out.mono BU.out.size))
          | none =>
            obtain ⟨⟨v, rfl⟩, b2⟩ := h2.2 hr
            have B2 := Lib.hid b2
            have R2 := Lib.hid hr
            clear h2 b2 hr
            go_wp2
            go_ret2
            exact HexPost.no (by rw [PL.out, R2.out]) v rfl (BU.out.trans (B2.out.mono BU.out.size))
set_option maxRecDepth 100000 in
theorem plain32_any (S : ByteArray) (l : List UInt8) (hS : S.data.toList = l) (hl : l.length = 32) (w : World) :
    Calls Try.prog 39 #[.string S] w (HexPost (plainO l) w) := by
  have hn : S.size = 32 := by rw [← hl, ← hS]; simp
  have HX := Lib.hid (fun w => hex32 S l hS hl w)
  have PL := Lib.hid (show plainO l = decPos (fun i => 2 * i) l by unfold plainO; rw [if_neg (by omega), if_pos hl])
  have BU := Lib.hid (Below.refl w.heap.size w)
  clear hS hl
  go_enter Try.func39, Try.ntmps39
  go_wp2_with fail
  refine (HX.out w).mono ?_
  intro e w2 h2
  cases hr : decPos (fun i => 2 * i) l with
  | some out =>
    obtain ⟨⟨v, rfl, g, cap, hv, hg, hy⟩, b2⟩ := h2.1 out hr
    have HV := Lib.hid hv
    have HG := Lib.hid hg
    have HY := Lib.hid hy
    have B2 := Lib.hid b2
    have R2 := Lib.hid hr
    clear h2 hv hg hy b2 hr
    go_wp2
    go_ret2
    exact HexPost.yes out (by rw [PL.out, R2.out]) v rfl ⟨g, cap, HV.out, Nat.le_trans BU.out.size HG.out, HY.out⟩ (BU.out.trans (B2.out.mono BU.out.size))
  | none =>
    obtain ⟨⟨v, rfl⟩, b2⟩ := h2.2 hr
    have B2 := Lib.hid b2
    have R2 := Lib.hid hr
    clear h2 b2 hr
    go_wp2
    go_ret2
    exact HexPost.no (by rw [PL.out, R2.out]) v rfl (BU.out.trans (B2.out.mono BU.out.size))
set_option maxRecDepth 100000 in
theorem plainX_any (S : ByteArray) (n : Nat) (hn : S.size = n) (h32 : n ≠ 32) (h36 : n ≠ 36) (w : World) :
    Calls Try.prog 39 #[.string S] w (HexPost none w) := by
  have t1 : ((n : Int) == 36) = false := by rw [beq_eq_false_iff_ne]; omega
  have t2 : ((n : Int) != 32) = true := by rw [bne_iff_ne]; omega
  clear h32 h36
  go_enter Try.func39, Try.ntmps39
  go_wp2
  go_ret2
  exact HexPost.no rfl _ rfl (Below.refl _ _)
theorem splain_any (S : ByteArray) (w : World) : Calls Try.prog 39 #[.string S] w (HexPost (plainO S.data.toList) w) := by
  have hl : S.data.toList.length = S.size := by simp
  by_cases h36 : S.size = 36
  · exact plain36_any S _ rfl (by rw [hl, h36]) w
  · by_cases h32 : S.size = 32
    · exact plain32_any S _ rfl (by rw [hl, h32]) w
    · have : plainO S.data.toList = none := by unfold plainO; rw [hl, if_neg h36, if_neg h32]
      rw [this]
      exact plainX_any S _ rfl h32 h36 w
end Go.Proofs.Ytnofmiinbmfbnaa
