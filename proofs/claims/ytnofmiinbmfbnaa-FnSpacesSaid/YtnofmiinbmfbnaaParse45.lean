/-
  parseBytes of the package uuid: texts whose length is one of the six, by their core.
-/
import Derived.Test.YtnofmiinbmfbnaaParse
import Derived.Lib.EndianBits
namespace Go.Proofs.Ytnofmiinbmfbnaa
open Go.RowKit
set_option linter.unusedVariables false
set_option maxRecDepth 100000 in
set_option maxHeartbeats 4000000 in
theorem parse45 (g h c : Nat) (l : List UInt8) (hl : l.length = 45) (hc : 45 ≤ c) (cur : List Value) (hcur : cur.length = 16) (h1 : ∀ v ∈ cur, v.oneCell' = true) (hpu : l.take 9 = urn9) (w : World) (hg : At w g 63 cur) (hcl : CellsL w h l) (hne : h ≠ g) :
    Calls Try.prog 63 #[.slice (some ⟨h, 0, none⟩) 45 c, .pointer (some ⟨g, 0, none⟩)] w (PPost (plainO (l.drop 9)) w g) := by
  have HL := Lib.hid hl
  have HCU := Lib.hid hcur
  have H1 := Lib.hid h1
  have HG := Lib.hid hg
  have HC := Lib.hid hcl
  have HNE := Lib.hid hne
  obtain ⟨q, hq⟩ : ∃ q, q = (l.drop 9) := ⟨_, rfl⟩
  have HQL := Lib.hid (show q.length = 36 by rw [hq]; simp [hl])
  have QG := Lib.hid (show ∀ j, j < 36 → q.getD j 0 = l.getD (9 + j) 0 from fun j hj => by rw [hq]; exact getD_d l 9 j)
  rw [← hq]
  have ci : (45 : Int) ≤ (c : Int) := by omega
  have sv : (convert 27 9 (.slice (some ⟨h, 0, none⟩) 9 c)).run Try.prog w = .ok (.string ⟨#[117, 114, 110, 58, 117, 117, 105, 100, 58]⟩) w := by
    have hb : Byt w (some ⟨h, 0, none⟩) (l.take 9) := fun _ => ⟨h, 0, rfl, block_lt_of_cell (hcl 0 (by omega)), fun j hj => by
      have hj' : j < l.length := by simp at hj; omega
      rw [Nat.zero_add, hcl j hj']
      simp [B8, List.getD, hj']⟩
    rw [hpu] at hb
    exact run_strB 27 9 5 Try.underlying27 Try.underlying5 Try.underlying9 (some ⟨h, 0, none⟩) 9 c urn9 hb rfl (by omega)
  clear hpu
  obtain ⟨x8, e8⟩ : ∃ x, x = q.getD 8 0 := ⟨_, rfl⟩
  have z8 : w.cell? ⟨h, 17, none⟩ = some (.int .u8 (x8.toNat : Int)) := by rw [hcl 17 (by omega), e8, QG.out 8 (by omega)]
  have E8 := Lib.hid e8
  clear e8
  obtain ⟨x13, e13⟩ : ∃ x, x = q.getD 13 0 := ⟨_, rfl⟩
  have z13 : w.cell? ⟨h, 22, none⟩ = some (.int .u8 (x13.toNat : Int)) := by rw [hcl 22 (by omega), e13, QG.out 13 (by omega)]
  have E13 := Lib.hid e13
  clear e13
  obtain ⟨x18, e18⟩ : ∃ x, x = q.getD 18 0 := ⟨_, rfl⟩
  have z18 : w.cell? ⟨h, 27, none⟩ = some (.int .u8 (x18.toNat : Int)) := by rw [hcl 27 (by omega), e18, QG.out 18 (by omega)]
  have E18 := Lib.hid e18
  clear e18
  obtain ⟨x23, e23⟩ : ∃ x, x = q.getD 23 0 := ⟨_, rfl⟩
  have z23 : w.cell? ⟨h, 32, none⟩ = some (.int .u8 (x23.toNat : Int)) := by rw [hcl 32 (by omega), e23, QG.out 23 (by omega)]
  have E23 := Lib.hid e23
  clear e23
  clear hl hcur h1 hg hcl hne hc hq
  by_cases hd8 : x8 = 45
  case neg =>
    have PN : plainO q = none := by
      unfold plainO plain36
      rw [if_pos HQL.out, if_neg (fun hh => hd8 (by rw [E8.out]; exact hh.1))]
    have t8 : ((x8.toNat : Int) != 45) = true := by rw [bne_iff_ne]; intro hh; exact hd8 (UInt8.toNat_inj.1 (by show _ = 45; omega))
    have PN := Lib.hid PN
    clear hd8
    go_enter Try.func63, Try.ntmps63
    go_wp2
    go_ret
    exact PPost.no PN.out _ _ rfl cur HCU.out H1.out HG.out (World.grownBy.refl _ _)
  case pos =>
    have t8 : ((x8.toNat : Int) != 45) = false := by rw [hd8]; rfl
    have D8 := Lib.hid hd8
    clear hd8
    by_cases hd13 : x13 = 45
    case neg =>
      have PN : plainO q = none := by
        unfold plainO plain36
        rw [if_pos HQL.out, if_neg (fun hh => hd13 (by rw [E13.out]; exact hh.2.1))]
      have t13 : ((x13.toNat : Int) != 45) = true := by rw [bne_iff_ne]; intro hh; exact hd13 (UInt8.toNat_inj.1 (by show _ = 45; omega))
      have PN := Lib.hid PN
      clear hd13
      go_enter Try.func63, Try.ntmps63
      go_wp2
      go_ret
      exact PPost.no PN.out _ _ rfl cur HCU.out H1.out HG.out (World.grownBy.refl _ _)
    case pos =>
      have t13 : ((x13.toNat : Int) != 45) = false := by rw [hd13]; rfl
      have D13 := Lib.hid hd13
      clear hd13
      by_cases hd18 : x18 = 45
      case neg =>
        have PN : plainO q = none := by
          unfold plainO plain36
          rw [if_pos HQL.out, if_neg (fun hh => hd18 (by rw [E18.out]; exact hh.2.2.1))]
        have t18 : ((x18.toNat : Int) != 45) = true := by rw [bne_iff_ne]; intro hh; exact hd18 (UInt8.toNat_inj.1 (by show _ = 45; omega))
        have PN := Lib.hid PN
        clear hd18
        go_enter Try.func63, Try.ntmps63
        go_wp2
        go_ret
        exact PPost.no PN.out _ _ rfl cur HCU.out H1.out HG.out (World.grownBy.refl _ _)
      case pos =>
        have t18 : ((x18.toNat : Int) != 45) = false := by rw [hd18]; rfl
        have D18 := Lib.hid hd18
        clear hd18
        by_cases hd23 : x23 = 45
        case neg =>
          have PN : plainO q = none := by
            unfold plainO plain36
            rw [if_pos HQL.out, if_neg (fun hh => hd23 (by rw [E23.out]; exact hh.2.2.2))]
          have t23 : ((x23.toNat : Int) != 45) = true := by rw [bne_iff_ne]; intro hh; exact hd23 (UInt8.toNat_inj.1 (by show _ = 45; omega))
          have PN := Lib.hid PN
          clear hd23
          go_enter Try.func63, Try.ntmps63
          go_wp2
          go_ret
          exact PPost.no PN.out _ _ rfl cur HCU.out H1.out HG.out (World.grownBy.refl _ _)
        case pos =>
          have t23 : ((x23.toNat : Int) != 45) = false := by rw [hd23]; rfl
          have D23 := Lib.hid hd23
          clear hd23
          have PL := Lib.hid (show plainO q = decPos posN q by unfold plainO plain36; rw [if_pos HQL.out, if_pos ⟨by rw [← E8.out]; exact D8.out, by rw [← E13.out]; exact D13.out, by rw [← E18.out]; exact D18.out, by rw [← E23.out]; exact D23.out⟩])
          go_enter Try.func63, Try.ntmps63
          go_wp2
          clear sv z8 t8 z13 t13 z18 t18 z23 t23
          go_loopw [78] (fun i wr => ∃ k : Nat, k ≤ 16 ∧ i = .int .i64 k ∧ (∀ j, j < k → okAt q (posN j) = true) ∧ At wr g 63 (parK posN q cur k) ∧ w.grownBy wr (some g)) (fun i _ => 16 - (intOf i).toNat)
          case atStart => exact ⟨0, by omega, rfl, (fun j hj => by omega), by rw [parK_zero]; exact HG.out, World.grownBy.refl _ _⟩
          case round =>
            obtain ⟨k, hk, rfl, hok, hat, hgr⟩ := hrel
            have HOK := Lib.hid hok
            have HAT := Lib.hid hat
            have HGR := Lib.hid hgr
            clear hok hgr
            by_cases hlt : k < 16
            · have stp : (parK posN q cur k).set k (B8 (byteAt q (posN k))) = parK posN q cur (k + 1) := parK_step posN q cur k HCU.out hlt
              obtain ⟨p, hp⟩ : ∃ p, p = posN k := ⟨_, rfl⟩
              have hpm : p ≤ 34 := by rw [hp]; exact posN_le k hlt
              obtain ⟨c1, e1⟩ : ∃ c, c = q.getD p 0 := ⟨_, rfl⟩
              obtain ⟨c2, e2⟩ : ∃ c, c = q.getD (p + 1) 0 := ⟨_, rfl⟩
              have cl := HC.out.grown HGR.out HNE.out
              have g1 : wr.cell? ⟨h, 9 + p, none⟩ = some (.int .u8 (c1.toNat : Int)) := by rw [cl (9 + p) (by rw [HL.out]; omega), e1, QG.out p (by omega)]
              have g2 : wr.cell? ⟨h, 9 + (p + 1), none⟩ = some (.int .u8 (c2.toNat : Int)) := by rw [cl (9 + (p + 1)) (by rw [HL.out]; omega), e2, QG.out (p + 1) (by omega)]
              have lk := parK_length posN q cur k HCU.out (by omega)
              have cg := hat.cell k (by rw [lk]; omega)
              generalize (parK posN q cur k)[k]'(by rw [lk]; omega) = old at cg
              have fg := hat.frozen k
              have ix := pos_at k hlt
              rw [← hp] at ix
              have sp := okAt_split q p
              obtain ⟨v1, hv1⟩ : ∃ v, v = hexN c1 := ⟨_, rfl⟩
              obtain ⟨v2, hv2⟩ : ∃ v, v = hexN c2 := ⟨_, rfl⟩
              have u1 : v1 < 256 := hv1 ▸ hexN_lt c1
              have u2 : v2 < 256 := hv2 ▸ hexN_lt c2
              rw [← e1, ← e2, ← hv1, ← hv2] at sp
              have BY : byteAt q p = UInt8.ofNat (v1 * 16 + v2) := by rw [byteAt, ← e1, ← e2, ← hv1, ← hv2]
              have W1 := Lib.hid (fun w => hv1 ▸ hexChar_any c1 w)
              have W2 := Lib.hid (fun w => hv2 ▸ hexChar_any c2 w)
              have PP := Lib.hid hp
              have q0 : (0 : Int) ≤ (p : Int) := by omega
              have q1 : (p : Int) ≤ 34 := by omega
              have q2 : (0 : Int) ≤ (k : Int) := by omega
              have q3 : (k : Int) < 16 := by omega
              clear hat e1 e2 cl hv1 hv2 lk hp
              rcases sp with ⟨so, s1, s2⟩ | ⟨so, s1⟩
              · have tt := or_ok v1 v2 s1 s2
                have ob := or_byte v1 v2 s1 s2
                rw [← BY] at ob
                have r1 : (v1 : Int) < 16 := by omega
                have r2 : (v2 : Int) < 16 := by omega
                rw [show posN k = p from PP.out.symm] at stp
                have SO := Lib.hid so
                have ST := Lib.hid stp
                clear so s1 s2 stp BY u1 u2
                go_wp2_with fail
                refine (W1.out _).mono ?_
                rintro e w' ⟨rfl, rfl⟩
                go_wp2_with fail
                refine (W2.out _).mono ?_
                rintro e w' ⟨rfl, rfl⟩
                go_wp2
                go_roundw
                case rel =>
                  have P1 := PutB.setCell HAT.out k (B8 (byteAt q p))
                  exact ⟨k + 1, by omega, by go_num, (fun j hj => by
                    by_cases h : j < k
                    · exact HOK.out j h
                    · obtain rfl : j = k := by omega
                      show okAt q (posN j) = true; rw [show posN j = p from PP.out.symm]; exact SO.out), by rw [← ST.out]; exact P1.at_, grown_trans' HGR.out P1.grown⟩
                case measure => simp [intOf]; omega
              · have tt := or_bad v1 v2 u1 u2 s1
                have r1 : (v1 : Int) < 256 := by omega
                have r2 : (v2 : Int) < 256 := by omega
                have PN := Lib.hid (show plainO q = none by rw [PL.out]; exact decPos_none _ _ k hlt (by show okAt q (posN k) = false; rw [show posN k = p from PP.out.symm]; exact so))
                clear so s1 stp BY u1 u2
                go_wp2_with fail
                refine (W1.out _).mono ?_
                rintro e w' ⟨rfl, rfl⟩
                go_wp2_with fail
                refine (W2.out _).mono ?_
                rintro e w' ⟨rfl, rfl⟩
                go_wp2
                go_ret
                exact PPost.no PN.out _ _ rfl _ (parK_length _ _ _ k HCU.out (by omega)) (parK_one _ _ _ _ H1.out) HAT.out HGR.out
            · obtain rfl : k = 16 := by omega
              skip
              have PY := Lib.hid (show plainO q = some (outP posN q 16) by rw [PL.out]; exact decPos_some _ _ HOK.out)
              clear hat hk hlt
              go_wp2
              go_ret
              exact PPost.yes _ PY.out rfl (by rw [← parK_all _ _ cur HCU.out]; exact HAT.out) (outP_length _ _ _) HGR.out
end Go.Proofs.Ytnofmiinbmfbnaa
