/-
  parseBytes of the package uuid: texts whose length is one of the six, by their core.
-/
import Derived.Test.YtnofmiinbmfbnaaParse
import Derived.Lib.EndianBits
namespace Go.Proofs.Ytnofmiinbmfbnaa
open Go.RowKit
set_option linter.unusedVariables false
set_option maxRecDepth 100000 in
set_option maxHeartbeats 4000000 in
theorem parse34 (g h c : Nat) (l : List UInt8) (hl : l.length = 34) (hc : 34 ≤ c) (cur : List Value) (hcur : cur.length = 16) (h1 : ∀ v ∈ cur, v.oneCell' = true) (hp0 : l.getD 0 0 = 123) (hp1 : l.getD 33 0 = 125) (w : World) (hg : At w g 63 cur) (hcl : CellsL w h l) (hne : h ≠ g) :
    Calls Try.prog 63 #[.slice (some ⟨h, 0, none⟩) 34 c, .pointer (some ⟨g, 0, none⟩)] w (PPost (plainO ((l.drop 1).take 32)) w g) := by
  have HL := Lib.hid hl
  have HCU := Lib.hid hcur
  have H1 := Lib.hid h1
  have HG := Lib.hid hg
  have HC := Lib.hid hcl
  have HNE := Lib.hid hne
  obtain ⟨q, hq⟩ : ∃ q, q = ((l.drop 1).take 32) := ⟨_, rfl⟩
  have HQL := Lib.hid (show q.length = 32 by rw [hq]; simp [hl])
  have QG := Lib.hid (show ∀ j, j < 32 → q.getD j 0 = l.getD (1 + j) 0 from fun j hj => by rw [hq]; exact getD_dt l 1 32 j hj)
  rw [← hq]
  have ci : (34 : Int) ≤ (c : Int) := by omega
  have y0 : w.cell? ⟨h, 0, none⟩ = some (.int .u8 123) := by rw [hcl 0 (by omega), hp0]; rfl
  have y1 : w.cell? ⟨h, 33, none⟩ = some (.int .u8 125) := by rw [hcl 33 (by omega), hp1]; rfl
  clear hp0 hp1
  clear hl hcur h1 hg hcl hne hc hq
  have PL := Lib.hid (show plainO q = decPos (fun i => 2 * i) q by unfold plainO; rw [if_neg (by rw [HQL.out]; omega), if_pos HQL.out])
  go_enter Try.func63, Try.ntmps63
  go_wp2
  clear y0 y1 
  go_loopw [9] (fun i wr => ∃ k p : Nat, p = 2 * k ∧ k ≤ 16 ∧ i = .int .i64 (p : Int) ∧ (∀ j, j < k → okAt q ((fun i => 2 * i) j) = true) ∧ At wr g 63 (parK (fun i => 2 * i) q cur k) ∧ w.grownBy wr (some g)) (fun i _ => 32 - (intOf i).toNat)
  case atStart => exact ⟨0, 0, rfl, by omega, rfl, (fun j hj => by omega), by rw [parK_zero]; exact HG.out, World.grownBy.refl _ _⟩
  case round =>
    obtain ⟨k, p, hp, hk, rfl, hok, hat, hgr⟩ := hrel
    have HOK := Lib.hid hok
    have HAT := Lib.hid hat
    have HGR := Lib.hid hgr
    clear hok hgr
    by_cases hlt : k < 16
    · have stp : (parK (fun i => 2 * i) q cur k).set k (B8 (byteAt q (2 * k))) = parK (fun i => 2 * i) q cur (k + 1) := parK_step (fun i => 2 * i) q cur k HCU.out hlt
      skip
      have hpm : p ≤ 30 := by rw [hp]; omega
      obtain ⟨c1, e1⟩ : ∃ c, c = q.getD p 0 := ⟨_, rfl⟩
      obtain ⟨c2, e2⟩ : ∃ c, c = q.getD (p + 1) 0 := ⟨_, rfl⟩
      have cl := HC.out.grown HGR.out HNE.out
      have g1 : wr.cell? ⟨h, 1 + p, none⟩ = some (.int .u8 (c1.toNat : Int)) := by rw [cl (1 + p) (by rw [HL.out]; omega), e1, QG.out p (by omega)]
      have g2 : wr.cell? ⟨h, 1 + (p + 1), none⟩ = some (.int .u8 (c2.toNat : Int)) := by rw [cl (1 + (p + 1)) (by rw [HL.out]; omega), e2, QG.out (p + 1) (by omega)]
      have lk := parK_length (fun i => 2 * i) q cur k HCU.out (by omega)
      have cg := hat.cell k (by rw [lk]; omega)
      generalize (parK (fun i => 2 * i) q cur k)[k]'(by rw [lk]; omega) = old at cg
      have fg := hat.frozen k
      have ih : (p : Int) / 2 = (k : Int) := by omega
      have sp := okAt_split q p
      obtain ⟨v1, hv1⟩ : ∃ v, v = hexN c1 := ⟨_, rfl⟩
      obtain ⟨v2, hv2⟩ : ∃ v, v = hexN c2 := ⟨_, rfl⟩
      have u1 : v1 < 256 := hv1 ▸ hexN_lt c1
      have u2 : v2 < 256 := hv2 ▸ hexN_lt c2
      rw [← e1, ← e2, ← hv1, ← hv2] at sp
      have BY : byteAt q p = UInt8.ofNat (v1 * 16 + v2) := by rw [byteAt, ← e1, ← e2, ← hv1, ← hv2]
      have W1 := Lib.hid (fun w => hv1 ▸ hexChar_any c1 w)
      have W2 := Lib.hid (fun w => hv2 ▸ hexChar_any c2 w)
      have PP := Lib.hid hp
      have q0 : (0 : Int) ≤ (p : Int) := by omega
      have q1 : (p : Int) ≤ 30 := by omega
      have q2 : (0 : Int) ≤ (k : Int) := by omega
      have q3 : (k : Int) < 16 := by omega
      clear hat e1 e2 cl hv1 hv2 lk hp
      rcases sp with ⟨so, s1, s2⟩ | ⟨so, s1⟩
      · have tt := or_ok v1 v2 s1 s2
        have ob := or_byte v1 v2 s1 s2
        rw [← BY] at ob
        have r1 : (v1 : Int) < 16 := by omega
        have r2 : (v2 : Int) < 16 := by omega
        rw [show 2 * k = p from PP.out.symm] at stp
        have SO := Lib.hid so
        have ST := Lib.hid stp
        clear so s1 s2 stp BY u1 u2
        go_wp2_with fail
        refine (W1.out _).mono ?_
        rintro e w' ⟨rfl, rfl⟩
        go_wp2_with fail
        refine (W2.out _).mono ?_
        rintro e w' ⟨rfl, rfl⟩
        go_wp2
        go_roundw
        case rel =>
          have P1 := PutB.setCell HAT.out k (B8 (byteAt q p))
          exact ⟨k + 1, p + 2, by have := PP.out; omega, by omega, by go_num, (fun j hj => by
            by_cases h : j < k
            · exact HOK.out j h
            · obtain rfl : j = k := by omega
              show okAt q (2 * j) = true; rw [show 2 * j = p from PP.out.symm]; exact SO.out), by rw [← ST.out]; exact P1.at_, grown_trans' HGR.out P1.grown⟩
        case measure => simp [intOf]; omega
      · have tt := or_bad v1 v2 u1 u2 s1
        have r1 : (v1 : Int) < 256 := by omega
        have r2 : (v2 : Int) < 256 := by omega
        have PN := Lib.hid (show plainO q = none by rw [PL.out]; exact decPos_none _ _ k hlt (by show okAt q (2 * k) = false; rw [show 2 * k = p from PP.out.symm]; exact so))
        clear so s1 stp BY u1 u2
        go_wp2_with fail
        refine (W1.out _).mono ?_
        rintro e w' ⟨rfl, rfl⟩
        go_wp2_with fail
        refine (W2.out _).mono ?_
        rintro e w' ⟨rfl, rfl⟩
        go_wp2
        go_ret
        exact PPost.no PN.out _ _ rfl _ (parK_length _ _ _ k HCU.out (by omega)) (parK_one _ _ _ _ H1.out) HAT.out HGR.out
    · obtain rfl : k = 16 := by omega
      subst hp
      have PY := Lib.hid (show plainO q = some (outP (fun i => 2 * i) q 16) by rw [PL.out]; exact decPos_some _ _ HOK.out)
      clear hat hk hlt
      go_wp2
      go_ret
      exact PPost.yes _ PY.out rfl (by rw [← parK_all _ _ cur HCU.out]; exact HAT.out) (outP_length _ _ _) HGR.out
end Go.Proofs.Ytnofmiinbmfbnaa
