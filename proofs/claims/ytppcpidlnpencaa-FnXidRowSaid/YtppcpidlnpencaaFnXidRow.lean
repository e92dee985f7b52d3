/-
  The walk of FnXidRow.
-/
import Derived.Test.YtppcpidlnpencaaRowLaw
import Derived.Test.YtppcpidlnpencaaFnXidMake
namespace Go.Proofs.Ytppcpidlnpencaa
open Go.RowKit
set_option linter.unusedVariables false
def RetTrue (w : World) (e : Ending) (w' : World) : Prop := e = .returned (.bool true) ∧ Below w.heap.size w w'
theorem getD_get (zs : List Int) (k : Nat) (h : k < zs.length) : zs.getD k 0 = zs[k] := by simp [List.getD, h]
theorem u32_mask24 (x : Int) (h0 : 0 ≤ x) (h1 : x < 4294967296) : bits .and .u32 x 16777215 = x % 16777216 := bits_mask .u32 32 (by decide) wraps_u32 24 (by decide) x h0 h1
set_option maxRecDepth 100000 in
set_option maxHeartbeats 4000000 in
theorem row_main (zs : List Int) (n : Nat) (hn : zs.length = n) (h12 : n ≤ 12) (hz : ∀ z ∈ zs, -9223372036854775808 ≤ z ∧ z ≤ 9223372036854775807) (p ctr : Nat) (hp : p < 65536) (hc : ctr < 4294967296) (T : Option Addr) (cT : Nat) (A : Option Addr) (c : Nat) (hA : A = none → c = 0) (m0 m1 m2 : UInt8) (w : World)
    (hT : I64s w T zs) (hb : Byt w A [m0, m1, m2]) :
    Calls Try.prog 5 #[.slice T n cT, .slice A 3 c, .int .i64 (p : Int), .int .u32 (ctr : Int)] w (RetTrue w) := by
  have HN := Lib.hid hn
  have HP := Lib.hid hp
  have HC := Lib.hid hc
  have HT := Lib.hid hT
  have HB := Lib.hid hb
  have HA := Lib.hid hA
  have H12 := Lib.hid h12
  have HZ := Lib.hid hz
  have d1 : decide ((2147483647 : Int) < (n : Int)) = false := by simp; omega
  have d2 : decide ((12 : Int) < (n : Int)) = false := by simp; omega
  have d3 : decide ((p : Int) < 0) = false := decide_eq_false (by omega)
  have d4 : decide ((65535 : Int) < (p : Int)) = false := by simp; omega
  have ni : (n : Int) ≤ 12 := by omega
  clear hn hp hc hT hb hA h12 hz
  go_enter Try.func5, Try.ntmps5
  go_wp2
  clear d1 d2 d3 d4
  go_loop [41] (fun i => ∃ k : Nat, k ≤ n ∧ i = .int .i64 k ∧ GoodK zs k) (fun i => n - (intOf i).toNat)
  case atStart => exact ⟨0, by omega, rfl, fun j hj => by omega⟩
  case round =>
    obtain ⟨k, hk, rfl, hgood⟩ := hrel
    have HG := Lib.hid hgood
    clear hgood
    by_cases hlt : k < n
    · have lk : k < zs.length := by rw [HN.out]; exact hlt
      obtain ⟨b, off, hTe, hlb, hcell⟩ := HT.out (by omega)
      subst hTe
      obtain ⟨z, hz⟩ : ∃ z, z = zs[k] := ⟨_, rfl⟩
      have cz : w.cell? ⟨b, off + k, none⟩ = some (.int .i64 z) := by rw [hcell k lk, hz]
      have HC' := Lib.hid hcell
      have EZ := Lib.hid (show zs.getD k 0 = z by rw [getD_get _ _ lk, hz])
      have q0 : (0 : Int) ≤ (k : Int) := by omega
      have q1 : (k : Int) < (n : Int) := by omega
      clear hcell hz
      by_cases h1 : z < 0
      · have t1 : decide (z < 0) = true := decide_eq_true h1
        go_wp2
        go_ret
        exact ⟨rfl, Below.refl _ _⟩
      · have t1 : decide (z < 0) = false := decide_eq_false h1
        by_cases h2 : 4294967295 < z
        · have t2 : decide (4294967295 < z) = true := decide_eq_true h2
          go_wp2
          go_ret
          exact ⟨rfl, Below.refl _ _⟩
        · have t2 : decide (4294967295 < z) = false := decide_eq_false h2
          by_cases h0 : k = 0
          · have t3 : decide ((0 : Int) < (k : Int)) = false := decide_eq_false (by omega)
            have t3' : decide (0 < k) = false := decide_eq_false (by omega)
            have K0 := Lib.hid h0
            clear h0
            have G1 := Lib.hid (HG.out.step (by rw [EZ.out]; omega) (by rw [EZ.out]; omega) (by have := K0.out; omega))
            go_wp2
            go_round
            case rel => exact ⟨k + 1, by omega, by go_num, G1.out⟩
            case measure => simp [intOf]; omega
          · obtain ⟨j, rfl⟩ : ∃ j, k = j + 1 := ⟨k - 1, by omega⟩
            have lj : j < zs.length := by omega
            obtain ⟨y, hy⟩ : ∃ y, y = zs[j] := ⟨_, rfl⟩
            have cy : w.cell? ⟨b, off + j, none⟩ = some (.int .i64 y) := by rw [HC'.out j lj, hy]
            have EY := Lib.hid (show zs.getD j 0 = y by rw [getD_get _ _ lj, hy])
            clear hy lj
            have q2 : (0 : Int) ≤ (j : Int) := by omega
            have q3 : (j : Int) < (n : Int) := by omega
            have t3 : decide ((0 : Int) < (j : Int) + 1) = true := decide_eq_true (by omega)
            by_cases h3 : z < y
            · have t4 : decide (z < y) = true := decide_eq_true h3
              go_wp2
              go_ret
              exact ⟨rfl, Below.refl _ _⟩
            · have t4 : decide (z < y) = false := decide_eq_false h3
              have G1 := Lib.hid (HG.out.step (by rw [EZ.out]; omega) (by rw [EZ.out]; omega) (by intro _; rw [EZ.out, Nat.add_sub_cancel, EY.out]; omega))
              go_wp2
              go_round
              case rel => exact ⟨j + 1 + 1, by omega, by go_num, G1.out⟩
              case measure => simp [intOf]; omega
    · obtain rfl : k = n := by omega
      clear hlt hk
      obtain ⟨ss, hss, ls, s1, s2, s3⟩ := nats_of zs (by rw [HN.out]; exact HG.out)
      rw [HN.out] at ls s2 s3
      have XR := Lib.hid (xidRow_any ss k ls H12.out s1 p ctr HP.out HC.out T cT A c m0 m1 m2 w (hss ▸ HT.out) HB.out)
      have LA := Lib.hid (rowK_all ss m0 m1 m2 p ctr k)
      have LAS := Lib.hid (rowK_ascend ss m0 m1 m2 p ctr k H12.out HP.out s2 s3)
      have TS := Lib.hid (show ∀ j, j < k → zs.getD j 0 = ((ss.getD j 0 : Nat) : Int) from fun j hj => by
        rw [hss]
        have : j < ss.length := by omega
        simp [List.getD, this])
      have S2 := Lib.hid s2
      have an := Lib.hid (u32_mask24 (ctr : Int) (by omega) (by have := HC.out; omega))
      clear hss ls s1 s2 s3
      go_wp2_with fail
      refine XR.out.mono ?_
      rintro e w1 ⟨v, rfl, rows, b1⟩
      obtain ⟨A', cap', hv⟩ := rows.slice
      subst hv
      have R1 := Lib.hid rows
      have B1 := Lib.hid b1
      clear rows b1
      go_wp2
      go_loopw [85] (fun i wr => ∃ j : Nat, j ≤ k ∧ i = .int .i64 j ∧ RowsB wr w.heap.size (.slice A' k cap') k (rowK ss [m0, m1, m2] p ctr k) ∧ Below w.heap.size w wr) (fun i _ => k - (intOf i).toNat)
      case atStart => exact ⟨0, by omega, rfl, R1.out, B1.out⟩
      case round =>
        obtain ⟨j, hj, rfl, hrow, hbel⟩ := hrel
        by_cases hlt : j < k
        · have lj : j < zs.length := by rw [HN.out]; exact hlt
          obtain ⟨b, off, hTe, hlb, hcell⟩ := (HT.out.below hbel (Nat.le_refl _)) (by omega)
          subst hTe
          obtain ⟨b2, cap2, hv, -, hel⟩ := hrow.cell (by omega)
          injection hv with hv1 hv2 hv3
          subst hv1
          subst hv3
          obtain ⟨L, hL⟩ : ∃ L, L = xidB (ss.getD j 0) [m0, m1, m2] p ((ctr + j + 1) % 16777216) := ⟨_, rfl⟩
          have hLj : (rowK ss [m0, m1, m2] p ctr k)[j]? = some L := by rw [hL]; simp [rowK, hlt]
          obtain ⟨u, cu, iu⟩ := hel j L hLj
          have lL := LA.out L (List.mem_of_getElem? hLj)
          obtain ⟨g, capg, rfl, -, -, yg⟩ := iu.byt
          rw [lL] at cu
          obtain ⟨s, hs⟩ : ∃ s, s = ss.getD j 0 := ⟨_, rfl⟩
          have cs : wr.cell? ⟨b, off + j, none⟩ = some (.int .i64 (s : Int)) := by
            rw [hcell j lj, ← getD_get zs j lj, TS.out j hlt, hs]
          have sl : s < 4294967296 := by rw [hs]; exact S2.out j hlt
          rw [← hs] at hL
          obtain ⟨cj, hcj⟩ : ∃ cj, cj = (ctr + j) % 4294967296 := ⟨_, rfl⟩
          have ec : ((ctr : Int) + (j : Int)) % 4294967296 = (cj : Int) := by rw [hcj]; omega
          have XX : Hid (∀ w', Byt w' A [m0, m1, m2] → Calls Try.prog 13 #[.int .i64 (s : Int), .slice A 3 c, .int .i64 (p : Int), .int .u32 (cj : Int)] w' (NewOk L w')) := Lib.hid (fun w' (h : Byt w' A [m0, m1, m2]) => by rw [hL]; exact xid_any s p cj ((ctr + j + 1) % 16777216) sl HP.out (by omega) (by omega) A c HA.out [m0, m1, m2] rfl w' h)
          have HR := Lib.hid hrow
          have HBe := Lib.hid hbel
          have Yg := Lib.hid yg
          have LL := Lib.hid lL
          have q0 : (0 : Int) ≤ (j : Int) := by omega
          have q1 : (j : Int) < (k : Int) := by omega
          clear hcell hel hLj lL hs sl hL hcj hrow hbel yg iu lj
          go_wp2_with fail
          refine (XX.out _ (HB.out.below HBe.out (Nat.le_refl _))).mono ?_
          rintro e w2 ⟨v2, rfl, ⟨g2, c2, hv2, hg2, by2⟩, bel2⟩
          rw [LL.out] at hv2
          subst hv2
          have R2 := Lib.hid (HR.out.below bel2)
          have B2 := Lib.hid (HBe.out.trans (bel2.mono HBe.out.size))
          have Y2 := Lib.hid by2
          have Yg2 := Lib.hid (Yg.out.below bel2 (Nat.le_refl _))
          clear hg2 by2 bel2
          go_wp2_with fail
          refine (same_any (some ⟨g, 0, none⟩) (some ⟨g2, 0, none⟩) 12 12 capg c2 L L LL.out LL.out (by omega) _ Yg2.out Y2.out).mono ?_
          rw [sameB_self]
          intro e w3 h3
          obtain ⟨rfl, b3⟩ := h3.below
          have R3 := Lib.hid (R2.out.below b3)
          have B3 := Lib.hid (B2.out.trans (b3.mono B2.out.size))
          clear h3 b3
          go_wp2
          go_roundw
          case rel => exact ⟨j + 1, by omega, by go_num, R3.out, B3.out⟩
          case measure => simp [intOf]; omega
        · obtain rfl : j = k := by omega
          have HR := Lib.hid hrow
          have HBe := Lib.hid hbel
          clear hrow hbel hlt hj
          by_cases hbig : ctr % 16777216 ≤ 16777196
          · have a1 : decide ((16777196 : Int) < (ctr : Int) % 16777216) = false := decide_eq_false (by omega)
            have an' := an.out
            have ASC := Lib.hid (LAS.out hbig)
            clear hbig
            go_wp2_with fail
            refine (rising_any w.heap.size _ j (by have := H12.out; omega) 12 (by omega) _ LA.out ASC.out wr HR.out).mono ?_
            rintro e w2 ⟨rfl, b2⟩
            have B2 := Lib.hid (HBe.out.trans (b2.mono HBe.out.size))
            clear b2 an'
            go_wp2
            go_ret
            exact ⟨rfl, B2.out⟩
          · have a1 : decide ((16777196 : Int) < (ctr : Int) % 16777216) = true := decide_eq_true (by omega)
            have an' := an.out
            clear hbig
            go_wp2
            go_ret
            exact ⟨rfl, HBe.out⟩
set_option maxRecDepth 100000 in
theorem row_bad (T : Option Addr) (n cT : Nat) (A : Option Addr) (m c : Nat) (p ctr : Int) (h : ¬ (n ≤ 12 ∧ m = 3 ∧ 0 ≤ p ∧ p ≤ 65535)) (w : World) :
    Calls Try.prog 5 #[.slice T n cT, .slice A m c, .int .i64 p, .int .u32 ctr] w (RetTrue w) := by
  by_cases h1 : (2147483647 : Int) < (n : Int)
  · clear h
    go_enter Try.func5, Try.ntmps5
    go_wp2
    go_ret
    exact ⟨rfl, Below.refl _ _⟩
  · have d1 : decide ((2147483647 : Int) < (n : Int)) = false := decide_eq_false h1
    by_cases h2 : (2147483647 : Int) < (m : Int)
    · clear h
      go_enter Try.func5, Try.ntmps5
      go_wp2
      go_ret
      exact ⟨rfl, Below.refl _ _⟩
    · have d2 : decide ((2147483647 : Int) < (m : Int)) = false := decide_eq_false h2
      by_cases h3 : (12 : Int) < (n : Int)
      · clear h
        go_enter Try.func5, Try.ntmps5
        go_wp2
        go_ret
        exact ⟨rfl, Below.refl _ _⟩
      · have d3 : decide ((12 : Int) < (n : Int)) = false := decide_eq_false h3
        by_cases h4 : m = 3
        · subst h4
          by_cases h5 : p < 0
          · clear h
            go_enter Try.func5, Try.ntmps5
            go_wp2
            go_ret
            exact ⟨rfl, Below.refl _ _⟩
          · have d5 : decide (p < 0) = false := decide_eq_false h5
            have h6 : 65535 < p := by omega
            clear h
            go_enter Try.func5, Try.ntmps5
            go_wp2
            go_ret
            exact ⟨rfl, Below.refl _ _⟩
        · have t4 : ((m : Int) != 3) = true := by rw [bne_iff_ne]; omega
          clear h
          go_enter Try.func5, Try.ntmps5
          go_wp2
          go_ret
          exact ⟨rfl, Below.refl _ _⟩
theorem walk_FnXidRow (a0 : Option Addr) (len0 cap0 : Nat) (z0 : List Int) (a1 : Option Addr) (len1 cap1 : Nat) (z1 : List Int) (a2 a3 : Int) (w : World) (w0 : IsRow .i64 w a0 len0 cap0 z0) (w1 : IsRow .u8 w a1 len1 cap1 z1) (w2 : (Lit.int .i64 a2).wf = true) (w3 : (Lit.int .u32 a3).wf = true) :
    Calls Try.prog 5 #[.slice a0 len0 cap0, .slice a1 len1 cap1, .int .i64 a2, .int .u32 a3] w fun e w' => e = .returned (.bool true) ∧ Below w.heap.size w w' := by
  obtain ⟨zs, y1, y2, y3, y4, y5⟩ := nums_of_row w0
  obtain ⟨bs, h1, h2, h3, h4⟩ := bytes_of_row w1
  obtain ⟨p1, p2⟩ := u32_of_wf a3 w3
  by_cases h : len0 ≤ 12 ∧ len1 = 3 ∧ 0 ≤ a2 ∧ a2 ≤ 65535
  · obtain ⟨k1, rfl, k3, k4⟩ := h
    obtain ⟨m0, m1, m2, rfl⟩ := three bs h1
    obtain ⟨p, rfl⟩ := Int.eq_ofNat_of_zero_le k3
    obtain ⟨ctr, rfl⟩ := Int.eq_ofNat_of_zero_le p1
    exact row_main zs len0 y1 k1 y5 p ctr (by omega) (by omega) a0 cap0 a1 cap1 h3 m0 m1 m2 w y2 h2
  · exact row_bad a0 len0 cap0 a1 len1 cap1 a2 a3 h w
end Go.Proofs.Ytppcpidlnpencaa
