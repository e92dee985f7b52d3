/-
  The walk of FnXidMake.
-/
import Derived.Test.YtppcpidlnpencaaMake
import Derived.Test.YtppcpidlnpencaaCmp
import Derived.Test.YtppcpidlnpencaaRow
namespace Go.Proofs.Ytppcpidlnpencaa
open Go.RowKit
set_option linter.unusedVariables false
theorem i64_of_wf (n : Int) (h : (Lit.int .i64 n).wf = true) : -9223372036854775808 ≤ n ∧ n ≤ 9223372036854775807 := by
  have h1 : IntKind.i64.min = -9223372036854775808 := rfl
  have h2 : IntKind.i64.max = 9223372036854775807 := rfl
  simp only [Lit.wf, Bool.and_eq_true, decide_eq_true_eq] at h
  omega
theorem u32_of_wf (n : Int) (h : (Lit.int .u32 n).wf = true) : 0 ≤ n ∧ n < 4294967296 := by
  have h1 : IntKind.u32.min = 0 := rfl
  have h2 : IntKind.u32.max = 4294967295 := rfl
  simp only [Lit.wf, Bool.and_eq_true, decide_eq_true_eq] at h
  omega
theorem three (ms : List UInt8) (h : ms.length = 3) : ∃ m0 m1 m2, ms = [m0, m1, m2] := by
  match ms, h with
  | [m0, m1, m2], _ => exact ⟨m0, m1, m2, rfl⟩
set_option maxRecDepth 100000 in
set_option maxHeartbeats 1000000 in
theorem make_yes (s p ctr q : Nat) (hs : s < 4294967296) (hp : p < 65536) (hc : ctr < 4294967296) (hq : q = (ctr + 1) % 4294967296) (A : Option Addr) (c : Nat) (hA : A = none → c = 0) (m0 m1 m2 : UInt8) (w : World) (hb : Byt w A [m0, m1, m2]) :
    Calls Try.prog 3 #[.int .i64 (s : Int), .slice A 3 c, .int .i64 (p : Int), .int .u32 (ctr : Int)] w fun e w' => e = .returned (.bool true) ∧ Below w.heap.size w w' := by
  have HB := Lib.hid hb
  have HS := Lib.hid hs
  have HP := Lib.hid hp
  have HC := Lib.hid hc
  have HQ := Lib.hid hq
  have HA := Lib.hid hA
  obtain ⟨R, hR⟩ : ∃ R, R = xidB s [m0, m1, m2] p (q % 16777216) := ⟨_, rfl⟩
  have LR := Lib.hid (show R.length = 12 by rw [hR, xidB_length _ _ _ _ rfl])
  have HRR := Lib.hid hR
  have t1 : ¬ (s : Int) < 0 := by omega
  have t2 : ¬ (4294967295 : Int) < (s : Int) := by omega
  have t3 : ¬ (p : Int) < 0 := by omega
  have t4 : ¬ (65535 : Int) < (p : Int) := by omega
  have d1 : decide ((s : Int) < 0) = false := decide_eq_false t1
  have d2 : decide ((4294967295 : Int) < (s : Int)) = false := decide_eq_false t2
  have d3 : decide ((p : Int) < 0) = false := decide_eq_false t3
  have d4 : decide ((65535 : Int) < (p : Int)) = false := decide_eq_false t4
  clear hb hs hp hc hq hA hR
  go_enter Try.func3, Try.ntmps3
  go_wp2_with fail
  refine (xidMake_any s p ctr q HS.out HP.out HC.out HQ.out A c m0 m1 m2 w HB.out).mono ?_
  rw [← HRR.out]
  rintro e w1 ⟨v1, rfl, ⟨g1, c1, hv1, hg1, by1⟩, bel1⟩
  rw [LR.out] at hv1
  subst hv1
  have B1 := Lib.hid bel1
  have Y1 := Lib.hid by1
  clear hg1 by1 bel1
  go_wp2_with fail
  refine (xid_any s p ctr (q % 16777216) HS.out HP.out HC.out (by rw [HQ.out]) A c HA.out [m0, m1, m2] rfl w1 (HB.out.below B1.out (Nat.le_refl _))).mono ?_
  rw [← HRR.out]
  rintro e w2 ⟨v2, rfl, ⟨g2, c2, hv2, hg2, by2⟩, bel2⟩
  rw [LR.out] at hv2
  subst hv2
  have B2 := Lib.hid (B1.out.trans (bel2.mono B1.out.size))
  have Y12 := Lib.hid (Y1.out.below bel2 (Nat.le_refl _))
  have Y2 := Lib.hid by2
  clear hg2 by2 bel2
  go_wp2_with fail
  refine (same_any (some ⟨g1, 0, none⟩) (some ⟨g2, 0, none⟩) 12 12 c1 c2 R R LR.out LR.out (by omega) w2 Y12.out Y2.out).mono ?_
  rw [sameB_self]
  intro e w3 h
  obtain ⟨rfl, bel3⟩ := h.below
  have B3 := Lib.hid (B2.out.trans (bel3.mono B2.out.size))
  clear h bel3
  go_wp2
  go_ret
  exact ⟨rfl, B3.out⟩
set_option maxRecDepth 100000 in
theorem make_len (A : Option Addr) (n c : Nat) (hn : n ≠ 3) (s p ctr : Int) (w : World) :
    Calls Try.prog 3 #[.int .i64 s, .slice A n c, .int .i64 p, .int .u32 ctr] w fun e w' => e = .returned (.bool true) ∧ Below w.heap.size w w' := by
  have t1 : ((n : Int) != 3) = true := by rw [bne_iff_ne]; omega
  by_cases h : (2147483647 : Int) < (n : Int)
  · go_enter Try.func3, Try.ntmps3
    go_wp2
    go_ret
    exact ⟨rfl, Below.refl _ _⟩
  · go_enter Try.func3, Try.ntmps3
    go_wp2
    go_ret
    exact ⟨rfl, Below.refl _ _⟩
set_option maxRecDepth 100000 in
theorem make_no (A : Option Addr) (n c : Nat) (hn : n = 3) (s p ctr : Int) (h : ¬ (0 ≤ s ∧ s < 4294967296 ∧ 0 ≤ p ∧ p < 65536)) (w : World) :
    Calls Try.prog 3 #[.int .i64 s, .slice A n c, .int .i64 p, .int .u32 ctr] w fun e w' => e = .returned (.bool true) ∧ Below w.heap.size w w' := by
  subst hn
  by_cases h1 : s < 0
  · clear h
    go_enter Try.func3, Try.ntmps3
    go_wp2
    go_ret
    exact ⟨rfl, Below.refl _ _⟩
  · have d1 : decide (s < 0) = false := by simp; omega
    by_cases h2 : 4294967295 < s
    · clear h
      go_enter Try.func3, Try.ntmps3
      go_wp2
      go_ret
      exact ⟨rfl, Below.refl _ _⟩
    · have d2 : decide (4294967295 < s) = false := by simp; omega
      by_cases h3 : p < 0
      · clear h
        go_enter Try.func3, Try.ntmps3
        go_wp2
        go_ret
        exact ⟨rfl, Below.refl _ _⟩
      · have d3 : decide (p < 0) = false := by simp; omega
        have h4 : 65535 < p := by omega
        clear h
        go_enter Try.func3, Try.ntmps3
        go_wp2
        go_ret
        exact ⟨rfl, Below.refl _ _⟩
theorem walk_FnXidMake (a0 : Int) (a1 : Option Addr) (len1 cap1 : Nat) (z1 : List Int) (a2 a3 : Int) (w : World) (w0 : (Lit.int .i64 a0).wf = true) (w1 : IsRow .u8 w a1 len1 cap1 z1) (w2 : (Lit.int .i64 a2).wf = true) (w3 : (Lit.int .u32 a3).wf = true) :
    Calls Try.prog 3 #[.int .i64 a0, .slice a1 len1 cap1, .int .i64 a2, .int .u32 a3] w fun e w' => e = .returned (.bool true) ∧ Below w.heap.size w w' := by
  obtain ⟨bs, h1, h2, h3, h4⟩ := bytes_of_row w1
  obtain ⟨p1, p2⟩ := u32_of_wf a3 w3
  by_cases hn : len1 = 3
  · by_cases h : 0 ≤ a0 ∧ a0 < 4294967296 ∧ 0 ≤ a2 ∧ a2 < 65536
    · obtain ⟨m0, m1, m2, rfl⟩ := three bs (by omega)
      subst hn
      obtain ⟨s, rfl⟩ := Int.eq_ofNat_of_zero_le h.1
      obtain ⟨p, rfl⟩ := Int.eq_ofNat_of_zero_le h.2.2.1
      obtain ⟨ctr, rfl⟩ := Int.eq_ofNat_of_zero_le p1
      exact make_yes s p ctr _ (by omega) (by omega) (by omega) rfl a1 cap1 h3 m0 m1 m2 w h2
    · exact make_no a1 len1 cap1 hn a0 a2 a3 h w
  · exact make_len a1 len1 cap1 hn a0 a2 a3 w
end Go.Proofs.Ytppcpidlnpencaa
