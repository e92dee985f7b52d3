/-
  spec.Xid: the bytes of an ID.
-/
import Derived.Test.YtppcpidlnpencaaJoin
import Derived.Lib.EndianBits
namespace Go.Proofs.Ytppcpidlnpencaa
open Go.RowKit
set_option linter.unusedVariables false
def xidB (s : Nat) (ms : List UInt8) (p q : Nat) : List UInt8 := ((bytesN s 4 ++ ms) ++ bytesN p 2) ++ bytesN q 3
theorem u64_and24 (x : Int) (h0 : 0 ≤ x) (h1 : x < 18446744073709551616) : bits .and .u64 x 16777215 = x % 16777216 := bits_mask .u64 64 (by decide) wraps_u64 24 (by decide) x h0 h1
theorem xidB_length (s : Nat) (ms : List UInt8) (p q : Nat) (h : ms.length = 3) : (xidB s ms p q).length = 12 := by simp [xidB, bytesN_length, h]
set_option maxRecDepth 100000 in
theorem xid_any (s p ctr q : Nat) (hs : s < 4294967296) (hp : p < 65536) (hc : ctr < 4294967296) (hq : q = (ctr + 1) % 4294967296 % 16777216) (A : Option Addr) (c : Nat) (hA : A = none → c = 0) (ms : List UInt8) (hm : ms.length = 3) (w : World) (hb : Byt w A ms) :
    Calls Try.prog 13 #[.int .i64 (s : Int), .slice A 3 c, .int .i64 (p : Int), .int .u32 (ctr : Int)] w (NewOk (xidB s ms p q) w) := by
  have HB := Lib.hid hb
  have HM := Lib.hid hm
  have HA := Lib.hid hA
  have an : bits .and .u64 (((ctr : Int) + 1) % 4294967296) 16777215 = (q : Int) := by rw [u64_and24 _ (by omega) (by omega)]; omega
  have q1 : (s : Int) < 4294967296 := by omega
  have q2 : (p : Int) < 65536 := by omega
  have q3 : (ctr : Int) < 4294967296 := by omega
  have L4 := Lib.hid (bytesN_length s 4)
  have L2 := Lib.hid (bytesN_length p 2)
  have L3 := Lib.hid (bytesN_length q 3)
  have HS := Lib.hid hs
  have HP := Lib.hid hp
  have HQ := Lib.hid (show q < 18446744073709551616 by omega)
  obtain ⟨b4, e4⟩ : ∃ b, b = bytesN s 4 := ⟨_, rfl⟩
  obtain ⟨b2, e2⟩ : ∃ b, b = bytesN p 2 := ⟨_, rfl⟩
  obtain ⟨b3, e3⟩ : ∃ b, b = bytesN q 3 := ⟨_, rfl⟩
  obtain ⟨R, hR⟩ : ∃ R, R = xidB s ms p q := ⟨_, rfl⟩
  have ER : R = ((b4 ++ ms) ++ b2) ++ b3 := by rw [hR, xidB, e4, e2, e3]
  rw [← e4] at L4
  rw [← e2] at L2
  rw [← e3] at L3
  rw [← hR]
  have E4 := Lib.hid e4
  have E2 := Lib.hid e2
  have E3 := Lib.hid e3
  have ER' := Lib.hid ER
  clear hb hm hA hq hs hp hc e4 e2 e3 hR ER
  go_enter Try.func13, Try.ntmps13
  go_wp2_with fail
  refine (bytes_any s 4 (by omega) (by omega) (by have := HS.out; omega) w).mono ?_
  rw [← E4.out]
  rintro e w1 ⟨v1, rfl, ⟨g1, c1, hv1, hg1, by1⟩, bel1⟩
  rw [L4.out] at hv1
  subst hv1
  have W1 := Lib.hid bel1
  have Y1 := Lib.hid by1
  clear hg1 by1 bel1
  go_wp2_with fail
  refine (join_any (some ⟨g1, 0, none⟩) A 4 c1 3 c (by simp) HA.out b4 ms L4.out HM.out (by omega) (by omega) (by omega) w1 Y1.out (HB.out.below W1.out (Nat.le_refl _))).mono ?_
  rintro e w2 ⟨v2, rfl, ⟨g2, c2, hv2, hg2, by2⟩, bel2⟩
  rw [List.length_append, L4.out, HM.out] at hv2
  subst hv2
  have W2 := Lib.hid (W1.out.trans (bel2.mono W1.out.size))
  have Y2 := Lib.hid by2
  clear hg2 by2 bel2
  go_wp2_with fail
  refine (bytes_any p 2 (by omega) (by omega) (by have := HP.out; omega) w2).mono ?_
  rw [← E2.out]
  rintro e w3 ⟨v3, rfl, ⟨g3, c3, hv3, hg3, by3⟩, bel3⟩
  rw [L2.out] at hv3
  subst hv3
  have W3 := Lib.hid (W2.out.trans (bel3.mono W2.out.size))
  have Y23 := Lib.hid (Y2.out.below bel3 (Nat.le_refl _))
  have Y3 := Lib.hid by3
  clear hg3 by3 bel3
  go_wp2_with fail
  refine (join_any (some ⟨g2, 0, none⟩) (some ⟨g3, 0, none⟩) 7 c2 2 c3 (by simp) (by simp) (b4 ++ ms) b2 (by rw [List.length_append, L4.out, HM.out]) L2.out (by omega) (by omega) (by omega) w3 Y23.out Y3.out).mono ?_
  rintro e w4 ⟨v4, rfl, ⟨g4, c4, hv4, hg4, by4⟩, bel4⟩
  rw [List.length_append, List.length_append, L4.out, HM.out, L2.out] at hv4
  subst hv4
  have W4 := Lib.hid (W3.out.trans (bel4.mono W3.out.size))
  have Y4 := Lib.hid by4
  clear hg4 by4 bel4
  go_wp2_with fail
  refine (bytes_any q 3 (by omega) (by omega) HQ.out w4).mono ?_
  rw [← E3.out]
  rintro e w5 ⟨v5, rfl, ⟨g5, c5, hv5, hg5, by5⟩, bel5⟩
  rw [L3.out] at hv5
  subst hv5
  have W5 := Lib.hid (W4.out.trans (bel5.mono W4.out.size))
  have Y45 := Lib.hid (Y4.out.below bel5 (Nat.le_refl _))
  have Y5 := Lib.hid by5
  clear hg5 by5 bel5
  go_wp2_with fail
  refine (join_any (some ⟨g4, 0, none⟩) (some ⟨g5, 0, none⟩) 9 c4 3 c5 (by simp) (by simp) ((b4 ++ ms) ++ b2) b3 (by rw [List.length_append, List.length_append, L4.out, HM.out, L2.out]) L3.out (by omega) (by omega) (by omega) w5 Y45.out Y5.out).mono ?_
  rw [← ER'.out]
  rintro e w6 ⟨v6, rfl, ⟨g6, c6, hv6, hg6, by6⟩, bel6⟩
  have W6 := Lib.hid (W5.out.trans (bel6.mono W5.out.size))
  have Y6 := Lib.hid by6
  have G6 := Lib.hid (Nat.le_trans W5.out.size hg6)
  have V6 := Lib.hid hv6
  clear hg6 by6 bel6 hv6
  go_wp2
  go_ret
  exact ⟨_, rfl, ⟨g6, c6, V6.out, G6.out, Y6.out⟩, W6.out⟩
end Go.Proofs.Ytppcpidlnpencaa
