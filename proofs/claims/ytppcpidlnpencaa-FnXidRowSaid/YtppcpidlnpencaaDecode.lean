/-
  decode of the package xid.
-/
import Derived.Test.YtppcpidlnpencaaDec
import Derived.Test.YtppcpidlnpencaaCell
import Derived.Test.YtppcpidlnpencaaEncode
namespace Go.Proofs.Ytppcpidlnpencaa
open Go.RowKit
set_option linter.unusedVariables false
theorem or3_614 (a b c : Nat) (ha : a < 32) (hb : b < 32) (hc : c < 32) : bits .or .u8 (bits .or .u8 (IntKind.u8.wrap ((a : Int) * 64)) (IntKind.u8.wrap ((b : Int) * 2))) ((c : Int) / 16) = ((a * 64 + b * 2 + c / 16 : Nat) : Int) % 256 := by
  rw [wrap_u8m, wrap_u8m, bits_join .u8 8 (by decide) wraps_u8 6 ((a : Int) * 64 % 256) ((b : Int) * 2 % 256) (by omega) (by omega) (by omega) (by omega) (by omega) (by omega),
    bits_join .u8 8 (by decide) wraps_u8 1 ((a : Int) * 64 % 256 + (b : Int) * 2 % 256) ((c : Int) / 16) (by omega) (by omega) (by omega) (by omega) (by omega) (by omega)]
  omega
theorem or3_723 (a b c : Nat) (ha : a < 32) (hb : b < 32) (hc : c < 32) : bits .or .u8 (bits .or .u8 (IntKind.u8.wrap ((a : Int) * 128)) (IntKind.u8.wrap ((b : Int) * 4))) ((c : Int) / 8) = ((a * 128 + b * 4 + c / 8 : Nat) : Int) % 256 := by
  rw [wrap_u8m, wrap_u8m, bits_join .u8 8 (by decide) wraps_u8 7 ((a : Int) * 128 % 256) ((b : Int) * 4 % 256) (by omega) (by omega) (by omega) (by omega) (by omega) (by omega),
    bits_join .u8 8 (by decide) wraps_u8 2 ((a : Int) * 128 % 256 + (b : Int) * 4 % 256) ((c : Int) / 8) (by omega) (by omega) (by omega) (by omega) (by omega) (by omega)]
  omega
theorem or2_32 (a b : Nat) (ha : a < 32) (hb : b < 32) : bits .or .u8 (IntKind.u8.wrap ((a : Int) * 8)) ((b : Int) / 4) = ((a * 8 + b / 4 : Nat) : Int) % 256 := by
  rw [wrap_u8m, bits_join .u8 8 (by decide) wraps_u8 3 ((a : Int) * 8 % 256) ((b : Int) / 4) (by omega) (by omega) (by omega) (by omega) (by omega) (by omega)]
  omega
theorem or2_41 (a b : Nat) (ha : a < 32) (hb : b < 32) : bits .or .u8 (IntKind.u8.wrap ((a : Int) * 16)) ((b : Int) / 2) = ((a * 16 + b / 2 : Nat) : Int) % 256 := by
  rw [wrap_u8m, bits_join .u8 8 (by decide) wraps_u8 4 ((a : Int) * 16 % 256) ((b : Int) / 2) (by omega) (by omega) (by omega) (by omega) (by omega) (by omega)]
  omega
theorem or2_50 (a b : Nat) (ha : a < 32) (hb : b < 32) : bits .or .u8 (IntKind.u8.wrap ((a : Int) * 32)) (b : Int) = ((a * 32 + b : Nat) : Int) % 256 := by
  rw [wrap_u8m, bits_join .u8 8 (by decide) wraps_u8 5 ((a : Int) * 32 % 256) (b : Int) (by omega) (by omega) (by omega) (by omega) (by omega) (by omega)]
  omega
def decL (d0 d1 d2 d3 d4 d5 d6 d7 d8 d9 d10 d11 d12 d13 d14 d15 d16 d17 d18 d19 : Nat) : List UInt8 :=
  [UInt8.ofNat (d0 * 8 + d1 / 4), UInt8.ofNat (d1 * 64 + d2 * 2 + d3 / 16), UInt8.ofNat (d3 * 16 + d4 / 2), UInt8.ofNat (d4 * 128 + d5 * 4 + d6 / 8), UInt8.ofNat (d6 * 32 + d7), UInt8.ofNat (d8 * 8 + d9 / 4), UInt8.ofNat (d9 * 64 + d10 * 2 + d11 / 16), UInt8.ofNat (d11 * 16 + d12 / 2), UInt8.ofNat (d12 * 128 + d13 * 4 + d14 / 8), UInt8.ofNat (d14 * 32 + d15), UInt8.ofNat (d16 * 8 + d17 / 4), UInt8.ofNat (d17 * 64 + d18 * 2 + d19 / 16)]
theorem fin12d (cs : List Value) (hcs : cs.length = 12) (d0 d1 d2 d3 d4 d5 d6 d7 d8 d9 d10 d11 d12 d13 d14 d15 d16 d17 d18 d19 : Nat) : ((((((((((((cs.set 11 (.int .u8 ((((d17 * 64 + d18 * 2 + d19 / 16) : Nat) : Int) % 256))).set 10 (.int .u8 ((((d16 * 8 + d17 / 4) : Nat) : Int) % 256))).set 9 (.int .u8 ((((d14 * 32 + d15) : Nat) : Int) % 256))).set 8 (.int .u8 ((((d12 * 128 + d13 * 4 + d14 / 8) : Nat) : Int) % 256))).set 7 (.int .u8 ((((d11 * 16 + d12 / 2) : Nat) : Int) % 256))).set 6 (.int .u8 ((((d9 * 64 + d10 * 2 + d11 / 16) : Nat) : Int) % 256))).set 5 (.int .u8 ((((d8 * 8 + d9 / 4) : Nat) : Int) % 256))).set 4 (.int .u8 ((((d6 * 32 + d7) : Nat) : Int) % 256))).set 3 (.int .u8 ((((d4 * 128 + d5 * 4 + d6 / 8) : Nat) : Int) % 256))).set 2 (.int .u8 ((((d3 * 16 + d4 / 2) : Nat) : Int) % 256))).set 1 (.int .u8 ((((d1 * 64 + d2 * 2 + d3 / 16) : Nat) : Int) % 256))).set 0 (.int .u8 ((((d0 * 8 + d1 / 4) : Nat) : Int) % 256))) = (decL d0 d1 d2 d3 d4 d5 d6 d7 d8 d9 d10 d11 d12 d13 d14 d15 d16 d17 d18 d19).map B8 := by
  match cs, hcs with
  | [e0, e1, e2, e3, e4, e5, e6, e7, e8, e9, e10, e11], _ => simp only [List.set_cons_succ, List.set_cons_zero, decL, List.map, B8, ofNat_u8]
set_option maxRecDepth 100000 in
set_option maxHeartbeats 8000000 in
theorem decode_yes (g b o cc : Nat) (t : TypeId) (cs : List Value) (hcs : cs.length = 12) (c0 c1 c2 c3 c4 c5 c6 c7 c8 c9 c10 c11 c12 c13 c14 c15 c16 c17 c18 c19 : UInt8) (d0 d1 d2 d3 d4 d5 d6 d7 d8 d9 d10 d11 d12 d13 d14 d15 d16 d17 d18 d19 : Nat) (h0 : decN c0 = d0) (q0 : d0 < 32) (h1 : decN c1 = d1) (q1 : d1 < 32) (h2 : decN c2 = d2) (q2 : d2 < 32) (h3 : decN c3 = d3) (q3 : d3 < 32) (h4 : decN c4 = d4) (q4 : d4 < 32) (h5 : decN c5 = d5) (q5 : d5 < 32) (h6 : decN c6 = d6) (q6 : d6 < 32) (h7 : decN c7 = d7) (q7 : d7 < 32) (h8 : decN c8 = d8) (q8 : d8 < 32) (h9 : decN c9 = d9) (q9 : d9 < 32) (h10 : decN c10 = d10) (q10 : d10 < 32) (h11 : decN c11 = d11) (q11 : d11 < 32) (h12 : decN c12 = d12) (q12 : d12 < 32) (h13 : decN c13 = d13) (q13 : d13 < 32) (h14 : decN c14 = d14) (q14 : d14 < 32) (h15 : decN c15 = d15) (q15 : d15 < 32) (h16 : decN c16 = d16) (q16 : d16 < 32) (h17 : decN c17 = d17) (q17 : d17 < 32) (h18 : decN c18 = d18) (q18 : d18 < 32) (h19 : decN c19 = d19) (q19 : d19 < 32) (hz : d19 % 16 = 0) (w : World) (hg : At w g t cs) (hc : Cells12 w b o [c0, c1, c2, c3, c4, c5, c6, c7, c8, c9, c10, c11, c12, c13, c14, c15, c16, c17, c18, c19]) (hne : b ≠ g) (hlt : b < w.heap.size) :
    Calls Try.prog 58 #[.pointer (some ⟨g, 0, none⟩), .slice (some ⟨b, o, none⟩) 20 cc] w fun e w' => e = .returned (.bool true) ∧ At w' g t ((decL d0 d1 d2 d3 d4 d5 d6 d7 d8 d9 d10 d11 d12 d13 d14 d15 d16 d17 d18 d19).map B8) ∧ w.grownBy w' (some g) := by
  have HD0 : Hid (∀ w, Calls Try.prog 57 #[.int .u8 (c0.toNat : Int)] w fun e w' => e = .returned (.int .u8 (d0 : Int)) ∧ w' = w) := Lib.hid (fun w => by have := dec_any c0 w; rw [h0] at this; exact this)
  have l0 := Lib.hid q0
  have HD1 : Hid (∀ w, Calls Try.prog 57 #[.int .u8 (c1.toNat : Int)] w fun e w' => e = .returned (.int .u8 (d1 : Int)) ∧ w' = w) := Lib.hid (fun w => by have := dec_any c1 w; rw [h1] at this; exact this)
  have l1 := Lib.hid q1
  have HD2 : Hid (∀ w, Calls Try.prog 57 #[.int .u8 (c2.toNat : Int)] w fun e w' => e = .returned (.int .u8 (d2 : Int)) ∧ w' = w) := Lib.hid (fun w => by have := dec_any c2 w; rw [h2] at this; exact this)
  have l2 := Lib.hid q2
  have HD3 : Hid (∀ w, Calls Try.prog 57 #[.int .u8 (c3.toNat : Int)] w fun e w' => e = .returned (.int .u8 (d3 : Int)) ∧ w' = w) := Lib.hid (fun w => by have := dec_any c3 w; rw [h3] at this; exact this)
  have l3 := Lib.hid q3
  have HD4 : Hid (∀ w, Calls Try.prog 57 #[.int .u8 (c4.toNat : Int)] w fun e w' => e = .returned (.int .u8 (d4 : Int)) ∧ w' = w) := Lib.hid (fun w => by have := dec_any c4 w; rw [h4] at this; exact this)
  have l4 := Lib.hid q4
  have HD5 : Hid (∀ w, Calls Try.prog 57 #[.int .u8 (c5.toNat : Int)] w fun e w' => e = .returned (.int .u8 (d5 : Int)) ∧ w' = w) := Lib.hid (fun w => by have := dec_any c5 w; rw [h5] at this; exact this)
  have l5 := Lib.hid q5
  have HD6 : Hid (∀ w, Calls Try.prog 57 #[.int .u8 (c6.toNat : Int)] w fun e w' => e = .returned (.int .u8 (d6 : Int)) ∧ w' = w) := Lib.hid (fun w => by have := dec_any c6 w; rw [h6] at this; exact this)
  have l6 := Lib.hid q6
  have HD7 : Hid (∀ w, Calls Try.prog 57 #[.int .u8 (c7.toNat : Int)] w fun e w' => e = .returned (.int .u8 (d7 : Int)) ∧ w' = w) := Lib.hid (fun w => by have := dec_any c7 w; rw [h7] at this; exact this)
  have l7 := Lib.hid q7
  have HD8 : Hid (∀ w, Calls Try.prog 57 #[.int .u8 (c8.toNat : Int)] w fun e w' => e = .returned (.int .u8 (d8 : Int)) ∧ w' = w) := Lib.hid (fun w => by have := dec_any c8 w; rw [h8] at this; exact this)
  have l8 := Lib.hid q8
  have HD9 : Hid (∀ w, Calls Try.prog 57 #[.int .u8 (c9.toNat : Int)] w fun e w' => e = .returned (.int .u8 (d9 : Int)) ∧ w' = w) := Lib.hid (fun w => by have := dec_any c9 w; rw [h9] at this; exact this)
  have l9 := Lib.hid q9
  have HD10 : Hid (∀ w, Calls Try.prog 57 #[.int .u8 (c10.toNat : Int)] w fun e w' => e = .returned (.int .u8 (d10 : Int)) ∧ w' = w) := Lib.hid (fun w => by have := dec_any c10 w; rw [h10] at this; exact this)
  have l10 := Lib.hid q10
  have HD11 : Hid (∀ w, Calls Try.prog 57 #[.int .u8 (c11.toNat : Int)] w fun e w' => e = .returned (.int .u8 (d11 : Int)) ∧ w' = w) := Lib.hid (fun w => by have := dec_any c11 w; rw [h11] at this; exact this)
  have l11 := Lib.hid q11
  have HD12 : Hid (∀ w, Calls Try.prog 57 #[.int .u8 (c12.toNat : Int)] w fun e w' => e = .returned (.int .u8 (d12 : Int)) ∧ w' = w) := Lib.hid (fun w => by have := dec_any c12 w; rw [h12] at this; exact this)
  have l12 := Lib.hid q12
  have HD13 : Hid (∀ w, Calls Try.prog 57 #[.int .u8 (c13.toNat : Int)] w fun e w' => e = .returned (.int .u8 (d13 : Int)) ∧ w' = w) := Lib.hid (fun w => by have := dec_any c13 w; rw [h13] at this; exact this)
  have l13 := Lib.hid q13
  have HD14 : Hid (∀ w, Calls Try.prog 57 #[.int .u8 (c14.toNat : Int)] w fun e w' => e = .returned (.int .u8 (d14 : Int)) ∧ w' = w) := Lib.hid (fun w => by have := dec_any c14 w; rw [h14] at this; exact this)
  have l14 := Lib.hid q14
  have HD15 : Hid (∀ w, Calls Try.prog 57 #[.int .u8 (c15.toNat : Int)] w fun e w' => e = .returned (.int .u8 (d15 : Int)) ∧ w' = w) := Lib.hid (fun w => by have := dec_any c15 w; rw [h15] at this; exact this)
  have l15 := Lib.hid q15
  have HD16 : Hid (∀ w, Calls Try.prog 57 #[.int .u8 (c16.toNat : Int)] w fun e w' => e = .returned (.int .u8 (d16 : Int)) ∧ w' = w) := Lib.hid (fun w => by have := dec_any c16 w; rw [h16] at this; exact this)
  have l16 := Lib.hid q16
  have HD17 : Hid (∀ w, Calls Try.prog 57 #[.int .u8 (c17.toNat : Int)] w fun e w' => e = .returned (.int .u8 (d17 : Int)) ∧ w' = w) := Lib.hid (fun w => by have := dec_any c17 w; rw [h17] at this; exact this)
  have l17 := Lib.hid q17
  have HD18 : Hid (∀ w, Calls Try.prog 57 #[.int .u8 (c18.toNat : Int)] w fun e w' => e = .returned (.int .u8 (d18 : Int)) ∧ w' = w) := Lib.hid (fun w => by have := dec_any c18 w; rw [h18] at this; exact this)
  have l18 := Lib.hid q18
  have HD19 : Hid (∀ w, Calls Try.prog 57 #[.int .u8 (c19.toNat : Int)] w fun e w' => e = .returned (.int .u8 (d19 : Int)) ∧ w' = w) := Lib.hid (fun w => by have := dec_any c19 w; rw [h19] at this; exact this)
  have l19 := Lib.hid q19
  have A0 := Lib.hid hg
  have CK0 := Lib.hid hc
  have NE := Lib.hid hne
  have LT0 := Lib.hid hlt
  have LN0 := Lib.hid hcs
  have HZ := Lib.hid hz
  have C19 := Lib.hid h19
  have G0 := Lib.hid (World.grownBy.refl w (some g))
  obtain ⟨vo, cp⟩ := hg.alive 11 (by rw [hcs]; omega)
  have cx := hc 19 c19 rfl
  obtain ⟨k0, hk0⟩ : ∃ k, k = cs := ⟨_, rfl⟩
  rw [← hk0] at A0 LN0
  clear hg hc hne hlt hcs hk0 hz h0 q0 h1 q1 h2 q2 h3 q3 h4 q4 h5 q5 h6 q6 h7 q7 h8 q8 h9 q9 h10 q10 h11 q11 h12 q12 h13 q13 h14 q14 h15 q15 h16 q16 h17 q17 h18 q18 h19 q19
  go_enter Try.func58, Try.ntmps58
  have cx17 : w.cell? ⟨b, o + 17, none⟩ = some (.int .u8 (c17.toNat : Int)) := CK0.out 17 c17 rfl
  have cx18 : w.cell? ⟨b, o + 18, none⟩ = some (.int .u8 (c18.toNat : Int)) := CK0.out 18 c18 rfl
  have cx19 : w.cell? ⟨b, o + 19, none⟩ = some (.int .u8 (c19.toNat : Int)) := CK0.out 19 c19 rfl
  obtain ⟨vo, cp⟩ := A0.out.alive 11 (by rw [LN0.out]; omega)
  go_wp2_with fail
  refine wp_region_still_tail 20 (by kernel_rfl) (by kernel_rfl) ?_
  simp only [List.take_succ_cons, List.take_zero, List.drop_succ_cons, List.drop_zero]
  still_step
  still_step
  still_step
  still_step
  still_call (HD17.out _)
  still_step
  still_step
  still_step
  still_step
  still_call (HD18.out _)
  still_step
  still_step
  still_step
  still_step
  still_step
  still_call (HD19.out _)
  repeat still_step
  try refine wpStill_nil ?_
  change wpList _ _ _ _ _ w.drew
  refine wpList_setc rfl 5 (.tmp 31) (.tmp 29) rfl g 11 .u8 (bits .or .u8 (bits .or .u8 (IntKind.u8.wrap ((d17 : Int) * 64)) (IntKind.u8.wrap ((d18 : Int) * 2))) ((d19 : Int) / 16)) (by rfl) (by rfl) t k0 A0.out.drew (by rw [LN0.out]; omega) Try.size8 ?_
  intro u1 hu
  rw [or3_614 d17 d18 d19 l17.out l18.out l19.out] at hu
  clear cp cx17 cx18 cx19
  have G0d := Lib.hid (grown_drew G0.out)
  have CK0d := Lib.hid (CK0.out.drew)
  obtain ⟨k1, hk1⟩ : ∃ k, k = k0.set 11 (.int .u8 ((((d17 * 64 + d18 * 2 + d19 / 16) : Nat) : Int) % 256)) := ⟨_, rfl⟩
  have A1 := Lib.hid (show At u1 g t k1 by rw [hk1]; exact hu.at_)
  have LN1 := Lib.hid (show k1.length = 12 by rw [hk1, List.length_set, LN0.out])
  have E1 := Lib.hid hk1
  have G1 := Lib.hid (grown_trans' G0d.out hu.grown)
  have CK1 := Lib.hid (CK0d.out.grown hu.grown NE.out LT0.out)
  have LT1 := Lib.hid (show b < u1.heap.size from Nat.lt_of_lt_of_le LT0.out hu.grown.size)
  clear hu hk1 CK0 A0 LT0 G0 G0d CK0d
  obtain ⟨X, hX⟩ : ∃ X : Int, X = (((d17 * 64 + d18 * 2 + d19 / 16) : Nat) : Int) % 256 := ⟨_, rfl⟩
  have cp : u1.cell? ⟨g, 11, none⟩ = some (.int .u8 X) := by
    have e : k1[11]'(by rw [LN1.out]; omega) = .int .u8 X := by simp [E1.out, hX]
    rw [A1.out.cell 11 (by rw [LN1.out]; omega), e]
  have cx19 : u1.cell? ⟨b, o + 19, none⟩ = some (.int .u8 (c19.toNat : Int)) := CK1.out 19 c19 rfl
  have ix : ∀ w, (Instr.index 9 V32 (.int .u8 (bits .and .u8 (IntKind.u8.wrap (X * 16)) 31))).run Try.prog w = .ok (.int .u8 (c19.toNat : Int)) w := fun w => by
    have e : bits .and .u8 (IntKind.u8.wrap (X * 16)) 31 = (d19 : Int) := by
      rw [wrap_u8m, u8_and31 _ (by omega) (by omega), hX]; have := HZ.out; have := l19.out; omega
    have hd : dig32 d19 = c19 := by
      rcases decN_cases c19 with h | ⟨-, h⟩
      · rw [C19.out] at h; have := l19.out; omega
      · rw [C19.out] at h; exact h
    have := at32b (d19 : Int) d19 rfl l19.out w
    rw [hd] at this
    rw [e]; exact this
  have HX := Lib.hid hX
  clear hX
  go_wp2_with fail
  go_quiet (fail)
  clear ix cp cx19
  rename_i nq
  obtain ⟨v1, hv1⟩ : ∃ v, v = u1.drewN nq := ⟨_, rfl⟩
  rw [← hv1]
  have A1' := Lib.hid (show At v1 g t k1 by rw [hv1]; exact A1.out.drewN nq)
  have CK1' := Lib.hid (show Cells12 v1 b o _ by rw [hv1]; exact CK1.out)
  have G1' := Lib.hid (show w.grownBy v1 (some g) by rw [hv1]; exact ⟨G1.out.os, G1.out.tape, G1.out.output, G1.out.size, G1.out.block⟩)
  have LT1' := Lib.hid (show b < v1.heap.size by rw [hv1]; exact LT1.out)
  clear A1 CK1 G1 LT1 hv1
  have A1 := A1'
  have CK1 := CK1'
  have G1 := G1'
  have LT1 := LT1'
  clear A1' CK1' G1' LT1'
  have cx16 : v1.cell? ⟨b, o + 16, none⟩ = some (.int .u8 (c16.toNat : Int)) := CK1.out 16 c16 rfl
  have cx17 : v1.cell? ⟨b, o + 17, none⟩ = some (.int .u8 (c17.toNat : Int)) := CK1.out 17 c17 rfl
  obtain ⟨vo, cp⟩ := A1.out.alive 10 (by rw [LN1.out]; omega)
  go_wp2_with fail
  refine wp_region_still_tail 14 (by kernel_rfl) (by kernel_rfl) ?_
  simp only [List.take_succ_cons, List.take_zero, List.drop_succ_cons, List.drop_zero]
  still_step
  still_step
  still_step
  still_step
  still_call (HD16.out _)
  still_step
  still_step
  still_step
  still_step
  still_call (HD17.out _)
  repeat still_step
  try refine wpStill_nil ?_
  change wpList _ _ _ _ _ v1.drew
  refine wpList_setc rfl 5 (.tmp 56) (.tmp 54) rfl g 10 .u8 (bits .or .u8 (IntKind.u8.wrap ((d16 : Int) * 8)) ((d17 : Int) / 4)) (by rfl) (by rfl) t k1 A1.out.drew (by rw [LN1.out]; omega) Try.size8 ?_
  intro u2 hu
  rw [or2_32 d16 d17 l16.out l17.out] at hu
  clear cp cx16 cx17
  have G1d := Lib.hid (grown_drew G1.out)
  have CK1d := Lib.hid (CK1.out.drew)
  obtain ⟨k2, hk2⟩ : ∃ k, k = k1.set 10 (.int .u8 ((((d16 * 8 + d17 / 4) : Nat) : Int) % 256)) := ⟨_, rfl⟩
  have A2 := Lib.hid (show At u2 g t k2 by rw [hk2]; exact hu.at_)
  have LN2 := Lib.hid (show k2.length = 12 by rw [hk2, List.length_set, LN1.out])
  have E2 := Lib.hid hk2
  have G2 := Lib.hid (grown_trans' G1d.out hu.grown)
  have CK2 := Lib.hid (CK1d.out.grown hu.grown NE.out LT1.out)
  have LT2 := Lib.hid (show b < u2.heap.size from Nat.lt_of_lt_of_le LT1.out hu.grown.size)
  clear hu hk2 CK1 A1 LT1 G1 G1d CK1d
  have cx14 : u2.cell? ⟨b, o + 14, none⟩ = some (.int .u8 (c14.toNat : Int)) := CK2.out 14 c14 rfl
  have cx15 : u2.cell? ⟨b, o + 15, none⟩ = some (.int .u8 (c15.toNat : Int)) := CK2.out 15 c15 rfl
  obtain ⟨vo, cp⟩ := A2.out.alive 9 (by rw [LN2.out]; omega)
  go_wp2_with fail
  refine wp_region_still_tail 13 (by kernel_rfl) (by kernel_rfl) ?_
  simp only [List.take_succ_cons, List.take_zero, List.drop_succ_cons, List.drop_zero]
  still_step
  still_step
  still_step
  still_step
  still_call (HD14.out _)
  still_step
  still_step
  still_step
  still_step
  still_call (HD15.out _)
  repeat still_step
  try refine wpStill_nil ?_
  change wpList _ _ _ _ _ u2.drew
  refine wpList_setc rfl 5 (.tmp 69) (.tmp 67) rfl g 9 .u8 (bits .or .u8 (IntKind.u8.wrap ((d14 : Int) * 32)) (d15 : Int)) (by rfl) (by rfl) t k2 A2.out.drew (by rw [LN2.out]; omega) Try.size8 ?_
  intro u3 hu
  rw [or2_50 d14 d15 l14.out l15.out] at hu
  clear cp cx14 cx15
  have G2d := Lib.hid (grown_drew G2.out)
  have CK2d := Lib.hid (CK2.out.drew)
  obtain ⟨k3, hk3⟩ : ∃ k, k = k2.set 9 (.int .u8 ((((d14 * 32 + d15) : Nat) : Int) % 256)) := ⟨_, rfl⟩
  have A3 := Lib.hid (show At u3 g t k3 by rw [hk3]; exact hu.at_)
  have LN3 := Lib.hid (show k3.length = 12 by rw [hk3, List.length_set, LN2.out])
  have E3 := Lib.hid hk3
  have G3 := Lib.hid (grown_trans' G2d.out hu.grown)
  have CK3 := Lib.hid (CK2d.out.grown hu.grown NE.out LT2.out)
  have LT3 := Lib.hid (show b < u3.heap.size from Nat.lt_of_lt_of_le LT2.out hu.grown.size)
  clear hu hk3 CK2 A2 LT2 G2 G2d CK2d
  have cx12 : u3.cell? ⟨b, o + 12, none⟩ = some (.int .u8 (c12.toNat : Int)) := CK3.out 12 c12 rfl
  have cx13 : u3.cell? ⟨b, o + 13, none⟩ = some (.int .u8 (c13.toNat : Int)) := CK3.out 13 c13 rfl
  have cx14 : u3.cell? ⟨b, o + 14, none⟩ = some (.int .u8 (c14.toNat : Int)) := CK3.out 14 c14 rfl
  obtain ⟨vo, cp⟩ := A3.out.alive 8 (by rw [LN3.out]; omega)
  go_wp2_with fail
  refine wp_region_still_tail 20 (by kernel_rfl) (by kernel_rfl) ?_
  simp only [List.take_succ_cons, List.take_zero, List.drop_succ_cons, List.drop_zero]
  still_step
  still_step
  still_step
  still_step
  still_call (HD12.out _)
  still_step
  still_step
  still_step
  still_step
  still_call (HD13.out _)
  still_step
  still_step
  still_step
  still_step
  still_step
  still_call (HD14.out _)
  repeat still_step
  try refine wpStill_nil ?_
  change wpList _ _ _ _ _ u3.drew
  refine wpList_setc rfl 5 (.tmp 89) (.tmp 87) rfl g 8 .u8 (bits .or .u8 (bits .or .u8 (IntKind.u8.wrap ((d12 : Int) * 128)) (IntKind.u8.wrap ((d13 : Int) * 4))) ((d14 : Int) / 8)) (by rfl) (by rfl) t k3 A3.out.drew (by rw [LN3.out]; omega) Try.size8 ?_
  intro u4 hu
  rw [or3_723 d12 d13 d14 l12.out l13.out l14.out] at hu
  clear cp cx12 cx13 cx14
  have G3d := Lib.hid (grown_drew G3.out)
  have CK3d := Lib.hid (CK3.out.drew)
  obtain ⟨k4, hk4⟩ : ∃ k, k = k3.set 8 (.int .u8 ((((d12 * 128 + d13 * 4 + d14 / 8) : Nat) : Int) % 256)) := ⟨_, rfl⟩
  have A4 := Lib.hid (show At u4 g t k4 by rw [hk4]; exact hu.at_)
  have LN4 := Lib.hid (show k4.length = 12 by rw [hk4, List.length_set, LN3.out])
  have E4 := Lib.hid hk4
  have G4 := Lib.hid (grown_trans' G3d.out hu.grown)
  have CK4 := Lib.hid (CK3d.out.grown hu.grown NE.out LT3.out)
  have LT4 := Lib.hid (show b < u4.heap.size from Nat.lt_of_lt_of_le LT3.out hu.grown.size)
  clear hu hk4 CK3 A3 LT3 G3 G3d CK3d
  have cx11 : u4.cell? ⟨b, o + 11, none⟩ = some (.int .u8 (c11.toNat : Int)) := CK4.out 11 c11 rfl
  have cx12 : u4.cell? ⟨b, o + 12, none⟩ = some (.int .u8 (c12.toNat : Int)) := CK4.out 12 c12 rfl
  obtain ⟨vo, cp⟩ := A4.out.alive 7 (by rw [LN4.out]; omega)
  go_wp2_with fail
  refine wp_region_still_tail 14 (by kernel_rfl) (by kernel_rfl) ?_
  simp only [List.take_succ_cons, List.take_zero, List.drop_succ_cons, List.drop_zero]
  still_step
  still_step
  still_step
  still_step
  still_call (HD11.out _)
  still_step
  still_step
  still_step
  still_step
  still_call (HD12.out _)
  repeat still_step
  try refine wpStill_nil ?_
  change wpList _ _ _ _ _ u4.drew
  refine wpList_setc rfl 5 (.tmp 103) (.tmp 101) rfl g 7 .u8 (bits .or .u8 (IntKind.u8.wrap ((d11 : Int) * 16)) ((d12 : Int) / 2)) (by rfl) (by rfl) t k4 A4.out.drew (by rw [LN4.out]; omega) Try.size8 ?_
  intro u5 hu
  rw [or2_41 d11 d12 l11.out l12.out] at hu
  clear cp cx11 cx12
  have G4d := Lib.hid (grown_drew G4.out)
  have CK4d := Lib.hid (CK4.out.drew)
  obtain ⟨k5, hk5⟩ : ∃ k, k = k4.set 7 (.int .u8 ((((d11 * 16 + d12 / 2) : Nat) : Int) % 256)) := ⟨_, rfl⟩
  have A5 := Lib.hid (show At u5 g t k5 by rw [hk5]; exact hu.at_)
  have LN5 := Lib.hid (show k5.length = 12 by rw [hk5, List.length_set, LN4.out])
  have E5 := Lib.hid hk5
  have G5 := Lib.hid (grown_trans' G4d.out hu.grown)
  have CK5 := Lib.hid (CK4d.out.grown hu.grown NE.out LT4.out)
  have LT5 := Lib.hid (show b < u5.heap.size from Nat.lt_of_lt_of_le LT4.out hu.grown.size)
  clear hu hk5 CK4 A4 LT4 G4 G4d CK4d
  have cx9 : u5.cell? ⟨b, o + 9, none⟩ = some (.int .u8 (c9.toNat : Int)) := CK5.out 9 c9 rfl
  have cx10 : u5.cell? ⟨b, o + 10, none⟩ = some (.int .u8 (c10.toNat : Int)) := CK5.out 10 c10 rfl
  have cx11 : u5.cell? ⟨b, o + 11, none⟩ = some (.int .u8 (c11.toNat : Int)) := CK5.out 11 c11 rfl
  obtain ⟨vo, cp⟩ := A5.out.alive 6 (by rw [LN5.out]; omega)
  go_wp2_with fail
  refine wp_region_still_tail 20 (by kernel_rfl) (by kernel_rfl) ?_
  simp only [List.take_succ_cons, List.take_zero, List.drop_succ_cons, List.drop_zero]
  still_step
  still_step
  still_step
  still_step
  still_call (HD9.out _)
  still_step
  still_step
  still_step
  still_step
  still_call (HD10.out _)
  still_step
  still_step
  still_step
  still_step
  still_step
  still_call (HD11.out _)
  repeat still_step
  try refine wpStill_nil ?_
  change wpList _ _ _ _ _ u5.drew
  refine wpList_setc rfl 5 (.tmp 123) (.tmp 121) rfl g 6 .u8 (bits .or .u8 (bits .or .u8 (IntKind.u8.wrap ((d9 : Int) * 64)) (IntKind.u8.wrap ((d10 : Int) * 2))) ((d11 : Int) / 16)) (by rfl) (by rfl) t k5 A5.out.drew (by rw [LN5.out]; omega) Try.size8 ?_
  intro u6 hu
  rw [or3_614 d9 d10 d11 l9.out l10.out l11.out] at hu
  clear cp cx9 cx10 cx11
  have G5d := Lib.hid (grown_drew G5.out)
  have CK5d := Lib.hid (CK5.out.drew)
  obtain ⟨k6, hk6⟩ : ∃ k, k = k5.set 6 (.int .u8 ((((d9 * 64 + d10 * 2 + d11 / 16) : Nat) : Int) % 256)) := ⟨_, rfl⟩
  have A6 := Lib.hid (show At u6 g t k6 by rw [hk6]; exact hu.at_)
  have LN6 := Lib.hid (show k6.length = 12 by rw [hk6, List.length_set, LN5.out])
  have E6 := Lib.hid hk6
  have G6 := Lib.hid (grown_trans' G5d.out hu.grown)
  have CK6 := Lib.hid (CK5d.out.grown hu.grown NE.out LT5.out)
  have LT6 := Lib.hid (show b < u6.heap.size from Nat.lt_of_lt_of_le LT5.out hu.grown.size)
  clear hu hk6 CK5 A5 LT5 G5 G5d CK5d
  have cx8 : u6.cell? ⟨b, o + 8, none⟩ = some (.int .u8 (c8.toNat : Int)) := CK6.out 8 c8 rfl
  have cx9 : u6.cell? ⟨b, o + 9, none⟩ = some (.int .u8 (c9.toNat : Int)) := CK6.out 9 c9 rfl
  obtain ⟨vo, cp⟩ := A6.out.alive 5 (by rw [LN6.out]; omega)
  go_wp2_with fail
  refine wp_region_still_tail 14 (by kernel_rfl) (by kernel_rfl) ?_
  simp only [List.take_succ_cons, List.take_zero, List.drop_succ_cons, List.drop_zero]
  still_step
  still_step
  still_step
  still_step
  still_call (HD8.out _)
  still_step
  still_step
  still_step
  still_step
  still_call (HD9.out _)
  repeat still_step
  try refine wpStill_nil ?_
  change wpList _ _ _ _ _ u6.drew
  refine wpList_setc rfl 5 (.tmp 137) (.tmp 135) rfl g 5 .u8 (bits .or .u8 (IntKind.u8.wrap ((d8 : Int) * 8)) ((d9 : Int) / 4)) (by rfl) (by rfl) t k6 A6.out.drew (by rw [LN6.out]; omega) Try.size8 ?_
  intro u7 hu
  rw [or2_32 d8 d9 l8.out l9.out] at hu
  clear cp cx8 cx9
  have G6d := Lib.hid (grown_drew G6.out)
  have CK6d := Lib.hid (CK6.out.drew)
  obtain ⟨k7, hk7⟩ : ∃ k, k = k6.set 5 (.int .u8 ((((d8 * 8 + d9 / 4) : Nat) : Int) % 256)) := ⟨_, rfl⟩
  have A7 := Lib.hid (show At u7 g t k7 by rw [hk7]; exact hu.at_)
  have LN7 := Lib.hid (show k7.length = 12 by rw [hk7, List.length_set, LN6.out])
  have E7 := Lib.hid hk7
  have G7 := Lib.hid (grown_trans' G6d.out hu.grown)
  have CK7 := Lib.hid (CK6d.out.grown hu.grown NE.out LT6.out)
  have LT7 := Lib.hid (show b < u7.heap.size from Nat.lt_of_lt_of_le LT6.out hu.grown.size)
  clear hu hk7 CK6 A6 LT6 G6 G6d CK6d
  have cx6 : u7.cell? ⟨b, o + 6, none⟩ = some (.int .u8 (c6.toNat : Int)) := CK7.out 6 c6 rfl
  have cx7 : u7.cell? ⟨b, o + 7, none⟩ = some (.int .u8 (c7.toNat : Int)) := CK7.out 7 c7 rfl
  obtain ⟨vo, cp⟩ := A7.out.alive 4 (by rw [LN7.out]; omega)
  go_wp2_with fail
  refine wp_region_still_tail 13 (by kernel_rfl) (by kernel_rfl) ?_
  simp only [List.take_succ_cons, List.take_zero, List.drop_succ_cons, List.drop_zero]
  still_step
  still_step
  still_step
  still_step
  still_call (HD6.out _)
  still_step
  still_step
  still_step
  still_step
  still_call (HD7.out _)
  repeat still_step
  try refine wpStill_nil ?_
  change wpList _ _ _ _ _ u7.drew
  refine wpList_setc rfl 5 (.tmp 150) (.tmp 148) rfl g 4 .u8 (bits .or .u8 (IntKind.u8.wrap ((d6 : Int) * 32)) (d7 : Int)) (by rfl) (by rfl) t k7 A7.out.drew (by rw [LN7.out]; omega) Try.size8 ?_
  intro u8 hu
  rw [or2_50 d6 d7 l6.out l7.out] at hu
  clear cp cx6 cx7
  have G7d := Lib.hid (grown_drew G7.out)
  have CK7d := Lib.hid (CK7.out.drew)
  obtain ⟨k8, hk8⟩ : ∃ k, k = k7.set 4 (.int .u8 ((((d6 * 32 + d7) : Nat) : Int) % 256)) := ⟨_, rfl⟩
  have A8 := Lib.hid (show At u8 g t k8 by rw [hk8]; exact hu.at_)
  have LN8 := Lib.hid (show k8.length = 12 by rw [hk8, List.length_set, LN7.out])
  have E8 := Lib.hid hk8
  have G8 := Lib.hid (grown_trans' G7d.out hu.grown)
  have CK8 := Lib.hid (CK7d.out.grown hu.grown NE.out LT7.out)
  have LT8 := Lib.hid (show b < u8.heap.size from Nat.lt_of_lt_of_le LT7.out hu.grown.size)
  clear hu hk8 CK7 A7 LT7 G7 G7d CK7d
  have cx4 : u8.cell? ⟨b, o + 4, none⟩ = some (.int .u8 (c4.toNat : Int)) := CK8.out 4 c4 rfl
  have cx5 : u8.cell? ⟨b, o + 5, none⟩ = some (.int .u8 (c5.toNat : Int)) := CK8.out 5 c5 rfl
  have cx6 : u8.cell? ⟨b, o + 6, none⟩ = some (.int .u8 (c6.toNat : Int)) := CK8.out 6 c6 rfl
  obtain ⟨vo, cp⟩ := A8.out.alive 3 (by rw [LN8.out]; omega)
  go_wp2_with fail
  refine wp_region_still_tail 20 (by kernel_rfl) (by kernel_rfl) ?_
  simp only [List.take_succ_cons, List.take_zero, List.drop_succ_cons, List.drop_zero]
  still_step
  still_step
  still_step
  still_step
  still_call (HD4.out _)
  still_step
  still_step
  still_step
  still_step
  still_call (HD5.out _)
  still_step
  still_step
  still_step
  still_step
  still_step
  still_call (HD6.out _)
  repeat still_step
  try refine wpStill_nil ?_
  change wpList _ _ _ _ _ u8.drew
  refine wpList_setc rfl 5 (.tmp 170) (.tmp 168) rfl g 3 .u8 (bits .or .u8 (bits .or .u8 (IntKind.u8.wrap ((d4 : Int) * 128)) (IntKind.u8.wrap ((d5 : Int) * 4))) ((d6 : Int) / 8)) (by rfl) (by rfl) t k8 A8.out.drew (by rw [LN8.out]; omega) Try.size8 ?_
  intro u9 hu
  rw [or3_723 d4 d5 d6 l4.out l5.out l6.out] at hu
  clear cp cx4 cx5 cx6
  have G8d := Lib.hid (grown_drew G8.out)
  have CK8d := Lib.hid (CK8.out.drew)
  obtain ⟨k9, hk9⟩ : ∃ k, k = k8.set 3 (.int .u8 ((((d4 * 128 + d5 * 4 + d6 / 8) : Nat) : Int) % 256)) := ⟨_, rfl⟩
  have A9 := Lib.hid (show At u9 g t k9 by rw [hk9]; exact hu.at_)
  have LN9 := Lib.hid (show k9.length = 12 by rw [hk9, List.length_set, LN8.out])
  have E9 := Lib.hid hk9
  have G9 := Lib.hid (grown_trans' G8d.out hu.grown)
  have CK9 := Lib.hid (CK8d.out.grown hu.grown NE.out LT8.out)
  have LT9 := Lib.hid (show b < u9.heap.size from Nat.lt_of_lt_of_le LT8.out hu.grown.size)
  clear hu hk9 CK8 A8 LT8 G8 G8d CK8d
  have cx3 : u9.cell? ⟨b, o + 3, none⟩ = some (.int .u8 (c3.toNat : Int)) := CK9.out 3 c3 rfl
  have cx4 : u9.cell? ⟨b, o + 4, none⟩ = some (.int .u8 (c4.toNat : Int)) := CK9.out 4 c4 rfl
  obtain ⟨vo, cp⟩ := A9.out.alive 2 (by rw [LN9.out]; omega)
  go_wp2_with fail
  refine wp_region_still_tail 14 (by kernel_rfl) (by kernel_rfl) ?_
  simp only [List.take_succ_cons, List.take_zero, List.drop_succ_cons, List.drop_zero]
  still_step
  still_step
  still_step
  still_step
  still_call (HD3.out _)
  still_step
  still_step
  still_step
  still_step
  still_call (HD4.out _)
  repeat still_step
  try refine wpStill_nil ?_
  change wpList _ _ _ _ _ u9.drew
  refine wpList_setc rfl 5 (.tmp 184) (.tmp 182) rfl g 2 .u8 (bits .or .u8 (IntKind.u8.wrap ((d3 : Int) * 16)) ((d4 : Int) / 2)) (by rfl) (by rfl) t k9 A9.out.drew (by rw [LN9.out]; omega) Try.size8 ?_
  intro u10 hu
  rw [or2_41 d3 d4 l3.out l4.out] at hu
  clear cp cx3 cx4
  have G9d := Lib.hid (grown_drew G9.out)
  have CK9d := Lib.hid (CK9.out.drew)
  obtain ⟨k10, hk10⟩ : ∃ k, k = k9.set 2 (.int .u8 ((((d3 * 16 + d4 / 2) : Nat) : Int) % 256)) := ⟨_, rfl⟩
  have A10 := Lib.hid (show At u10 g t k10 by rw [hk10]; exact hu.at_)
  have LN10 := Lib.hid (show k10.length = 12 by rw [hk10, List.length_set, LN9.out])
  have E10 := Lib.hid hk10
  have G10 := Lib.hid (grown_trans' G9d.out hu.grown)
  have CK10 := Lib.hid (CK9d.out.grown hu.grown NE.out LT9.out)
  have LT10 := Lib.hid (show b < u10.heap.size from Nat.lt_of_lt_of_le LT9.out hu.grown.size)
  clear hu hk10 CK9 A9 LT9 G9 G9d CK9d
  have cx1 : u10.cell? ⟨b, o + 1, none⟩ = some (.int .u8 (c1.toNat : Int)) := CK10.out 1 c1 rfl
  have cx2 : u10.cell? ⟨b, o + 2, none⟩ = some (.int .u8 (c2.toNat : Int)) := CK10.out 2 c2 rfl
  have cx3 : u10.cell? ⟨b, o + 3, none⟩ = some (.int .u8 (c3.toNat : Int)) := CK10.out 3 c3 rfl
  obtain ⟨vo, cp⟩ := A10.out.alive 1 (by rw [LN10.out]; omega)
  go_wp2_with fail
  refine wp_region_still_tail 20 (by kernel_rfl) (by kernel_rfl) ?_
  simp only [List.take_succ_cons, List.take_zero, List.drop_succ_cons, List.drop_zero]
  still_step
  still_step
  still_step
  still_step
  still_call (HD1.out _)
  still_step
  still_step
  still_step
  still_step
  still_call (HD2.out _)
  still_step
  still_step
  still_step
  still_step
  still_step
  still_call (HD3.out _)
  repeat still_step
  try refine wpStill_nil ?_
  change wpList _ _ _ _ _ u10.drew
  refine wpList_setc rfl 5 (.tmp 204) (.tmp 202) rfl g 1 .u8 (bits .or .u8 (bits .or .u8 (IntKind.u8.wrap ((d1 : Int) * 64)) (IntKind.u8.wrap ((d2 : Int) * 2))) ((d3 : Int) / 16)) (by rfl) (by rfl) t k10 A10.out.drew (by rw [LN10.out]; omega) Try.size8 ?_
  intro u11 hu
  rw [or3_614 d1 d2 d3 l1.out l2.out l3.out] at hu
  clear cp cx1 cx2 cx3
  have G10d := Lib.hid (grown_drew G10.out)
  have CK10d := Lib.hid (CK10.out.drew)
  obtain ⟨k11, hk11⟩ : ∃ k, k = k10.set 1 (.int .u8 ((((d1 * 64 + d2 * 2 + d3 / 16) : Nat) : Int) % 256)) := ⟨_, rfl⟩
  have A11 := Lib.hid (show At u11 g t k11 by rw [hk11]; exact hu.at_)
  have LN11 := Lib.hid (show k11.length = 12 by rw [hk11, List.length_set, LN10.out])
  have E11 := Lib.hid hk11
  have G11 := Lib.hid (grown_trans' G10d.out hu.grown)
  have CK11 := Lib.hid (CK10d.out.grown hu.grown NE.out LT10.out)
  have LT11 := Lib.hid (show b < u11.heap.size from Nat.lt_of_lt_of_le LT10.out hu.grown.size)
  clear hu hk11 CK10 A10 LT10 G10 G10d CK10d
  have cx0 : u11.cell? ⟨b, o, none⟩ = some (.int .u8 (c0.toNat : Int)) := CK11.out 0 c0 rfl
  have cx1 : u11.cell? ⟨b, o + 1, none⟩ = some (.int .u8 (c1.toNat : Int)) := CK11.out 1 c1 rfl
  obtain ⟨vo, cp⟩ := A11.out.alive 0 (by rw [LN11.out]; omega)
  go_wp2_with fail
  refine wp_region_still_tail 14 (by kernel_rfl) (by kernel_rfl) ?_
  simp only [List.take_succ_cons, List.take_zero, List.drop_succ_cons, List.drop_zero]
  still_step
  still_step
  still_step
  still_step
  still_call (HD0.out _)
  still_step
  still_step
  still_step
  still_step
  still_call (HD1.out _)
  repeat still_step
  try refine wpStill_nil ?_
  change wpList _ _ _ _ _ u11.drew
  refine wpList_setc rfl 5 (.tmp 218) (.tmp 216) rfl g 0 .u8 (bits .or .u8 (IntKind.u8.wrap ((d0 : Int) * 8)) ((d1 : Int) / 4)) (by rfl) (by rfl) t k11 A11.out.drew (by rw [LN11.out]; omega) Try.size8 ?_
  intro u12 hu
  rw [or2_32 d0 d1 l0.out l1.out] at hu
  clear cp cx0 cx1
  have G11d := Lib.hid (grown_drew G11.out)
  have CK11d := Lib.hid (CK11.out.drew)
  obtain ⟨k12, hk12⟩ : ∃ k, k = k11.set 0 (.int .u8 ((((d0 * 8 + d1 / 4) : Nat) : Int) % 256)) := ⟨_, rfl⟩
  have A12 := Lib.hid (show At u12 g t k12 by rw [hk12]; exact hu.at_)
  have LN12 := Lib.hid (show k12.length = 12 by rw [hk12, List.length_set, LN11.out])
  have E12 := Lib.hid hk12
  have G12 := Lib.hid (grown_trans' G11d.out hu.grown)
  have CK12 := Lib.hid (CK11d.out.grown hu.grown NE.out LT11.out)
  have LT12 := Lib.hid (show b < u12.heap.size from Nat.lt_of_lt_of_le LT11.out hu.grown.size)
  clear hu hk12 CK11 A11 LT11 G11 G11d CK11d
  go_wp2
  go_ret
  refine ⟨rfl, ?_, G12.out⟩
  have hfin : k12 = (decL d0 d1 d2 d3 d4 d5 d6 d7 d8 d9 d10 d11 d12 d13 d14 d15 d16 d17 d18 d19).map B8 := by
    rw [E12.out, E11.out, E10.out, E9.out, E8.out, E7.out, E6.out, E5.out, E4.out, E3.out, E2.out, E1.out]
    exact fin12d k0 LN0.out d0 d1 d2 d3 d4 d5 d6 d7 d8 d9 d10 d11 d12 d13 d14 d15 d16 d17 d18 d19
  rw [← hfin]
  exact A12.out
end Go.Proofs.Ytppcpidlnpencaa
