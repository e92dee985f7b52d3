/-
  decode of the package xid where the last digit is none that ends in four noughts.
-/
import Derived.Test.YtppcpidlnpencaaDecode
namespace Go.Proofs.Ytppcpidlnpencaa
open Go.RowKit
set_option linter.unusedVariables false
set_option maxRecDepth 100000 in
set_option maxHeartbeats 8000000 in
theorem decode_no (g b o cc : Nat) (t : TypeId) (cs : List Value) (hcs : cs.length = 12) (c0 c1 c2 c3 c4 c5 c6 c7 c8 c9 c10 c11 c12 c13 c14 c15 c16 c17 c18 c19 : UInt8) (d0 d1 d2 d3 d4 d5 d6 d7 d8 d9 d10 d11 d12 d13 d14 d15 d16 d17 d18 d19 : Nat) (h0 : decN c0 = d0) (q0 : d0 < 32) (h1 : decN c1 = d1) (q1 : d1 < 32) (h2 : decN c2 = d2) (q2 : d2 < 32) (h3 : decN c3 = d3) (q3 : d3 < 32) (h4 : decN c4 = d4) (q4 : d4 < 32) (h5 : decN c5 = d5) (q5 : d5 < 32) (h6 : decN c6 = d6) (q6 : d6 < 32) (h7 : decN c7 = d7) (q7 : d7 < 32) (h8 : decN c8 = d8) (q8 : d8 < 32) (h9 : decN c9 = d9) (q9 : d9 < 32) (h10 : decN c10 = d10) (q10 : d10 < 32) (h11 : decN c11 = d11) (q11 : d11 < 32) (h12 : decN c12 = d12) (q12 : d12 < 32) (h13 : decN c13 = d13) (q13 : d13 < 32) (h14 : decN c14 = d14) (q14 : d14 < 32) (h15 : decN c15 = d15) (q15 : d15 < 32) (h16 : decN c16 = d16) (q16 : d16 < 32) (h17 : decN c17 = d17) (q17 : d17 < 32) (h18 : decN c18 = d18) (q18 : d18 < 32) (h19 : decN c19 = d19) (q19 : d19 < 32) (hz : d19 % 16 ≠ 0) (w : World) (hg : At w g t cs) (hc : Cells12 w b o [c0, c1, c2, c3, c4, c5, c6, c7, c8, c9, c10, c11, c12, c13, c14, c15, c16, c17, c18, c19]) (hne : b ≠ g) (hlt : b < w.heap.size) :
    Calls Try.prog 58 #[.pointer (some ⟨g, 0, none⟩), .slice (some ⟨b, o, none⟩) 20 cc] w fun e w' => e = .returned (.bool false) ∧ (∃ ks, ks.length = 12 ∧ At w' g t ks) ∧ w.grownBy w' (some g) := by
  have HD0 : Hid (∀ w, Calls Try.prog 57 #[.int .u8 (c0.toNat : Int)] w fun e w' => e = .returned (.int .u8 (d0 : Int)) ∧ w' = w) := Lib.hid (fun w => by have := dec_any c0 w; rw [h0] at this; exact this)
  have l0 := Lib.hid q0
  have HD1 : Hid (∀ w, Calls Try.prog 57 #[.int .u8 (c1.toNat : Int)] w fun e w' => e = .returned (.int .u8 (d1 : Int)) ∧ w' = w) := Lib.hid (fun w => by have := dec_any c1 w; rw [h1] at this; exact this)
  have l1 := Lib.hid q1
  have HD2 : Hid (∀ w, Calls Try.prog 57 #[.int .u8 (c2.toNat : Int)] w fun e w' => e = .returned (.int .u8 (d2 : Int)) ∧ w' = w) := Lib.hid (fun w => by have := dec_any c2 w; rw [h2] at this; exact this)
  have l2 := Lib.hid q2
  have HD3 : Hid (∀ w, Calls Try.prog 57 #[.int .u8 (c3.toNat : Int)] w fun e w' => e = .returned (.int .u8 (d3 : Int)) ∧ w' = w) := Lib.hid (fun w => by have := dec_any c3 w; rw [h3] at this; exact this)
  have l3 := Lib.hid q3
  have HD4 : Hid (∀ w, Calls Try.prog 57 #[.int .u8 (c4.toNat : Int)] w fun e w' => e = .returned (.int .u8 (d4 : Int)) ∧ w' = w) := Lib.hid (fun w => by have := dec_any c4 w; rw [h4] at this; exact this)
  have l4 := Lib.hid q4
  have HD5 : Hid (∀ w, Calls Try.prog 57 #[.int .u8 (c5.toNat : Int)] w fun e w' => e = .returned (.int .u8 (d5 : Int)) ∧ w' = w) := Lib.hid (fun w => by have := dec_any c5 w; rw [h5] at this; exact this)
  have l5 := Lib.hid q5
  have HD6 : Hid (∀ w, Calls Try.prog 57 #[.int .u8 (c6.toNat : Int)] w fun e w' => e = .returned (.int .u8 (d6 : Int)) ∧ w' = w) := Lib.hid (fun w => by have := dec_any c6 w; rw [h6] at this; exact this)
  have l6 := Lib.hid q6
  have HD7 : Hid (∀ w, Calls Try.prog 57 #[.int .u8 (c7.toNat : Int)] w fun e w' => e = .returned (.int .u8 (d7 : Int)) ∧ w' = w) := Lib.hid (fun w => by have := dec_any c7 w; rw [h7] at this; exact this)
  have l7 := Lib.hid q7
  have HD8 : Hid (∀ w, Calls Try.prog 57 #[.int .u8 (c8.toNat : Int)] w fun e w' => e = .returned (.int .u8 (d8 : Int)) ∧ w' = w) := Lib.hid (fun w => by have := dec_any c8 w; rw [h8] at this; exact this)
  have l8 := Lib.hid q8
  have HD9 : Hid (∀ w, Calls Try.prog 57 #[.int .u8 (c9.toNat : Int)] w fun e w' => e = .returned (.int .u8 (d9 : Int)) ∧ w' = w) := Lib.hid (fun w => by have := dec_any c9 w; rw [h9] at this; exact this)
  have l9 := Lib.hid q9
  have HD10 : Hid (∀ w, Calls Try.prog 57 #[.int .u8 (c10.toNat : Int)] w fun e w' => e = .returned (.int .u8 (d10 : Int)) ∧ w' = w) := Lib.hid (fun w => by have := dec_any c10 w; rw [h10] at this; exact this)
  have l10 := Lib.hid q10
  have HD11 : Hid (∀ w, Calls Try.prog 57 #[.int .u8 (c11.toNat : Int)] w fun e w' => e = .returned (.int .u8 (d11 : Int)) ∧ w' = w) := Lib.hid (fun w => by have := dec_any c11 w; rw [h11] at this; exact this)
  have l11 := Lib.hid q11
  have HD12 : Hid (∀ w, Calls Try.prog 57 #[.int .u8 (c12.toNat : Int)] w fun e w' => e = .returned (.int .u8 (d12 : Int)) ∧ w' = w) := Lib.hid (fun w => by have := dec_any c12 w; rw [h12] at this; exact this)
  have l12 := Lib.hid q12
  have HD13 : Hid (∀ w, Calls Try.prog 57 #[.int .u8 (c13.toNat : Int)] w fun e w' => e = .returned (.int .u8 (d13 : Int)) ∧ w' = w) := Lib.hid (fun w => by have := dec_any c13 w; rw [h13] at this; exact this)
  have l13 := Lib.hid q13
  have HD14 : Hid (∀ w, Calls Try.prog 57 #[.int .u8 (c14.toNat : Int)] w fun e w' => e = .returned (.int .u8 (d14 : Int)) ∧ w' = w) := Lib.hid (fun w => by have := dec_any c14 w; rw [h14] at this; exact this)
  have l14 := Lib.hid q14
  have HD15 : Hid (∀ w, Calls Try.prog 57 #[.int .u8 (c15.toNat : Int)] w fun e w' => e = .returned (.int .u8 (d15 : Int)) ∧ w' = w) := Lib.hid (fun w => by have := dec_any c15 w; rw [h15] at this; exact this)
  have l15 := Lib.hid q15
  have HD16 : Hid (∀ w, Calls Try.prog 57 #[.int .u8 (c16.toNat : Int)] w fun e w' => e = .returned (.int .u8 (d16 : Int)) ∧ w' = w) := Lib.hid (fun w => by have := dec_any c16 w; rw [h16] at this; exact this)
  have l16 := Lib.hid q16
  have HD17 : Hid (∀ w, Calls Try.prog 57 #[.int .u8 (c17.toNat : Int)] w fun e w' => e = .returned (.int .u8 (d17 : Int)) ∧ w' = w) := Lib.hid (fun w => by have := dec_any c17 w; rw [h17] at this; exact this)
  have l17 := Lib.hid q17
  have HD18 : Hid (∀ w, Calls Try.prog 57 #[.int .u8 (c18.toNat : Int)] w fun e w' => e = .returned (.int .u8 (d18 : Int)) ∧ w' = w) := Lib.hid (fun w => by have := dec_any c18 w; rw [h18] at this; exact this)
  have l18 := Lib.hid q18
  have HD19 : Hid (∀ w, Calls Try.prog 57 #[.int .u8 (c19.toNat : Int)] w fun e w' => e = .returned (.int .u8 (d19 : Int)) ∧ w' = w) := Lib.hid (fun w => by have := dec_any c19 w; rw [h19] at this; exact this)
  have l19 := Lib.hid q19
  have A0 := Lib.hid hg
  have CK0 := Lib.hid hc
  have NE := Lib.hid hne
  have LT0 := Lib.hid hlt
  have LN0 := Lib.hid hcs
  have HZ := Lib.hid hz
  have C19 := Lib.hid h19
  have G0 := Lib.hid (World.grownBy.refl w (some g))
  obtain ⟨vo, cp⟩ := hg.alive 11 (by rw [hcs]; omega)
  have cx := hc 19 c19 rfl
  obtain ⟨k0, hk0⟩ : ∃ k, k = cs := ⟨_, rfl⟩
  rw [← hk0] at A0 LN0
  clear hg hc hne hlt hcs hk0 hz h0 q0 h1 q1 h2 q2 h3 q3 h4 q4 h5 q5 h6 q6 h7 q7 h8 q8 h9 q9 h10 q10 h11 q11 h12 q12 h13 q13 h14 q14 h15 q15 h16 q16 h17 q17 h18 q18 h19 q19
  go_enter Try.func58, Try.ntmps58
  have cx17 : w.cell? ⟨b, o + 17, none⟩ = some (.int .u8 (c17.toNat : Int)) := CK0.out 17 c17 rfl
  have cx18 : w.cell? ⟨b, o + 18, none⟩ = some (.int .u8 (c18.toNat : Int)) := CK0.out 18 c18 rfl
  have cx19 : w.cell? ⟨b, o + 19, none⟩ = some (.int .u8 (c19.toNat : Int)) := CK0.out 19 c19 rfl
  obtain ⟨vo, cp⟩ := A0.out.alive 11 (by rw [LN0.out]; omega)
  go_wp2_with fail
  refine wp_region_still_tail 20 (by kernel_rfl) (by kernel_rfl) ?_
  simp only [List.take_succ_cons, List.take_zero, List.drop_succ_cons, List.drop_zero]
  still_step
  still_step
  still_step
  still_step
  still_call (HD17.out _)
  still_step
  still_step
  still_step
  still_step
  still_call (HD18.out _)
  still_step
  still_step
  still_step
  still_step
  still_step
  still_call (HD19.out _)
  repeat still_step
  try refine wpStill_nil ?_
  change wpList _ _ _ _ _ w.drew
  refine wpList_setc rfl 5 (.tmp 31) (.tmp 29) rfl g 11 .u8 (bits .or .u8 (bits .or .u8 (IntKind.u8.wrap ((d17 : Int) * 64)) (IntKind.u8.wrap ((d18 : Int) * 2))) ((d19 : Int) / 16)) (by rfl) (by rfl) t k0 A0.out.drew (by rw [LN0.out]; omega) Try.size8 ?_
  intro u1 hu
  rw [or3_614 d17 d18 d19 l17.out l18.out l19.out] at hu
  clear cp cx17 cx18 cx19
  have G0d := Lib.hid (grown_drew G0.out)
  have CK0d := Lib.hid (CK0.out.drew)
  obtain ⟨k1, hk1⟩ : ∃ k, k = k0.set 11 (.int .u8 ((((d17 * 64 + d18 * 2 + d19 / 16) : Nat) : Int) % 256)) := ⟨_, rfl⟩
  have A1 := Lib.hid (show At u1 g t k1 by rw [hk1]; exact hu.at_)
  have LN1 := Lib.hid (show k1.length = 12 by rw [hk1, List.length_set, LN0.out])
  have E1 := Lib.hid hk1
  have G1 := Lib.hid (grown_trans' G0d.out hu.grown)
  have CK1 := Lib.hid (CK0d.out.grown hu.grown NE.out LT0.out)
  have LT1 := Lib.hid (show b < u1.heap.size from Nat.lt_of_lt_of_le LT0.out hu.grown.size)
  clear hu hk1 CK0 A0 LT0 G0 G0d CK0d
  obtain ⟨X, hX⟩ : ∃ X : Int, X = (((d17 * 64 + d18 * 2 + d19 / 16) : Nat) : Int) % 256 := ⟨_, rfl⟩
  have cp : u1.cell? ⟨g, 11, none⟩ = some (.int .u8 X) := by
    have e : k1[11]'(by rw [LN1.out]; omega) = .int .u8 X := by simp [E1.out, hX]
    rw [A1.out.cell 11 (by rw [LN1.out]; omega), e]
  have cx19 : u1.cell? ⟨b, o + 19, none⟩ = some (.int .u8 (c19.toNat : Int)) := CK1.out 19 c19 rfl
  obtain ⟨x, ex⟩ : ∃ x, x = dig32 (d19 / 16 * 16) := ⟨_, rfl⟩
  have ix : ∀ w, (Instr.index 9 V32 (.int .u8 (bits .and .u8 (IntKind.u8.wrap (X * 16)) 31))).run Try.prog w = .ok (.int .u8 (x.toNat : Int)) w := fun w => by
    have e : bits .and .u8 (IntKind.u8.wrap (X * 16)) 31 = ((d19 / 16 * 16 : Nat) : Int) := by
      rw [wrap_u8m, u8_and31 _ (by omega) (by omega), hX]; have := l19.out; omega
    have := at32b ((d19 / 16 * 16 : Nat) : Int) (d19 / 16 * 16) rfl (by have := l19.out; omega) w
    rw [← ex] at this
    rw [e]; exact this
  have t1 : ((x.toNat : Int) != (c19.toNat : Int)) = true := by
    rw [bne_iff_ne]
    intro h
    have h' : x = c19 := UInt8.toNat_inj.1 (by omega)
    have h2 := decN_dig (d19 / 16 * 16) (by have := l19.out; omega)
    rw [← ex, h', C19.out] at h2
    have := HZ.out
    omega
  have HX := Lib.hid hX
  have EX := Lib.hid ex
  clear hX ex
  go_wp2_with fail
  go_quiet (fail)
  clear ix cp cx19
  go_wp2
  go_ret
  exact ⟨rfl, ⟨k1, LN1.out, A1.out.drewN _⟩, ⟨G1.out.os, G1.out.tape, G1.out.output, G1.out.size, G1.out.block⟩⟩
end Go.Proofs.Ytppcpidlnpencaa
