/-
  encode of the package xid: twenty digits of five bits each.
-/
import Derived.Test.YtppcpidlnpencaaXidText
import Derived.Deep.QuietTactic
import Derived.BigQuiet
import Derived.StillTailTactics
namespace Go.Proofs.Ytppcpidlnpencaa
open Go.RowKit
set_option linter.unusedVariables false
abbrev V32 : Value := .string ⟨#[48, 49, 50, 51, 52, 53, 54, 55, 56, 57, 97, 98, 99, 100, 101, 102, 103, 104, 105, 106, 107, 108, 109, 110, 111, 112, 113, 114, 115, 116, 117, 118]⟩
theorem at32b (e : Int) (n : Nat) (he : e = (n : Int)) (h : n < 32) (w : World) : (Instr.index 9 V32 (.int .u8 e)).run Try.prog w = .ok (.int .u8 ((dig32 n).toNat : Int)) w := by
  subst he
  have h' : n = 0 ∨ n = 1 ∨ n = 2 ∨ n = 3 ∨ n = 4 ∨ n = 5 ∨ n = 6 ∨ n = 7 ∨ n = 8 ∨ n = 9 ∨ n = 10 ∨ n = 11 ∨ n = 12 ∨ n = 13 ∨ n = 14 ∨ n = 15 ∨ n = 16 ∨ n = 17 ∨ n = 18 ∨ n = 19 ∨ n = 20 ∨ n = 21 ∨ n = 22 ∨ n = 23 ∨ n = 24 ∨ n = 25 ∨ n = 26 ∨ n = 27 ∨ n = 28 ∨ n = 29 ∨ n = 30 ∨ n = 31 := by omega
  rcases h' with rfl | rfl | rfl | rfl | rfl | rfl | rfl | rfl | rfl | rfl | rfl | rfl | rfl | rfl | rfl | rfl | rfl | rfl | rfl | rfl | rfl | rfl | rfl | rfl | rfl | rfl | rfl | rfl | rfl | rfl | rfl | rfl <;> (show _ = _; kernel_rfl)
theorem u8_and31 (v : Int) (h0 : 0 ≤ v) (h1 : v < 256) : bits .and .u8 v 31 = v % 32 := bits_mask .u8 8 (by decide) wraps_u8 5 (by decide) v h0 h1
theorem exA (x : UInt8) : bits .and .u8 ((x.toNat : Int) * 16 % 256) 31 = ((x.toNat * 16 % 32 : Nat) : Int) := by
  have := x.toNat_lt
  rw [u8_and31 _ (by omega) (by omega)]; omega
theorem exE (x : UInt8) : bits .and .u8 (x.toNat : Int) 31 = ((x.toNat % 32 : Nat) : Int) := by
  have := x.toNat_lt
  rw [u8_and31 _ (by omega) (by omega)]; omega
theorem exB2 (x : UInt8) : bits .and .u8 ((x.toNat : Int) / 2) 31 = ((x.toNat / 2 % 32 : Nat) : Int) := by
  have := x.toNat_lt
  rw [u8_and31 _ (by omega) (by omega)]; omega
theorem exB4 (x : UInt8) : bits .and .u8 ((x.toNat : Int) / 4) 31 = ((x.toNat / 4 % 32 : Nat) : Int) := by
  have := x.toNat_lt
  rw [u8_and31 _ (by omega) (by omega)]; omega
theorem exC64 (x y : UInt8) : bits .or .u8 ((x.toNat : Int) / 64) (bits .and .u8 ((y.toNat : Int) * 4 % 256) 31) = ((x.toNat / 64 + y.toNat * 4 % 32 : Nat) : Int) := by
  have := x.toNat_lt
  have := y.toNat_lt
  rw [u8_and31 _ (by omega) (by omega), bits_join_low .u8 8 (by decide) wraps_u8 2 _ _ (by omega) (by omega) (by omega) (by omega) (by omega) (by omega)]
  omega
theorem exC32 (x y : UInt8) : bits .or .u8 ((x.toNat : Int) / 32) (bits .and .u8 ((y.toNat : Int) * 8 % 256) 31) = ((x.toNat / 32 + y.toNat * 8 % 32 : Nat) : Int) := by
  have := x.toNat_lt
  have := y.toNat_lt
  rw [u8_and31 _ (by omega) (by omega), bits_join_low .u8 8 (by decide) wraps_u8 3 _ _ (by omega) (by omega) (by omega) (by omega) (by omega) (by omega)]
  omega
theorem exC128 (x y : UInt8) : bits .or .u8 ((x.toNat : Int) / 128) (bits .and .u8 ((y.toNat : Int) * 2 % 256) 31) = ((x.toNat / 128 + y.toNat * 2 % 32 : Nat) : Int) := by
  have := x.toNat_lt
  have := y.toNat_lt
  rw [u8_and31 _ (by omega) (by omega), bits_join_low .u8 8 (by decide) wraps_u8 1 _ _ (by omega) (by omega) (by omega) (by omega) (by omega) (by omega)]
  omega
theorem exC16 (x y : UInt8) : bits .or .u8 ((x.toNat : Int) / 16) (bits .and .u8 ((y.toNat : Int) * 16 % 256) 31) = ((x.toNat / 16 + y.toNat * 16 % 32 : Nat) : Int) := by
  have := x.toNat_lt
  have := y.toNat_lt
  rw [u8_and31 _ (by omega) (by omega), bits_join_low .u8 8 (by decide) wraps_u8 4 _ _ (by omega) (by omega) (by omega) (by omega) (by omega) (by omega)]
  omega
theorem wrap_u8m (n : Int) : IntKind.u8.wrap n = n % 256 := by simp [IntKind.wrap, IntKind.bits, IntKind.signed]
def encL (b0 b1 b2 b3 b4 b5 b6 b7 b8 b9 b10 b11 : UInt8) : List UInt8 :=
  [dig32 (b0.toNat / 8), dig32 (b1.toNat / 64 + b0.toNat * 4 % 32), dig32 (b1.toNat / 2 % 32), dig32 (b2.toNat / 16 + b1.toNat * 16 % 32), dig32 (b3.toNat / 128 + b2.toNat * 2 % 32), dig32 (b3.toNat / 4 % 32), dig32 (b4.toNat / 32 + b3.toNat * 8 % 32), dig32 (b4.toNat % 32), dig32 (b5.toNat / 8), dig32 (b6.toNat / 64 + b5.toNat * 4 % 32), dig32 (b6.toNat / 2 % 32), dig32 (b7.toNat / 16 + b6.toNat * 16 % 32), dig32 (b8.toNat / 128 + b7.toNat * 2 % 32), dig32 (b8.toNat / 4 % 32), dig32 (b9.toNat / 32 + b8.toNat * 8 % 32), dig32 (b9.toNat % 32), dig32 (b10.toNat / 8), dig32 (b11.toNat / 64 + b10.toNat * 4 % 32), dig32 (b11.toNat / 2 % 32), dig32 (b11.toNat * 16 % 32)]
theorem fin20 (cs : List Value) (hcs : cs.length = 20) (b0 b1 b2 b3 b4 b5 b6 b7 b8 b9 b10 b11 : UInt8) : ((((((((((((((((((((cs.set 19 (.int .u8 ((dig32 (b11.toNat * 16 % 32)).toNat : Int))).set 18 (.int .u8 ((dig32 (b11.toNat / 2 % 32)).toNat : Int))).set 17 (.int .u8 ((dig32 (b11.toNat / 64 + b10.toNat * 4 % 32)).toNat : Int))).set 16 (.int .u8 ((dig32 (b10.toNat / 8)).toNat : Int))).set 15 (.int .u8 ((dig32 (b9.toNat % 32)).toNat : Int))).set 14 (.int .u8 ((dig32 (b9.toNat / 32 + b8.toNat * 8 % 32)).toNat : Int))).set 13 (.int .u8 ((dig32 (b8.toNat / 4 % 32)).toNat : Int))).set 12 (.int .u8 ((dig32 (b8.toNat / 128 + b7.toNat * 2 % 32)).toNat : Int))).set 11 (.int .u8 ((dig32 (b7.toNat / 16 + b6.toNat * 16 % 32)).toNat : Int))).set 10 (.int .u8 ((dig32 (b6.toNat / 2 % 32)).toNat : Int))).set 9 (.int .u8 ((dig32 (b6.toNat / 64 + b5.toNat * 4 % 32)).toNat : Int))).set 8 (.int .u8 ((dig32 (b5.toNat / 8)).toNat : Int))).set 7 (.int .u8 ((dig32 (b4.toNat % 32)).toNat : Int))).set 6 (.int .u8 ((dig32 (b4.toNat / 32 + b3.toNat * 8 % 32)).toNat : Int))).set 5 (.int .u8 ((dig32 (b3.toNat / 4 % 32)).toNat : Int))).set 4 (.int .u8 ((dig32 (b3.toNat / 128 + b2.toNat * 2 % 32)).toNat : Int))).set 3 (.int .u8 ((dig32 (b2.toNat / 16 + b1.toNat * 16 % 32)).toNat : Int))).set 2 (.int .u8 ((dig32 (b1.toNat / 2 % 32)).toNat : Int))).set 1 (.int .u8 ((dig32 (b1.toNat / 64 + b0.toNat * 4 % 32)).toNat : Int))).set 0 (.int .u8 ((dig32 (b0.toNat / 8)).toNat : Int))) = (encL b0 b1 b2 b3 b4 b5 b6 b7 b8 b9 b10 b11).map B8 := by
  match cs, hcs with
  | [c0, c1, c2, c3, c4, c5, c6, c7, c8, c9, c10, c11, c12, c13, c14, c15, c16, c17, c18, c19], _ => simp only [List.set_cons_succ, List.set_cons_zero, encL, List.map, B8]
def Cells12 (w : World) (h o : Nat) (bs : List UInt8) : Prop := ∀ i b, bs[i]? = some b → w.cell? ⟨h, o + i, none⟩ = some (.int .u8 (b.toNat : Int))
theorem Cells12.grown {w w' : World} {h o g : Nat} {bs : List UInt8} (c : Cells12 w h o bs) (hb : w.grownBy w' (some g)) (hne : h ≠ g) (hlt : h < w.heap.size) : Cells12 w' h o bs := fun i b hi => by
  rw [← c i b hi]
  unfold World.cell?
  simp only []
  rw [hb.block h hlt (by simpa using hne)]
theorem grown_drew {a b : World} {r : Option Nat} (h : a.grownBy b r) : a.grownBy b.drew r := ⟨h.os, h.tape, h.output, h.size, h.block⟩
theorem Cells12.drew {w : World} {h o : Nat} {bs : List UInt8} (c : Cells12 w h o bs) : Cells12 w.drew h o bs := c
theorem At.alive {w : World} {g : Nat} {t : TypeId} {cs : List Value} (h : At w g t cs) (i : Nat) (hi : i < cs.length) : ∃ v, w.cell? ⟨g, i, none⟩ = some v := ⟨_, h.cell i hi⟩
set_option maxRecDepth 100000 in
set_option maxHeartbeats 8000000 in
theorem encode_any (g h o c2 : Nat) (t : TypeId) (cs : List Value) (hcs : cs.length = 20) (b0 b1 b2 b3 b4 b5 b6 b7 b8 b9 b10 b11 : UInt8) (w : World) (hg : At w g t cs) (hc : Cells12 w h o [b0, b1, b2, b3, b4, b5, b6, b7, b8, b9, b10, b11]) (hne : h ≠ g) (hlt : h < w.heap.size) :
    Calls Try.prog 55 #[.slice (some ⟨g, 0, none⟩) 20 20, .slice (some ⟨h, o, none⟩) 12 c2] w fun e w' => e = .returned (.tuple #[]) ∧ At w' g t ((encL b0 b1 b2 b3 b4 b5 b6 b7 b8 b9 b10 b11).map B8) ∧ w.grownBy w' (some g) := by
  have A0 := Lib.hid hg
  have CK0 := Lib.hid hc
  have NE := Lib.hid hne
  have LT0 := Lib.hid hlt
  have LN0 := Lib.hid hcs
  have G0 := Lib.hid (World.grownBy.refl w (some g))
  obtain ⟨vo, cp⟩ := hg.alive 19 (by rw [hcs]; omega)
  have cx := hc 11 b11 rfl
  obtain ⟨k0, hk0⟩ : ∃ k, k = cs := ⟨_, rfl⟩
  rw [← hk0] at A0 LN0
  have EK0 := Lib.hid hk0
  clear hg hc hne hlt hcs hk0
  have q11 : (b11.toNat : Int) < 256 := by have := b11.toNat_lt; omega
  clear q11
  go_enter Try.func55, Try.ntmps55
  have ix : ∀ w, (Instr.index 9 V32 (.int .u8 ((b11.toNat : Int) * 16 % 32))).run Try.prog w = .ok (.int .u8 ((dig32 (b11.toNat * 16 % 32)).toNat : Int)) w := fun w => at32b _ _ (by omega) (by have := b11.toNat_lt; omega) w
  have cx := Lib.hid (CK0.out 11 b11 rfl)
  have xq : (b11.toNat : Int) < 256 := by have := b11.toNat_lt; omega
  go_wp2_with (first | (refine wpList_getc rfl 5 (.tmp 12) rfl h (o + 11) (.int .u8 (b11.toNat : Int)) (by rfl) cx.out _ Try.underlying5 rfl ?_) | (refine wpList_setc rfl 5 (.tmp 17) (.tmp 16) rfl g 19 .u8 ((dig32 (b11.toNat * 16 % 32)).toNat : Int) (by rfl) (by rfl) t (k0) A0.out (by rw [LN0.out]; omega) Try.size8 ?_))
  intro u1 hu
  clear ix xq cx
  obtain ⟨k1, hk1⟩ : ∃ k, k = k0.set 19 (.int .u8 ((dig32 (b11.toNat * 16 % 32)).toNat : Int)) := ⟨_, rfl⟩
  have A1 := Lib.hid (show At u1 g t k1 by rw [hk1]; exact hu.at_)
  have LN1 := Lib.hid (show k1.length = 20 by rw [hk1, List.length_set, LN0.out])
  have E1 := Lib.hid hk1
  have G1 := Lib.hid (grown_trans' G0.out hu.grown)
  have CK1 := Lib.hid (CK0.out.grown hu.grown NE.out LT0.out)
  have LT1 := Lib.hid (show h < u1.heap.size from Nat.lt_of_lt_of_le LT0.out hu.grown.size)
  clear hu hk1 CK0 A0 LT0 G0
  have ix : ∀ w, (Instr.index 9 V32 (.int .u8 ((b11.toNat : Int) / 2 % 32))).run Try.prog w = .ok (.int .u8 ((dig32 (b11.toNat / 2 % 32)).toNat : Int)) w := fun w => at32b _ _ (by omega) (by have := b11.toNat_lt; omega) w
  have cx := Lib.hid (CK1.out 11 b11 rfl)
  have xq : (b11.toNat : Int) < 256 := by have := b11.toNat_lt; omega
  go_wp2_with (first | (refine wpList_getc rfl 5 (.tmp 20) rfl h (o + 11) (.int .u8 (b11.toNat : Int)) (by rfl) cx.out _ Try.underlying5 rfl ?_) | (refine wpList_setc rfl 5 (.tmp 25) (.tmp 24) rfl g 18 .u8 ((dig32 (b11.toNat / 2 % 32)).toNat : Int) (by rfl) (by rfl) t (k1) A1.out (by rw [LN1.out]; omega) Try.size8 ?_))
  intro u2 hu
  clear ix xq cx
  obtain ⟨k2, hk2⟩ : ∃ k, k = k1.set 18 (.int .u8 ((dig32 (b11.toNat / 2 % 32)).toNat : Int)) := ⟨_, rfl⟩
  have A2 := Lib.hid (show At u2 g t k2 by rw [hk2]; exact hu.at_)
  have LN2 := Lib.hid (show k2.length = 20 by rw [hk2, List.length_set, LN1.out])
  have E2 := Lib.hid hk2
  have G2 := Lib.hid (grown_trans' G1.out hu.grown)
  have CK2 := Lib.hid (CK1.out.grown hu.grown NE.out LT1.out)
  have LT2 := Lib.hid (show h < u2.heap.size from Nat.lt_of_lt_of_le LT1.out hu.grown.size)
  clear hu hk2 CK1 A1 LT1 G1
  have ix : ∀ w, (Instr.index 9 V32 (.int .u8 (bits .or .u8 ((b11.toNat : Int) / 64) (bits .and .u8 (IntKind.u8.wrap ((b10.toNat : Int) * 4)) 31)))).run Try.prog w = .ok (.int .u8 ((dig32 (b11.toNat / 64 + b10.toNat * 4 % 32)).toNat : Int)) w := fun w => at32b _ _ (by rw [wrap_u8m]; exact exC64 b11 b10) (by have := b11.toNat_lt; have := b10.toNat_lt; omega) w
  have cx : u2.cell? ⟨h, o + 11, none⟩ = some (.int .u8 (b11.toNat : Int)) := CK2.out 11 b11 rfl
  have cy : u2.cell? ⟨h, o + 10, none⟩ = some (.int .u8 (b10.toNat : Int)) := CK2.out 10 b10 rfl
  have al := A2.out.alive 17 (by rw [LN2.out]; omega)
  obtain ⟨vo, cp⟩ := al
  have fp := A2.out.frozen 17
  go_wp2_with fail
  go_still_tail 13, (by kernel_rfl)
  change wpList _ _ _ _ _ u2.drew
  refine wpList_setc rfl 5 (.tmp 38) (.tmp 37) rfl g 17 .u8 ((dig32 (b11.toNat / 64 + b10.toNat * 4 % 32)).toNat : Int) (by rfl) (by rfl) t (k2) A2.out.drew (by rw [LN2.out]; omega) Try.size8 ?_
  intro u3 hu
  clear ix cx cy cp fp
  have G2d := Lib.hid (grown_drew G2.out)
  have CK2d := Lib.hid (CK2.out.drew)
  clear G2 CK2
  have G2 := G2d
  have CK2 := CK2d
  clear G2d CK2d
  obtain ⟨k3, hk3⟩ : ∃ k, k = k2.set 17 (.int .u8 ((dig32 (b11.toNat / 64 + b10.toNat * 4 % 32)).toNat : Int)) := ⟨_, rfl⟩
  have A3 := Lib.hid (show At u3 g t k3 by rw [hk3]; exact hu.at_)
  have LN3 := Lib.hid (show k3.length = 20 by rw [hk3, List.length_set, LN2.out])
  have E3 := Lib.hid hk3
  have G3 := Lib.hid (grown_trans' G2.out hu.grown)
  have CK3 := Lib.hid (CK2.out.grown hu.grown NE.out LT2.out)
  have LT3 := Lib.hid (show h < u3.heap.size from Nat.lt_of_lt_of_le LT2.out hu.grown.size)
  clear hu hk3 CK2 A2 LT2 G2
  have ix : ∀ w, (Instr.index 9 V32 (.int .u8 ((b10.toNat : Int) / 8))).run Try.prog w = .ok (.int .u8 ((dig32 (b10.toNat / 8)).toNat : Int)) w := fun w => at32b _ _ (by omega) (by have := b10.toNat_lt; omega) w
  have cx := Lib.hid (CK3.out 10 b10 rfl)
  have xq : (b10.toNat : Int) < 256 := by have := b10.toNat_lt; omega
  go_wp2_with (first | (refine wpList_getc rfl 5 (.tmp 41) rfl h (o + 10) (.int .u8 (b10.toNat : Int)) (by rfl) cx.out _ Try.underlying5 rfl ?_) | (refine wpList_setc rfl 5 (.tmp 45) (.tmp 44) rfl g 16 .u8 ((dig32 (b10.toNat / 8)).toNat : Int) (by rfl) (by rfl) t (k3) A3.out (by rw [LN3.out]; omega) Try.size8 ?_))
  intro u4 hu
  clear ix xq cx
  obtain ⟨k4, hk4⟩ : ∃ k, k = k3.set 16 (.int .u8 ((dig32 (b10.toNat / 8)).toNat : Int)) := ⟨_, rfl⟩
  have A4 := Lib.hid (show At u4 g t k4 by rw [hk4]; exact hu.at_)
  have LN4 := Lib.hid (show k4.length = 20 by rw [hk4, List.length_set, LN3.out])
  have E4 := Lib.hid hk4
  have G4 := Lib.hid (grown_trans' G3.out hu.grown)
  have CK4 := Lib.hid (CK3.out.grown hu.grown NE.out LT3.out)
  have LT4 := Lib.hid (show h < u4.heap.size from Nat.lt_of_lt_of_le LT3.out hu.grown.size)
  clear hu hk4 CK3 A3 LT3 G3
  have ix : ∀ w, (Instr.index 9 V32 (.int .u8 ((b9.toNat : Int) % 32))).run Try.prog w = .ok (.int .u8 ((dig32 (b9.toNat % 32)).toNat : Int)) w := fun w => at32b _ _ (by omega) (by have := b9.toNat_lt; omega) w
  have cx := Lib.hid (CK4.out 9 b9 rfl)
  have xq : (b9.toNat : Int) < 256 := by have := b9.toNat_lt; omega
  go_wp2_with (first | (refine wpList_getc rfl 5 (.tmp 48) rfl h (o + 9) (.int .u8 (b9.toNat : Int)) (by rfl) cx.out _ Try.underlying5 rfl ?_) | (refine wpList_setc rfl 5 (.tmp 52) (.tmp 51) rfl g 15 .u8 ((dig32 (b9.toNat % 32)).toNat : Int) (by rfl) (by rfl) t (k4) A4.out (by rw [LN4.out]; omega) Try.size8 ?_))
  intro u5 hu
  clear ix xq cx
  obtain ⟨k5, hk5⟩ : ∃ k, k = k4.set 15 (.int .u8 ((dig32 (b9.toNat % 32)).toNat : Int)) := ⟨_, rfl⟩
  have A5 := Lib.hid (show At u5 g t k5 by rw [hk5]; exact hu.at_)
  have LN5 := Lib.hid (show k5.length = 20 by rw [hk5, List.length_set, LN4.out])
  have E5 := Lib.hid hk5
  have G5 := Lib.hid (grown_trans' G4.out hu.grown)
  have CK5 := Lib.hid (CK4.out.grown hu.grown NE.out LT4.out)
  have LT5 := Lib.hid (show h < u5.heap.size from Nat.lt_of_lt_of_le LT4.out hu.grown.size)
  clear hu hk5 CK4 A4 LT4 G4
  have ix : ∀ w, (Instr.index 9 V32 (.int .u8 (bits .or .u8 ((b9.toNat : Int) / 32) (bits .and .u8 (IntKind.u8.wrap ((b8.toNat : Int) * 8)) 31)))).run Try.prog w = .ok (.int .u8 ((dig32 (b9.toNat / 32 + b8.toNat * 8 % 32)).toNat : Int)) w := fun w => at32b _ _ (by rw [wrap_u8m]; exact exC32 b9 b8) (by have := b9.toNat_lt; have := b8.toNat_lt; omega) w
  have cx : u5.cell? ⟨h, o + 9, none⟩ = some (.int .u8 (b9.toNat : Int)) := CK5.out 9 b9 rfl
  have cy : u5.cell? ⟨h, o + 8, none⟩ = some (.int .u8 (b8.toNat : Int)) := CK5.out 8 b8 rfl
  have al := A5.out.alive 14 (by rw [LN5.out]; omega)
  obtain ⟨vo, cp⟩ := al
  have fp := A5.out.frozen 14
  go_wp2_with fail
  go_still_tail 13, (by kernel_rfl)
  change wpList _ _ _ _ _ u5.drew
  refine wpList_setc rfl 5 (.tmp 65) (.tmp 64) rfl g 14 .u8 ((dig32 (b9.toNat / 32 + b8.toNat * 8 % 32)).toNat : Int) (by rfl) (by rfl) t (k5) A5.out.drew (by rw [LN5.out]; omega) Try.size8 ?_
  intro u6 hu
  clear ix cx cy cp fp
  have G5d := Lib.hid (grown_drew G5.out)
  have CK5d := Lib.hid (CK5.out.drew)
  clear G5 CK5
  have G5 := G5d
  have CK5 := CK5d
  clear G5d CK5d
  obtain ⟨k6, hk6⟩ : ∃ k, k = k5.set 14 (.int .u8 ((dig32 (b9.toNat / 32 + b8.toNat * 8 % 32)).toNat : Int)) := ⟨_, rfl⟩
  have A6 := Lib.hid (show At u6 g t k6 by rw [hk6]; exact hu.at_)
  have LN6 := Lib.hid (show k6.length = 20 by rw [hk6, List.length_set, LN5.out])
  have E6 := Lib.hid hk6
  have G6 := Lib.hid (grown_trans' G5.out hu.grown)
  have CK6 := Lib.hid (CK5.out.grown hu.grown NE.out LT5.out)
  have LT6 := Lib.hid (show h < u6.heap.size from Nat.lt_of_lt_of_le LT5.out hu.grown.size)
  clear hu hk6 CK5 A5 LT5 G5
  have ix : ∀ w, (Instr.index 9 V32 (.int .u8 ((b8.toNat : Int) / 4 % 32))).run Try.prog w = .ok (.int .u8 ((dig32 (b8.toNat / 4 % 32)).toNat : Int)) w := fun w => at32b _ _ (by omega) (by have := b8.toNat_lt; omega) w
  have cx := Lib.hid (CK6.out 8 b8 rfl)
  have xq : (b8.toNat : Int) < 256 := by have := b8.toNat_lt; omega
  go_wp2_with (first | (refine wpList_getc rfl 5 (.tmp 68) rfl h (o + 8) (.int .u8 (b8.toNat : Int)) (by rfl) cx.out _ Try.underlying5 rfl ?_) | (refine wpList_setc rfl 5 (.tmp 73) (.tmp 72) rfl g 13 .u8 ((dig32 (b8.toNat / 4 % 32)).toNat : Int) (by rfl) (by rfl) t (k6) A6.out (by rw [LN6.out]; omega) Try.size8 ?_))
  intro u7 hu
  clear ix xq cx
  obtain ⟨k7, hk7⟩ : ∃ k, k = k6.set 13 (.int .u8 ((dig32 (b8.toNat / 4 % 32)).toNat : Int)) := ⟨_, rfl⟩
  have A7 := Lib.hid (show At u7 g t k7 by rw [hk7]; exact hu.at_)
  have LN7 := Lib.hid (show k7.length = 20 by rw [hk7, List.length_set, LN6.out])
  have E7 := Lib.hid hk7
  have G7 := Lib.hid (grown_trans' G6.out hu.grown)
  have CK7 := Lib.hid (CK6.out.grown hu.grown NE.out LT6.out)
  have LT7 := Lib.hid (show h < u7.heap.size from Nat.lt_of_lt_of_le LT6.out hu.grown.size)
  clear hu hk7 CK6 A6 LT6 G6
  have ix : ∀ w, (Instr.index 9 V32 (.int .u8 (bits .or .u8 ((b8.toNat : Int) / 128) (bits .and .u8 (IntKind.u8.wrap ((b7.toNat : Int) * 2)) 31)))).run Try.prog w = .ok (.int .u8 ((dig32 (b8.toNat / 128 + b7.toNat * 2 % 32)).toNat : Int)) w := fun w => at32b _ _ (by rw [wrap_u8m]; exact exC128 b8 b7) (by have := b8.toNat_lt; have := b7.toNat_lt; omega) w
  have cx : u7.cell? ⟨h, o + 8, none⟩ = some (.int .u8 (b8.toNat : Int)) := CK7.out 8 b8 rfl
  have cy : u7.cell? ⟨h, o + 7, none⟩ = some (.int .u8 (b7.toNat : Int)) := CK7.out 7 b7 rfl
  have al := A7.out.alive 12 (by rw [LN7.out]; omega)
  obtain ⟨vo, cp⟩ := al
  have fp := A7.out.frozen 12
  go_wp2_with fail
  go_still_tail 13, (by kernel_rfl)
  change wpList _ _ _ _ _ u7.drew
  refine wpList_setc rfl 5 (.tmp 86) (.tmp 85) rfl g 12 .u8 ((dig32 (b8.toNat / 128 + b7.toNat * 2 % 32)).toNat : Int) (by rfl) (by rfl) t (k7) A7.out.drew (by rw [LN7.out]; omega) Try.size8 ?_
  intro u8 hu
  clear ix cx cy cp fp
  have G7d := Lib.hid (grown_drew G7.out)
  have CK7d := Lib.hid (CK7.out.drew)
  clear G7 CK7
  have G7 := G7d
  have CK7 := CK7d
  clear G7d CK7d
  obtain ⟨k8, hk8⟩ : ∃ k, k = k7.set 12 (.int .u8 ((dig32 (b8.toNat / 128 + b7.toNat * 2 % 32)).toNat : Int)) := ⟨_, rfl⟩
  have A8 := Lib.hid (show At u8 g t k8 by rw [hk8]; exact hu.at_)
  have LN8 := Lib.hid (show k8.length = 20 by rw [hk8, List.length_set, LN7.out])
  have E8 := Lib.hid hk8
  have G8 := Lib.hid (grown_trans' G7.out hu.grown)
  have CK8 := Lib.hid (CK7.out.grown hu.grown NE.out LT7.out)
  have LT8 := Lib.hid (show h < u8.heap.size from Nat.lt_of_lt_of_le LT7.out hu.grown.size)
  clear hu hk8 CK7 A7 LT7 G7
  have ix : ∀ w, (Instr.index 9 V32 (.int .u8 (bits .or .u8 ((b7.toNat : Int) / 16) (bits .and .u8 (IntKind.u8.wrap ((b6.toNat : Int) * 16)) 31)))).run Try.prog w = .ok (.int .u8 ((dig32 (b7.toNat / 16 + b6.toNat * 16 % 32)).toNat : Int)) w := fun w => at32b _ _ (by rw [wrap_u8m]; exact exC16 b7 b6) (by have := b7.toNat_lt; have := b6.toNat_lt; omega) w
  have cx : u8.cell? ⟨h, o + 7, none⟩ = some (.int .u8 (b7.toNat : Int)) := CK8.out 7 b7 rfl
  have cy : u8.cell? ⟨h, o + 6, none⟩ = some (.int .u8 (b6.toNat : Int)) := CK8.out 6 b6 rfl
  have al := A8.out.alive 11 (by rw [LN8.out]; omega)
  obtain ⟨vo, cp⟩ := al
  have fp := A8.out.frozen 11
  go_wp2_with fail
  go_still_tail 13, (by kernel_rfl)
  change wpList _ _ _ _ _ u8.drew
  refine wpList_setc rfl 5 (.tmp 99) (.tmp 98) rfl g 11 .u8 ((dig32 (b7.toNat / 16 + b6.toNat * 16 % 32)).toNat : Int) (by rfl) (by rfl) t (k8) A8.out.drew (by rw [LN8.out]; omega) Try.size8 ?_
  intro u9 hu
  clear ix cx cy cp fp
  have G8d := Lib.hid (grown_drew G8.out)
  have CK8d := Lib.hid (CK8.out.drew)
  clear G8 CK8
  have G8 := G8d
  have CK8 := CK8d
  clear G8d CK8d
  obtain ⟨k9, hk9⟩ : ∃ k, k = k8.set 11 (.int .u8 ((dig32 (b7.toNat / 16 + b6.toNat * 16 % 32)).toNat : Int)) := ⟨_, rfl⟩
  have A9 := Lib.hid (show At u9 g t k9 by rw [hk9]; exact hu.at_)
  have LN9 := Lib.hid (show k9.length = 20 by rw [hk9, List.length_set, LN8.out])
  have E9 := Lib.hid hk9
  have G9 := Lib.hid (grown_trans' G8.out hu.grown)
  have CK9 := Lib.hid (CK8.out.grown hu.grown NE.out LT8.out)
  have LT9 := Lib.hid (show h < u9.heap.size from Nat.lt_of_lt_of_le LT8.out hu.grown.size)
  clear hu hk9 CK8 A8 LT8 G8
  have ix : ∀ w, (Instr.index 9 V32 (.int .u8 ((b6.toNat : Int) / 2 % 32))).run Try.prog w = .ok (.int .u8 ((dig32 (b6.toNat / 2 % 32)).toNat : Int)) w := fun w => at32b _ _ (by omega) (by have := b6.toNat_lt; omega) w
  have cx := Lib.hid (CK9.out 6 b6 rfl)
  have xq : (b6.toNat : Int) < 256 := by have := b6.toNat_lt; omega
  go_wp2_with (first | (refine wpList_getc rfl 5 (.tmp 102) rfl h (o + 6) (.int .u8 (b6.toNat : Int)) (by rfl) cx.out _ Try.underlying5 rfl ?_) | (refine wpList_setc rfl 5 (.tmp 107) (.tmp 106) rfl g 10 .u8 ((dig32 (b6.toNat / 2 % 32)).toNat : Int) (by rfl) (by rfl) t (k9) A9.out (by rw [LN9.out]; omega) Try.size8 ?_))
  intro u10 hu
  clear ix xq cx
  obtain ⟨k10, hk10⟩ : ∃ k, k = k9.set 10 (.int .u8 ((dig32 (b6.toNat / 2 % 32)).toNat : Int)) := ⟨_, rfl⟩
  have A10 := Lib.hid (show At u10 g t k10 by rw [hk10]; exact hu.at_)
  have LN10 := Lib.hid (show k10.length = 20 by rw [hk10, List.length_set, LN9.out])
  have E10 := Lib.hid hk10
  have G10 := Lib.hid (grown_trans' G9.out hu.grown)
  have CK10 := Lib.hid (CK9.out.grown hu.grown NE.out LT9.out)
  have LT10 := Lib.hid (show h < u10.heap.size from Nat.lt_of_lt_of_le LT9.out hu.grown.size)
  clear hu hk10 CK9 A9 LT9 G9
  have ix : ∀ w, (Instr.index 9 V32 (.int .u8 (bits .or .u8 ((b6.toNat : Int) / 64) (bits .and .u8 (IntKind.u8.wrap ((b5.toNat : Int) * 4)) 31)))).run Try.prog w = .ok (.int .u8 ((dig32 (b6.toNat / 64 + b5.toNat * 4 % 32)).toNat : Int)) w := fun w => at32b _ _ (by rw [wrap_u8m]; exact exC64 b6 b5) (by have := b6.toNat_lt; have := b5.toNat_lt; omega) w
  have cx : u10.cell? ⟨h, o + 6, none⟩ = some (.int .u8 (b6.toNat : Int)) := CK10.out 6 b6 rfl
  have cy : u10.cell? ⟨h, o + 5, none⟩ = some (.int .u8 (b5.toNat : Int)) := CK10.out 5 b5 rfl
  have al := A10.out.alive 9 (by rw [LN10.out]; omega)
  obtain ⟨vo, cp⟩ := al
  have fp := A10.out.frozen 9
  go_wp2_with fail
  go_still_tail 13, (by kernel_rfl)
  change wpList _ _ _ _ _ u10.drew
  refine wpList_setc rfl 5 (.tmp 120) (.tmp 119) rfl g 9 .u8 ((dig32 (b6.toNat / 64 + b5.toNat * 4 % 32)).toNat : Int) (by rfl) (by rfl) t (k10) A10.out.drew (by rw [LN10.out]; omega) Try.size8 ?_
  intro u11 hu
  clear ix cx cy cp fp
  have G10d := Lib.hid (grown_drew G10.out)
  have CK10d := Lib.hid (CK10.out.drew)
  clear G10 CK10
  have G10 := G10d
  have CK10 := CK10d
  clear G10d CK10d
  obtain ⟨k11, hk11⟩ : ∃ k, k = k10.set 9 (.int .u8 ((dig32 (b6.toNat / 64 + b5.toNat * 4 % 32)).toNat : Int)) := ⟨_, rfl⟩
  have A11 := Lib.hid (show At u11 g t k11 by rw [hk11]; exact hu.at_)
  have LN11 := Lib.hid (show k11.length = 20 by rw [hk11, List.length_set, LN10.out])
  have E11 := Lib.hid hk11
  have G11 := Lib.hid (grown_trans' G10.out hu.grown)
  have CK11 := Lib.hid (CK10.out.grown hu.grown NE.out LT10.out)
  have LT11 := Lib.hid (show h < u11.heap.size from Nat.lt_of_lt_of_le LT10.out hu.grown.size)
  clear hu hk11 CK10 A10 LT10 G10
  have ix : ∀ w, (Instr.index 9 V32 (.int .u8 ((b5.toNat : Int) / 8))).run Try.prog w = .ok (.int .u8 ((dig32 (b5.toNat / 8)).toNat : Int)) w := fun w => at32b _ _ (by omega) (by have := b5.toNat_lt; omega) w
  have cx := Lib.hid (CK11.out 5 b5 rfl)
  have xq : (b5.toNat : Int) < 256 := by have := b5.toNat_lt; omega
  go_wp2_with (first | (refine wpList_getc rfl 5 (.tmp 123) rfl h (o + 5) (.int .u8 (b5.toNat : Int)) (by rfl) cx.out _ Try.underlying5 rfl ?_) | (refine wpList_setc rfl 5 (.tmp 127) (.tmp 126) rfl g 8 .u8 ((dig32 (b5.toNat / 8)).toNat : Int) (by rfl) (by rfl) t (k11) A11.out (by rw [LN11.out]; omega) Try.size8 ?_))
  intro u12 hu
  clear ix xq cx
  obtain ⟨k12, hk12⟩ : ∃ k, k = k11.set 8 (.int .u8 ((dig32 (b5.toNat / 8)).toNat : Int)) := ⟨_, rfl⟩
  have A12 := Lib.hid (show At u12 g t k12 by rw [hk12]; exact hu.at_)
  have LN12 := Lib.hid (show k12.length = 20 by rw [hk12, List.length_set, LN11.out])
  have E12 := Lib.hid hk12
  have G12 := Lib.hid (grown_trans' G11.out hu.grown)
  have CK12 := Lib.hid (CK11.out.grown hu.grown NE.out LT11.out)
  have LT12 := Lib.hid (show h < u12.heap.size from Nat.lt_of_lt_of_le LT11.out hu.grown.size)
  clear hu hk12 CK11 A11 LT11 G11
  have ix : ∀ w, (Instr.index 9 V32 (.int .u8 ((b4.toNat : Int) % 32))).run Try.prog w = .ok (.int .u8 ((dig32 (b4.toNat % 32)).toNat : Int)) w := fun w => at32b _ _ (by omega) (by have := b4.toNat_lt; omega) w
  have cx := Lib.hid (CK12.out 4 b4 rfl)
  have xq : (b4.toNat : Int) < 256 := by have := b4.toNat_lt; omega
  go_wp2_with (first | (refine wpList_getc rfl 5 (.tmp 130) rfl h (o + 4) (.int .u8 (b4.toNat : Int)) (by rfl) cx.out _ Try.underlying5 rfl ?_) | (refine wpList_setc rfl 5 (.tmp 134) (.tmp 133) rfl g 7 .u8 ((dig32 (b4.toNat % 32)).toNat : Int) (by rfl) (by rfl) t (k12) A12.out (by rw [LN12.out]; omega) Try.size8 ?_))
  intro u13 hu
  clear ix xq cx
  obtain ⟨k13, hk13⟩ : ∃ k, k = k12.set 7 (.int .u8 ((dig32 (b4.toNat % 32)).toNat : Int)) := ⟨_, rfl⟩
  have A13 := Lib.hid (show At u13 g t k13 by rw [hk13]; exact hu.at_)
  have LN13 := Lib.hid (show k13.length = 20 by rw [hk13, List.length_set, LN12.out])
  have E13 := Lib.hid hk13
  have G13 := Lib.hid (grown_trans' G12.out hu.grown)
  have CK13 := Lib.hid (CK12.out.grown hu.grown NE.out LT12.out)
  have LT13 := Lib.hid (show h < u13.heap.size from Nat.lt_of_lt_of_le LT12.out hu.grown.size)
  clear hu hk13 CK12 A12 LT12 G12
  have ix : ∀ w, (Instr.index 9 V32 (.int .u8 (bits .or .u8 ((b4.toNat : Int) / 32) (bits .and .u8 (IntKind.u8.wrap ((b3.toNat : Int) * 8)) 31)))).run Try.prog w = .ok (.int .u8 ((dig32 (b4.toNat / 32 + b3.toNat * 8 % 32)).toNat : Int)) w := fun w => at32b _ _ (by rw [wrap_u8m]; exact exC32 b4 b3) (by have := b4.toNat_lt; have := b3.toNat_lt; omega) w
  have cx : u13.cell? ⟨h, o + 4, none⟩ = some (.int .u8 (b4.toNat : Int)) := CK13.out 4 b4 rfl
  have cy : u13.cell? ⟨h, o + 3, none⟩ = some (.int .u8 (b3.toNat : Int)) := CK13.out 3 b3 rfl
  have al := A13.out.alive 6 (by rw [LN13.out]; omega)
  obtain ⟨vo, cp⟩ := al
  have fp := A13.out.frozen 6
  go_wp2_with fail
  go_still_tail 13, (by kernel_rfl)
  change wpList _ _ _ _ _ u13.drew
  refine wpList_setc rfl 5 (.tmp 147) (.tmp 146) rfl g 6 .u8 ((dig32 (b4.toNat / 32 + b3.toNat * 8 % 32)).toNat : Int) (by rfl) (by rfl) t (k13) A13.out.drew (by rw [LN13.out]; omega) Try.size8 ?_
  intro u14 hu
  clear ix cx cy cp fp
  have G13d := Lib.hid (grown_drew G13.out)
  have CK13d := Lib.hid (CK13.out.drew)
  clear G13 CK13
  have G13 := G13d
  have CK13 := CK13d
  clear G13d CK13d
  obtain ⟨k14, hk14⟩ : ∃ k, k = k13.set 6 (.int .u8 ((dig32 (b4.toNat / 32 + b3.toNat * 8 % 32)).toNat : Int)) := ⟨_, rfl⟩
  have A14 := Lib.hid (show At u14 g t k14 by rw [hk14]; exact hu.at_)
  have LN14 := Lib.hid (show k14.length = 20 by rw [hk14, List.length_set, LN13.out])
  have E14 := Lib.hid hk14
  have G14 := Lib.hid (grown_trans' G13.out hu.grown)
  have CK14 := Lib.hid (CK13.out.grown hu.grown NE.out LT13.out)
  have LT14 := Lib.hid (show h < u14.heap.size from Nat.lt_of_lt_of_le LT13.out hu.grown.size)
  clear hu hk14 CK13 A13 LT13 G13
  have ix : ∀ w, (Instr.index 9 V32 (.int .u8 ((b3.toNat : Int) / 4 % 32))).run Try.prog w = .ok (.int .u8 ((dig32 (b3.toNat / 4 % 32)).toNat : Int)) w := fun w => at32b _ _ (by omega) (by have := b3.toNat_lt; omega) w
  have cx := Lib.hid (CK14.out 3 b3 rfl)
  have xq : (b3.toNat : Int) < 256 := by have := b3.toNat_lt; omega
  go_wp2_with (first | (refine wpList_getc rfl 5 (.tmp 150) rfl h (o + 3) (.int .u8 (b3.toNat : Int)) (by rfl) cx.out _ Try.underlying5 rfl ?_) | (refine wpList_setc rfl 5 (.tmp 155) (.tmp 154) rfl g 5 .u8 ((dig32 (b3.toNat / 4 % 32)).toNat : Int) (by rfl) (by rfl) t (k14) A14.out (by rw [LN14.out]; omega) Try.size8 ?_))
  intro u15 hu
  clear ix xq cx
  obtain ⟨k15, hk15⟩ : ∃ k, k = k14.set 5 (.int .u8 ((dig32 (b3.toNat / 4 % 32)).toNat : Int)) := ⟨_, rfl⟩
  have A15 := Lib.hid (show At u15 g t k15 by rw [hk15]; exact hu.at_)
  have LN15 := Lib.hid (show k15.length = 20 by rw [hk15, List.length_set, LN14.out])
  have E15 := Lib.hid hk15
  have G15 := Lib.hid (grown_trans' G14.out hu.grown)
  have CK15 := Lib.hid (CK14.out.grown hu.grown NE.out LT14.out)
  have LT15 := Lib.hid (show h < u15.heap.size from Nat.lt_of_lt_of_le LT14.out hu.grown.size)
  clear hu hk15 CK14 A14 LT14 G14
  have ix : ∀ w, (Instr.index 9 V32 (.int .u8 (bits .or .u8 ((b3.toNat : Int) / 128) (bits .and .u8 (IntKind.u8.wrap ((b2.toNat : Int) * 2)) 31)))).run Try.prog w = .ok (.int .u8 ((dig32 (b3.toNat / 128 + b2.toNat * 2 % 32)).toNat : Int)) w := fun w => at32b _ _ (by rw [wrap_u8m]; exact exC128 b3 b2) (by have := b3.toNat_lt; have := b2.toNat_lt; omega) w
  have cx : u15.cell? ⟨h, o + 3, none⟩ = some (.int .u8 (b3.toNat : Int)) := CK15.out 3 b3 rfl
  have cy : u15.cell? ⟨h, o + 2, none⟩ = some (.int .u8 (b2.toNat : Int)) := CK15.out 2 b2 rfl
  have al := A15.out.alive 4 (by rw [LN15.out]; omega)
  obtain ⟨vo, cp⟩ := al
  have fp := A15.out.frozen 4
  go_wp2_with fail
  go_still_tail 13, (by kernel_rfl)
  change wpList _ _ _ _ _ u15.drew
  refine wpList_setc rfl 5 (.tmp 168) (.tmp 167) rfl g 4 .u8 ((dig32 (b3.toNat / 128 + b2.toNat * 2 % 32)).toNat : Int) (by rfl) (by rfl) t (k15) A15.out.drew (by rw [LN15.out]; omega) Try.size8 ?_
  intro u16 hu
  clear ix cx cy cp fp
  have G15d := Lib.hid (grown_drew G15.out)
  have CK15d := Lib.hid (CK15.out.drew)
  clear G15 CK15
  have G15 := G15d
  have CK15 := CK15d
  clear G15d CK15d
  obtain ⟨k16, hk16⟩ : ∃ k, k = k15.set 4 (.int .u8 ((dig32 (b3.toNat / 128 + b2.toNat * 2 % 32)).toNat : Int)) := ⟨_, rfl⟩
  have A16 := Lib.hid (show At u16 g t k16 by rw [hk16]; exact hu.at_)
  have LN16 := Lib.hid (show k16.length = 20 by rw [hk16, List.length_set, LN15.out])
  have E16 := Lib.hid hk16
  have G16 := Lib.hid (grown_trans' G15.out hu.grown)
  have CK16 := Lib.hid (CK15.out.grown hu.grown NE.out LT15.out)
  have LT16 := Lib.hid (show h < u16.heap.size from Nat.lt_of_lt_of_le LT15.out hu.grown.size)
  clear hu hk16 CK15 A15 LT15 G15
  have ix : ∀ w, (Instr.index 9 V32 (.int .u8 (bits .or .u8 ((b2.toNat : Int) / 16) (bits .and .u8 (IntKind.u8.wrap ((b1.toNat : Int) * 16)) 31)))).run Try.prog w = .ok (.int .u8 ((dig32 (b2.toNat / 16 + b1.toNat * 16 % 32)).toNat : Int)) w := fun w => at32b _ _ (by rw [wrap_u8m]; exact exC16 b2 b1) (by have := b2.toNat_lt; have := b1.toNat_lt; omega) w
  have cx : u16.cell? ⟨h, o + 2, none⟩ = some (.int .u8 (b2.toNat : Int)) := CK16.out 2 b2 rfl
  have cy : u16.cell? ⟨h, o + 1, none⟩ = some (.int .u8 (b1.toNat : Int)) := CK16.out 1 b1 rfl
  have al := A16.out.alive 3 (by rw [LN16.out]; omega)
  obtain ⟨vo, cp⟩ := al
  have fp := A16.out.frozen 3
  go_wp2_with fail
  go_still_tail 13, (by kernel_rfl)
  change wpList _ _ _ _ _ u16.drew
  refine wpList_setc rfl 5 (.tmp 181) (.tmp 180) rfl g 3 .u8 ((dig32 (b2.toNat / 16 + b1.toNat * 16 % 32)).toNat : Int) (by rfl) (by rfl) t (k16) A16.out.drew (by rw [LN16.out]; omega) Try.size8 ?_
  intro u17 hu
  clear ix cx cy cp fp
  have G16d := Lib.hid (grown_drew G16.out)
  have CK16d := Lib.hid (CK16.out.drew)
  clear G16 CK16
  have G16 := G16d
  have CK16 := CK16d
  clear G16d CK16d
  obtain ⟨k17, hk17⟩ : ∃ k, k = k16.set 3 (.int .u8 ((dig32 (b2.toNat / 16 + b1.toNat * 16 % 32)).toNat : Int)) := ⟨_, rfl⟩
  have A17 := Lib.hid (show At u17 g t k17 by rw [hk17]; exact hu.at_)
  have LN17 := Lib.hid (show k17.length = 20 by rw [hk17, List.length_set, LN16.out])
  have E17 := Lib.hid hk17
  have G17 := Lib.hid (grown_trans' G16.out hu.grown)
  have CK17 := Lib.hid (CK16.out.grown hu.grown NE.out LT16.out)
  have LT17 := Lib.hid (show h < u17.heap.size from Nat.lt_of_lt_of_le LT16.out hu.grown.size)
  clear hu hk17 CK16 A16 LT16 G16
  have ix : ∀ w, (Instr.index 9 V32 (.int .u8 ((b1.toNat : Int) / 2 % 32))).run Try.prog w = .ok (.int .u8 ((dig32 (b1.toNat / 2 % 32)).toNat : Int)) w := fun w => at32b _ _ (by omega) (by have := b1.toNat_lt; omega) w
  have cx := Lib.hid (CK17.out 1 b1 rfl)
  have xq : (b1.toNat : Int) < 256 := by have := b1.toNat_lt; omega
  go_wp2_with (first | (refine wpList_getc rfl 5 (.tmp 184) rfl h (o + 1) (.int .u8 (b1.toNat : Int)) (by rfl) cx.out _ Try.underlying5 rfl ?_) | (refine wpList_setc rfl 5 (.tmp 189) (.tmp 188) rfl g 2 .u8 ((dig32 (b1.toNat / 2 % 32)).toNat : Int) (by rfl) (by rfl) t (k17) A17.out (by rw [LN17.out]; omega) Try.size8 ?_))
  intro u18 hu
  clear ix xq cx
  obtain ⟨k18, hk18⟩ : ∃ k, k = k17.set 2 (.int .u8 ((dig32 (b1.toNat / 2 % 32)).toNat : Int)) := ⟨_, rfl⟩
  have A18 := Lib.hid (show At u18 g t k18 by rw [hk18]; exact hu.at_)
  have LN18 := Lib.hid (show k18.length = 20 by rw [hk18, List.length_set, LN17.out])
  have E18 := Lib.hid hk18
  have G18 := Lib.hid (grown_trans' G17.out hu.grown)
  have CK18 := Lib.hid (CK17.out.grown hu.grown NE.out LT17.out)
  have LT18 := Lib.hid (show h < u18.heap.size from Nat.lt_of_lt_of_le LT17.out hu.grown.size)
  clear hu hk18 CK17 A17 LT17 G17
  have ix : ∀ w, (Instr.index 9 V32 (.int .u8 (bits .or .u8 ((b1.toNat : Int) / 64) (bits .and .u8 (IntKind.u8.wrap ((b0.toNat : Int) * 4)) 31)))).run Try.prog w = .ok (.int .u8 ((dig32 (b1.toNat / 64 + b0.toNat * 4 % 32)).toNat : Int)) w := fun w => at32b _ _ (by rw [wrap_u8m]; exact exC64 b1 b0) (by have := b1.toNat_lt; have := b0.toNat_lt; omega) w
  have cx : u18.cell? ⟨h, o + 1, none⟩ = some (.int .u8 (b1.toNat : Int)) := CK18.out 1 b1 rfl
  have cy : u18.cell? ⟨h, o, none⟩ = some (.int .u8 (b0.toNat : Int)) := CK18.out 0 b0 rfl
  have al := A18.out.alive 1 (by rw [LN18.out]; omega)
  obtain ⟨vo, cp⟩ := al
  have fp := A18.out.frozen 1
  go_wp2_with fail
  go_still_tail 13, (by kernel_rfl)
  change wpList _ _ _ _ _ u18.drew
  refine wpList_setc rfl 5 (.tmp 202) (.tmp 201) rfl g 1 .u8 ((dig32 (b1.toNat / 64 + b0.toNat * 4 % 32)).toNat : Int) (by rfl) (by rfl) t (k18) A18.out.drew (by rw [LN18.out]; omega) Try.size8 ?_
  intro u19 hu
  clear ix cx cy cp fp
  have G18d := Lib.hid (grown_drew G18.out)
  have CK18d := Lib.hid (CK18.out.drew)
  clear G18 CK18
  have G18 := G18d
  have CK18 := CK18d
  clear G18d CK18d
  obtain ⟨k19, hk19⟩ : ∃ k, k = k18.set 1 (.int .u8 ((dig32 (b1.toNat / 64 + b0.toNat * 4 % 32)).toNat : Int)) := ⟨_, rfl⟩
  have A19 := Lib.hid (show At u19 g t k19 by rw [hk19]; exact hu.at_)
  have LN19 := Lib.hid (show k19.length = 20 by rw [hk19, List.length_set, LN18.out])
  have E19 := Lib.hid hk19
  have G19 := Lib.hid (grown_trans' G18.out hu.grown)
  have CK19 := Lib.hid (CK18.out.grown hu.grown NE.out LT18.out)
  have LT19 := Lib.hid (show h < u19.heap.size from Nat.lt_of_lt_of_le LT18.out hu.grown.size)
  clear hu hk19 CK18 A18 LT18 G18
  have ix : ∀ w, (Instr.index 9 V32 (.int .u8 ((b0.toNat : Int) / 8))).run Try.prog w = .ok (.int .u8 ((dig32 (b0.toNat / 8)).toNat : Int)) w := fun w => at32b _ _ (by omega) (by have := b0.toNat_lt; omega) w
  have cx := Lib.hid (CK19.out 0 b0 rfl)
  have xq : (b0.toNat : Int) < 256 := by have := b0.toNat_lt; omega
  go_wp2_with (first | (refine wpList_getc rfl 5 (.tmp 205) rfl h (o + 0) (.int .u8 (b0.toNat : Int)) (by rfl) cx.out _ Try.underlying5 rfl ?_) | (refine wpList_setc rfl 5 (.tmp 209) (.tmp 208) rfl g 0 .u8 ((dig32 (b0.toNat / 8)).toNat : Int) (by rfl) (by rfl) t (k19) A19.out (by rw [LN19.out]; omega) Try.size8 ?_))
  intro u20 hu
  clear ix xq cx
  obtain ⟨k20, hk20⟩ : ∃ k, k = k19.set 0 (.int .u8 ((dig32 (b0.toNat / 8)).toNat : Int)) := ⟨_, rfl⟩
  have A20 := Lib.hid (show At u20 g t k20 by rw [hk20]; exact hu.at_)
  have LN20 := Lib.hid (show k20.length = 20 by rw [hk20, List.length_set, LN19.out])
  have E20 := Lib.hid hk20
  have G20 := Lib.hid (grown_trans' G19.out hu.grown)
  have CK20 := Lib.hid (CK19.out.grown hu.grown NE.out LT19.out)
  have LT20 := Lib.hid (show h < u20.heap.size from Nat.lt_of_lt_of_le LT19.out hu.grown.size)
  clear hu hk20 CK19 A19 LT19 G19
  go_wp2
  go_end0
  refine ⟨rfl, ?_, G20.out⟩
  have hfin : k20 = (encL b0 b1 b2 b3 b4 b5 b6 b7 b8 b9 b10 b11).map B8 := by
    rw [E20.out, E19.out, E18.out, E17.out, E16.out, E15.out, E14.out, E13.out, E12.out, E11.out, E10.out, E9.out, E8.out, E7.out, E6.out, E5.out, E4.out, E3.out, E2.out, E1.out]
    exact fin20 k0 LN0.out b0 b1 b2 b3 b4 b5 b6 b7 b8 b9 b10 b11
  rw [← hfin]
  exact A20.out
end Go.Proofs.Ytppcpidlnpencaa
