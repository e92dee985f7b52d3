/-
  Reading undoes writing, writing undoes reading: the digits of an ID.
-/
import Derived.Test.YtppcpidlnpencaaDecode
import Derived.Test.YtppcpidlnpencaaString
namespace Go.Proofs.Ytppcpidlnpencaa
open Go.RowKit
set_option linter.unusedVariables false
theorem ofNat_eq (n : Nat) (b : UInt8) (h : n % 256 = b.toNat) : UInt8.ofNat n = b := by
  apply UInt8.toNat_inj.1
  rw [UInt8.toNat_ofNat']
  exact h
theorem de0 (b0 b1 : UInt8) : UInt8.ofNat ((b0.toNat / 8) * 8 + (b1.toNat / 64 + b0.toNat * 4 % 32) / 4) = b0 := by
  have qb0 := b0.toNat_lt
  have qb1 := b1.toNat_lt
  exact ofNat_eq _ _ (by omega)
theorem de1 (b0 b1 b2 : UInt8) : UInt8.ofNat ((b1.toNat / 64 + b0.toNat * 4 % 32) * 64 + (b1.toNat / 2 % 32) * 2 + (b2.toNat / 16 + b1.toNat * 16 % 32) / 16) = b1 := by
  have qb0 := b0.toNat_lt
  have qb1 := b1.toNat_lt
  have qb2 := b2.toNat_lt
  exact ofNat_eq _ _ (by omega)
theorem de2 (b1 b2 b3 : UInt8) : UInt8.ofNat ((b2.toNat / 16 + b1.toNat * 16 % 32) * 16 + (b3.toNat / 128 + b2.toNat * 2 % 32) / 2) = b2 := by
  have qb1 := b1.toNat_lt
  have qb2 := b2.toNat_lt
  have qb3 := b3.toNat_lt
  exact ofNat_eq _ _ (by omega)
theorem de3 (b2 b3 b4 : UInt8) : UInt8.ofNat ((b3.toNat / 128 + b2.toNat * 2 % 32) * 128 + (b3.toNat / 4 % 32) * 4 + (b4.toNat / 32 + b3.toNat * 8 % 32) / 8) = b3 := by
  have qb2 := b2.toNat_lt
  have qb3 := b3.toNat_lt
  have qb4 := b4.toNat_lt
  exact ofNat_eq _ _ (by omega)
theorem de4 (b3 b4 : UInt8) : UInt8.ofNat ((b4.toNat / 32 + b3.toNat * 8 % 32) * 32 + (b4.toNat % 32)) = b4 := by
  have qb3 := b3.toNat_lt
  have qb4 := b4.toNat_lt
  exact ofNat_eq _ _ (by omega)
theorem de5 (b5 b6 : UInt8) : UInt8.ofNat ((b5.toNat / 8) * 8 + (b6.toNat / 64 + b5.toNat * 4 % 32) / 4) = b5 := by
  have qb5 := b5.toNat_lt
  have qb6 := b6.toNat_lt
  exact ofNat_eq _ _ (by omega)
theorem de6 (b5 b6 b7 : UInt8) : UInt8.ofNat ((b6.toNat / 64 + b5.toNat * 4 % 32) * 64 + (b6.toNat / 2 % 32) * 2 + (b7.toNat / 16 + b6.toNat * 16 % 32) / 16) = b6 := by
  have qb5 := b5.toNat_lt
  have qb6 := b6.toNat_lt
  have qb7 := b7.toNat_lt
  exact ofNat_eq _ _ (by omega)
theorem de7 (b6 b7 b8 : UInt8) : UInt8.ofNat ((b7.toNat / 16 + b6.toNat * 16 % 32) * 16 + (b8.toNat / 128 + b7.toNat * 2 % 32) / 2) = b7 := by
  have qb6 := b6.toNat_lt
  have qb7 := b7.toNat_lt
  have qb8 := b8.toNat_lt
  exact ofNat_eq _ _ (by omega)
theorem de8 (b7 b8 b9 : UInt8) : UInt8.ofNat ((b8.toNat / 128 + b7.toNat * 2 % 32) * 128 + (b8.toNat / 4 % 32) * 4 + (b9.toNat / 32 + b8.toNat * 8 % 32) / 8) = b8 := by
  have qb7 := b7.toNat_lt
  have qb8 := b8.toNat_lt
  have qb9 := b9.toNat_lt
  exact ofNat_eq _ _ (by omega)
theorem de9 (b8 b9 : UInt8) : UInt8.ofNat ((b9.toNat / 32 + b8.toNat * 8 % 32) * 32 + (b9.toNat % 32)) = b9 := by
  have qb8 := b8.toNat_lt
  have qb9 := b9.toNat_lt
  exact ofNat_eq _ _ (by omega)
theorem de10 (b10 b11 : UInt8) : UInt8.ofNat ((b10.toNat / 8) * 8 + (b11.toNat / 64 + b10.toNat * 4 % 32) / 4) = b10 := by
  have qb10 := b10.toNat_lt
  have qb11 := b11.toNat_lt
  exact ofNat_eq _ _ (by omega)
theorem de11 (b10 b11 : UInt8) : UInt8.ofNat ((b11.toNat / 64 + b10.toNat * 4 % 32) * 64 + (b11.toNat / 2 % 32) * 2 + (b11.toNat * 16 % 32) / 16) = b11 := by
  have qb10 := b10.toNat_lt
  have qb11 := b11.toNat_lt
  exact ofNat_eq _ _ (by omega)
theorem decL_enc (b0 b1 b2 b3 b4 b5 b6 b7 b8 b9 b10 b11 : UInt8) : decL (b0.toNat / 8) (b1.toNat / 64 + b0.toNat * 4 % 32) (b1.toNat / 2 % 32) (b2.toNat / 16 + b1.toNat * 16 % 32) (b3.toNat / 128 + b2.toNat * 2 % 32) (b3.toNat / 4 % 32) (b4.toNat / 32 + b3.toNat * 8 % 32) (b4.toNat % 32) (b5.toNat / 8) (b6.toNat / 64 + b5.toNat * 4 % 32) (b6.toNat / 2 % 32) (b7.toNat / 16 + b6.toNat * 16 % 32) (b8.toNat / 128 + b7.toNat * 2 % 32) (b8.toNat / 4 % 32) (b9.toNat / 32 + b8.toNat * 8 % 32) (b9.toNat % 32) (b10.toNat / 8) (b11.toNat / 64 + b10.toNat * 4 % 32) (b11.toNat / 2 % 32) (b11.toNat * 16 % 32) = [b0, b1, b2, b3, b4, b5, b6, b7, b8, b9, b10, b11] := by
  simp only [decL]
  rw [de0, de1, de2, de3, de4, de5, de6, de7, de8, de9, de10, de11]
theorem ed0 (d0 d1 : Nat) (l0 : d0 < 32) (l1 : d1 < 32) : ((((d0 * 8 + d1 / 4)) % 256) / 8) = d0 := by
  omega
theorem ed1 (d0 d1 d2 d3 : Nat) (l0 : d0 < 32) (l1 : d1 < 32) (l2 : d2 < 32) (l3 : d3 < 32) : ((((d1 * 64 + d2 * 2 + d3 / 16)) % 256) / 64 + (((d0 * 8 + d1 / 4)) % 256) * 4 % 32) = d1 := by
  omega
theorem ed2 (d1 d2 d3 : Nat) (l1 : d1 < 32) (l2 : d2 < 32) (l3 : d3 < 32) : ((((d1 * 64 + d2 * 2 + d3 / 16)) % 256) / 2 % 32) = d2 := by
  omega
theorem ed3 (d1 d2 d3 d4 : Nat) (l1 : d1 < 32) (l2 : d2 < 32) (l3 : d3 < 32) (l4 : d4 < 32) : ((((d3 * 16 + d4 / 2)) % 256) / 16 + (((d1 * 64 + d2 * 2 + d3 / 16)) % 256) * 16 % 32) = d3 := by
  omega
theorem ed4 (d3 d4 d5 d6 : Nat) (l3 : d3 < 32) (l4 : d4 < 32) (l5 : d5 < 32) (l6 : d6 < 32) : ((((d4 * 128 + d5 * 4 + d6 / 8)) % 256) / 128 + (((d3 * 16 + d4 / 2)) % 256) * 2 % 32) = d4 := by
  omega
theorem ed5 (d4 d5 d6 : Nat) (l4 : d4 < 32) (l5 : d5 < 32) (l6 : d6 < 32) : ((((d4 * 128 + d5 * 4 + d6 / 8)) % 256) / 4 % 32) = d5 := by
  omega
theorem ed6 (d4 d5 d6 d7 : Nat) (l4 : d4 < 32) (l5 : d5 < 32) (l6 : d6 < 32) (l7 : d7 < 32) : ((((d6 * 32 + d7)) % 256) / 32 + (((d4 * 128 + d5 * 4 + d6 / 8)) % 256) * 8 % 32) = d6 := by
  omega
theorem ed7 (d6 d7 : Nat) (l6 : d6 < 32) (l7 : d7 < 32) : ((((d6 * 32 + d7)) % 256) % 32) = d7 := by
  omega
theorem ed8 (d8 d9 : Nat) (l8 : d8 < 32) (l9 : d9 < 32) : ((((d8 * 8 + d9 / 4)) % 256) / 8) = d8 := by
  omega
theorem ed9 (d8 d9 d10 d11 : Nat) (l8 : d8 < 32) (l9 : d9 < 32) (l10 : d10 < 32) (l11 : d11 < 32) : ((((d9 * 64 + d10 * 2 + d11 / 16)) % 256) / 64 + (((d8 * 8 + d9 / 4)) % 256) * 4 % 32) = d9 := by
  omega
theorem ed10 (d9 d10 d11 : Nat) (l9 : d9 < 32) (l10 : d10 < 32) (l11 : d11 < 32) : ((((d9 * 64 + d10 * 2 + d11 / 16)) % 256) / 2 % 32) = d10 := by
  omega
theorem ed11 (d9 d10 d11 d12 : Nat) (l9 : d9 < 32) (l10 : d10 < 32) (l11 : d11 < 32) (l12 : d12 < 32) : ((((d11 * 16 + d12 / 2)) % 256) / 16 + (((d9 * 64 + d10 * 2 + d11 / 16)) % 256) * 16 % 32) = d11 := by
  omega
theorem ed12 (d11 d12 d13 d14 : Nat) (l11 : d11 < 32) (l12 : d12 < 32) (l13 : d13 < 32) (l14 : d14 < 32) : ((((d12 * 128 + d13 * 4 + d14 / 8)) % 256) / 128 + (((d11 * 16 + d12 / 2)) % 256) * 2 % 32) = d12 := by
  omega
theorem ed13 (d12 d13 d14 : Nat) (l12 : d12 < 32) (l13 : d13 < 32) (l14 : d14 < 32) : ((((d12 * 128 + d13 * 4 + d14 / 8)) % 256) / 4 % 32) = d13 := by
  omega
theorem ed14 (d12 d13 d14 d15 : Nat) (l12 : d12 < 32) (l13 : d13 < 32) (l14 : d14 < 32) (l15 : d15 < 32) : ((((d14 * 32 + d15)) % 256) / 32 + (((d12 * 128 + d13 * 4 + d14 / 8)) % 256) * 8 % 32) = d14 := by
  omega
theorem ed15 (d14 d15 : Nat) (l14 : d14 < 32) (l15 : d15 < 32) : ((((d14 * 32 + d15)) % 256) % 32) = d15 := by
  omega
theorem ed16 (d16 d17 : Nat) (l16 : d16 < 32) (l17 : d17 < 32) : ((((d16 * 8 + d17 / 4)) % 256) / 8) = d16 := by
  omega
theorem ed17 (d16 d17 d18 d19 : Nat) (l16 : d16 < 32) (l17 : d17 < 32) (l18 : d18 < 32) (l19 : d19 < 32) : ((((d17 * 64 + d18 * 2 + d19 / 16)) % 256) / 64 + (((d16 * 8 + d17 / 4)) % 256) * 4 % 32) = d17 := by
  omega
theorem ed18 (d17 d18 d19 : Nat) (l17 : d17 < 32) (l18 : d18 < 32) (l19 : d19 < 32) : ((((d17 * 64 + d18 * 2 + d19 / 16)) % 256) / 2 % 32) = d18 := by
  omega
theorem ed19 (d17 d18 d19 : Nat) (l17 : d17 < 32) (l18 : d18 < 32) (l19 : d19 < 32) (hz : d19 % 16 = 0) : ((((d17 * 64 + d18 * 2 + d19 / 16)) % 256) * 16 % 32) = d19 := by
  omega
theorem encL_dec (d0 d1 d2 d3 d4 d5 d6 d7 d8 d9 d10 d11 d12 d13 d14 d15 d16 d17 d18 d19 : Nat) (l0 : d0 < 32) (l1 : d1 < 32) (l2 : d2 < 32) (l3 : d3 < 32) (l4 : d4 < 32) (l5 : d5 < 32) (l6 : d6 < 32) (l7 : d7 < 32) (l8 : d8 < 32) (l9 : d9 < 32) (l10 : d10 < 32) (l11 : d11 < 32) (l12 : d12 < 32) (l13 : d13 < 32) (l14 : d14 < 32) (l15 : d15 < 32) (l16 : d16 < 32) (l17 : d17 < 32) (l18 : d18 < 32) (l19 : d19 < 32) (hz : d19 % 16 = 0) : encL (UInt8.ofNat (d0 * 8 + d1 / 4)) (UInt8.ofNat (d1 * 64 + d2 * 2 + d3 / 16)) (UInt8.ofNat (d3 * 16 + d4 / 2)) (UInt8.ofNat (d4 * 128 + d5 * 4 + d6 / 8)) (UInt8.ofNat (d6 * 32 + d7)) (UInt8.ofNat (d8 * 8 + d9 / 4)) (UInt8.ofNat (d9 * 64 + d10 * 2 + d11 / 16)) (UInt8.ofNat (d11 * 16 + d12 / 2)) (UInt8.ofNat (d12 * 128 + d13 * 4 + d14 / 8)) (UInt8.ofNat (d14 * 32 + d15)) (UInt8.ofNat (d16 * 8 + d17 / 4)) (UInt8.ofNat (d17 * 64 + d18 * 2 + d19 / 16)) = [dig32 d0, dig32 d1, dig32 d2, dig32 d3, dig32 d4, dig32 d5, dig32 d6, dig32 d7, dig32 d8, dig32 d9, dig32 d10, dig32 d11, dig32 d12, dig32 d13, dig32 d14, dig32 d15, dig32 d16, dig32 d17, dig32 d18, dig32 d19] := by
  simp only [encL, UInt8.toNat_ofNat']
  rw [ed0 d0 d1 l0 l1]
  rw [ed1 d0 d1 d2 d3 l0 l1 l2 l3]
  rw [ed2 d1 d2 d3 l1 l2 l3]
  rw [ed3 d1 d2 d3 d4 l1 l2 l3 l4]
  rw [ed4 d3 d4 d5 d6 l3 l4 l5 l6]
  rw [ed5 d4 d5 d6 l4 l5 l6]
  rw [ed6 d4 d5 d6 d7 l4 l5 l6 l7]
  rw [ed7 d6 d7 l6 l7]
  rw [ed8 d8 d9 l8 l9]
  rw [ed9 d8 d9 d10 d11 l8 l9 l10 l11]
  rw [ed10 d9 d10 d11 l9 l10 l11]
  rw [ed11 d9 d10 d11 d12 l9 l10 l11 l12]
  rw [ed12 d11 d12 d13 d14 l11 l12 l13 l14]
  rw [ed13 d12 d13 d14 l12 l13 l14]
  rw [ed14 d12 d13 d14 d15 l12 l13 l14 l15]
  rw [ed15 d14 d15 l14 l15]
  rw [ed16 d16 d17 l16 l17]
  rw [ed17 d16 d17 d18 d19 l16 l17 l18 l19]
  rw [ed18 d17 d18 d19 l17 l18 l19]
  rw [ed19 d17 d18 d19 l17 l18 l19 hz]
end Go.Proofs.Ytppcpidlnpencaa
