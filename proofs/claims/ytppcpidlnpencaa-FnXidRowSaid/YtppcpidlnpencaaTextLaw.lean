/-
  The text of an ID: encode's twenty digits are those of the number of its bytes, four noughts behind.
-/
import Derived.Test.YtppcpidlnpencaaEncode
namespace Go.Proofs.Ytppcpidlnpencaa
open Go.RowKit
set_option linter.unusedVariables false
theorem foldl_from (ys : List UInt8) : ∀ a : Nat, ys.foldl (fun n x => n * 256 + x.toNat) a = a * 256 ^ ys.length + numB ys := by
  induction ys with
  | nil => intro a; simp [numB]
  | cons y ys ih =>
    intro a
    have h2 : numB (y :: ys) = ys.foldl (fun n x => n * 256 + x.toNat) (0 * 256 + y.toNat) := rfl
    rw [List.foldl_cons, ih, h2, ih, List.length_cons, Nat.pow_succ, Nat.add_mul, Nat.zero_mul, Nat.zero_add, Nat.mul_assoc, Nat.mul_comm 256, Nat.add_assoc]
theorem numB_app (xs ys : List UInt8) : numB (xs ++ ys) = numB xs * 256 ^ ys.length + numB ys := by
  unfold numB
  rw [List.foldl_append, foldl_from]
  rfl
theorem numB_bound (ys : List UInt8) : numB ys < 256 ^ ys.length := by
  have := numB_lt ys ys.length (Nat.le_refl _)
  rwa [List.take_length] at this
theorem digit_at (N H T j s D : Nat) (hN : N = H * 256 ^ j + T) (hT : T < 256 ^ j) (hD : D = 16 * (256 ^ j * 2 ^ s)) : N * 16 / D = H / 2 ^ s := by
  rw [hD, Nat.mul_comm N 16, Nat.mul_div_mul_left _ _ (by decide), ← Nat.div_div_eq_div_mul, hN, Nat.mul_comm H, Nat.mul_add_div (Nat.pow_pos (by decide)), Nat.div_eq_of_lt hT, Nat.add_zero]
theorem dg19 (b0 b1 b2 b3 b4 b5 b6 b7 b8 b9 b10 b11 : UInt8) : numB [b0, b1, b2, b3, b4, b5, b6, b7, b8, b9, b10, b11] * 16 / 32 ^ 0 % 32 = (b11.toNat * 16 % 32) := by
  have e : numB [b0, b1, b2, b3, b4, b5, b6, b7, b8, b9, b10, b11] = numB [b0, b1, b2, b3, b4, b5, b6, b7, b8, b9, b10, b11] * 256 ^ 0 + numB [] := numB_app [b0, b1, b2, b3, b4, b5, b6, b7, b8, b9, b10, b11] []
  have := b11.toNat_lt
  have e2 : numB [b0, b1, b2, b3, b4, b5, b6, b7, b8, b9, b10, b11] = numB [b0, b1, b2, b3, b4, b5, b6, b7, b8, b9, b10] * 256 + b11.toNat := numB_last [b0, b1, b2, b3, b4, b5, b6, b7, b8, b9, b10] b11
  rw [e2, Nat.pow_zero, Nat.div_one]
  omega
theorem dg18 (b0 b1 b2 b3 b4 b5 b6 b7 b8 b9 b10 b11 : UInt8) : numB [b0, b1, b2, b3, b4, b5, b6, b7, b8, b9, b10, b11] * 16 / 32 ^ 1 % 32 = (b11.toNat / 2 % 32) := by
  have e : numB [b0, b1, b2, b3, b4, b5, b6, b7, b8, b9, b10, b11] = numB [b0, b1, b2, b3, b4, b5, b6, b7, b8, b9, b10, b11] * 256 ^ 0 + numB [] := numB_app [b0, b1, b2, b3, b4, b5, b6, b7, b8, b9, b10, b11] []
  rw [digit_at _ _ _ 0 1 _ e (numB_bound []) (by decide)]
  have := b11.toNat_lt
  have e2 : numB [b0, b1, b2, b3, b4, b5, b6, b7, b8, b9, b10, b11] = numB [b0, b1, b2, b3, b4, b5, b6, b7, b8, b9, b10] * 256 + b11.toNat := numB_last [b0, b1, b2, b3, b4, b5, b6, b7, b8, b9, b10] b11
  rw [e2]
  generalize numB [b0, b1, b2, b3, b4, b5, b6, b7, b8, b9, b10] = Q
  omega
theorem dg17 (b0 b1 b2 b3 b4 b5 b6 b7 b8 b9 b10 b11 : UInt8) : numB [b0, b1, b2, b3, b4, b5, b6, b7, b8, b9, b10, b11] * 16 / 32 ^ 2 % 32 = (b11.toNat / 64 + b10.toNat * 4 % 32) := by
  have e : numB [b0, b1, b2, b3, b4, b5, b6, b7, b8, b9, b10, b11] = numB [b0, b1, b2, b3, b4, b5, b6, b7, b8, b9, b10, b11] * 256 ^ 0 + numB [] := numB_app [b0, b1, b2, b3, b4, b5, b6, b7, b8, b9, b10, b11] []
  rw [digit_at _ _ _ 0 6 _ e (numB_bound []) (by decide)]
  have := b11.toNat_lt
  have e2 : numB [b0, b1, b2, b3, b4, b5, b6, b7, b8, b9, b10, b11] = numB [b0, b1, b2, b3, b4, b5, b6, b7, b8, b9, b10] * 256 + b11.toNat := numB_last [b0, b1, b2, b3, b4, b5, b6, b7, b8, b9, b10] b11
  have := b10.toNat_lt
  have e3 : numB [b0, b1, b2, b3, b4, b5, b6, b7, b8, b9, b10] = numB [b0, b1, b2, b3, b4, b5, b6, b7, b8, b9] * 256 + b10.toNat := numB_last [b0, b1, b2, b3, b4, b5, b6, b7, b8, b9] b10
  rw [e2, e3]
  generalize numB [b0, b1, b2, b3, b4, b5, b6, b7, b8, b9] = Q
  omega
theorem dg16 (b0 b1 b2 b3 b4 b5 b6 b7 b8 b9 b10 b11 : UInt8) : numB [b0, b1, b2, b3, b4, b5, b6, b7, b8, b9, b10, b11] * 16 / 32 ^ 3 % 32 = (b10.toNat / 8) := by
  have e : numB [b0, b1, b2, b3, b4, b5, b6, b7, b8, b9, b10, b11] = numB [b0, b1, b2, b3, b4, b5, b6, b7, b8, b9, b10] * 256 ^ 1 + numB [b11] := numB_app [b0, b1, b2, b3, b4, b5, b6, b7, b8, b9, b10] [b11]
  rw [digit_at _ _ _ 1 3 _ e (numB_bound [b11]) (by decide)]
  have := b10.toNat_lt
  have e2 : numB [b0, b1, b2, b3, b4, b5, b6, b7, b8, b9, b10] = numB [b0, b1, b2, b3, b4, b5, b6, b7, b8, b9] * 256 + b10.toNat := numB_last [b0, b1, b2, b3, b4, b5, b6, b7, b8, b9] b10
  rw [e2]
  generalize numB [b0, b1, b2, b3, b4, b5, b6, b7, b8, b9] = Q
  omega
theorem dg15 (b0 b1 b2 b3 b4 b5 b6 b7 b8 b9 b10 b11 : UInt8) : numB [b0, b1, b2, b3, b4, b5, b6, b7, b8, b9, b10, b11] * 16 / 32 ^ 4 % 32 = (b9.toNat % 32) := by
  have e : numB [b0, b1, b2, b3, b4, b5, b6, b7, b8, b9, b10, b11] = numB [b0, b1, b2, b3, b4, b5, b6, b7, b8, b9] * 256 ^ 2 + numB [b10, b11] := numB_app [b0, b1, b2, b3, b4, b5, b6, b7, b8, b9] [b10, b11]
  rw [digit_at _ _ _ 2 0 _ e (numB_bound [b10, b11]) (by decide)]
  have := b9.toNat_lt
  have e2 : numB [b0, b1, b2, b3, b4, b5, b6, b7, b8, b9] = numB [b0, b1, b2, b3, b4, b5, b6, b7, b8] * 256 + b9.toNat := numB_last [b0, b1, b2, b3, b4, b5, b6, b7, b8] b9
  rw [e2]
  generalize numB [b0, b1, b2, b3, b4, b5, b6, b7, b8] = Q
  omega
theorem dg14 (b0 b1 b2 b3 b4 b5 b6 b7 b8 b9 b10 b11 : UInt8) : numB [b0, b1, b2, b3, b4, b5, b6, b7, b8, b9, b10, b11] * 16 / 32 ^ 5 % 32 = (b9.toNat / 32 + b8.toNat * 8 % 32) := by
  have e : numB [b0, b1, b2, b3, b4, b5, b6, b7, b8, b9, b10, b11] = numB [b0, b1, b2, b3, b4, b5, b6, b7, b8, b9] * 256 ^ 2 + numB [b10, b11] := numB_app [b0, b1, b2, b3, b4, b5, b6, b7, b8, b9] [b10, b11]
  rw [digit_at _ _ _ 2 5 _ e (numB_bound [b10, b11]) (by decide)]
  have := b9.toNat_lt
  have e2 : numB [b0, b1, b2, b3, b4, b5, b6, b7, b8, b9] = numB [b0, b1, b2, b3, b4, b5, b6, b7, b8] * 256 + b9.toNat := numB_last [b0, b1, b2, b3, b4, b5, b6, b7, b8] b9
  have := b8.toNat_lt
  have e3 : numB [b0, b1, b2, b3, b4, b5, b6, b7, b8] = numB [b0, b1, b2, b3, b4, b5, b6, b7] * 256 + b8.toNat := numB_last [b0, b1, b2, b3, b4, b5, b6, b7] b8
  rw [e2, e3]
  generalize numB [b0, b1, b2, b3, b4, b5, b6, b7] = Q
  omega
theorem dg13 (b0 b1 b2 b3 b4 b5 b6 b7 b8 b9 b10 b11 : UInt8) : numB [b0, b1, b2, b3, b4, b5, b6, b7, b8, b9, b10, b11] * 16 / 32 ^ 6 % 32 = (b8.toNat / 4 % 32) := by
  have e : numB [b0, b1, b2, b3, b4, b5, b6, b7, b8, b9, b10, b11] = numB [b0, b1, b2, b3, b4, b5, b6, b7, b8] * 256 ^ 3 + numB [b9, b10, b11] := numB_app [b0, b1, b2, b3, b4, b5, b6, b7, b8] [b9, b10, b11]
  rw [digit_at _ _ _ 3 2 _ e (numB_bound [b9, b10, b11]) (by decide)]
  have := b8.toNat_lt
  have e2 : numB [b0, b1, b2, b3, b4, b5, b6, b7, b8] = numB [b0, b1, b2, b3, b4, b5, b6, b7] * 256 + b8.toNat := numB_last [b0, b1, b2, b3, b4, b5, b6, b7] b8
  rw [e2]
  generalize numB [b0, b1, b2, b3, b4, b5, b6, b7] = Q
  omega
theorem dg12 (b0 b1 b2 b3 b4 b5 b6 b7 b8 b9 b10 b11 : UInt8) : numB [b0, b1, b2, b3, b4, b5, b6, b7, b8, b9, b10, b11] * 16 / 32 ^ 7 % 32 = (b8.toNat / 128 + b7.toNat * 2 % 32) := by
  have e : numB [b0, b1, b2, b3, b4, b5, b6, b7, b8, b9, b10, b11] = numB [b0, b1, b2, b3, b4, b5, b6, b7, b8] * 256 ^ 3 + numB [b9, b10, b11] := numB_app [b0, b1, b2, b3, b4, b5, b6, b7, b8] [b9, b10, b11]
  rw [digit_at _ _ _ 3 7 _ e (numB_bound [b9, b10, b11]) (by decide)]
  have := b8.toNat_lt
  have e2 : numB [b0, b1, b2, b3, b4, b5, b6, b7, b8] = numB [b0, b1, b2, b3, b4, b5, b6, b7] * 256 + b8.toNat := numB_last [b0, b1, b2, b3, b4, b5, b6, b7] b8
  have := b7.toNat_lt
  have e3 : numB [b0, b1, b2, b3, b4, b5, b6, b7] = numB [b0, b1, b2, b3, b4, b5, b6] * 256 + b7.toNat := numB_last [b0, b1, b2, b3, b4, b5, b6] b7
  rw [e2, e3]
  generalize numB [b0, b1, b2, b3, b4, b5, b6] = Q
  omega
theorem dg11 (b0 b1 b2 b3 b4 b5 b6 b7 b8 b9 b10 b11 : UInt8) : numB [b0, b1, b2, b3, b4, b5, b6, b7, b8, b9, b10, b11] * 16 / 32 ^ 8 % 32 = (b7.toNat / 16 + b6.toNat * 16 % 32) := by
  have e : numB [b0, b1, b2, b3, b4, b5, b6, b7, b8, b9, b10, b11] = numB [b0, b1, b2, b3, b4, b5, b6, b7] * 256 ^ 4 + numB [b8, b9, b10, b11] := numB_app [b0, b1, b2, b3, b4, b5, b6, b7] [b8, b9, b10, b11]
  rw [digit_at _ _ _ 4 4 _ e (numB_bound [b8, b9, b10, b11]) (by decide)]
  have := b7.toNat_lt
  have e2 : numB [b0, b1, b2, b3, b4, b5, b6, b7] = numB [b0, b1, b2, b3, b4, b5, b6] * 256 + b7.toNat := numB_last [b0, b1, b2, b3, b4, b5, b6] b7
  have := b6.toNat_lt
  have e3 : numB [b0, b1, b2, b3, b4, b5, b6] = numB [b0, b1, b2, b3, b4, b5] * 256 + b6.toNat := numB_last [b0, b1, b2, b3, b4, b5] b6
  rw [e2, e3]
  generalize numB [b0, b1, b2, b3, b4, b5] = Q
  omega
theorem dg10 (b0 b1 b2 b3 b4 b5 b6 b7 b8 b9 b10 b11 : UInt8) : numB [b0, b1, b2, b3, b4, b5, b6, b7, b8, b9, b10, b11] * 16 / 32 ^ 9 % 32 = (b6.toNat / 2 % 32) := by
  have e : numB [b0, b1, b2, b3, b4, b5, b6, b7, b8, b9, b10, b11] = numB [b0, b1, b2, b3, b4, b5, b6] * 256 ^ 5 + numB [b7, b8, b9, b10, b11] := numB_app [b0, b1, b2, b3, b4, b5, b6] [b7, b8, b9, b10, b11]
  rw [digit_at _ _ _ 5 1 _ e (numB_bound [b7, b8, b9, b10, b11]) (by decide)]
  have := b6.toNat_lt
  have e2 : numB [b0, b1, b2, b3, b4, b5, b6] = numB [b0, b1, b2, b3, b4, b5] * 256 + b6.toNat := numB_last [b0, b1, b2, b3, b4, b5] b6
  rw [e2]
  generalize numB [b0, b1, b2, b3, b4, b5] = Q
  omega
theorem dg9 (b0 b1 b2 b3 b4 b5 b6 b7 b8 b9 b10 b11 : UInt8) : numB [b0, b1, b2, b3, b4, b5, b6, b7, b8, b9, b10, b11] * 16 / 32 ^ 10 % 32 = (b6.toNat / 64 + b5.toNat * 4 % 32) := by
  have e : numB [b0, b1, b2, b3, b4, b5, b6, b7, b8, b9, b10, b11] = numB [b0, b1, b2, b3, b4, b5, b6] * 256 ^ 5 + numB [b7, b8, b9, b10, b11] := numB_app [b0, b1, b2, b3, b4, b5, b6] [b7, b8, b9, b10, b11]
  rw [digit_at _ _ _ 5 6 _ e (numB_bound [b7, b8, b9, b10, b11]) (by decide)]
  have := b6.toNat_lt
  have e2 : numB [b0, b1, b2, b3, b4, b5, b6] = numB [b0, b1, b2, b3, b4, b5] * 256 + b6.toNat := numB_last [b0, b1, b2, b3, b4, b5] b6
  have := b5.toNat_lt
  have e3 : numB [b0, b1, b2, b3, b4, b5] = numB [b0, b1, b2, b3, b4] * 256 + b5.toNat := numB_last [b0, b1, b2, b3, b4] b5
  rw [e2, e3]
  generalize numB [b0, b1, b2, b3, b4] = Q
  omega
theorem dg8 (b0 b1 b2 b3 b4 b5 b6 b7 b8 b9 b10 b11 : UInt8) : numB [b0, b1, b2, b3, b4, b5, b6, b7, b8, b9, b10, b11] * 16 / 32 ^ 11 % 32 = (b5.toNat / 8) := by
  have e : numB [b0, b1, b2, b3, b4, b5, b6, b7, b8, b9, b10, b11] = numB [b0, b1, b2, b3, b4, b5] * 256 ^ 6 + numB [b6, b7, b8, b9, b10, b11] := numB_app [b0, b1, b2, b3, b4, b5] [b6, b7, b8, b9, b10, b11]
  rw [digit_at _ _ _ 6 3 _ e (numB_bound [b6, b7, b8, b9, b10, b11]) (by decide)]
  have := b5.toNat_lt
  have e2 : numB [b0, b1, b2, b3, b4, b5] = numB [b0, b1, b2, b3, b4] * 256 + b5.toNat := numB_last [b0, b1, b2, b3, b4] b5
  rw [e2]
  generalize numB [b0, b1, b2, b3, b4] = Q
  omega
theorem dg7 (b0 b1 b2 b3 b4 b5 b6 b7 b8 b9 b10 b11 : UInt8) : numB [b0, b1, b2, b3, b4, b5, b6, b7, b8, b9, b10, b11] * 16 / 32 ^ 12 % 32 = (b4.toNat % 32) := by
  have e : numB [b0, b1, b2, b3, b4, b5, b6, b7, b8, b9, b10, b11] = numB [b0, b1, b2, b3, b4] * 256 ^ 7 + numB [b5, b6, b7, b8, b9, b10, b11] := numB_app [b0, b1, b2, b3, b4] [b5, b6, b7, b8, b9, b10, b11]
  rw [digit_at _ _ _ 7 0 _ e (numB_bound [b5, b6, b7, b8, b9, b10, b11]) (by decide)]
  have := b4.toNat_lt
  have e2 : numB [b0, b1, b2, b3, b4] = numB [b0, b1, b2, b3] * 256 + b4.toNat := numB_last [b0, b1, b2, b3] b4
  rw [e2]
  generalize numB [b0, b1, b2, b3] = Q
  omega
theorem dg6 (b0 b1 b2 b3 b4 b5 b6 b7 b8 b9 b10 b11 : UInt8) : numB [b0, b1, b2, b3, b4, b5, b6, b7, b8, b9, b10, b11] * 16 / 32 ^ 13 % 32 = (b4.toNat / 32 + b3.toNat * 8 % 32) := by
  have e : numB [b0, b1, b2, b3, b4, b5, b6, b7, b8, b9, b10, b11] = numB [b0, b1, b2, b3, b4] * 256 ^ 7 + numB [b5, b6, b7, b8, b9, b10, b11] := numB_app [b0, b1, b2, b3, b4] [b5, b6, b7, b8, b9, b10, b11]
  rw [digit_at _ _ _ 7 5 _ e (numB_bound [b5, b6, b7, b8, b9, b10, b11]) (by decide)]
  have := b4.toNat_lt
  have e2 : numB [b0, b1, b2, b3, b4] = numB [b0, b1, b2, b3] * 256 + b4.toNat := numB_last [b0, b1, b2, b3] b4
  have := b3.toNat_lt
  have e3 : numB [b0, b1, b2, b3] = numB [b0, b1, b2] * 256 + b3.toNat := numB_last [b0, b1, b2] b3
  rw [e2, e3]
  generalize numB [b0, b1, b2] = Q
  omega
theorem dg5 (b0 b1 b2 b3 b4 b5 b6 b7 b8 b9 b10 b11 : UInt8) : numB [b0, b1, b2, b3, b4, b5, b6, b7, b8, b9, b10, b11] * 16 / 32 ^ 14 % 32 = (b3.toNat / 4 % 32) := by
  have e : numB [b0, b1, b2, b3, b4, b5, b6, b7, b8, b9, b10, b11] = numB [b0, b1, b2, b3] * 256 ^ 8 + numB [b4, b5, b6, b7, b8, b9, b10, b11] := numB_app [b0, b1, b2, b3] [b4, b5, b6, b7, b8, b9, b10, b11]
  rw [digit_at _ _ _ 8 2 _ e (numB_bound [b4, b5, b6, b7, b8, b9, b10, b11]) (by decide)]
  have := b3.toNat_lt
  have e2 : numB [b0, b1, b2, b3] = numB [b0, b1, b2] * 256 + b3.toNat := numB_last [b0, b1, b2] b3
  rw [e2]
  generalize numB [b0, b1, b2] = Q
  omega
theorem dg4 (b0 b1 b2 b3 b4 b5 b6 b7 b8 b9 b10 b11 : UInt8) : numB [b0, b1, b2, b3, b4, b5, b6, b7, b8, b9, b10, b11] * 16 / 32 ^ 15 % 32 = (b3.toNat / 128 + b2.toNat * 2 % 32) := by
  have e : numB [b0, b1, b2, b3, b4, b5, b6, b7, b8, b9, b10, b11] = numB [b0, b1, b2, b3] * 256 ^ 8 + numB [b4, b5, b6, b7, b8, b9, b10, b11] := numB_app [b0, b1, b2, b3] [b4, b5, b6, b7, b8, b9, b10, b11]
  rw [digit_at _ _ _ 8 7 _ e (numB_bound [b4, b5, b6, b7, b8, b9, b10, b11]) (by decide)]
  have := b3.toNat_lt
  have e2 : numB [b0, b1, b2, b3] = numB [b0, b1, b2] * 256 + b3.toNat := numB_last [b0, b1, b2] b3
  have := b2.toNat_lt
  have e3 : numB [b0, b1, b2] = numB [b0, b1] * 256 + b2.toNat := numB_last [b0, b1] b2
  rw [e2, e3]
  generalize numB [b0, b1] = Q
  omega
theorem dg3 (b0 b1 b2 b3 b4 b5 b6 b7 b8 b9 b10 b11 : UInt8) : numB [b0, b1, b2, b3, b4, b5, b6, b7, b8, b9, b10, b11] * 16 / 32 ^ 16 % 32 = (b2.toNat / 16 + b1.toNat * 16 % 32) := by
  have e : numB [b0, b1, b2, b3, b4, b5, b6, b7, b8, b9, b10, b11] = numB [b0, b1, b2] * 256 ^ 9 + numB [b3, b4, b5, b6, b7, b8, b9, b10, b11] := numB_app [b0, b1, b2] [b3, b4, b5, b6, b7, b8, b9, b10, b11]
  rw [digit_at _ _ _ 9 4 _ e (numB_bound [b3, b4, b5, b6, b7, b8, b9, b10, b11]) (by decide)]
  have := b2.toNat_lt
  have e2 : numB [b0, b1, b2] = numB [b0, b1] * 256 + b2.toNat := numB_last [b0, b1] b2
  have := b1.toNat_lt
  have e3 : numB [b0, b1] = numB [b0] * 256 + b1.toNat := numB_last [b0] b1
  rw [e2, e3]
  generalize numB [b0] = Q
  omega
theorem dg2 (b0 b1 b2 b3 b4 b5 b6 b7 b8 b9 b10 b11 : UInt8) : numB [b0, b1, b2, b3, b4, b5, b6, b7, b8, b9, b10, b11] * 16 / 32 ^ 17 % 32 = (b1.toNat / 2 % 32) := by
  have e : numB [b0, b1, b2, b3, b4, b5, b6, b7, b8, b9, b10, b11] = numB [b0, b1] * 256 ^ 10 + numB [b2, b3, b4, b5, b6, b7, b8, b9, b10, b11] := numB_app [b0, b1] [b2, b3, b4, b5, b6, b7, b8, b9, b10, b11]
  rw [digit_at _ _ _ 10 1 _ e (numB_bound [b2, b3, b4, b5, b6, b7, b8, b9, b10, b11]) (by decide)]
  have := b1.toNat_lt
  have e2 : numB [b0, b1] = numB [b0] * 256 + b1.toNat := numB_last [b0] b1
  rw [e2]
  generalize numB [b0] = Q
  omega
theorem dg1 (b0 b1 b2 b3 b4 b5 b6 b7 b8 b9 b10 b11 : UInt8) : numB [b0, b1, b2, b3, b4, b5, b6, b7, b8, b9, b10, b11] * 16 / 32 ^ 18 % 32 = (b1.toNat / 64 + b0.toNat * 4 % 32) := by
  have e : numB [b0, b1, b2, b3, b4, b5, b6, b7, b8, b9, b10, b11] = numB [b0, b1] * 256 ^ 10 + numB [b2, b3, b4, b5, b6, b7, b8, b9, b10, b11] := numB_app [b0, b1] [b2, b3, b4, b5, b6, b7, b8, b9, b10, b11]
  rw [digit_at _ _ _ 10 6 _ e (numB_bound [b2, b3, b4, b5, b6, b7, b8, b9, b10, b11]) (by decide)]
  have := b1.toNat_lt
  have e2 : numB [b0, b1] = numB [b0] * 256 + b1.toNat := numB_last [b0] b1
  have := b0.toNat_lt
  have e3 : numB [b0] = b0.toNat := by simp [numB]
  rw [e2, e3]
  omega
theorem dg0 (b0 b1 b2 b3 b4 b5 b6 b7 b8 b9 b10 b11 : UInt8) : numB [b0, b1, b2, b3, b4, b5, b6, b7, b8, b9, b10, b11] * 16 / 32 ^ 19 % 32 = (b0.toNat / 8) := by
  have e : numB [b0, b1, b2, b3, b4, b5, b6, b7, b8, b9, b10, b11] = numB [b0] * 256 ^ 11 + numB [b1, b2, b3, b4, b5, b6, b7, b8, b9, b10, b11] := numB_app [b0] [b1, b2, b3, b4, b5, b6, b7, b8, b9, b10, b11]
  rw [digit_at _ _ _ 11 3 _ e (numB_bound [b1, b2, b3, b4, b5, b6, b7, b8, b9, b10, b11]) (by decide)]
  have := b0.toNat_lt
  have e2 : numB [b0] = b0.toNat := by simp [numB]
  rw [e2]
  omega
theorem encL_digs (b0 b1 b2 b3 b4 b5 b6 b7 b8 b9 b10 b11 : UInt8) : encL b0 b1 b2 b3 b4 b5 b6 b7 b8 b9 b10 b11 = digsN 32 dig32 (numB [b0, b1, b2, b3, b4, b5, b6, b7, b8, b9, b10, b11] * 16) 20 := by
  simp only [digsN, dg0, dg1, dg2, dg3, dg4, dg5, dg6, dg7, dg8, dg9, dg10, dg11, dg12, dg13, dg14, dg15, dg16, dg17, dg18, dg19, encL]
end Go.Proofs.Ytppcpidlnpencaa
