/-
  The canonical text of a UUID: encodeCanonical's digits are those of the number of its bytes, with dashes.
-/
import Derived.Test.YtnofmiinbmfbnaaText
import Derived.Test.YtnofmiinbmfbnaaSpecUuid
namespace Go.Proofs.Ytnofmiinbmfbnaa
open Go.RowKit
set_option linter.unusedVariables false
theorem foldl_from (ys : List UInt8) : ∀ a : Nat, ys.foldl (fun n x => n * 256 + x.toNat) a = a * 256 ^ ys.length + numB ys := by
  induction ys with
  | nil => intro a; simp [numB]
  | cons y ys ih =>
    intro a
    have h2 : numB (y :: ys) = ys.foldl (fun n x => n * 256 + x.toNat) (0 * 256 + y.toNat) := rfl
    rw [List.foldl_cons, ih, h2, ih, List.length_cons, Nat.pow_succ, Nat.add_mul, Nat.zero_mul, Nat.zero_add, Nat.mul_assoc, Nat.mul_comm 256, Nat.add_assoc]
theorem numB_app (xs ys : List UInt8) : numB (xs ++ ys) = numB xs * 256 ^ ys.length + numB ys := by
  unfold numB
  rw [List.foldl_append, foldl_from]
  rfl
theorem numB_bound (ys : List UInt8) : numB ys < 256 ^ ys.length := by
  have := numB_lt ys ys.length (Nat.le_refl _)
  rwa [List.take_length] at this
theorem part_at (N H T j m D : Nat) (hN : N = H * 256 ^ j + T) (hT : T < 256 ^ j) (hD : D = 256 ^ j * m) : N / D = H / m := by
  rw [hD, ← Nat.div_div_eq_div_mul, hN, Nat.mul_comm H, Nat.mul_add_div (Nat.pow_pos (by decide)), Nat.div_eq_of_lt hT, Nat.add_zero]
theorem digs_hex (n : Nat) : dig16 n = hexd n := rfl
theorem hx0 (b0 b1 b2 b3 b4 b5 b6 b7 b8 b9 b10 b11 b12 b13 b14 b15 : UInt8) : numB [b0, b1, b2, b3, b4, b5, b6, b7, b8, b9, b10, b11, b12, b13, b14, b15] / 16 ^ 31 % 16 = b0.toNat / 16 := by
  have e : numB [b0, b1, b2, b3, b4, b5, b6, b7, b8, b9, b10, b11, b12, b13, b14, b15] = numB [b0] * 256 ^ 15 + numB [b1, b2, b3, b4, b5, b6, b7, b8, b9, b10, b11, b12, b13, b14, b15] := numB_app [b0] [b1, b2, b3, b4, b5, b6, b7, b8, b9, b10, b11, b12, b13, b14, b15]
  have l := b0.toNat_lt
  have e2 : numB [b0] = 0 * 256 + b0.toNat := by simp [numB]
  rw [part_at _ _ _ 15 16 _ e (numB_bound [b1, b2, b3, b4, b5, b6, b7, b8, b9, b10, b11, b12, b13, b14, b15]) (by decide), e2]
  omega
theorem hx1 (b0 b1 b2 b3 b4 b5 b6 b7 b8 b9 b10 b11 b12 b13 b14 b15 : UInt8) : numB [b0, b1, b2, b3, b4, b5, b6, b7, b8, b9, b10, b11, b12, b13, b14, b15] / 16 ^ 30 % 16 = b0.toNat % 16 := by
  have e : numB [b0, b1, b2, b3, b4, b5, b6, b7, b8, b9, b10, b11, b12, b13, b14, b15] = numB [b0] * 256 ^ 15 + numB [b1, b2, b3, b4, b5, b6, b7, b8, b9, b10, b11, b12, b13, b14, b15] := numB_app [b0] [b1, b2, b3, b4, b5, b6, b7, b8, b9, b10, b11, b12, b13, b14, b15]
  have l := b0.toNat_lt
  have e2 : numB [b0] = 0 * 256 + b0.toNat := by simp [numB]
  rw [part_at _ _ _ 15 1 _ e (numB_bound [b1, b2, b3, b4, b5, b6, b7, b8, b9, b10, b11, b12, b13, b14, b15]) (by decide), e2]
  omega
theorem hx2 (b0 b1 b2 b3 b4 b5 b6 b7 b8 b9 b10 b11 b12 b13 b14 b15 : UInt8) : numB [b0, b1, b2, b3, b4, b5, b6, b7, b8, b9, b10, b11, b12, b13, b14, b15] / 16 ^ 29 % 16 = b1.toNat / 16 := by
  have e : numB [b0, b1, b2, b3, b4, b5, b6, b7, b8, b9, b10, b11, b12, b13, b14, b15] = numB [b0, b1] * 256 ^ 14 + numB [b2, b3, b4, b5, b6, b7, b8, b9, b10, b11, b12, b13, b14, b15] := numB_app [b0, b1] [b2, b3, b4, b5, b6, b7, b8, b9, b10, b11, b12, b13, b14, b15]
  have l := b1.toNat_lt
  have e2 : numB [b0, b1] = numB [b0] * 256 + b1.toNat := numB_last [b0] b1
  rw [part_at _ _ _ 14 16 _ e (numB_bound [b2, b3, b4, b5, b6, b7, b8, b9, b10, b11, b12, b13, b14, b15]) (by decide), e2]
  generalize numB [b0] = Q
  omega
theorem hx3 (b0 b1 b2 b3 b4 b5 b6 b7 b8 b9 b10 b11 b12 b13 b14 b15 : UInt8) : numB [b0, b1, b2, b3, b4, b5, b6, b7, b8, b9, b10, b11, b12, b13, b14, b15] / 16 ^ 28 % 16 = b1.toNat % 16 := by
  have e : numB [b0, b1, b2, b3, b4, b5, b6, b7, b8, b9, b10, b11, b12, b13, b14, b15] = numB [b0, b1] * 256 ^ 14 + numB [b2, b3, b4, b5, b6, b7, b8, b9, b10, b11, b12, b13, b14, b15] := numB_app [b0, b1] [b2, b3, b4, b5, b6, b7, b8, b9, b10, b11, b12, b13, b14, b15]
  have l := b1.toNat_lt
  have e2 : numB [b0, b1] = numB [b0] * 256 + b1.toNat := numB_last [b0] b1
  rw [part_at _ _ _ 14 1 _ e (numB_bound [b2, b3, b4, b5, b6, b7, b8, b9, b10, b11, b12, b13, b14, b15]) (by decide), e2]
  generalize numB [b0] = Q
  omega
theorem hx4 (b0 b1 b2 b3 b4 b5 b6 b7 b8 b9 b10 b11 b12 b13 b14 b15 : UInt8) : numB [b0, b1, b2, b3, b4, b5, b6, b7, b8, b9, b10, b11, b12, b13, b14, b15] / 16 ^ 27 % 16 = b2.toNat / 16 := by
  have e : numB [b0, b1, b2, b3, b4, b5, b6, b7, b8, b9, b10, b11, b12, b13, b14, b15] = numB [b0, b1, b2] * 256 ^ 13 + numB [b3, b4, b5, b6, b7, b8, b9, b10, b11, b12, b13, b14, b15] := numB_app [b0, b1, b2] [b3, b4, b5, b6, b7, b8, b9, b10, b11, b12, b13, b14, b15]
  have l := b2.toNat_lt
  have e2 : numB [b0, b1, b2] = numB [b0, b1] * 256 + b2.toNat := numB_last [b0, b1] b2
  rw [part_at _ _ _ 13 16 _ e (numB_bound [b3, b4, b5, b6, b7, b8, b9, b10, b11, b12, b13, b14, b15]) (by decide), e2]
  generalize numB [b0, b1] = Q
  omega
theorem hx5 (b0 b1 b2 b3 b4 b5 b6 b7 b8 b9 b10 b11 b12 b13 b14 b15 : UInt8) : numB [b0, b1, b2, b3, b4, b5, b6, b7, b8, b9, b10, b11, b12, b13, b14, b15] / 16 ^ 26 % 16 = b2.toNat % 16 := by
  have e : numB [b0, b1, b2, b3, b4, b5, b6, b7, b8, b9, b10, b11, b12, b13, b14, b15] = numB [b0, b1, b2] * 256 ^ 13 + numB [b3, b4, b5, b6, b7, b8, b9, b10, b11, b12, b13, b14, b15] := numB_app [b0, b1, b2] [b3, b4, b5, b6, b7, b8, b9, b10, b11, b12, b13, b14, b15]
  have l := b2.toNat_lt
  have e2 : numB [b0, b1, b2] = numB [b0, b1] * 256 + b2.toNat := numB_last [b0, b1] b2
  rw [part_at _ _ _ 13 1 _ e (numB_bound [b3, b4, b5, b6, b7, b8, b9, b10, b11, b12, b13, b14, b15]) (by decide), e2]
  generalize numB [b0, b1] = Q
  omega
theorem hx6 (b0 b1 b2 b3 b4 b5 b6 b7 b8 b9 b10 b11 b12 b13 b14 b15 : UInt8) : numB [b0, b1, b2, b3, b4, b5, b6, b7, b8, b9, b10, b11, b12, b13, b14, b15] / 16 ^ 25 % 16 = b3.toNat / 16 := by
  have e : numB [b0, b1, b2, b3, b4, b5, b6, b7, b8, b9, b10, b11, b12, b13, b14, b15] = numB [b0, b1, b2, b3] * 256 ^ 12 + numB [b4, b5, b6, b7, b8, b9, b10, b11, b12, b13, b14, b15] := numB_app [b0, b1, b2, b3] [b4, b5, b6, b7, b8, b9, b10, b11, b12, b13, b14, b15]
  have l := b3.toNat_lt
  have e2 : numB [b0, b1, b2, b3] = numB [b0, b1, b2] * 256 + b3.toNat := numB_last [b0, b1, b2] b3
  rw [part_at _ _ _ 12 16 _ e (numB_bound [b4, b5, b6, b7, b8, b9, b10, b11, b12, b13, b14, b15]) (by decide), e2]
  generalize numB [b0, b1, b2] = Q
  omega
theorem hx7 (b0 b1 b2 b3 b4 b5 b6 b7 b8 b9 b10 b11 b12 b13 b14 b15 : UInt8) : numB [b0, b1, b2, b3, b4, b5, b6, b7, b8, b9, b10, b11, b12, b13, b14, b15] / 16 ^ 24 % 16 = b3.toNat % 16 := by
  have e : numB [b0, b1, b2, b3, b4, b5, b6, b7, b8, b9, b10, b11, b12, b13, b14, b15] = numB [b0, b1, b2, b3] * 256 ^ 12 + numB [b4, b5, b6, b7, b8, b9, b10, b11, b12, b13, b14, b15] := numB_app [b0, b1, b2, b3] [b4, b5, b6, b7, b8, b9, b10, b11, b12, b13, b14, b15]
  have l := b3.toNat_lt
  have e2 : numB [b0, b1, b2, b3] = numB [b0, b1, b2] * 256 + b3.toNat := numB_last [b0, b1, b2] b3
  rw [part_at _ _ _ 12 1 _ e (numB_bound [b4, b5, b6, b7, b8, b9, b10, b11, b12, b13, b14, b15]) (by decide), e2]
  generalize numB [b0, b1, b2] = Q
  omega
theorem hx8 (b0 b1 b2 b3 b4 b5 b6 b7 b8 b9 b10 b11 b12 b13 b14 b15 : UInt8) : numB [b0, b1, b2, b3, b4, b5, b6, b7, b8, b9, b10, b11, b12, b13, b14, b15] / 16 ^ 23 % 16 = b4.toNat / 16 := by
  have e : numB [b0, b1, b2, b3, b4, b5, b6, b7, b8, b9, b10, b11, b12, b13, b14, b15] = numB [b0, b1, b2, b3, b4] * 256 ^ 11 + numB [b5, b6, b7, b8, b9, b10, b11, b12, b13, b14, b15] := numB_app [b0, b1, b2, b3, b4] [b5, b6, b7, b8, b9, b10, b11, b12, b13, b14, b15]
  have l := b4.toNat_lt
  have e2 : numB [b0, b1, b2, b3, b4] = numB [b0, b1, b2, b3] * 256 + b4.toNat := numB_last [b0, b1, b2, b3] b4
  rw [part_at _ _ _ 11 16 _ e (numB_bound [b5, b6, b7, b8, b9, b10, b11, b12, b13, b14, b15]) (by decide), e2]
  generalize numB [b0, b1, b2, b3] = Q
  omega
theorem hx9 (b0 b1 b2 b3 b4 b5 b6 b7 b8 b9 b10 b11 b12 b13 b14 b15 : UInt8) : numB [b0, b1, b2, b3, b4, b5, b6, b7, b8, b9, b10, b11, b12, b13, b14, b15] / 16 ^ 22 % 16 = b4.toNat % 16 := by
  have e : numB [b0, b1, b2, b3, b4, b5, b6, b7, b8, b9, b10, b11, b12, b13, b14, b15] = numB [b0, b1, b2, b3, b4] * 256 ^ 11 + numB [b5, b6, b7, b8, b9, b10, b11, b12, b13, b14, b15] := numB_app [b0, b1, b2, b3, b4] [b5, b6, b7, b8, b9, b10, b11, b12, b13, b14, b15]
  have l := b4.toNat_lt
  have e2 : numB [b0, b1, b2, b3, b4] = numB [b0, b1, b2, b3] * 256 + b4.toNat := numB_last [b0, b1, b2, b3] b4
  rw [part_at _ _ _ 11 1 _ e (numB_bound [b5, b6, b7, b8, b9, b10, b11, b12, b13, b14, b15]) (by decide), e2]
  generalize numB [b0, b1, b2, b3] = Q
  omega
theorem hx10 (b0 b1 b2 b3 b4 b5 b6 b7 b8 b9 b10 b11 b12 b13 b14 b15 : UInt8) : numB [b0, b1, b2, b3, b4, b5, b6, b7, b8, b9, b10, b11, b12, b13, b14, b15] / 16 ^ 21 % 16 = b5.toNat / 16 := by
  have e : numB [b0, b1, b2, b3, b4, b5, b6, b7, b8, b9, b10, b11, b12, b13, b14, b15] = numB [b0, b1, b2, b3, b4, b5] * 256 ^ 10 + numB [b6, b7, b8, b9, b10, b11, b12, b13, b14, b15] := numB_app [b0, b1, b2, b3, b4, b5] [b6, b7, b8, b9, b10, b11, b12, b13, b14, b15]
  have l := b5.toNat_lt
  have e2 : numB [b0, b1, b2, b3, b4, b5] = numB [b0, b1, b2, b3, b4] * 256 + b5.toNat := numB_last [b0, b1, b2, b3, b4] b5
  rw [part_at _ _ _ 10 16 _ e (numB_bound [b6, b7, b8, b9, b10, b11, b12, b13, b14, b15]) (by decide), e2]
  generalize numB [b0, b1, b2, b3, b4] = Q
  omega
theorem hx11 (b0 b1 b2 b3 b4 b5 b6 b7 b8 b9 b10 b11 b12 b13 b14 b15 : UInt8) : numB [b0, b1, b2, b3, b4, b5, b6, b7, b8, b9, b10, b11, b12, b13, b14, b15] / 16 ^ 20 % 16 = b5.toNat % 16 := by
  have e : numB [b0, b1, b2, b3, b4, b5, b6, b7, b8, b9, b10, b11, b12, b13, b14, b15] = numB [b0, b1, b2, b3, b4, b5] * 256 ^ 10 + numB [b6, b7, b8, b9, b10, b11, b12, b13, b14, b15] := numB_app [b0, b1, b2, b3, b4, b5] [b6, b7, b8, b9, b10, b11, b12, b13, b14, b15]
  have l := b5.toNat_lt
  have e2 : numB [b0, b1, b2, b3, b4, b5] = numB [b0, b1, b2, b3, b4] * 256 + b5.toNat := numB_last [b0, b1, b2, b3, b4] b5
  rw [part_at _ _ _ 10 1 _ e (numB_bound [b6, b7, b8, b9, b10, b11, b12, b13, b14, b15]) (by decide), e2]
  generalize numB [b0, b1, b2, b3, b4] = Q
  omega
theorem hx12 (b0 b1 b2 b3 b4 b5 b6 b7 b8 b9 b10 b11 b12 b13 b14 b15 : UInt8) : numB [b0, b1, b2, b3, b4, b5, b6, b7, b8, b9, b10, b11, b12, b13, b14, b15] / 16 ^ 19 % 16 = b6.toNat / 16 := by
  have e : numB [b0, b1, b2, b3, b4, b5, b6, b7, b8, b9, b10, b11, b12, b13, b14, b15] = numB [b0, b1, b2, b3, b4, b5, b6] * 256 ^ 9 + numB [b7, b8, b9, b10, b11, b12, b13, b14, b15] := numB_app [b0, b1, b2, b3, b4, b5, b6] [b7, b8, b9, b10, b11, b12, b13, b14, b15]
  have l := b6.toNat_lt
  have e2 : numB [b0, b1, b2, b3, b4, b5, b6] = numB [b0, b1, b2, b3, b4, b5] * 256 + b6.toNat := numB_last [b0, b1, b2, b3, b4, b5] b6
  rw [part_at _ _ _ 9 16 _ e (numB_bound [b7, b8, b9, b10, b11, b12, b13, b14, b15]) (by decide), e2]
  generalize numB [b0, b1, b2, b3, b4, b5] = Q
  omega
theorem hx13 (b0 b1 b2 b3 b4 b5 b6 b7 b8 b9 b10 b11 b12 b13 b14 b15 : UInt8) : numB [b0, b1, b2, b3, b4, b5, b6, b7, b8, b9, b10, b11, b12, b13, b14, b15] / 16 ^ 18 % 16 = b6.toNat % 16 := by
  have e : numB [b0, b1, b2, b3, b4, b5, b6, b7, b8, b9, b10, b11, b12, b13, b14, b15] = numB [b0, b1, b2, b3, b4, b5, b6] * 256 ^ 9 + numB [b7, b8, b9, b10, b11, b12, b13, b14, b15] := numB_app [b0, b1, b2, b3, b4, b5, b6] [b7, b8, b9, b10, b11, b12, b13, b14, b15]
  have l := b6.toNat_lt
  have e2 : numB [b0, b1, b2, b3, b4, b5, b6] = numB [b0, b1, b2, b3, b4, b5] * 256 + b6.toNat := numB_last [b0, b1, b2, b3, b4, b5] b6
  rw [part_at _ _ _ 9 1 _ e (numB_bound [b7, b8, b9, b10, b11, b12, b13, b14, b15]) (by decide), e2]
  generalize numB [b0, b1, b2, b3, b4, b5] = Q
  omega
theorem hx14 (b0 b1 b2 b3 b4 b5 b6 b7 b8 b9 b10 b11 b12 b13 b14 b15 : UInt8) : numB [b0, b1, b2, b3, b4, b5, b6, b7, b8, b9, b10, b11, b12, b13, b14, b15] / 16 ^ 17 % 16 = b7.toNat / 16 := by
  have e : numB [b0, b1, b2, b3, b4, b5, b6, b7, b8, b9, b10, b11, b12, b13, b14, b15] = numB [b0, b1, b2, b3, b4, b5, b6, b7] * 256 ^ 8 + numB [b8, b9, b10, b11, b12, b13, b14, b15] := numB_app [b0, b1, b2, b3, b4, b5, b6, b7] [b8, b9, b10, b11, b12, b13, b14, b15]
  have l := b7.toNat_lt
  have e2 : numB [b0, b1, b2, b3, b4, b5, b6, b7] = numB [b0, b1, b2, b3, b4, b5, b6] * 256 + b7.toNat := numB_last [b0, b1, b2, b3, b4, b5, b6] b7
  rw [part_at _ _ _ 8 16 _ e (numB_bound [b8, b9, b10, b11, b12, b13, b14, b15]) (by decide), e2]
  generalize numB [b0, b1, b2, b3, b4, b5, b6] = Q
  omega
theorem hx15 (b0 b1 b2 b3 b4 b5 b6 b7 b8 b9 b10 b11 b12 b13 b14 b15 : UInt8) : numB [b0, b1, b2, b3, b4, b5, b6, b7, b8, b9, b10, b11, b12, b13, b14, b15] / 16 ^ 16 % 16 = b7.toNat % 16 := by
  have e : numB [b0, b1, b2, b3, b4, b5, b6, b7, b8, b9, b10, b11, b12, b13, b14, b15] = numB [b0, b1, b2, b3, b4, b5, b6, b7] * 256 ^ 8 + numB [b8, b9, b10, b11, b12, b13, b14, b15] := numB_app [b0, b1, b2, b3, b4, b5, b6, b7] [b8, b9, b10, b11, b12, b13, b14, b15]
  have l := b7.toNat_lt
  have e2 : numB [b0, b1, b2, b3, b4, b5, b6, b7] = numB [b0, b1, b2, b3, b4, b5, b6] * 256 + b7.toNat := numB_last [b0, b1, b2, b3, b4, b5, b6] b7
  rw [part_at _ _ _ 8 1 _ e (numB_bound [b8, b9, b10, b11, b12, b13, b14, b15]) (by decide), e2]
  generalize numB [b0, b1, b2, b3, b4, b5, b6] = Q
  omega
theorem hx16 (b0 b1 b2 b3 b4 b5 b6 b7 b8 b9 b10 b11 b12 b13 b14 b15 : UInt8) : numB [b0, b1, b2, b3, b4, b5, b6, b7, b8, b9, b10, b11, b12, b13, b14, b15] / 16 ^ 15 % 16 = b8.toNat / 16 := by
  have e : numB [b0, b1, b2, b3, b4, b5, b6, b7, b8, b9, b10, b11, b12, b13, b14, b15] = numB [b0, b1, b2, b3, b4, b5, b6, b7, b8] * 256 ^ 7 + numB [b9, b10, b11, b12, b13, b14, b15] := numB_app [b0, b1, b2, b3, b4, b5, b6, b7, b8] [b9, b10, b11, b12, b13, b14, b15]
  have l := b8.toNat_lt
  have e2 : numB [b0, b1, b2, b3, b4, b5, b6, b7, b8] = numB [b0, b1, b2, b3, b4, b5, b6, b7] * 256 + b8.toNat := numB_last [b0, b1, b2, b3, b4, b5, b6, b7] b8
  rw [part_at _ _ _ 7 16 _ e (numB_bound [b9, b10, b11, b12, b13, b14, b15]) (by decide), e2]
  generalize numB [b0, b1, b2, b3, b4, b5, b6, b7] = Q
  omega
theorem hx17 (b0 b1 b2 b3 b4 b5 b6 b7 b8 b9 b10 b11 b12 b13 b14 b15 : UInt8) : numB [b0, b1, b2, b3, b4, b5, b6, b7, b8, b9, b10, b11, b12, b13, b14, b15] / 16 ^ 14 % 16 = b8.toNat % 16 := by
  have e : numB [b0, b1, b2, b3, b4, b5, b6, b7, b8, b9, b10, b11, b12, b13, b14, b15] = numB [b0, b1, b2, b3, b4, b5, b6, b7, b8] * 256 ^ 7 + numB [b9, b10, b11, b12, b13, b14, b15] := numB_app [b0, b1, b2, b3, b4, b5, b6, b7, b8] [b9, b10, b11, b12, b13, b14, b15]
  have l := b8.toNat_lt
  have e2 : numB [b0, b1, b2, b3, b4, b5, b6, b7, b8] = numB [b0, b1, b2, b3, b4, b5, b6, b7] * 256 + b8.toNat := numB_last [b0, b1, b2, b3, b4, b5, b6, b7] b8
  rw [part_at _ _ _ 7 1 _ e (numB_bound [b9, b10, b11, b12, b13, b14, b15]) (by decide), e2]
  generalize numB [b0, b1, b2, b3, b4, b5, b6, b7] = Q
  omega
theorem hx18 (b0 b1 b2 b3 b4 b5 b6 b7 b8 b9 b10 b11 b12 b13 b14 b15 : UInt8) : numB [b0, b1, b2, b3, b4, b5, b6, b7, b8, b9, b10, b11, b12, b13, b14, b15] / 16 ^ 13 % 16 = b9.toNat / 16 := by
  have e : numB [b0, b1, b2, b3, b4, b5, b6, b7, b8, b9, b10, b11, b12, b13, b14, b15] = numB [b0, b1, b2, b3, b4, b5, b6, b7, b8, b9] * 256 ^ 6 + numB [b10, b11, b12, b13, b14, b15] := numB_app [b0, b1, b2, b3, b4, b5, b6, b7, b8, b9] [b10, b11, b12, b13, b14, b15]
  have l := b9.toNat_lt
  have e2 : numB [b0, b1, b2, b3, b4, b5, b6, b7, b8, b9] = numB [b0, b1, b2, b3, b4, b5, b6, b7, b8] * 256 + b9.toNat := numB_last [b0, b1, b2, b3, b4, b5, b6, b7, b8] b9
  rw [part_at _ _ _ 6 16 _ e (numB_bound [b10, b11, b12, b13, b14, b15]) (by decide), e2]
  generalize numB [b0, b1, b2, b3, b4, b5, b6, b7, b8] = Q
  omega
theorem hx19 (b0 b1 b2 b3 b4 b5 b6 b7 b8 b9 b10 b11 b12 b13 b14 b15 : UInt8) : numB [b0, b1, b2, b3, b4, b5, b6, b7, b8, b9, b10, b11, b12, b13, b14, b15] / 16 ^ 12 % 16 = b9.toNat % 16 := by
  have e : numB [b0, b1, b2, b3, b4, b5, b6, b7, b8, b9, b10, b11, b12, b13, b14, b15] = numB [b0, b1, b2, b3, b4, b5, b6, b7, b8, b9] * 256 ^ 6 + numB [b10, b11, b12, b13, b14, b15] := numB_app [b0, b1, b2, b3, b4, b5, b6, b7, b8, b9] [b10, b11, b12, b13, b14, b15]
  have l := b9.toNat_lt
  have e2 : numB [b0, b1, b2, b3, b4, b5, b6, b7, b8, b9] = numB [b0, b1, b2, b3, b4, b5, b6, b7, b8] * 256 + b9.toNat := numB_last [b0, b1, b2, b3, b4, b5, b6, b7, b8] b9
  rw [part_at _ _ _ 6 1 _ e (numB_bound [b10, b11, b12, b13, b14, b15]) (by decide), e2]
  generalize numB [b0, b1, b2, b3, b4, b5, b6, b7, b8] = Q
  omega
theorem hx20 (b0 b1 b2 b3 b4 b5 b6 b7 b8 b9 b10 b11 b12 b13 b14 b15 : UInt8) : numB [b0, b1, b2, b3, b4, b5, b6, b7, b8, b9, b10, b11, b12, b13, b14, b15] / 16 ^ 11 % 16 = b10.toNat / 16 := by
  have e : numB [b0, b1, b2, b3, b4, b5, b6, b7, b8, b9, b10, b11, b12, b13, b14, b15] = numB [b0, b1, b2, b3, b4, b5, b6, b7, b8, b9, b10] * 256 ^ 5 + numB [b11, b12, b13, b14, b15] := numB_app [b0, b1, b2, b3, b4, b5, b6, b7, b8, b9, b10] [b11, b12, b13, b14, b15]
  have l := b10.toNat_lt
  have e2 : numB [b0, b1, b2, b3, b4, b5, b6, b7, b8, b9, b10] = numB [b0, b1, b2, b3, b4, b5, b6, b7, b8, b9] * 256 + b10.toNat := numB_last [b0, b1, b2, b3, b4, b5, b6, b7, b8, b9] b10
  rw [part_at _ _ _ 5 16 _ e (numB_bound [b11, b12, b13, b14, b15]) (by decide), e2]
  generalize numB [b0, b1, b2, b3, b4, b5, b6, b7, b8, b9] = Q
  omega
theorem hx21 (b0 b1 b2 b3 b4 b5 b6 b7 b8 b9 b10 b11 b12 b13 b14 b15 : UInt8) : numB [b0, b1, b2, b3, b4, b5, b6, b7, b8, b9, b10, b11, b12, b13, b14, b15] / 16 ^ 10 % 16 = b10.toNat % 16 := by
  have e : numB [b0, b1, b2, b3, b4, b5, b6, b7, b8, b9, b10, b11, b12, b13, b14, b15] = numB [b0, b1, b2, b3, b4, b5, b6, b7, b8, b9, b10] * 256 ^ 5 + numB [b11, b12, b13, b14, b15] := numB_app [b0, b1, b2, b3, b4, b5, b6, b7, b8, b9, b10] [b11, b12, b13, b14, b15]
  have l := b10.toNat_lt
  have e2 : numB [b0, b1, b2, b3, b4, b5, b6, b7, b8, b9, b10] = numB [b0, b1, b2, b3, b4, b5, b6, b7, b8, b9] * 256 + b10.toNat := numB_last [b0, b1, b2, b3, b4, b5, b6, b7, b8, b9] b10
  rw [part_at _ _ _ 5 1 _ e (numB_bound [b11, b12, b13, b14, b15]) (by decide), e2]
  generalize numB [b0, b1, b2, b3, b4, b5, b6, b7, b8, b9] = Q
  omega
theorem hx22 (b0 b1 b2 b3 b4 b5 b6 b7 b8 b9 b10 b11 b12 b13 b14 b15 : UInt8) : numB [b0, b1, b2, b3, b4, b5, b6, b7, b8, b9, b10, b11, b12, b13, b14, b15] / 16 ^ 9 % 16 = b11.toNat / 16 := by
  have e : numB [b0, b1, b2, b3, b4, b5, b6, b7, b8, b9, b10, b11, b12, b13, b14, b15] = numB [b0, b1, b2, b3, b4, b5, b6, b7, b8, b9, b10, b11] * 256 ^ 4 + numB [b12, b13, b14, b15] := numB_app [b0, b1, b2, b3, b4, b5, b6, b7, b8, b9, b10, b11] [b12, b13, b14, b15]
  have l := b11.toNat_lt
  have e2 : numB [b0, b1, b2, b3, b4, b5, b6, b7, b8, b9, b10, b11] = numB [b0, b1, b2, b3, b4, b5, b6, b7, b8, b9, b10] * 256 + b11.toNat := numB_last [b0, b1, b2, b3, b4, b5, b6, b7, b8, b9, b10] b11
  rw [part_at _ _ _ 4 16 _ e (numB_bound [b12, b13, b14, b15]) (by decide), e2]
  generalize numB [b0, b1, b2, b3, b4, b5, b6, b7, b8, b9, b10] = Q
  omega
theorem hx23 (b0 b1 b2 b3 b4 b5 b6 b7 b8 b9 b10 b11 b12 b13 b14 b15 : UInt8) : numB [b0, b1, b2, b3, b4, b5, b6, b7, b8, b9, b10, b11, b12, b13, b14, b15] / 16 ^ 8 % 16 = b11.toNat % 16 := by
  have e : numB [b0, b1, b2, b3, b4, b5, b6, b7, b8, b9, b10, b11, b12, b13, b14, b15] = numB [b0, b1, b2, b3, b4, b5, b6, b7, b8, b9, b10, b11] * 256 ^ 4 + numB [b12, b13, b14, b15] := numB_app [b0, b1, b2, b3, b4, b5, b6, b7, b8, b9, b10, b11] [b12, b13, b14, b15]
  have l := b11.toNat_lt
  have e2 : numB [b0, b1, b2, b3, b4, b5, b6, b7, b8, b9, b10, b11] = numB [b0, b1, b2, b3, b4, b5, b6, b7, b8, b9, b10] * 256 + b11.toNat := numB_last [b0, b1, b2, b3, b4, b5, b6, b7, b8, b9, b10] b11
  rw [part_at _ _ _ 4 1 _ e (numB_bound [b12, b13, b14, b15]) (by decide), e2]
  generalize numB [b0, b1, b2, b3, b4, b5, b6, b7, b8, b9, b10] = Q
  omega
theorem hx24 (b0 b1 b2 b3 b4 b5 b6 b7 b8 b9 b10 b11 b12 b13 b14 b15 : UInt8) : numB [b0, b1, b2, b3, b4, b5, b6, b7, b8, b9, b10, b11, b12, b13, b14, b15] / 16 ^ 7 % 16 = b12.toNat / 16 := by
  have e : numB [b0, b1, b2, b3, b4, b5, b6, b7, b8, b9, b10, b11, b12, b13, b14, b15] = numB [b0, b1, b2, b3, b4, b5, b6, b7, b8, b9, b10, b11, b12] * 256 ^ 3 + numB [b13, b14, b15] := numB_app [b0, b1, b2, b3, b4, b5, b6, b7, b8, b9, b10, b11, b12] [b13, b14, b15]
  have l := b12.toNat_lt
  have e2 : numB [b0, b1, b2, b3, b4, b5, b6, b7, b8, b9, b10, b11, b12] = numB [b0, b1, b2, b3, b4, b5, b6, b7, b8, b9, b10, b11] * 256 + b12.toNat := numB_last [b0, b1, b2, b3, b4, b5, b6, b7, b8, b9, b10, b11] b12
  rw [part_at _ _ _ 3 16 _ e (numB_bound [b13, b14, b15]) (by decide), e2]
  generalize numB [b0, b1, b2, b3, b4, b5, b6, b7, b8, b9, b10, b11] = Q
  omega
theorem hx25 (b0 b1 b2 b3 b4 b5 b6 b7 b8 b9 b10 b11 b12 b13 b14 b15 : UInt8) : numB [b0, b1, b2, b3, b4, b5, b6, b7, b8, b9, b10, b11, b12, b13, b14, b15] / 16 ^ 6 % 16 = b12.toNat % 16 := by
  have e : numB [b0, b1, b2, b3, b4, b5, b6, b7, b8, b9, b10, b11, b12, b13, b14, b15] = numB [b0, b1, b2, b3, b4, b5, b6, b7, b8, b9, b10, b11, b12] * 256 ^ 3 + numB [b13, b14, b15] := numB_app [b0, b1, b2, b3, b4, b5, b6, b7, b8, b9, b10, b11, b12] [b13, b14, b15]
  have l := b12.toNat_lt
  have e2 : numB [b0, b1, b2, b3, b4, b5, b6, b7, b8, b9, b10, b11, b12] = numB [b0, b1, b2, b3, b4, b5, b6, b7, b8, b9, b10, b11] * 256 + b12.toNat := numB_last [b0, b1, b2, b3, b4, b5, b6, b7, b8, b9, b10, b11] b12
  rw [part_at _ _ _ 3 1 _ e (numB_bound [b13, b14, b15]) (by decide), e2]
  generalize numB [b0, b1, b2, b3, b4, b5, b6, b7, b8, b9, b10, b11] = Q
  omega
theorem hx26 (b0 b1 b2 b3 b4 b5 b6 b7 b8 b9 b10 b11 b12 b13 b14 b15 : UInt8) : numB [b0, b1, b2, b3, b4, b5, b6, b7, b8, b9, b10, b11, b12, b13, b14, b15] / 16 ^ 5 % 16 = b13.toNat / 16 := by
  have e : numB [b0, b1, b2, b3, b4, b5, b6, b7, b8, b9, b10, b11, b12, b13, b14, b15] = numB [b0, b1, b2, b3, b4, b5, b6, b7, b8, b9, b10, b11, b12, b13] * 256 ^ 2 + numB [b14, b15] := numB_app [b0, b1, b2, b3, b4, b5, b6, b7, b8, b9, b10, b11, b12, b13] [b14, b15]
  have l := b13.toNat_lt
  have e2 : numB [b0, b1, b2, b3, b4, b5, b6, b7, b8, b9, b10, b11, b12, b13] = numB [b0, b1, b2, b3, b4, b5, b6, b7, b8, b9, b10, b11, b12] * 256 + b13.toNat := numB_last [b0, b1, b2, b3, b4, b5, b6, b7, b8, b9, b10, b11, b12] b13
  rw [part_at _ _ _ 2 16 _ e (numB_bound [b14, b15]) (by decide), e2]
  generalize numB [b0, b1, b2, b3, b4, b5, b6, b7, b8, b9, b10, b11, b12] = Q
  omega
theorem hx27 (b0 b1 b2 b3 b4 b5 b6 b7 b8 b9 b10 b11 b12 b13 b14 b15 : UInt8) : numB [b0, b1, b2, b3, b4, b5, b6, b7, b8, b9, b10, b11, b12, b13, b14, b15] / 16 ^ 4 % 16 = b13.toNat % 16 := by
  have e : numB [b0, b1, b2, b3, b4, b5, b6, b7, b8, b9, b10, b11, b12, b13, b14, b15] = numB [b0, b1, b2, b3, b4, b5, b6, b7, b8, b9, b10, b11, b12, b13] * 256 ^ 2 + numB [b14, b15] := numB_app [b0, b1, b2, b3, b4, b5, b6, b7, b8, b9, b10, b11, b12, b13] [b14, b15]
  have l := b13.toNat_lt
  have e2 : numB [b0, b1, b2, b3, b4, b5, b6, b7, b8, b9, b10, b11, b12, b13] = numB [b0, b1, b2, b3, b4, b5, b6, b7, b8, b9, b10, b11, b12] * 256 + b13.toNat := numB_last [b0, b1, b2, b3, b4, b5, b6, b7, b8, b9, b10, b11, b12] b13
  rw [part_at _ _ _ 2 1 _ e (numB_bound [b14, b15]) (by decide), e2]
  generalize numB [b0, b1, b2, b3, b4, b5, b6, b7, b8, b9, b10, b11, b12] = Q
  omega
theorem hx28 (b0 b1 b2 b3 b4 b5 b6 b7 b8 b9 b10 b11 b12 b13 b14 b15 : UInt8) : numB [b0, b1, b2, b3, b4, b5, b6, b7, b8, b9, b10, b11, b12, b13, b14, b15] / 16 ^ 3 % 16 = b14.toNat / 16 := by
  have e : numB [b0, b1, b2, b3, b4, b5, b6, b7, b8, b9, b10, b11, b12, b13, b14, b15] = numB [b0, b1, b2, b3, b4, b5, b6, b7, b8, b9, b10, b11, b12, b13, b14] * 256 ^ 1 + numB [b15] := numB_app [b0, b1, b2, b3, b4, b5, b6, b7, b8, b9, b10, b11, b12, b13, b14] [b15]
  have l := b14.toNat_lt
  have e2 : numB [b0, b1, b2, b3, b4, b5, b6, b7, b8, b9, b10, b11, b12, b13, b14] = numB [b0, b1, b2, b3, b4, b5, b6, b7, b8, b9, b10, b11, b12, b13] * 256 + b14.toNat := numB_last [b0, b1, b2, b3, b4, b5, b6, b7, b8, b9, b10, b11, b12, b13] b14
  rw [part_at _ _ _ 1 16 _ e (numB_bound [b15]) (by decide), e2]
  generalize numB [b0, b1, b2, b3, b4, b5, b6, b7, b8, b9, b10, b11, b12, b13] = Q
  omega
theorem hx29 (b0 b1 b2 b3 b4 b5 b6 b7 b8 b9 b10 b11 b12 b13 b14 b15 : UInt8) : numB [b0, b1, b2, b3, b4, b5, b6, b7, b8, b9, b10, b11, b12, b13, b14, b15] / 16 ^ 2 % 16 = b14.toNat % 16 := by
  have e : numB [b0, b1, b2, b3, b4, b5, b6, b7, b8, b9, b10, b11, b12, b13, b14, b15] = numB [b0, b1, b2, b3, b4, b5, b6, b7, b8, b9, b10, b11, b12, b13, b14] * 256 ^ 1 + numB [b15] := numB_app [b0, b1, b2, b3, b4, b5, b6, b7, b8, b9, b10, b11, b12, b13, b14] [b15]
  have l := b14.toNat_lt
  have e2 : numB [b0, b1, b2, b3, b4, b5, b6, b7, b8, b9, b10, b11, b12, b13, b14] = numB [b0, b1, b2, b3, b4, b5, b6, b7, b8, b9, b10, b11, b12, b13] * 256 + b14.toNat := numB_last [b0, b1, b2, b3, b4, b5, b6, b7, b8, b9, b10, b11, b12, b13] b14
  rw [part_at _ _ _ 1 1 _ e (numB_bound [b15]) (by decide), e2]
  generalize numB [b0, b1, b2, b3, b4, b5, b6, b7, b8, b9, b10, b11, b12, b13] = Q
  omega
theorem hx30 (b0 b1 b2 b3 b4 b5 b6 b7 b8 b9 b10 b11 b12 b13 b14 b15 : UInt8) : numB [b0, b1, b2, b3, b4, b5, b6, b7, b8, b9, b10, b11, b12, b13, b14, b15] / 16 ^ 1 % 16 = b15.toNat / 16 := by
  have e : numB [b0, b1, b2, b3, b4, b5, b6, b7, b8, b9, b10, b11, b12, b13, b14, b15] = numB [b0, b1, b2, b3, b4, b5, b6, b7, b8, b9, b10, b11, b12, b13, b14, b15] * 256 ^ 0 + numB [] := numB_app [b0, b1, b2, b3, b4, b5, b6, b7, b8, b9, b10, b11, b12, b13, b14, b15] []
  have l := b15.toNat_lt
  have e2 : numB [b0, b1, b2, b3, b4, b5, b6, b7, b8, b9, b10, b11, b12, b13, b14, b15] = numB [b0, b1, b2, b3, b4, b5, b6, b7, b8, b9, b10, b11, b12, b13, b14] * 256 + b15.toNat := numB_last [b0, b1, b2, b3, b4, b5, b6, b7, b8, b9, b10, b11, b12, b13, b14] b15
  rw [part_at _ _ _ 0 16 _ e (numB_bound []) (by decide), e2]
  generalize numB [b0, b1, b2, b3, b4, b5, b6, b7, b8, b9, b10, b11, b12, b13, b14] = Q
  omega
theorem hx31 (b0 b1 b2 b3 b4 b5 b6 b7 b8 b9 b10 b11 b12 b13 b14 b15 : UInt8) : numB [b0, b1, b2, b3, b4, b5, b6, b7, b8, b9, b10, b11, b12, b13, b14, b15] / 16 ^ 0 % 16 = b15.toNat % 16 := by
  have e : numB [b0, b1, b2, b3, b4, b5, b6, b7, b8, b9, b10, b11, b12, b13, b14, b15] = numB [b0, b1, b2, b3, b4, b5, b6, b7, b8, b9, b10, b11, b12, b13, b14, b15] * 256 ^ 0 + numB [] := numB_app [b0, b1, b2, b3, b4, b5, b6, b7, b8, b9, b10, b11, b12, b13, b14, b15] []
  have l := b15.toNat_lt
  have e2 : numB [b0, b1, b2, b3, b4, b5, b6, b7, b8, b9, b10, b11, b12, b13, b14, b15] = numB [b0, b1, b2, b3, b4, b5, b6, b7, b8, b9, b10, b11, b12, b13, b14] * 256 + b15.toNat := numB_last [b0, b1, b2, b3, b4, b5, b6, b7, b8, b9, b10, b11, b12, b13, b14] b15
  rw [part_at _ _ _ 0 1 _ e (numB_bound []) (by decide), e2]
  generalize numB [b0, b1, b2, b3, b4, b5, b6, b7, b8, b9, b10, b11, b12, b13, b14] = Q
  omega
theorem uuid_digs (b0 b1 b2 b3 b4 b5 b6 b7 b8 b9 b10 b11 b12 b13 b14 b15 : UInt8) : digsN 16 dig16 (numB [b0, b1, b2, b3, b4, b5, b6, b7, b8, b9, b10, b11, b12, b13, b14, b15]) 32 = [hexd (b0.toNat / 16), hexd (b0.toNat % 16), hexd (b1.toNat / 16), hexd (b1.toNat % 16), hexd (b2.toNat / 16), hexd (b2.toNat % 16), hexd (b3.toNat / 16), hexd (b3.toNat % 16), hexd (b4.toNat / 16), hexd (b4.toNat % 16), hexd (b5.toNat / 16), hexd (b5.toNat % 16), hexd (b6.toNat / 16), hexd (b6.toNat % 16), hexd (b7.toNat / 16), hexd (b7.toNat % 16), hexd (b8.toNat / 16), hexd (b8.toNat % 16), hexd (b9.toNat / 16), hexd (b9.toNat % 16), hexd (b10.toNat / 16), hexd (b10.toNat % 16), hexd (b11.toNat / 16), hexd (b11.toNat % 16), hexd (b12.toNat / 16), hexd (b12.toNat % 16), hexd (b13.toNat / 16), hexd (b13.toNat % 16), hexd (b14.toNat / 16), hexd (b14.toNat % 16), hexd (b15.toNat / 16), hexd (b15.toNat % 16)] := by
  simp only [digsN, hx0, hx1, hx2, hx3, hx4, hx5, hx6, hx7, hx8, hx9, hx10, hx11, hx12, hx13, hx14, hx15, hx16, hx17, hx18, hx19, hx20, hx21, hx22, hx23, hx24, hx25, hx26, hx27, hx28, hx29, hx30, hx31, digs_hex]
theorem dash_list (h0 h1 h2 h3 h4 h5 h6 h7 h8 h9 h10 h11 h12 h13 h14 h15 h16 h17 h18 h19 h20 h21 h22 h23 h24 h25 h26 h27 h28 h29 h30 h31 : UInt8) : dashS ⟨[h0, h1, h2, h3, h4, h5, h6, h7, h8, h9, h10, h11, h12, h13, h14, h15, h16, h17, h18, h19, h20, h21, h22, h23, h24, h25, h26, h27, h28, h29, h30, h31].toArray⟩ = ⟨[h0, h1, h2, h3, h4, h5, h6, h7, 45, h8, h9, h10, h11, 45, h12, h13, h14, h15, 45, h16, h17, h18, h19, 45, h20, h21, h22, h23, h24, h25, h26, h27, h28, h29, h30, h31].toArray⟩ := by kernel_rfl
theorem enc_list (b0 b1 b2 b3 b4 b5 b6 b7 b8 b9 b10 b11 b12 b13 b14 b15 : UInt8) : encK [b0, b1, b2, b3, b4, b5, b6, b7, b8, b9, b10, b11, b12, b13, b14, b15] 16 = [hexd (b0.toNat / 16), hexd (b0.toNat % 16), hexd (b1.toNat / 16), hexd (b1.toNat % 16), hexd (b2.toNat / 16), hexd (b2.toNat % 16), hexd (b3.toNat / 16), hexd (b3.toNat % 16), 45, hexd (b4.toNat / 16), hexd (b4.toNat % 16), hexd (b5.toNat / 16), hexd (b5.toNat % 16), 45, hexd (b6.toNat / 16), hexd (b6.toNat % 16), hexd (b7.toNat / 16), hexd (b7.toNat % 16), 45, hexd (b8.toNat / 16), hexd (b8.toNat % 16), hexd (b9.toNat / 16), hexd (b9.toNat % 16), 45, hexd (b10.toNat / 16), hexd (b10.toNat % 16), hexd (b11.toNat / 16), hexd (b11.toNat % 16), hexd (b12.toNat / 16), hexd (b12.toNat % 16), hexd (b13.toNat / 16), hexd (b13.toNat % 16), hexd (b14.toNat / 16), hexd (b14.toNat % 16), hexd (b15.toNat / 16), hexd (b15.toNat % 16)] := by kernel_rfl
theorem uuidStr_spec (bs : List UInt8) (h : bs.length = 16) : uuidStr bs = dashS (writeS 16 dig16 (numB bs) 32) := by
  match bs, h with
  | [b0, b1, b2, b3, b4, b5, b6, b7, b8, b9, b10, b11, b12, b13, b14, b15], _ =>
    unfold uuidStr writeS
    rw [uuid_digs, dash_list, enc_list]
end Go.Proofs.Ytnofmiinbmfbnaa
