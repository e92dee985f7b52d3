/-
  Bytes of numbers (what XJoin has beside spec.Join and spec.Bytes, for the seats of UUIDs).
-/
import Derived.Test.YtnofmiinbmfbnaaUuid
import Derived.Deep.OwnRows
namespace Go.Proofs.Ytnofmiinbmfbnaa
open Go.RowKit
set_option linter.unusedVariables false
def bytesN (n : Nat) : Nat → List UInt8
  | 0 => []
  | k + 1 => bytesN (n / 256) k ++ [UInt8.ofNat n]
theorem bytesN_length (n : Nat) : ∀ k, (bytesN n k).length = k
  | 0 => rfl
  | k + 1 => by rw [bytesN, List.length_append, bytesN_length]; rfl
theorem bytesN_cons (n : Nat) : ∀ k, bytesN n (k + 1) = UInt8.ofNat (n / 256 ^ k) :: bytesN n k
  | 0 => by simp [bytesN]
  | k + 1 => by
    rw [bytesN, bytesN_cons (n / 256) k, List.cons_append, Nat.div_div_eq_div_mul, Nat.pow_succ, Nat.mul_comm 256]; rfl
theorem bytes_step (n k m : Nat) (h : k < m) : ((List.replicate (m - k) (0 : UInt8)) ++ bytesN n k).set (m - 1 - k) (UInt8.ofNat (n / 256 ^ k)) = List.replicate (m - (k + 1)) (0 : UInt8) ++ bytesN n (k + 1) := by
  rw [bytesN_cons, show m - k = (m - (k + 1)) + 1 by omega, List.replicate_succ', List.append_assoc, show m - 1 - k = m - (k + 1) by omega, List.set_append_right _ _ (by simp)]
  simp
theorem ofNat_u8 (n : Nat) : ((UInt8.ofNat n).toNat : Int) = (n : Int) % 256 := by rw [UInt8.toNat_ofNat']; omega
theorem made_zero (m : Nat) : madeCells #[Value.int .u8 0] m = ((List.replicate m (0 : UInt8)).map B8).toArray := by
  apply Array.ext
  · simp [madeCells]
  · intro i h1 h2
    simp [madeCells, B8, Nat.mod_one]
end Go.Proofs.Ytnofmiinbmfbnaa
