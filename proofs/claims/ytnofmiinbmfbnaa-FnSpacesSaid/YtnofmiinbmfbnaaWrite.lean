/-
  spec.Write with digits of one base.
-/
import Derived.Test.YtnofmiinbmfbnaaJoin
import Derived.Test.YtnofmiinbmfbnaaNum
import Derived.Test.YtnofmiinbmfbnaaCell
namespace Go.Proofs.Ytnofmiinbmfbnaa
open Go.RowKit
set_option linter.unusedVariables false
theorem numB_last (zs : List UInt8) (z : UInt8) : numB (zs ++ [z]) = numB zs * 256 + z.toNat := by simp [numB, List.foldl_append]
theorem bytesN_numB : ∀ (n : Nat) (bs : List UInt8), bs.length = n → bytesN (numB bs) n = bs
  | 0, bs, h => by rw [List.eq_nil_of_length_eq_zero h]; rfl
  | n + 1, bs, h => by
    have hne : bs ≠ [] := by intro e; rw [e] at h; simp at h
    have e := List.dropLast_concat_getLast hne
    rw [← e, numB_last, bytesN]
    have hl : (bs.getLast hne).toNat < 256 := (bs.getLast hne).toNat_lt
    rw [show (numB bs.dropLast * 256 + (bs.getLast hne).toNat) / 256 = numB bs.dropLast by omega, bytesN_numB n bs.dropLast (by simp [h])]
    congr 1
    congr 1
    apply UInt8.toNat_inj.1
    rw [UInt8.toNat_ofNat']
    omega
theorem bytesN_get (V : Nat) : ∀ (n j : Nat) (h : j < n), (bytesN V n)[j]'(by rw [bytesN_length]; exact h) = UInt8.ofNat (V / 256 ^ (n - 1 - j))
  | n + 1, j, h => by
    have e := bytesN_cons V n
    rcases j with _ | j
    · simp [e]
    · have := bytesN_get V n j (by omega)
      simp only [e, List.getElem_cons_succ]
      rw [this, show n - 1 - j = n + 1 - 1 - (j + 1) by omega]
def mixB (V U n j : Nat) : List UInt8 := (bytesN U n).take j ++ (bytesN V n).drop j
theorem mixB_length (V U n j : Nat) (h : j ≤ n) : (mixB V U n j).length = n := by simp [mixB, bytesN_length]; omega
theorem mixB_zero (V U n : Nat) : mixB V U n 0 = bytesN V n := by simp [mixB]
theorem mixB_all (V U n : Nat) : mixB V U n n = bytesN U n := by
  rw [mixB, List.take_of_length_le (by rw [bytesN_length]; exact Nat.le_refl _), List.drop_of_length_le (by rw [bytesN_length]; exact Nat.le_refl _), List.append_nil]
theorem mixB_get (V U n j : Nat) (h : j < n) : (mixB V U n j)[j]'(by rw [mixB_length _ _ _ _ (Nat.le_of_lt h)]; exact h) = UInt8.ofNat (V / 256 ^ (n - 1 - j)) := by
  rw [← bytesN_get V n j h]
  unfold mixB
  rw [List.getElem_append_right (by simp [bytesN_length]; omega)]
  simp [bytesN_length, Nat.min_eq_left (Nat.le_of_lt h)]
theorem mixB_step (V U n j : Nat) (h : j < n) : (mixB V U n j).set j (UInt8.ofNat (U / 256 ^ (n - 1 - j))) = mixB V U n (j + 1) := by
  rw [← bytesN_get U n j h]
  unfold mixB
  have h1 : j < (bytesN U n).length := by rw [bytesN_length]; exact h
  have h2 : j < (bytesN V n).length := by rw [bytesN_length]; exact h
  rw [List.set_append_right _ _ (by simp [bytesN_length]; omega), List.take_succ_eq_append_getElem h1, List.append_assoc]
  congr 1
  rw [List.drop_eq_getElem_cons h2, List.length_take, Nat.min_eq_left (by omega), Nat.sub_self]
  rfl
theorem pow_split (V n j : Nat) (h : j < n) : V / 256 ^ (n - 1 - j) / 256 = V / 256 ^ (n - j) := by
  rw [Nat.div_div_eq_div_mul, ← Nat.pow_succ, show (n - 1 - j).succ = n - j by omega]
def digsN (D : Nat) (dig : Nat → UInt8) (V : Nat) : Nat → List UInt8
  | 0 => []
  | k + 1 => dig (V / D ^ k % D) :: digsN D dig V k
theorem digsN_length (D : Nat) (dig : Nat → UInt8) (V : Nat) : ∀ k, (digsN D dig V k).length = k
  | 0 => rfl
  | k + 1 => by rw [digsN, List.length_cons, digsN_length]
def outK (D : Nat) (dig : Nat → UInt8) (V m k : Nat) : List UInt8 := List.replicate (m - k) 0 ++ digsN D dig V k
theorem outK_length (D : Nat) (dig : Nat → UInt8) (V m k : Nat) (h : k ≤ m) : (outK D dig V m k).length = m := by simp [outK, digsN_length]; omega
theorem outK_all (D : Nat) (dig : Nat → UInt8) (V m : Nat) : outK D dig V m m = digsN D dig V m := by simp [outK]
theorem outK_zero (D : Nat) (dig : Nat → UInt8) (V m : Nat) : outK D dig V m 0 = List.replicate m 0 := by simp [outK, digsN]
theorem outK_step (D : Nat) (dig : Nat → UInt8) (V m k : Nat) (h : k < m) : (outK D dig V m k).set (m - 1 - k) (dig (V / D ^ k % D)) = outK D dig V m (k + 1) := by
  unfold outK
  rw [digsN, show m - k = (m - (k + 1)) + 1 by omega, List.replicate_succ', List.append_assoc, show m - 1 - k = m - (k + 1) by omega, List.set_append_right _ _ (by simp)]
  simp
def writeS (D : Nat) (dig : Nat → UInt8) (V m : Nat) : ByteArray := ⟨(digsN D dig V m).toArray⟩
end Go.Proofs.Ytnofmiinbmfbnaa
