/-
  The plain law: what the UUIDs of a time bear.
-/
import Derived.Test.YtbojjpgekbljfaaAtI
import Derived.Test.YtbojjpgekbljfaaStampB
import Derived.Test.YtbojjpgekbljfaaVariant
namespace Go.Proofs.Ytbojjpgekbljfaa
open Go.RowKit
set_option linter.unusedVariables false
theorem nb4 (L : Nat) (h : L < 4294967296) : numB [UInt8.ofNat (L / 16777216), UInt8.ofNat (L / 65536), UInt8.ofNat (L / 256), UInt8.ofNat L] = L := by
  simp only [numB, List.foldl, UInt8.toNat_ofNat']
  omega
theorem nb2 (M : Nat) (h : M < 65536) : numB [UInt8.ofNat (M / 256), UInt8.ofNat M] = M := by
  simp only [numB, List.foldl, UInt8.toNat_ofNat']
  omega
set_option maxRecDepth 100000 in
theorem ver1 (x : UInt8) : (setVer x 1).toNat = x.toNat % 16 + 16 := by revert x; exact forall_u8 (by decide)
set_option maxRecDepth 100000 in
theorem ver6 (x : UInt8) : (setVer x 6).toNat = x.toNat % 16 + 96 := by revert x; exact forall_u8 (by decide)
set_option maxRecDepth 100000 in
theorem ver7 (x : UInt8) : (setVer x 7).toNat = x.toNat % 16 + 112 := by revert x; exact forall_u8 (by decide)
theorem hi1 (H : Nat) (h : H < 4096) : numB [setVer (UInt8.ofNat (H / 256)) 1, UInt8.ofNat H] % 4096 = H := by
  simp only [numB, List.foldl, ver1, UInt8.toNat_ofNat']
  omega
theorem hi6 (H : Nat) (h : H < 4096) : numB [setVer (UInt8.ofNat (H / 256)) 6, UInt8.ofNat H] % 4096 = H := by
  simp only [numB, List.foldl, ver6, UInt8.toNat_ofNat']
  omega
theorem nb7 (m : Nat) (h : m < 281474976710656) : numB [UInt8.ofNat (m / 1099511627776), UInt8.ofNat (m / 4294967296), UInt8.ofNat (m / 16777216), UInt8.ofNat (m / 65536)] = m / 65536 := by
  have e := nb4 (m / 65536) (by omega)
  simp only [Nat.div_div_eq_div_mul] at e
  exact e
theorem nb7' (m : Nat) : numB [UInt8.ofNat (m / 256), UInt8.ofNat m] = m % 65536 := by
  simp only [numB, List.foldl, UInt8.toNat_ofNat']
  omega
theorem v1_stamp (L M H sq : Nat) (node : List UInt8) (hL : L < 4294967296) (hM : M < 65536) (hH : H < 4096) : stamp1 (v1B L M H sq node) = (L : Int) + (M : Int) * 4294967296 + (H : Int) * 281474976710656 := by
  have e : stamp1 (v1B L M H sq node) = ((numB [UInt8.ofNat (L / 16777216), UInt8.ofNat (L / 65536), UInt8.ofNat (L / 256), UInt8.ofNat L] : Nat) : Int) + ((numB [UInt8.ofNat (M / 256), UInt8.ofNat M] : Nat) : Int) * 4294967296 + ((numB [setVer (UInt8.ofNat (H / 256)) 1, UInt8.ofNat H] : Nat) : Int) % 4096 * 281474976710656 := rfl
  have h := hi1 H hH
  rw [e, nb4 L hL, nb2 M hM]
  generalize numB [setVer (UInt8.ofNat (H / 256)) 1, UInt8.ofNat H] = X at h ⊢
  omega
theorem v6_stamp (L M H : Nat) (r : UInt8) (rt : List UInt8) (hL : L < 4294967296) (hM : M < 65536) (hH : H < 4096) : stamp6 (v6B L M H r rt) = (H : Int) + (M : Int) * 4096 + (L : Int) * 268435456 := by
  have e : stamp6 (v6B L M H r rt) = ((numB [setVer (UInt8.ofNat (H / 256)) 6, UInt8.ofNat H] : Nat) : Int) % 4096 + ((numB [UInt8.ofNat (M / 256), UInt8.ofNat M] : Nat) : Int) * 4096 + ((numB [UInt8.ofNat (L / 16777216), UInt8.ofNat (L / 65536), UInt8.ofNat (L / 256), UInt8.ofNat L] : Nat) : Int) * 268435456 := rfl
  have h := hi6 H hH
  rw [e, nb4 L hL, nb2 M hM]
  generalize numB [setVer (UInt8.ofNat (H / 256)) 6, UInt8.ofNat H] = X at h ⊢
  omega
theorem v7_stamp (m c : Nat) (r : UInt8) (rt : List UInt8) (hm : m < 281474976710656) : stamp7 (v7B m c r rt) = (m : Int) * 10000 + 122192928000000000 := by
  have e : stamp7 (v7B m c r rt) = (((numB [UInt8.ofNat (m / 1099511627776), UInt8.ofNat (m / 4294967296), UInt8.ofNat (m / 16777216), UInt8.ofNat (m / 65536)] : Nat) : Int) * 65536 + ((numB [UInt8.ofNat (m / 256), UInt8.ofNat m] : Nat) : Int)) * 10000 + 122192928000000000 := rfl
  rw [e, nb7 m hm, nb7' m]
  omega
def atV (k : Nat) (sec nano : Int) : Int := if k = 7 then (sec * 1000 + nano / 1000000) * 10000 + 122192928000000000 else sec * 10000000 + nano / 100 + 122192928000000000
theorem plain1 (sec nano : Int) (node ds : List UInt8) (h1 : 0 ≤ sec) (h2 : sec < 4102444800) (h3 : 0 ≤ nano) (h4 : nano < 1000000000) :
    ((atB 1 sec nano node ds).getD 6 0).toNat / 16 = 1 ∧ ((atB 1 sec nano node ds).getD 8 0).toNat / 64 = 2 ∧ stamp1 (atB 1 sec nano node ds) = atV 1 sec nano := by
  have ht : (tks sec nano : Int) = 122192928000000000 + (sec * 1000000000 + nano) / 100 := by unfold tks; omega
  refine ⟨?_, ?_, ?_⟩
  · show (setVer _ 1).toNat / 16 = 1
    rw [ver1]; omega
  · exact var_hi _
  · show stamp1 (v1B _ _ _ _ _) = sec * 10000000 + nano / 100 + 122192928000000000
    rw [v1_stamp _ _ _ _ _ (by omega) (by omega) (by omega)]
    omega
theorem plain6 (sec nano : Int) (node ds : List UInt8) (h1 : 0 ≤ sec) (h2 : sec < 4102444800) (h3 : 0 ≤ nano) (h4 : nano < 1000000000) :
    ((atB 6 sec nano node ds).getD 6 0).toNat / 16 = 6 ∧ ((atB 6 sec nano node ds).getD 8 0).toNat / 64 = 2 ∧ stamp6 (atB 6 sec nano node ds) = atV 6 sec nano := by
  have ht : (tks sec nano : Int) = 122192928000000000 + (sec * 1000000000 + nano) / 100 := by unfold tks; omega
  refine ⟨?_, ?_, ?_⟩
  · show (setVer _ 6).toNat / 16 = 6
    rw [ver6]; omega
  · exact var_hi _
  · show stamp6 (v6B _ _ _ _ _) = sec * 10000000 + nano / 100 + 122192928000000000
    rw [v6_stamp _ _ _ _ _ (by omega) (by omega) (by omega)]
    omega
theorem plain7 (sec nano : Int) (node ds : List UInt8) (h1 : 0 ≤ sec) (h2 : sec < 4102444800) (h3 : 0 ≤ nano) (h4 : nano < 1000000000) :
    ((atB 7 sec nano node ds).getD 6 0).toNat / 16 = 7 ∧ ((atB 7 sec nano node ds).getD 8 0).toNat / 64 = 2 ∧ stamp7 (atB 7 sec nano node ds) = atV 7 sec nano := by
  have ht : (mss sec nano : Int) = sec * 1000 + nano / 1000000 := by unfold mss; omega
  refine ⟨?_, ?_, ?_⟩
  · show (setVer _ 7).toNat / 16 = 7
    rw [ver7]; omega
  · exact var_hi _
  · show stamp7 (v7B _ _ _ _) = (sec * 1000 + nano / 1000000) * 10000 + 122192928000000000
    rw [v7_stamp _ _ _ _ (by omega)]
    omega
end Go.Proofs.Ytbojjpgekbljfaa
