/-
  The value of a hexadecimal digit: fromHexChar; and which texts are UUIDs, in plain lists.
-/
import Derived.Test.YtnofmiinbmfbnaaUuid
import Derived.Test.YtnofmiinbmfbnaaHex
namespace Go.Proofs.Ytnofmiinbmfbnaa
open Go.RowKit
set_option linter.unusedVariables false
def hexN (c : UInt8) : Nat := if 48 ≤ c.toNat ∧ c.toNat ≤ 57 then c.toNat - 48 else if 97 ≤ c.toNat ∧ c.toNat ≤ 102 then c.toNat - 87 else if 65 ≤ c.toNat ∧ c.toNat ≤ 70 then c.toNat - 55 else 255
theorem hexN_cases (c : UInt8) : hexN c < 16 ∨ hexN c = 255 := by
  unfold hexN
  split
  · omega
  · split
    · omega
    · split
      · omega
      · omega
set_option maxRecDepth 100000 in
set_option maxHeartbeats 1000000 in
theorem hexChar_any (c : UInt8) (w : World) : Calls Try.prog 64 #[.int .u8 (c.toNat : Int)] w fun e w' => e = .returned (.int .u8 (hexN c : Int)) ∧ w' = w := by
  obtain ⟨v, hv⟩ : ∃ v, v = hexN c := ⟨_, rfl⟩
  obtain ⟨n, hn⟩ : ∃ n, n = c.toNat := ⟨_, rfl⟩
  have hlt : n < 256 := hn ▸ c.toNat_lt
  rw [← hv, ← hn]
  have e : v = if 48 ≤ n ∧ n ≤ 57 then n - 48 else if 97 ≤ n ∧ n ≤ 102 then n - 87 else if 65 ≤ n ∧ n ≤ 70 then n - 55 else 255 := by rw [hv, hn]; rfl
  clear hv hn
  have hcase : n < 48 ∨ (48 ≤ n ∧ n ≤ 57) ∨ (58 ≤ n ∧ n ≤ 64) ∨ (65 ≤ n ∧ n ≤ 70) ∨ (71 ≤ n ∧ n ≤ 96) ∨ (97 ≤ n ∧ n ≤ 102) ∨ 103 ≤ n := by omega
  rcases hcase with h | h | h | h | h | h | h
  · have e' := Lib.hid (show v = 255 by rw [e, if_neg (by omega), if_neg (by omega), if_neg (by omega)])
    have t1 : decide ((48 : Int) ≤ (n : Int)) = false := decide_eq_false (by omega)
    have t2 : decide ((97 : Int) ≤ (n : Int)) = false := decide_eq_false (by omega)
    have t3 : decide ((65 : Int) ≤ (n : Int)) = false := decide_eq_false (by omega)
    clear e h
    go_enter Try.func64, Try.ntmps64
    go_wp2
    go_ret
    exact ⟨by rw [e'.out]; rfl, rfl⟩
  · have e' := Lib.hid (show v = n - 48 by rw [e, if_pos h])
    have H := Lib.hid h
    have t1 : (48 : Int) ≤ (n : Int) := by omega
    have t2 : (n : Int) ≤ 57 := by omega
    clear e h
    go_enter Try.func64, Try.ntmps64
    go_wp2
    go_ret
    exact ⟨congrArg (fun n => Ending.returned (.int .u8 n)) (by rw [e'.out]; have := H.out; omega), rfl⟩
  · have e' := Lib.hid (show v = 255 by rw [e, if_neg (by omega), if_neg (by omega), if_neg (by omega)])
    have t1 : (48 : Int) ≤ (n : Int) := by omega
    have t2 : decide ((n : Int) ≤ 57) = false := decide_eq_false (by omega)
    have t3 : decide ((97 : Int) ≤ (n : Int)) = false := decide_eq_false (by omega)
    have t4 : decide ((65 : Int) ≤ (n : Int)) = false := decide_eq_false (by omega)
    clear e h
    go_enter Try.func64, Try.ntmps64
    go_wp2
    go_ret
    exact ⟨by rw [e'.out]; rfl, rfl⟩
  · have e' := Lib.hid (show v = n - 55 by rw [e, if_neg (by omega), if_neg (by omega), if_pos h])
    have H := Lib.hid h
    have t1 : (48 : Int) ≤ (n : Int) := by omega
    have t2 : decide ((n : Int) ≤ 57) = false := decide_eq_false (by omega)
    have t3 : decide ((97 : Int) ≤ (n : Int)) = false := decide_eq_false (by omega)
    have t4 : (65 : Int) ≤ (n : Int) := by omega
    have t5 : (n : Int) ≤ 70 := by omega
    clear e h
    go_enter Try.func64, Try.ntmps64
    go_wp2
    go_ret
    exact ⟨congrArg (fun n => Ending.returned (.int .u8 n)) (by rw [e'.out]; have := H.out; omega), rfl⟩
  · have e' := Lib.hid (show v = 255 by rw [e, if_neg (by omega), if_neg (by omega), if_neg (by omega)])
    have t1 : (48 : Int) ≤ (n : Int) := by omega
    have t2 : decide ((n : Int) ≤ 57) = false := decide_eq_false (by omega)
    have t3 : decide ((97 : Int) ≤ (n : Int)) = false := decide_eq_false (by omega)
    have t4 : (65 : Int) ≤ (n : Int) := by omega
    have t5 : decide ((n : Int) ≤ 70) = false := decide_eq_false (by omega)
    clear e h
    go_enter Try.func64, Try.ntmps64
    go_wp2
    go_ret
    exact ⟨by rw [e'.out]; rfl, rfl⟩
  · have e' := Lib.hid (show v = n - 87 by rw [e, if_neg (by omega), if_pos h])
    have H := Lib.hid h
    have t1 : (48 : Int) ≤ (n : Int) := by omega
    have t2 : decide ((n : Int) ≤ 57) = false := decide_eq_false (by omega)
    have t3 : (97 : Int) ≤ (n : Int) := by omega
    have t4 : (n : Int) ≤ 102 := by omega
    clear e h
    go_enter Try.func64, Try.ntmps64
    go_wp2
    go_ret
    exact ⟨congrArg (fun n => Ending.returned (.int .u8 n)) (by rw [e'.out]; have := H.out; omega), rfl⟩
  · have e' := Lib.hid (show v = 255 by rw [e, if_neg (by omega), if_neg (by omega), if_neg (by omega)])
    have t1 : (48 : Int) ≤ (n : Int) := by omega
    have t2 : decide ((n : Int) ≤ 57) = false := decide_eq_false (by omega)
    have t3 : (97 : Int) ≤ (n : Int) := by omega
    have t4 : decide ((n : Int) ≤ 102) = false := decide_eq_false (by omega)
    have t5 : (65 : Int) ≤ (n : Int) := by omega
    have t6 : decide ((n : Int) ≤ 70) = false := decide_eq_false (by omega)
    clear e h
    go_enter Try.func64, Try.ntmps64
    go_wp2
    go_ret
    exact ⟨by rw [e'.out]; rfl, rfl⟩
/-- The two digits at position p are digits. -/
def okAt (l : List UInt8) (p : Nat) : Bool := decide (hexN (l.getD p 0) < 16) && decide (hexN (l.getD (p + 1) 0) < 16)
def byteAt (l : List UInt8) (p : Nat) : UInt8 := UInt8.ofNat (hexN (l.getD p 0) * 16 + hexN (l.getD (p + 1) 0))
def outP (pos : Nat → Nat) (l : List UInt8) (k : Nat) : List UInt8 := (List.range k).map fun i => byteAt l (pos i)
theorem outP_succ (pos : Nat → Nat) (l : List UInt8) (k : Nat) : outP pos l (k + 1) = outP pos l k ++ [byteAt l (pos k)] := by
  unfold outP
  rw [List.range_succ, List.map_append]
  rfl
theorem outP_length (pos : Nat → Nat) (l : List UInt8) (k : Nat) : (outP pos l k).length = k := by simp [outP]
def decPos (pos : Nat → Nat) (l : List UInt8) : Option (List UInt8) := if (List.range 16).all (fun i => okAt l (pos i)) = true then some (outP pos l 16) else none
def plain36 (l : List UInt8) : Option (List UInt8) := if l.getD 8 0 = 45 ∧ l.getD 13 0 = 45 ∧ l.getD 18 0 = 45 ∧ l.getD 23 0 = 45 then decPos posN l else none
def plainO (l : List UInt8) : Option (List UInt8) := if l.length = 36 then plain36 l else if l.length = 32 then decPos (fun i => 2 * i) l else none
def urn9 : List UInt8 := [117, 114, 110, 58, 117, 117, 105, 100, 58]
def implO (l : List UInt8) : Option (List UInt8) :=
  if l.length = 32 ∨ l.length = 36 then plainO l
  else if l.length = 34 ∨ l.length = 38 then (if l.getD 0 0 = 123 ∧ l.getD (l.length - 1) 0 = 125 then plainO ((l.drop 1).take (l.length - 2)) else none)
  else if l.length = 41 ∨ l.length = 45 then (if l.take 9 = urn9 then plainO (l.drop 9) else none)
  else none
end Go.Proofs.Ytnofmiinbmfbnaa
