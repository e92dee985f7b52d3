/-
  The value of a digit: dec, spec.Place, spec.Xids.
-/
import Derived.Test.YtppcpidlnpencaaXidText
namespace Go.Proofs.Ytppcpidlnpencaa
open Go.RowKit
set_option linter.unusedVariables false
abbrev W32 : Value := .string ⟨#[48, 49, 50, 51, 52, 53, 54, 55, 56, 57, 97, 98, 99, 100, 101, 102, 103, 104, 105, 106, 107, 108, 109, 110, 111, 112, 113, 114, 115, 116, 117, 118]⟩
theorem at32w (n : Nat) (h : n < 32) (w : World) : (Instr.index 9 W32 (.int .i64 (n : Int))).run Try.prog w = .ok (.int .u8 ((dig32 n).toNat : Int)) w := at32 n h w
def decN (c : UInt8) : Nat := (List.range 32).foldr (fun n acc => if dig32 n = c then n else acc) 255
theorem decN_dig (k : Nat) (h : k < 32) : decN (dig32 k) = k := by
  have : ∀ k : Fin 32, decN (dig32 k.val) = k.val := by decide +kernel
  exact this ⟨k, h⟩
theorem foldr_none (c : UInt8) : ∀ l : List Nat, (∀ n ∈ l, dig32 n ≠ c) → l.foldr (fun n acc => if dig32 n = c then n else acc) 255 = 255
  | [], _ => rfl
  | n :: l, h => by rw [List.foldr_cons, foldr_none c l fun m hm => h m (by simp [hm]), if_neg (h n (by simp))]
theorem decN_none (c : UInt8) (h : ∀ j, j < 32 → dig32 j ≠ c) : decN c = 255 := foldr_none c _ fun n hn => h n (by simpa using hn)
theorem foldr_some (c : UInt8) : ∀ l : List Nat, (∀ n ∈ l, n < 32) → (l.foldr (fun n acc => if dig32 n = c then n else acc) 255 = 255) ∨ (l.foldr (fun n acc => if dig32 n = c then n else acc) 255 < 32 ∧ dig32 (l.foldr (fun n acc => if dig32 n = c then n else acc) 255) = c)
  | [], _ => .inl rfl
  | n :: l, h => by
    rw [List.foldr_cons]
    by_cases e : dig32 n = c
    · rw [if_pos e]; exact .inr ⟨h n (by simp), e⟩
    · rw [if_neg e]; exact foldr_some c l fun m hm => h m (by simp [hm])
theorem decN_cases (c : UInt8) : decN c = 255 ∨ (decN c < 32 ∧ dig32 (decN c) = c) := foldr_some c _ fun n hn => by simpa using hn
set_option maxRecDepth 100000 in
theorem dec_any (c : UInt8) (w : World) : Calls Try.prog 57 #[.int .u8 (c.toNat : Int)] w fun e w' => e = .returned (.int .u8 (decN c : Int)) ∧ w' = w := by
  go_enter Try.func57, Try.ntmps57
  go_wp2
  go_loop [3] (fun i => ∃ k : Nat, k ≤ 32 ∧ i = .int .i64 (k : Int) ∧ ∀ j, j < k → dig32 j ≠ c) (fun i => 32 - (intOf i).toNat)
  case atStart => exact ⟨0, by omega, rfl, fun j hj => by omega⟩
  case round =>
    obtain ⟨k, hk, rfl, hno⟩ := hrel
    by_cases hlt : k < 32
    · have ix := at32w k hlt
      have NO := Lib.hid hno
      clear hno
      by_cases he : dig32 k = c
      · have e1 := decN_dig k hlt
        rw [he] at e1 ix
        have E1 := Lib.hid e1
        clear e1 he
        go_wp2
        go_ret
        exact ⟨by rw [E1.out]; rfl, rfl⟩
      · obtain ⟨d, hd⟩ : ∃ d, d = dig32 k := ⟨_, rfl⟩
        rw [← hd] at ix he
        have t1 : ((d.toNat : Int) == (c.toNat : Int)) = false := by
          rw [beq_eq_false_iff_ne]; intro h; exact he (UInt8.toNat_inj.1 (by omega))
        have HD := Lib.hid hd
        have HE := Lib.hid he
        clear he hd
        go_wp2
        go_round
        case rel => exact ⟨k + 1, by omega, by go_num, fun j hj => by
          by_cases h : j < k
          · exact NO.out j h
          · obtain rfl : j = k := by omega
            rw [← HD.out]; exact HE.out⟩
        case measure => simp [intOf]; omega
    · obtain rfl : k = 32 := by omega
      have E1 := Lib.hid (decN_none c hno)
      clear hno hlt hk
      go_wp2
      go_ret
      exact ⟨by rw [E1.out]; rfl, rfl⟩
def placeI (c : UInt8) : Int := if decN c = 255 then -1 else (decN c : Int)
set_option maxRecDepth 100000 in
theorem place_any (c : UInt8) (w : World) : Calls Try.prog 46 #[W32, .int .u8 (c.toNat : Int)] w fun e w' => e = .returned (.int .i64 (placeI c)) ∧ w' = w := by
  go_enter Try.func46, Try.ntmps46
  go_wp2
  go_loop [8] (fun i => ∃ k : Nat, k ≤ 32 ∧ i = .int .i64 (k : Int) ∧ ∀ j, j < k → dig32 j ≠ c) (fun i => 32 - (intOf i).toNat)
  case atStart => exact ⟨0, by omega, rfl, fun j hj => by omega⟩
  case round =>
    obtain ⟨k, hk, rfl, hno⟩ := hrel
    by_cases hlt : k < 32
    · have ix := at32w k hlt
      have NO := Lib.hid hno
      clear hno
      by_cases he : dig32 k = c
      · have e1 := decN_dig k hlt
        rw [he] at e1 ix
        have E1 := Lib.hid (show placeI c = (k : Int) by rw [placeI, e1, if_neg (by omega)])
        clear e1 he
        go_wp2
        go_ret
        exact ⟨by rw [E1.out]; rfl, rfl⟩
      · obtain ⟨d, hd⟩ : ∃ d, d = dig32 k := ⟨_, rfl⟩
        rw [← hd] at ix he
        have t1 : ((d.toNat : Int) == (c.toNat : Int)) = false := by
          rw [beq_eq_false_iff_ne]; intro h; exact he (UInt8.toNat_inj.1 (by omega))
        have HD := Lib.hid hd
        have HE := Lib.hid he
        clear he hd
        go_wp2
        go_round
        case rel => exact ⟨k + 1, by omega, by go_num, fun j hj => by
          by_cases h : j < k
          · exact NO.out j h
          · obtain rfl : j = k := by omega
            rw [← HD.out]; exact HE.out⟩
        case measure => simp [intOf]; omega
    · obtain rfl : k = 32 := by omega
      have E1 := Lib.hid (show placeI c = -1 by rw [placeI, decN_none c hno, if_pos rfl])
      clear hno hlt hk
      go_wp2
      go_ret
      exact ⟨by rw [E1.out]; rfl, rfl⟩
end Go.Proofs.Ytppcpidlnpencaa
