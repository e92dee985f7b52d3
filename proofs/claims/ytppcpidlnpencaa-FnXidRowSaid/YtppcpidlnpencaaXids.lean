/-
  spec.Xids: twenty digits.
-/
import Derived.Test.YtppcpidlnpencaaDec
namespace Go.Proofs.Ytppcpidlnpencaa
open Go.RowKit
set_option linter.unusedVariables false
def okDigit (c : UInt8) : Bool := decide (decN c ≠ 255)
def xidsB (s : ByteArray) : Bool := s.data.toList.all okDigit && decide (s.size = 20)
def allFrom (s : ByteArray) (k : Nat) : Bool := (s.data.toList.drop k).all okDigit
theorem place_neg (c : UInt8) : (placeI c < 0) ↔ okDigit c = false := by
  unfold placeI okDigit
  by_cases h : decN c = 255
  · simp [h]
  · simp [h]
set_option maxRecDepth 100000 in
set_option maxHeartbeats 1000000 in
theorem xids_any (s : ByteArray) (hs : s.size ≤ 1000) (w : World) : Calls Try.prog 23 #[.string s] w fun e w' => e = .returned (.bool (xidsB s)) ∧ w' = w := by
  obtain ⟨n, hn⟩ : ∃ n, n = s.size := ⟨_, rfl⟩
  have hn' : s.size = n := hn.symm
  have nb : n ≤ 1000 := by omega
  clear hn hs
  go_enter Try.func23, Try.ntmps23
  go_wp2
  go_loop [6] (fun i => ∃ k : Nat, k ≤ n ∧ i = .int .i64 (k : Int) ∧ ∀ j (h : j < s.size), j < k → okDigit s[j] = true) (fun i => n - (intOf i).toNat)
  case atStart => exact ⟨0, by omega, rfl, fun j _ hj => by omega⟩
  case round =>
    obtain ⟨k, hk, rfl, hno⟩ := hrel
    by_cases hlt : k < n
    · have NO := Lib.hid hno
      clear hno
      have ls : k < s.size := by omega
      have ki : (k : Int) < (n : Int) := by omega
      go_wp2_with fail
      refine (place_any s[k] w).mono ?_
      rintro e w1 ⟨rfl, rfl⟩
      obtain ⟨c, hc⟩ : ∃ c, c = s[k] := ⟨_, rfl⟩
      rw [← hc]
      have PN := place_neg c
      obtain ⟨p, hp⟩ : ∃ p, p = placeI c := ⟨_, rfl⟩
      rw [← hp] at PN ⊢
      by_cases hb : p < 0
      · have e1 : xidsB s = false := by
          have ho := PN.1 hb
          have hm : c ∈ s.data.toList := by rw [hc]; simp [ByteArray.getElem_eq_getElem_data]
          unfold xidsB
          rw [Bool.and_eq_false_iff]
          left
          rw [List.all_eq_false]
          exact ⟨c, hm, by simp [ho]⟩
        have E1 := Lib.hid e1
        have HC := Lib.hid hc
        clear e1 PN hp hc
        go_wp2
        go_ret
        exact ⟨by rw [E1.out]; rfl, rfl⟩
      · have ho : okDigit c = true := by
          cases h : okDigit c with
          | true => rfl
          | false => exact absurd (PN.2 h) hb
        have HO := Lib.hid ho
        have HC := Lib.hid hc
        clear ho PN hp hc
        go_wp2
        go_round
        case rel => exact ⟨k + 1, by omega, by go_num, fun j h hj => by
          by_cases hjk : j < k
          · exact NO.out j h hjk
          · obtain rfl : j = k := by omega
            rw [← HC.out]; exact HO.out⟩
        case measure => simp [intOf]; omega
    · obtain rfl : k = n := by omega
      have e1 : xidsB s = ((k : Int) == 20) := by
        unfold xidsB
        have : s.data.toList.all okDigit = true := by
          rw [List.all_eq_true]
          intro c hm
          obtain ⟨j, hj, rfl⟩ := List.getElem_of_mem hm
          have hj' : j < s.size := by simpa using hj
          have := hno j hj' (by omega)
          simpa [ByteArray.getElem_eq_getElem_data] using this
        rw [this, Bool.true_and, hn']
        rw [Bool.eq_iff_iff]
        simp
        omega
      have E1 := Lib.hid e1
      clear hno hlt hk e1
      go_wp2
      go_ret
      refine ⟨?_, rfl⟩
      rw [E1.out]
      rfl
end Go.Proofs.Ytppcpidlnpencaa
