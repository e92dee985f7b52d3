/-
  spec.Number: the number that bytes are.
-/
import Derived.Test.YtbojjpgekbljfaaBase
namespace Go.Proofs.Ytbojjpgekbljfaa
open Go.RowKit
set_option linter.unusedVariables false
def numB (bs : List UInt8) : Nat := bs.foldl (fun n x => n * 256 + x.toNat) 0
theorem numB_snoc (bs : List UInt8) (k : Nat) (h : k < bs.length) : numB (bs.take (k + 1)) = numB (bs.take k) * 256 + bs[k].toNat := by
  unfold numB
  rw [List.take_succ_eq_append_getElem h, List.foldl_append]
  rfl
theorem numB_lt (bs : List UInt8) : ∀ k, k ≤ bs.length → numB (bs.take k) < 256 ^ k
  | 0, _ => by simp [numB]
  | k + 1, h => by
    rw [numB_snoc bs k (by omega)]
    have := numB_lt bs k (by omega)
    have := (bs[k]'(by omega)).toNat_lt
    rw [Nat.pow_succ]
    omega
theorem numB_small (bs : List UInt8) (k : Nat) (h : k < 8) (hk : k ≤ bs.length) : numB (bs.take k) < 72057594037927936 := by
  have h1 := numB_lt bs k hk
  have h2 : 256 ^ k ≤ 256 ^ 7 := Nat.pow_le_pow_right (by omega) (by omega)
  omega
set_option maxRecDepth 100000 in
theorem number_any (A : Option Addr) (n c : Nat) (bs : List UInt8) (hl : bs.length = n) (hn : n ≤ 8) (hp : 0 < n) (w : World) (hb : Byt w A bs) :
    Calls Try.prog 34 #[.slice A n c] w fun e w' => e = .returned (.int .u64 (numB bs : Int)) ∧ w' = w := by
  obtain ⟨b, off, rfl, -, hc⟩ := hb (by omega)
  have HL := Lib.hid hl
  have HC := Lib.hid hc
  obtain ⟨N, hN⟩ : ∃ N, N = numB bs := ⟨_, rfl⟩
  rw [← hN]
  have HN := Lib.hid hN
  clear hl hc hb hN
  go_enter Try.func34, Try.ntmps34
  go_wp2
  go_loop [3, 8] (fun s i => ∃ k : Nat, k ≤ n ∧ i = .int .i64 k ∧ s = .int .u64 ((numB (bs.take k) : Nat) : Int)) (fun _ i => n - (intOf i).toNat)
  case atStart => exact ⟨0, by omega, rfl, by simp [numB]⟩
  case round =>
    obtain ⟨k, hk, rfl, rfl⟩ := hrel
    by_cases hlt : k < n
    · have lb : k < bs.length := by rw [HL.out]; exact hlt
      obtain ⟨x, ex⟩ : ∃ x, x = bs[k] := ⟨_, rfl⟩
      have cx : w.cell? ⟨b, off + k, none⟩ = some (.int .u8 (x.toNat : Int)) := by rw [HC.out k lb, ex]; rfl
      have sn := numB_snoc bs k lb
      rw [← ex] at sn
      have sm := numB_small bs k (by omega) (by omega)
      obtain ⟨m, em⟩ : ∃ m, m = numB (bs.take k) := ⟨_, rfl⟩
      rw [← em] at sn sm ⊢
      have SN := Lib.hid sn
      have q1 : (m : Int) < 72057594037927936 := by omega
      have q2 : (x.toNat : Int) < 256 := by have := x.toNat_lt; omega
      clear ex em sn sm lb
      go_wp2
      go_round
      case rel => exact ⟨k + 1, by omega, by go_num, by rw [SN.out]; go_num⟩
      case measure => simp [intOf]; omega
    · obtain rfl : k = n := by omega
      have e : numB (bs.take k) = N := by rw [List.take_of_length_le (by rw [HL.out]; exact Nat.le_refl _), HN.out]
      rw [e]
      clear hlt hk e
      go_wp2
      go_ret
      exact ⟨rfl, rfl⟩
end Go.Proofs.Ytbojjpgekbljfaa
