/-
  spec.UuidText.
-/
import Derived.Test.YtnofmiinbmfbnaaWrite16
import Derived.BigQuiet
import Derived.Deep.QuietTactic
namespace Go.Proofs.Ytnofmiinbmfbnaa
open Go.RowKit
set_option linter.unusedVariables false
def S16 : ByteArray := ⟨#[48, 49, 50, 51, 52, 53, 54, 55, 56, 57, 97, 98, 99, 100, 101, 102]⟩
def dig16 (n : Nat) : UInt8 := [48, 49, 50, 51, 52, 53, 54, 55, 56, 57, 97, 98, 99, 100, 101, 102].getD n 48
theorem S16_size : S16.size = 16 := rfl
theorem at16 (n : Nat) (h : n < 16) (w : World) : (Instr.index 9 (.string S16) (.int .i64 (n : Int))).run Try.prog w = .ok (.int .u8 ((dig16 n).toNat : Int)) w := by
  have h' : n = 0 ∨ n = 1 ∨ n = 2 ∨ n = 3 ∨ n = 4 ∨ n = 5 ∨ n = 6 ∨ n = 7 ∨ n = 8 ∨ n = 9 ∨ n = 10 ∨ n = 11 ∨ n = 12 ∨ n = 13 ∨ n = 14 ∨ n = 15 := by omega
  rcases h' with rfl | rfl | rfl | rfl | rfl | rfl | rfl | rfl | rfl | rfl | rfl | rfl | rfl | rfl | rfl | rfl <;> (show _ = _; kernel_rfl)
def dashS (S : ByteArray) : ByteArray := S.extract 0 8 ++ ⟨#[45]⟩ ++ S.extract 8 12 ++ ⟨#[45]⟩ ++ S.extract 12 16 ++ ⟨#[45]⟩ ++ S.extract 16 20 ++ ⟨#[45]⟩ ++ S.extract 20 32
set_option maxRecDepth 100000 in
set_option maxHeartbeats 1000000 in
theorem specU (A : Option Addr) (c : Nat) (hA : A = none → c = 0) (bs : List UInt8) (hbs : bs.length = 16) (w : World) (hb : Byt w A bs) :
    Calls Try.prog 22 #[.slice A 16 c] w fun e w' => e = .returned (.string (dashS (writeS 16 dig16 (numB bs) 32))) ∧ Below w.heap.size w w' := by
  have HL := Lib.hid hbs
  have HB := Lib.hid hb
  have HA := Lib.hid hA
  obtain ⟨S, hS⟩ : ∃ S, S = writeS 16 dig16 (numB bs) 32 := ⟨_, rfl⟩
  rw [← hS]
  have sz : S.size = 32 := by rw [hS]; show (digsN 16 dig16 (numB bs) 32).toArray.size = 32; simp [digsN_length]
  have HS := Lib.hid hS
  clear hbs hb hA hS
  go_enter Try.func22, Try.ntmps22
  go_wp2_with fail
  refine (write16 S16 dig16 S16_size at16 A 16 c 32 HA.out (by omega) (by omega) (by omega) (by omega) bs HL.out w HB.out).mono ?_
  rw [← HS.out]
  rintro e w1 ⟨rfl, b1⟩
  have B1 := Lib.hid b1
  clear b1
  go_wp2_with fail
  go_quiet (fail)
  go_wp2
  go_ret
  exact ⟨rfl, below_drewN B1.out _⟩
end Go.Proofs.Ytnofmiinbmfbnaa
