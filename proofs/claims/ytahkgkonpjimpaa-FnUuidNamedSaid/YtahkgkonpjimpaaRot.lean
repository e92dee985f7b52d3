/-
  RotateLeft32, and four bytes as a number.
-/
import Derived.Test.YtahkgkonpjimpaaQuiet
import Derived.Deep.QuietTactic
import Derived.BigQuiet
namespace Go.Proofs.Ytahkgkonpjimpaa
open Go.RowKit
set_option linter.unusedVariables false
def rotI (x : Int) (s : Nat) : Int := bits .or .u32 (x * 2 ^ s % 4294967296) (x / 2 ^ (32 - s))
theorem and31 : ∀ s : Fin 32, bits .and .u64 ((s.val : Nat) : Int) 31 = (s.val : Int) := by decide +kernel
set_option maxRecDepth 100000 in
theorem rot_any (x : Int) (s : Nat) (h0 : 0 < s) (h1 : s < 32) (w : World) :
    Calls Try.prog 36 #[.int .u32 x, .int .i64 (s : Int)] w fun e w' => e = .returned (.int .u32 (rotI x s)) ∧ w' = w := by
  have hb : bits .and .u64 (s : Int) 31 = (s : Int) := and31 ⟨s, h1⟩
  have q1 : (32 : Int) - (s : Int) < 32 := by omega
  have q2 : (0 : Int) ≤ (32 : Int) - (s : Int) := by omega
  go_enter Try.func36, Try.ntmps36
  go_wp2
  go_ret
  exact ⟨rfl, rfl⟩
theorem rot_item (C : World → Prop) (x : Int) (s : Nat) (h0 : 0 < s) (h1 : s < 32) (sI : Int) (hs : sI = (s : Int)) : ItemOK Try.prog C (.call 36 #[.int .u32 x, .int .i64 sI] (.int .u32 (rotI x s))) := fun w hw => by
  subst hs
  refine (rot_any x s h0 h1 w).mono ?_
  rintro e w' ⟨rfl, rfl⟩
  exact ⟨rfl, hw⟩
def le4 (x0 x1 x2 x3 : UInt8) : Int := bits .or .u32 (bits .or .u32 (bits .or .u32 ((x0.toNat : Int) % 4294967296) ((x1.toNat : Int) % 4294967296 * 256 % 4294967296)) ((x2.toNat : Int) % 4294967296 * 65536 % 4294967296)) ((x3.toNat : Int) % 4294967296 * 16777216 % 4294967296)
set_option maxRecDepth 100000 in
theorem le4_any (b o c : Nat) (x0 x1 x2 x3 : UInt8) (w : World) (l : Nat) (hl : 4 ≤ l) (h0 : w.cell? ⟨b, o, none⟩ = some (B8 x0)) (h1 : w.cell? ⟨b, o + 1, none⟩ = some (B8 x1)) (h2 : w.cell? ⟨b, o + 2, none⟩ = some (B8 x2)) (h3 : w.cell? ⟨b, o + 3, none⟩ = some (B8 x3)) :
    Calls Try.prog 35 #[.slice (some ⟨b, o, none⟩) l c] w fun e w' => e = .returned (.int .u32 (le4 x0 x1 x2 x3)) ∧ Drawn w w' := by
  have q3 : (3 : Int) < (l : Int) := by omega
  have q2 : (2 : Int) < (l : Int) := by omega
  have q1 : (1 : Int) < (l : Int) := by omega
  have q0 : (0 : Int) < (l : Int) := by omega
  unfold B8 at h0 h1 h2 h3
  go_enter Try.func35, Try.ntmps35
  go_wp2
  go_quiet (fail)
  go_wp2
  go_ret
  exact ⟨rfl, _, rfl⟩
theorem le4_item (w0 : World) (b o c l : Nat) (x0 x1 x2 x3 : UInt8) (hl : 4 ≤ l) (h0 : w0.cell? ⟨b, o, none⟩ = some (B8 x0)) (h1 : w0.cell? ⟨b, o + 1, none⟩ = some (B8 x1)) (h2 : w0.cell? ⟨b, o + 2, none⟩ = some (B8 x2)) (h3 : w0.cell? ⟨b, o + 3, none⟩ = some (B8 x3)) :
    ItemOK Try.prog (Drawn w0) (.call 35 #[.slice (some ⟨b, o, none⟩) l c] (.int .u32 (le4 x0 x1 x2 x3))) := fun w hw => by
  obtain ⟨n, rfl⟩ := hw
  refine (le4_any b o c x0 x1 x2 x3 (w0.drewN n) l hl h0 h1 h2 h3).mono ?_
  rintro e w' ⟨rfl, hd⟩
  exact ⟨rfl, Drawn.trans ⟨n, rfl⟩ hd⟩
end Go.Proofs.Ytahkgkonpjimpaa
