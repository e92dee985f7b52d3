/-
  The reading of two and of four bytes.
-/
import Derived.Test.YtppcpidlnpencaaNum
import Derived.Lib.EndianBits
namespace Go.Proofs.Ytppcpidlnpencaa
open Go.RowKit
set_option linter.unusedVariables false
set_option maxRecDepth 100000 in
theorem be16_any (b o c n : Nat) (x0 x1 : UInt8) (hn : n = 2) (w : World) (h0 : w.cell? ⟨b, o, none⟩ = some (.int .u8 (x0.toNat : Int))) (h1 : w.cell? ⟨b, o + 1, none⟩ = some (.int .u8 (x1.toNat : Int))) :
    Calls Try.prog 53 #[.slice (some ⟨b, o, none⟩) n c] w fun e w' => e = .returned (.int .u16 (numB [x0, x1] : Int)) ∧ Below w.heap.size w w' := by
  subst hn
  have p0 : (x0.toNat : Int) < 256 := by have := x0.toNat_lt; omega
  have p1 : (x1.toNat : Int) < 256 := by have := x1.toNat_lt; omega
  go_enter Try.func53, Try.ntmps53
  go_wp2
  go_quiet (fail)
  go_wp2
  go_ret
  refine ⟨congrArg (fun n => Ending.returned (.int .u16 n)) ?_, below_drewN (Below.refl _ _) _⟩
  rw [u16_or8 _ _ (by omega) (by omega) (by omega) (by omega) (by omega)]
  simp only [numB, List.foldl]
  omega
set_option maxRecDepth 100000 in
theorem be32_any (b o c n : Nat) (x0 x1 x2 x3 : UInt8) (hn : n = 4) (w : World) (h0 : w.cell? ⟨b, o, none⟩ = some (.int .u8 (x0.toNat : Int))) (h1 : w.cell? ⟨b, o + 1, none⟩ = some (.int .u8 (x1.toNat : Int)))
    (h2 : w.cell? ⟨b, o + 2, none⟩ = some (.int .u8 (x2.toNat : Int))) (h3 : w.cell? ⟨b, o + 3, none⟩ = some (.int .u8 (x3.toNat : Int))) :
    Calls Try.prog 51 #[.slice (some ⟨b, o, none⟩) n c] w fun e w' => e = .returned (.int .u32 (numB [x0, x1, x2, x3] : Int)) ∧ Below w.heap.size w w' := by
  subst hn
  have p0 : (x0.toNat : Int) < 256 := by have := x0.toNat_lt; omega
  have p1 : (x1.toNat : Int) < 256 := by have := x1.toNat_lt; omega
  have p2 : (x2.toNat : Int) < 256 := by have := x2.toNat_lt; omega
  have p3 : (x3.toNat : Int) < 256 := by have := x3.toNat_lt; omega
  go_enter Try.func51, Try.ntmps51
  go_wp2
  go_quiet (fail)
  go_wp2
  go_ret
  refine ⟨congrArg (fun n => Ending.returned (.int .u32 n)) ?_, below_drewN (Below.refl _ _) _⟩
  rw [u32_or8 (x3.toNat : Int) ((x2.toNat : Int) * 256) (by omega) (by omega) (by omega) (by omega) (by omega)]
  rw [u32_or16 ((x3.toNat : Int) + (x2.toNat : Int) * 256) ((x1.toNat : Int) * 65536) (by omega) (by omega) (by omega) (by omega) (by omega)]
  rw [u32_or24 ((x3.toNat : Int) + (x2.toNat : Int) * 256 + (x1.toNat : Int) * 65536) ((x0.toNat : Int) * 16777216) (by omega) (by omega) (by omega) (by omega) (by omega)]
  simp only [numB, List.foldl]
  omega
end Go.Proofs.Ytppcpidlnpencaa
