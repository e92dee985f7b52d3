/-
  spec.Variant of bytes with the variant of RFC 9562.
-/
import Derived.Test.YtbojjpgekbljfaaSet
import Derived.Test.YtbojjpgekbljfaaNewV7
namespace Go.Proofs.Ytbojjpgekbljfaa
open Go.RowKit
set_option linter.unusedVariables false
set_option maxRecDepth 100000 in
theorem var_hi (r : UInt8) : (setVar r (varMask 1) (varBits 1)).toNat / 64 = 2 := by
  revert r; exact forall_u8 (by decide)
set_option maxRecDepth 100000 in
theorem variant_one (A : Option Addr) (n c : Nat) (bs : List UInt8) (hl : bs.length = n) (hn : n = 16) (x : UInt8) (hx : bs.getD 8 0 = x) (hv : x.toNat / 64 = 2) (w : World) (hb : Byt w A bs) :
    Calls Try.prog 15 #[.slice A n c] w fun e w' => e = .returned (.int .i64 1) ∧ w' = w := by
  subst hn
  obtain ⟨b, off, rfl, -, hcell⟩ := hb (by omega)
  have k8 : w.cell? ⟨b, off + 8, none⟩ = some (.int .u8 (x.toNat : Int)) := by rw [hcell 8 (by omega), ← hx]; simp [B8, List.getD, show 8 < bs.length by omega]
  have z1 : ((x.toNat : Int) / 128 == 0) = false := by simp; omega
  have z2 : (x.toNat : Int) / 64 = 2 := by omega
  clear hb hcell hx
  go_enter Try.func15, Try.ntmps15
  go_wp2
  go_ret
  exact ⟨rfl, rfl⟩
end Go.Proofs.Ytbojjpgekbljfaa
