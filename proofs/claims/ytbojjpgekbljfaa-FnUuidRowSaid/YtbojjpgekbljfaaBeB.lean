/-
  The reading of two bytes; the writing of two and of four.
-/
import Derived.Test.YtbojjpgekbljfaaNum
import Derived.Lib.EndianBits
namespace Go.Proofs.Ytbojjpgekbljfaa
open Go.RowKit
set_option linter.unusedVariables false
set_option maxRecDepth 100000 in
theorem be16_any (b o c n : Nat) (x0 x1 : UInt8) (hn : n = 2) (w : World) (h0 : w.cell? ⟨b, o, none⟩ = some (.int .u8 (x0.toNat : Int))) (h1 : w.cell? ⟨b, o + 1, none⟩ = some (.int .u8 (x1.toNat : Int))) :
    Calls Try.prog 60 #[.slice (some ⟨b, o, none⟩) n c] w fun e w' => e = .returned (.int .u16 (numB [x0, x1] : Int)) ∧ Below w.heap.size w w' := by
  subst hn
  have p0 : (x0.toNat : Int) < 256 := by have := x0.toNat_lt; omega
  have p1 : (x1.toNat : Int) < 256 := by have := x1.toNat_lt; omega
  go_enter Try.func60, Try.ntmps60
  go_wp2
  go_quiet (fail)
  go_wp2
  go_ret
  refine ⟨congrArg (fun n => Ending.returned (.int .u16 n)) ?_, below_drewN (Below.refl _ _) _⟩
  rw [u16_or8 _ _ (by omega) (by omega) (by omega) (by omega) (by omega)]
  simp only [numB, List.foldl]
  omega
theorem wrap_u16 (n : Int) : IntKind.u16.wrap n = n % 65536 := by simp [IntKind.wrap, IntKind.bits, IntKind.signed]
theorem u8nat (n : Nat) : ((n : Int) % 256) = ((UInt8.ofNat n).toNat : Int) := by rw [UInt8.toNat_ofNat']; omega
set_option maxRecDepth 100000 in
theorem put16_any (g o n c : Nat) (t : TypeId) (bs : List UInt8) (v : Nat) (hv : v < 65536) (hn : 2 ≤ n) (ho : o + 2 ≤ bs.length) (w : World) (hg : At w g t (bs.map B8)) :
    Calls Try.prog 46 #[.slice (some ⟨g, o, none⟩) n c, .int .u16 (v : Int)] w fun e w' => e = .returned (.tuple #[]) ∧ PutB w w' g t (((bs.set o (UInt8.ofNat (v / 256))).set (o + 1) (UInt8.ofNat v)).map B8) := by
  have k0 := hg.cell o (by simp; omega)
  have k1 := hg.cell (o + 1) (by simp; omega)
  have f0 := hg.frozen o
  have f1 := hg.frozen (o + 1)
  have HG := Lib.hid hg
  clear hg
  go_enter Try.func46, Try.ntmps46
  go_wp2
  go_end0
  refine ⟨rfl, ?_⟩
  have e0 : (Value.int IntKind.u8 ((v : Int) / 256)) = B8 (UInt8.ofNat (v / 256)) := by rw [B8, UInt8.toNat_ofNat']; congr 1; omega
  have e1 : (Value.int IntKind.u8 ((v : Int) % 256)) = B8 (UInt8.ofNat v) := by rw [B8, UInt8.toNat_ofNat']; congr 1
  rw [e0, e1, List.map_set, List.map_set]
  have P0 := PutB.setCell HG.out o (B8 (UInt8.ofNat (v / 256)))
  exact P0.trans (PutB.setCell P0.at_ (o + 1) (B8 (UInt8.ofNat v)))
set_option maxRecDepth 100000 in
theorem put32_any (g o n c : Nat) (t : TypeId) (bs : List UInt8) (v : Nat) (hv : v < 4294967296) (hn : 4 ≤ n) (ho : o + 4 ≤ bs.length) (w : World) (hg : At w g t (bs.map B8)) :
    Calls Try.prog 45 #[.slice (some ⟨g, o, none⟩) n c, .int .u32 (v : Int)] w fun e w' => e = .returned (.tuple #[]) ∧ PutB w w' g t (((((bs.set o (UInt8.ofNat (v / 16777216))).set (o + 1) (UInt8.ofNat (v / 65536))).set (o + 2) (UInt8.ofNat (v / 256))).set (o + 3) (UInt8.ofNat v)).map B8) := by
  have k0 := hg.cell o (by simp; omega)
  have k1 := hg.cell (o + 1) (by simp; omega)
  have k2 := hg.cell (o + 2) (by simp; omega)
  have k3 := hg.cell (o + 3) (by simp; omega)
  have f0 := hg.frozen o
  have f1 := hg.frozen (o + 1)
  have f2 := hg.frozen (o + 2)
  have f3 := hg.frozen (o + 3)
  have HG := Lib.hid hg
  clear hg
  go_enter Try.func45, Try.ntmps45
  go_wp2
  go_end0
  refine ⟨rfl, ?_⟩
  have e0 : (Value.int IntKind.u8 ((v : Int) / 16777216)) = B8 (UInt8.ofNat (v / 16777216)) := by rw [B8, UInt8.toNat_ofNat']; congr 1; omega
  have e1 : (Value.int IntKind.u8 ((v : Int) / 65536 % 256)) = B8 (UInt8.ofNat (v / 65536)) := by rw [B8, UInt8.toNat_ofNat']; congr 1
  have e2 : (Value.int IntKind.u8 ((v : Int) / 256 % 256)) = B8 (UInt8.ofNat (v / 256)) := by rw [B8, UInt8.toNat_ofNat']; congr 1
  have e3 : (Value.int IntKind.u8 ((v : Int) % 256)) = B8 (UInt8.ofNat v) := by rw [B8, UInt8.toNat_ofNat']; congr 1
  rw [e0, e1, e2, e3, List.map_set, List.map_set, List.map_set, List.map_set]
  have P0 := PutB.setCell HG.out o (B8 (UInt8.ofNat (v / 16777216)))
  have P1 := P0.trans (PutB.setCell P0.at_ (o + 1) (B8 (UInt8.ofNat (v / 65536))))
  have P2 := P1.trans (PutB.setCell P1.at_ (o + 2) (B8 (UInt8.ofNat (v / 256))))
  exact P2.trans (PutB.setCell P2.at_ (o + 3) (B8 (UInt8.ofNat v)))
end Go.Proofs.Ytbojjpgekbljfaa
