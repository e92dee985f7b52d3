/-
  What SetVersion and SetVariant of a UUID do to its sixteen bytes.
-/
import Derived.Test.YtahkgkonpjimpaaBase
namespace Go.Proofs.Ytahkgkonpjimpaa
open Go.RowKit
def setVer (x v : UInt8) : UInt8 := (x &&& (15 : UInt8)) ||| (v <<< (4 : UInt8))
theorem setVer_walk (x v : UInt8) : bits .or .u8 (bits .and .u8 (x.toNat : Int) 15) ((v.toNat : Int) * 16 % 256) = ((setVer x v).toNat : Int) := by
  have h1 : bits .and .u8 (x.toNat : Int) 15 = ((x &&& (15 : UInt8)).toNat : Int) := u8_and x 15
  have h2 : (v.toNat : Int) * (16 : Int) % (256 : Int) = ((v <<< (4 : UInt8)).toNat : Int) := by
    simp [UInt8.toNat_shiftLeft, Nat.shiftLeft_eq]
  rw [h1, h2, u8_or]
  rfl
theorem setVer_walk' (x v : UInt8) (h : v.toNat < 16) : bits .or .u8 (bits .and .u8 (x.toNat : Int) 15) ((v.toNat : Int) * 16) = ((setVer x v).toNat : Int) := by
  rw [← setVer_walk, show (v.toNat : Int) * 16 % 256 = (v.toNat : Int) * 16 by omega]
def setVar (x m o : UInt8) : UInt8 := (x &&& m) ||| o
theorem setVar_walk (x m o : UInt8) (mi oi : Int) (hm : mi = (m.toNat : Int)) (ho : oi = (o.toNat : Int)) : bits .or .u8 (bits .and .u8 (x.toNat : Int) mi) oi = ((setVar x m o).toNat : Int) := by
  rw [hm, ho, u8_and, u8_or]
  rfl
/-- The mask and the bits of a variant. -/
def varMask (k : Nat) : UInt8 := if k = 0 then 127 else if k = 1 then 63 else 31
def varBits (k : Nat) : UInt8 := if k = 0 then 0 else if k = 1 then 128 else if k = 2 then 192 else 224

set_option maxRecDepth 100000 in
theorem setVersion_any (g : Nat) (t : TypeId) (bs : List UInt8) (hbs : bs.length = 16) (v : UInt8) (w : World) (hg : At w g t (bs.map B8)) :
    Calls Try.prog 23 #[.pointer (some ⟨g, 0, none⟩), .int .u8 (v.toNat : Int)] w fun e w' => e = .returned (.tuple #[]) ∧ PutB w w' g t ((bs.set 6 (setVer (bs.getD 6 0) v)).map B8) := by
  have hc : w.cell? ⟨g, 6, none⟩ = some (.int .u8 ((bs.getD 6 0).toNat : Int)) := by
    rw [hg.cell 6 (by simp; omega)]; simp [B8, List.getD, show 6 < bs.length by omega]
  have hf := hg.frozen 6
  obtain ⟨x, hx⟩ : ∃ x, x = bs.getD 6 0 := ⟨_, rfl⟩
  rw [← hx] at hc ⊢
  have HG := Lib.hid hg
  clear hg hx hbs
  go_enter Try.func23, Try.ntmps23
  go_wp2
  go_region
  all_goals (go_end0)
  refine ⟨rfl, ?_⟩
  have := (PutB.setCell HG.out 6 (.int .u8 ((setVer x v).toNat : Int))).drew
  rw [setVer_walk]
  rw [List.map_set]
  exact this

set_option maxRecDepth 100000 in
theorem setVariant_0 (g : Nat) (t : TypeId) (bs : List UInt8) (hbs : bs.length = 16) (w : World) (hg : At w g t (bs.map B8)) :
    Calls Try.prog 24 #[.pointer (some ⟨g, 0, none⟩), .int .u8 0] w fun e w' => e = .returned (.tuple #[]) ∧ PutB w w' g t ((bs.set 8 (setVar (bs.getD 8 0) (varMask 0) (varBits 0))).map B8) := by
  have hc : w.cell? ⟨g, 8, none⟩ = some (.int .u8 ((bs.getD 8 0).toNat : Int)) := by
    rw [hg.cell 8 (by simp; omega)]; simp [B8, List.getD, show 8 < bs.length by omega]
  have hf := hg.frozen 8
  obtain ⟨x, hx⟩ : ∃ x, x = bs.getD 8 0 := ⟨_, rfl⟩
  rw [← hx] at hc ⊢
  have HG := Lib.hid hg
  clear hg hx hbs
  go_enter Try.func24, Try.ntmps24
  go_wp2
  go_region
  all_goals (try go_wp2)
  all_goals (go_end0)
  refine ⟨rfl, ?_⟩
  have := (PutB.setCell HG.out 8 (.int .u8 ((setVar x (varMask 0) (varBits 0)).toNat : Int))).drew
  rw [setVar_walk x (varMask 0) (varBits 0) 127 0 rfl rfl]
  rw [List.map_set]
  exact this

set_option maxRecDepth 100000 in
theorem setVariant_1 (g : Nat) (t : TypeId) (bs : List UInt8) (hbs : bs.length = 16) (w : World) (hg : At w g t (bs.map B8)) :
    Calls Try.prog 24 #[.pointer (some ⟨g, 0, none⟩), .int .u8 1] w fun e w' => e = .returned (.tuple #[]) ∧ PutB w w' g t ((bs.set 8 (setVar (bs.getD 8 0) (varMask 1) (varBits 1))).map B8) := by
  have hc : w.cell? ⟨g, 8, none⟩ = some (.int .u8 ((bs.getD 8 0).toNat : Int)) := by
    rw [hg.cell 8 (by simp; omega)]; simp [B8, List.getD, show 8 < bs.length by omega]
  have hf := hg.frozen 8
  obtain ⟨x, hx⟩ : ∃ x, x = bs.getD 8 0 := ⟨_, rfl⟩
  rw [← hx] at hc ⊢
  have HG := Lib.hid hg
  clear hg hx hbs
  go_enter Try.func24, Try.ntmps24
  go_wp2
  go_region
  all_goals (try go_wp2)
  all_goals (go_end0)
  refine ⟨rfl, ?_⟩
  have := (PutB.setCell HG.out 8 (.int .u8 ((setVar x (varMask 1) (varBits 1)).toNat : Int))).drew
  rw [setVar_walk x (varMask 1) (varBits 1) 63 128 rfl rfl]
  rw [List.map_set]
  exact this

set_option maxRecDepth 100000 in
theorem setVariant_2 (g : Nat) (t : TypeId) (bs : List UInt8) (hbs : bs.length = 16) (w : World) (hg : At w g t (bs.map B8)) :
    Calls Try.prog 24 #[.pointer (some ⟨g, 0, none⟩), .int .u8 2] w fun e w' => e = .returned (.tuple #[]) ∧ PutB w w' g t ((bs.set 8 (setVar (bs.getD 8 0) (varMask 2) (varBits 2))).map B8) := by
  have hc : w.cell? ⟨g, 8, none⟩ = some (.int .u8 ((bs.getD 8 0).toNat : Int)) := by
    rw [hg.cell 8 (by simp; omega)]; simp [B8, List.getD, show 8 < bs.length by omega]
  have hf := hg.frozen 8
  obtain ⟨x, hx⟩ : ∃ x, x = bs.getD 8 0 := ⟨_, rfl⟩
  rw [← hx] at hc ⊢
  have HG := Lib.hid hg
  clear hg hx hbs
  go_enter Try.func24, Try.ntmps24
  go_wp2
  go_region
  all_goals (try go_wp2)
  all_goals (go_end0)
  refine ⟨rfl, ?_⟩
  have := (PutB.setCell HG.out 8 (.int .u8 ((setVar x (varMask 2) (varBits 2)).toNat : Int))).drew
  rw [setVar_walk x (varMask 2) (varBits 2) 31 192 rfl rfl]
  rw [List.map_set]
  exact this

set_option maxRecDepth 100000 in
theorem setVariant_3 (g : Nat) (t : TypeId) (bs : List UInt8) (hbs : bs.length = 16) (w : World) (hg : At w g t (bs.map B8)) :
    Calls Try.prog 24 #[.pointer (some ⟨g, 0, none⟩), .int .u8 3] w fun e w' => e = .returned (.tuple #[]) ∧ PutB w w' g t ((bs.set 8 (setVar (bs.getD 8 0) (varMask 3) (varBits 3))).map B8) := by
  have hc : w.cell? ⟨g, 8, none⟩ = some (.int .u8 ((bs.getD 8 0).toNat : Int)) := by
    rw [hg.cell 8 (by simp; omega)]; simp [B8, List.getD, show 8 < bs.length by omega]
  have hf := hg.frozen 8
  obtain ⟨x, hx⟩ : ∃ x, x = bs.getD 8 0 := ⟨_, rfl⟩
  rw [← hx] at hc ⊢
  have HG := Lib.hid hg
  clear hg hx hbs
  go_enter Try.func24, Try.ntmps24
  go_wp2
  go_region
  all_goals (try go_wp2)
  all_goals (go_end0)
  refine ⟨rfl, ?_⟩
  have := (PutB.setCell HG.out 8 (.int .u8 ((setVar x (varMask 3) (varBits 3)).toNat : Int))).drew
  rw [setVar_walk x (varMask 3) (varBits 3) 31 224 rfl rfl]
  rw [List.map_set]
  exact this
end Go.Proofs.Ytahkgkonpjimpaa
