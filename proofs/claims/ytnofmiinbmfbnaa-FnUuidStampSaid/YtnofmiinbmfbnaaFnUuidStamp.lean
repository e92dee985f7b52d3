/-
  The walk of FnUuidStamp.
-/
import Derived.Test.YtnofmiinbmfbnaaStampI
import Derived.Test.YtnofmiinbmfbnaaStampS
import Derived.Test.YtnofmiinbmfbnaaRow
namespace Go.Proofs.Ytnofmiinbmfbnaa
open Go.RowKit
set_option linter.unusedVariables false
def Vers : List Value := [.int .i64 1, .int .i64 6, .int .i64 7]
set_option maxRecDepth 100000 in
set_option maxHeartbeats 2000000 in
theorem stamp_law (A : Option Addr) (c : Nat) (hc : 16 ≤ c) (bs : List UInt8) (hbs : bs.length = 16) (w : World) (hb : Byt w A bs) :
    Calls Try.prog 6 #[.slice A 16 c] w fun e w' => e = .returned (.bool true) ∧ Below w.heap.size w w' := by
  obtain ⟨x, hx⟩ : ∃ x, bs.getD 6 0 = x := ⟨_, rfl⟩
  obtain ⟨b, off, e0, hlt, hcell⟩ := id hb (by omega)
  have cx0 : w.cell? ⟨b, off + 6, none⟩ = some (.int .u8 (x.toNat : Int)) := by rw [hcell 6 (by omega), ← hx]; simp [B8, List.getD, show 6 < bs.length by omega]
  have HB := Lib.hid hb
  have HL := Lib.hid hbs
  have HX := Lib.hid hx
  have CX := Lib.hid cx0
  have BL := Lib.hid (show b < w.heap.size from hlt)
  have HC := Lib.hid hc
  obtain ⟨s1, es1⟩ : ∃ s, s = stamp1 bs := ⟨_, rfl⟩
  obtain ⟨s6, es6⟩ : ∃ s, s = stamp6 bs := ⟨_, rfl⟩
  obtain ⟨s7, es7⟩ : ∃ s, s = stamp7 bs := ⟨_, rfl⟩
  have S1 := Lib.hid es1
  have S6 := Lib.hid es6
  have S7 := Lib.hid es7
  subst e0
  clear hb hbs hx cx0 hlt hc es1 es6 es7 hcell
  go_enter Try.func6, Try.ntmps6
  go_wp2_with fail
  have hn := NewB.alloc w 3 Vers
  generalize hw1 : w.alloc (.cells #[.int .i64 1, .int .i64 6, .int .i64 7] 3) = w1
  rw [show w.alloc (.cells Vers.toArray 3) = w1 from hw1] at hn
  clear hw1
  have N1 := Lib.hid hn
  clear hn
  go_loopw [15] (fun i wr => ∃ k : Nat, k ≤ 3 ∧ i = .int .i64 k ∧ At wr w.heap.size 3 Vers ∧ Below w.heap.size w wr) (fun i _ => 3 - (intOf i).toNat)
  case atStart => exact ⟨0, by omega, rfl, N1.out.at_, N1.out.below (Below.refl _ _) (Nat.le_refl _)⟩
  case round =>
    obtain ⟨k, hk, rfl, ha, hbel⟩ := hrel
    have AA := Lib.hid ha
    have BB := Lib.hid hbel
    have c0 : wr.cell? ⟨w.heap.size, 0, none⟩ = some (.int .i64 1) := ha.cell 0 (by simp [Vers])
    have c1 : wr.cell? ⟨w.heap.size, 1, none⟩ = some (.int .i64 6) := ha.cell 1 (by simp [Vers])
    have c2 : wr.cell? ⟨w.heap.size, 2, none⟩ = some (.int .i64 7) := ha.cell 2 (by simp [Vers])
    clear ha hbel
    have qx : (x.toNat : Int) < 256 := by have := x.toNat_lt; omega
    have hk' : k = 0 ∨ k = 1 ∨ k = 2 ∨ k = 3 := by omega
    clear hk
    rcases hk' with rfl | rfl | rfl | rfl
    · by_cases hv : (x.toNat : Int) / 16 = 1
      · 
        go_wp2_with fail
        refine (uuidStamp1_yes (some ⟨b, off, none⟩) c bs HL.out x HX.out hv wr (HB.out.below BB.out (Nat.le_refl _))).mono ?_
        rw [← S1.out]
        rintro e wq ⟨rfl, belq⟩
        have BQ := Lib.hid (BB.out.trans (belq.mono BB.out.size))
        have AQ := Lib.hid (AA.out.below belq AA.out.lt)
        clear belq
        have cx : wq.cell? ⟨b, off + 6, none⟩ = some (.int .u8 (x.toNat : Int)) := (BQ.out.cell (p := ⟨b, off + 6, none⟩) BL.out).trans CX.out
        go_wp2_with fail
        refine (stamp_1 (some ⟨b, off, none⟩) c HC.out bs HL.out x HX.out hv wq (HB.out.below BQ.out (Nat.le_refl _))).mono ?_
        rw [← S1.out]
        rintro e wz ⟨rfl, belz⟩
        have BZ := Lib.hid (BQ.out.trans (belz.mono BQ.out.size))
        have AZ := Lib.hid (AQ.out.below belz AQ.out.lt)
        clear belz cx
        go_wp2
        go_roundw
        case rel => exact ⟨1, by omega, rfl, AZ.out, BZ.out⟩
        case measure => decide
      · have hv : ((x.toNat : Int) / 16 == 1) = false := by rw [beq_eq_false_iff_ne]; exact hv
        go_wp2_with fail
        refine (uuidStamp1_no (some ⟨b, off, none⟩) c bs HL.out x HX.out hv wr (HB.out.below BB.out (Nat.le_refl _))).mono ?_
        rintro e wq ⟨rfl, belq⟩
        have BQ := Lib.hid (BB.out.trans (belq.mono BB.out.size))
        have AQ := Lib.hid (AA.out.below belq AA.out.lt)
        clear belq
        have cx : wq.cell? ⟨b, off + 6, none⟩ = some (.int .u8 (x.toNat : Int)) := (BQ.out.cell (p := ⟨b, off + 6, none⟩) BL.out).trans CX.out
        go_wp2
        go_roundw
        case rel => exact ⟨1, by omega, rfl, AQ.out, BQ.out⟩
        case measure => decide
    · by_cases hv : (x.toNat : Int) / 16 = 6
      · 
        go_wp2_with fail
        refine (uuidStamp6_yes (some ⟨b, off, none⟩) c bs HL.out x HX.out hv wr (HB.out.below BB.out (Nat.le_refl _))).mono ?_
        rw [← S6.out]
        rintro e wq ⟨rfl, belq⟩
        have BQ := Lib.hid (BB.out.trans (belq.mono BB.out.size))
        have AQ := Lib.hid (AA.out.below belq AA.out.lt)
        clear belq
        have cx : wq.cell? ⟨b, off + 6, none⟩ = some (.int .u8 (x.toNat : Int)) := (BQ.out.cell (p := ⟨b, off + 6, none⟩) BL.out).trans CX.out
        go_wp2_with fail
        refine (stamp_6 (some ⟨b, off, none⟩) c HC.out bs HL.out x HX.out hv wq (HB.out.below BQ.out (Nat.le_refl _))).mono ?_
        rw [← S6.out]
        rintro e wz ⟨rfl, belz⟩
        have BZ := Lib.hid (BQ.out.trans (belz.mono BQ.out.size))
        have AZ := Lib.hid (AQ.out.below belz AQ.out.lt)
        clear belz cx
        go_wp2
        go_roundw
        case rel => exact ⟨2, by omega, rfl, AZ.out, BZ.out⟩
        case measure => decide
      · have hv : ((x.toNat : Int) / 16 == 6) = false := by rw [beq_eq_false_iff_ne]; exact hv
        go_wp2_with fail
        refine (uuidStamp6_no (some ⟨b, off, none⟩) c bs HL.out x HX.out hv wr (HB.out.below BB.out (Nat.le_refl _))).mono ?_
        rintro e wq ⟨rfl, belq⟩
        have BQ := Lib.hid (BB.out.trans (belq.mono BB.out.size))
        have AQ := Lib.hid (AA.out.below belq AA.out.lt)
        clear belq
        have cx : wq.cell? ⟨b, off + 6, none⟩ = some (.int .u8 (x.toNat : Int)) := (BQ.out.cell (p := ⟨b, off + 6, none⟩) BL.out).trans CX.out
        go_wp2
        go_roundw
        case rel => exact ⟨2, by omega, rfl, AQ.out, BQ.out⟩
        case measure => decide
    · by_cases hv : (x.toNat : Int) / 16 = 7
      · 
        go_wp2_with fail
        refine (uuidStamp7_yes (some ⟨b, off, none⟩) c bs HL.out x HX.out hv wr (HB.out.below BB.out (Nat.le_refl _))).mono ?_
        rw [← S7.out]
        rintro e wq ⟨rfl, belq⟩
        have BQ := Lib.hid (BB.out.trans (belq.mono BB.out.size))
        have AQ := Lib.hid (AA.out.below belq AA.out.lt)
        clear belq
        have cx : wq.cell? ⟨b, off + 6, none⟩ = some (.int .u8 (x.toNat : Int)) := (BQ.out.cell (p := ⟨b, off + 6, none⟩) BL.out).trans CX.out
        go_wp2_with fail
        refine (stamp_7 (some ⟨b, off, none⟩) c HC.out bs HL.out x HX.out hv wq (HB.out.below BQ.out (Nat.le_refl _))).mono ?_
        rw [← S7.out]
        rintro e wz ⟨rfl, belz⟩
        have BZ := Lib.hid (BQ.out.trans (belz.mono BQ.out.size))
        have AZ := Lib.hid (AQ.out.below belz AQ.out.lt)
        clear belz cx
        go_wp2
        go_roundw
        case rel => exact ⟨3, by omega, rfl, AZ.out, BZ.out⟩
        case measure => decide
      · have hv : ((x.toNat : Int) / 16 == 7) = false := by rw [beq_eq_false_iff_ne]; exact hv
        go_wp2_with fail
        refine (uuidStamp7_no (some ⟨b, off, none⟩) c bs HL.out x HX.out hv wr (HB.out.below BB.out (Nat.le_refl _))).mono ?_
        rintro e wq ⟨rfl, belq⟩
        have BQ := Lib.hid (BB.out.trans (belq.mono BB.out.size))
        have AQ := Lib.hid (AA.out.below belq AA.out.lt)
        clear belq
        have cx : wq.cell? ⟨b, off + 6, none⟩ = some (.int .u8 (x.toNat : Int)) := (BQ.out.cell (p := ⟨b, off + 6, none⟩) BL.out).trans CX.out
        go_wp2
        go_roundw
        case rel => exact ⟨3, by omega, rfl, AQ.out, BQ.out⟩
        case measure => decide
    · go_wp2
      go_ret
      exact ⟨rfl, BB.out⟩
set_option maxRecDepth 100000 in
theorem stamp_law_len (A : Option Addr) (n c : Nat) (hn : n ≠ 16) (w : World) :
    Calls Try.prog 6 #[.slice A n c] w fun e w' => e = .returned (.bool true) ∧ Below w.heap.size w w' := by
  have t1 : ((n : Int) != 16) = true := by rw [bne_iff_ne]; omega
  by_cases h : (2147483647 : Int) < (n : Int)
  · go_enter Try.func6, Try.ntmps6
    go_wp2
    go_ret
    exact ⟨rfl, Below.refl _ _⟩
  · go_enter Try.func6, Try.ntmps6
    go_wp2
    go_ret
    exact ⟨rfl, Below.refl _ _⟩
theorem walk_FnUuidStamp (a0 : Option Addr) (len0 cap0 : Nat) (z0 : List Int) (w : World) (w0 : IsRow .u8 w a0 len0 cap0 z0) :
    Calls Try.prog 6 #[.slice a0 len0 cap0] w fun e w' => e = .returned (.bool true) ∧ Below w.heap.size w w' := by
  obtain ⟨bs, h1, h2, h3, h4⟩ := bytes_of_row w0
  by_cases hn : len0 = 16
  · subst hn
    exact stamp_law a0 cap0 h4 bs h1 w h2
  · exact stamp_law_len a0 len0 cap0 hn w
end Go.Proofs.Ytnofmiinbmfbnaa
