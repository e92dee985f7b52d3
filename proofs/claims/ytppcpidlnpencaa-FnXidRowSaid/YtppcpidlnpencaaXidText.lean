/-
  spec.XidText.
-/
import Derived.Test.YtppcpidlnpencaaWrite32
import Derived.Lib.VarintBits
namespace Go.Proofs.Ytppcpidlnpencaa
open Go.RowKit
set_option linter.unusedVariables false
def S32 : ByteArray := ⟨#[48, 49, 50, 51, 52, 53, 54, 55, 56, 57, 97, 98, 99, 100, 101, 102, 103, 104, 105, 106, 107, 108, 109, 110, 111, 112, 113, 114, 115, 116, 117, 118]⟩
def dig32 (n : Nat) : UInt8 := [48, 49, 50, 51, 52, 53, 54, 55, 56, 57, 97, 98, 99, 100, 101, 102, 103, 104, 105, 106, 107, 108, 109, 110, 111, 112, 113, 114, 115, 116, 117, 118].getD n 48
theorem S32_size : S32.size = 32 := rfl
theorem at32 (n : Nat) (h : n < 32) (w : World) : (Instr.index 9 (.string S32) (.int .i64 (n : Int))).run Try.prog w = .ok (.int .u8 ((dig32 n).toNat : Int)) w := by
  have h' : n = 0 ∨ n = 1 ∨ n = 2 ∨ n = 3 ∨ n = 4 ∨ n = 5 ∨ n = 6 ∨ n = 7 ∨ n = 8 ∨ n = 9 ∨ n = 10 ∨ n = 11 ∨ n = 12 ∨ n = 13 ∨ n = 14 ∨ n = 15 ∨ n = 16 ∨ n = 17 ∨ n = 18 ∨ n = 19 ∨ n = 20 ∨ n = 21 ∨ n = 22 ∨ n = 23 ∨ n = 24 ∨ n = 25 ∨ n = 26 ∨ n = 27 ∨ n = 28 ∨ n = 29 ∨ n = 30 ∨ n = 31 := by omega
  rcases h' with rfl | rfl | rfl | rfl | rfl | rfl | rfl | rfl | rfl | rfl | rfl | rfl | rfl | rfl | rfl | rfl | rfl | rfl | rfl | rfl | rfl | rfl | rfl | rfl | rfl | rfl | rfl | rfl | rfl | rfl | rfl | rfl <;> (show _ = _; kernel_rfl)
def shK (bs : List UInt8) (n k : Nat) : List UInt8 := bytesN (numB (bs.take k) * 16) (k + 1) ++ List.replicate (n - k) 0
theorem shK_length (bs : List UInt8) (n k : Nat) (h : k ≤ n) : (shK bs n k).length = n + 1 := by simp [shK, bytesN_length]; omega
theorem ofNat_mod (a b : Nat) (h : a % 256 = b % 256) : UInt8.ofNat a = UInt8.ofNat b := by
  apply UInt8.toNat_inj.1
  rw [UInt8.toNat_ofNat', UInt8.toNat_ofNat']
  exact h
theorem shK_get (bs : List UInt8) (n k : Nat) (h : k < n) : (shK bs n k)[k]'(by rw [shK_length _ _ _ (Nat.le_of_lt h)]; omega) = UInt8.ofNat (numB (bs.take k) * 16) := by
  unfold shK
  rw [List.getElem_append_left (by rw [bytesN_length]; omega), bytesN_get _ _ _ (by omega)]
  simp
theorem shK_step (bs : List UInt8) (n k : Nat) (h : k < n) (x : UInt8) (hx : numB (bs.take (k + 1)) = numB (bs.take k) * 256 + x.toNat) :
    ((shK bs n k).set k (UInt8.ofNat (numB (bs.take k) * 16 + x.toNat / 16))).set (k + 1) (UInt8.ofNat (x.toNat * 16)) = shK bs n (k + 1) := by
  unfold shK
  rw [hx]
  generalize numB (bs.take k) = N
  have xl := x.toNat_lt
  rw [bytesN, bytesN, bytesN, show (N * 256 + x.toNat) * 16 / 256 = N * 16 + x.toNat / 16 by omega, show (N * 16 + x.toNat / 16) / 256 = N * 16 / 256 by omega]
  rw [show n - k = (n - (k + 1)) + 1 by omega, List.replicate_succ, List.append_assoc, List.set_append_right _ _ (by rw [bytesN_length]; exact Nat.le_refl _), bytesN_length, Nat.sub_self]
  rw [List.singleton_append, List.set_cons_zero, List.set_append_right _ _ (by rw [bytesN_length]; omega), bytesN_length, show k + 1 - k = 1 by omega, List.set_cons_succ, List.set_cons_zero]
  rw [ofNat_mod ((N * 256 + x.toNat) * 16) (x.toNat * 16) (by omega)]
  simp
theorem or_nib (v x : Int) (h0 : 0 ≤ v) (h1 : v < 256) (h2 : v % 16 = 0) (x0 : 0 ≤ x) (x1 : x < 256) : bits .or .u8 v (x / 16) = v + x / 16 :=
  bits_join .u8 8 (by decide) wraps_u8 4 v (x / 16) h0 h2 (by omega) (by omega) (by omega) (by omega)
theorem numB_bytesN : ∀ (n V : Nat), V < 256 ^ n → numB (bytesN V n) = V
  | 0, V, h => by
    have : V = 0 := by simpa using h
    rw [this]; rfl
  | n + 1, V, h => by
    rw [bytesN, numB_last, numB_bytesN n (V / 256) (by rw [Nat.pow_succ] at h; omega), UInt8.toNat_ofNat']
    omega
def xidStr (bs : List UInt8) : ByteArray := writeS 32 dig32 (numB bs * 16) 20
set_option maxRecDepth 100000 in
set_option maxHeartbeats 2000000 in
theorem specText (A : Option Addr) (n c : Nat) (hn : n = 12) (bs : List UInt8) (hbs : bs.length = 12) (w : World) (hb : Byt w A bs) :
    Calls Try.prog 15 #[.slice A n c] w fun e w' => e = .returned (.string (xidStr bs)) ∧ Below w.heap.size w w' := by
  subst hn
  obtain ⟨b, off, rfl, hlt, hcell⟩ := id hb (by omega)
  have HL := Lib.hid hbs
  have HB := Lib.hid hb
  have HCE := Lib.hid hcell
  have LT := Lib.hid (show b < w.heap.size from hlt)
  have NB := Lib.hid (numB_lt bs 12 (by omega))
  obtain ⟨i, hi1, hi2, hi3, hi4⟩ := info_parts Try.info8
  have I1 := Lib.hid hi1
  have I2 := Lib.hid hi2
  have I3 := Lib.hid hi3
  have I4 := Lib.hid hi4
  clear hbs hb hi1 hi2 hi3 hi4 hcell hlt
  go_enter Try.func15, Try.ntmps15
  go_wp2_with (refine wpList_make_row _ rfl (.tmp 8) (.tmp 8) 22 rfl 5 i (.int .u8 0) Try.underlying22 I1.out I2.out I3.out rfl .i64 .i64 13 (by rfl) (by rfl) (by rw [I4.out]; omega) (by omega) ?_)
  rw [made_zero]
  have hw := NewB.alloc w 5 ((List.replicate 13 (0 : UInt8)).map B8)
  generalize w.alloc (.cells ((List.replicate 13 (0 : UInt8)).map B8).toArray 5) = w2 at hw ⊢
  obtain ⟨go, hgo⟩ : ∃ go, go = w.heap.size := ⟨_, rfl⟩
  have O2 := Lib.hid (show At w2 go 5 ((shK bs 12 0).map B8) by rw [hgo]; exact hw.at_)
  have GO := Lib.hid (show w.heap.size ≤ go by rw [hgo]; exact Nat.le_refl _)
  have B2 := Lib.hid (hw.below (Below.refl _ _) (Nat.le_refl _))
  rw [← hgo]
  clear hw hgo
  go_wp2
  go_loopw [12] (fun i wr => ∃ k : Nat, k ≤ 12 ∧ i = .int .i64 (k : Int) ∧ At wr go 5 ((shK bs 12 k).map B8) ∧ Below w.heap.size w wr) (fun i _ => 12 - (intOf i).toNat)
  case atStart => exact ⟨0, by omega, rfl, O2.out, B2.out⟩
  case round =>
    obtain ⟨k, hk, rfl, ha, hbel⟩ := hrel
    by_cases hlt : k < 12
    · have lb : k < bs.length := by rw [HL.out]; exact hlt
      obtain ⟨x, ex⟩ : ∃ x, x = bs[k] := ⟨_, rfl⟩
      have cx := Lib.hid (show wr.cell? ⟨b, off + k, none⟩ = some (.int .u8 (x.toNat : Int)) by
        rw [hbel.cell (p := ⟨b, off + k, none⟩) LT.out, HCE.out k lb, ex]; rfl)
      have sn := numB_snoc bs k lb
      rw [← ex] at sn
      have st := shK_step bs 12 k hlt x sn
      have ln := shK_length bs 12 k hk
      have sg := shK_get bs 12 k hlt
      obtain ⟨cur, hcur⟩ : ∃ cur, cur = shK bs 12 k := ⟨_, rfl⟩
      obtain ⟨N, hN⟩ : ∃ N, N = numB (bs.take k) * 16 := ⟨_, rfl⟩
      obtain ⟨v, hv⟩ : ∃ v, v = UInt8.ofNat N := ⟨_, rfl⟩
      have co := Lib.hid (show wr.cell? ⟨go, k, none⟩ = some (.int .u8 (v.toNat : Int)) by
        rw [ha.cell k (by rw [List.length_map, ln]; omega), List.getElem_map, sg, ← hN, ← hv]; rfl)
      have vn : v.toNat = N % 256 := by rw [hv, UInt8.toNat_ofNat']
      have xb := x.toNat_lt
      have orr := Lib.hid (or_nib (v.toNat : Int) (x.toNat : Int) (by omega) (by omega) (by rw [vn]; omega) (by omega) (by omega))
      rw [← hN, ← hcur] at st
      rw [← hcur] at ha ln
      have HA := Lib.hid ha
      have HBe := Lib.hid hbel
      have ST := Lib.hid st
      have LN := Lib.hid ln
      have VN := Lib.hid vn
      have EN := Lib.hid (show N % 16 = 0 by omega)
      have HK := Lib.hid hlt
      have kb : (k : Int) < 12 := by omega
      have xi : (x.toNat : Int) < 256 := by omega
      clear ha hbel st ln sg sn ex lb hcur hN hv vn xb hk hlt
      go_wp2_with (first
        | (refine wpList_getc rfl 5 (.tmp 15) rfl b (off + k) (.int .u8 (x.toNat : Int)) (by rfl) cx.out _ Try.underlying5 rfl ?_)
        | (refine wpList_getc rfl 5 (.tmp 19) rfl go k (.int .u8 (v.toNat : Int)) (by rfl) co.out _ Try.underlying5 rfl ?_)
        | (refine wpList_setc rfl 5 (.tmp 24) (.tmp 23) rfl go k .u8 (bits .or .u8 (v.toNat : Int) ((x.toNat : Int) / 16)) (by rfl) (by rfl) 5 (cur.map B8) HA.out (by rw [List.length_map, LN.out]; omega) Try.size8 ?_))
      intro u hu
      have U1 := Lib.hid hu
      clear hu
      go_wp2_with (refine wpList_setc rfl 5 (.tmp 30) (.tmp 29) rfl go (k + 1) .u8 ((x.toNat : Int) * 16 % 256) (by rfl) (by rfl) 5 _ U1.out.at_ (by rw [List.length_set, List.length_map, LN.out]; omega) Try.size8 ?_)
      intro u2 hu
      have U2 := Lib.hid hu
      clear hu
      go_wp2
      go_roundw
      case rel =>
        refine ⟨k + 1, by have := HK.out; omega, by go_num, ?_, U2.out.below (U1.out.below HBe.out HBe.out.size GO.out) (Nat.le_trans HBe.out.size (by rw [U1.out.size]; exact Nat.le_refl _)) GO.out⟩
        have := U2.out.at_
        rw [← ST.out, List.map_set, List.map_set, show B8 (UInt8.ofNat (N + x.toNat / 16)) = .int .u8 (bits .or .u8 (v.toNat : Int) ((x.toNat : Int) / 16)) by rw [orr.out, B8, ofNat_u8]; congr 1; have := VN.out; have := EN.out; omega,
          show B8 (UInt8.ofNat (x.toNat * 16)) = .int .u8 ((x.toNat : Int) * 16 % 256) by rw [B8, ofNat_u8]; congr 1]
        exact this
      case measure => simp [intOf]; omega
    · obtain rfl : k = 12 := by omega
      have e : shK bs 12 12 = bytesN (numB bs * 16) 13 := by
        unfold shK
        rw [List.take_of_length_le (by rw [HL.out]; exact Nat.le_refl _)]
        simp
      rw [e] at ha
      have HA := Lib.hid ha
      have HBe := Lib.hid hbel
      have NN := Lib.hid (show numB (bytesN (numB bs * 16) 13) = numB bs * 16 from numB_bytesN 13 _ (by have := NB.out; rw [List.take_of_length_le (by rw [HL.out]; exact Nat.le_refl _)] at this; omega))
      clear ha hbel hlt hk e
      go_wp2_with fail
      refine (write32 S32 dig32 S32_size at32 (some ⟨go, 0, none⟩) 13 13 20 (by simp) (by omega) (by omega) (by omega) (by omega) (bytesN (numB bs * 16) 13) (bytesN_length _ _) wr HA.out.byt).mono ?_
      rw [NN.out]
      rintro e w5 ⟨rfl, b5⟩
      have B5 := Lib.hid b5
      clear b5
      go_wp2
      go_ret
      exact ⟨rfl, HBe.out.trans (B5.out.mono HBe.out.size)⟩
end Go.Proofs.Ytppcpidlnpencaa
