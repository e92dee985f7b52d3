/-
  The thin package's XidRow.
-/
import Derived.Test.YtppcpidlnpencaaMake
import Derived.Test.YtppcpidlnpencaaList
namespace Go.Proofs.Ytppcpidlnpencaa
open Go.RowKit
set_option linter.unusedVariables false
def rowK (ss : List Nat) (ms : List UInt8) (p ctr k : Nat) : List (List UInt8) := (List.range k).map fun i => xidB (ss.getD i 0) ms p ((ctr + i + 1) % 16777216)
theorem rowK_succ (ss : List Nat) (ms : List UInt8) (p ctr k : Nat) : rowK ss ms p ctr (k + 1) = rowK ss ms p ctr k ++ [xidB (ss.getD k 0) ms p ((ctr + k + 1) % 16777216)] := by
  unfold rowK
  rw [List.range_succ, List.map_append]
  rfl
theorem rowK_length (ss : List Nat) (ms : List UInt8) (p ctr k : Nat) : (rowK ss ms p ctr k).length = k := by simp [rowK]
def RowOk (Ls : List (List UInt8)) (n : Nat) (w : World) (e : Ending) (w' : World) : Prop := ∃ v, e = .returned (.tuple #[v, .bool true]) ∧ RowsB w' w.heap.size v n Ls ∧ Below w.heap.size w w'
set_option maxRecDepth 100000 in
set_option maxHeartbeats 4000000 in
theorem xidRow_any (ss : List Nat) (n : Nat) (hn : ss.length = n) (h12 : n ≤ 12) (hs : ∀ s ∈ ss, s < 4294967296) (p ctr : Nat) (hp : p < 65536) (hc : ctr < 4294967296) (T : Option Addr) (cT : Nat) (A : Option Addr) (c : Nat) (m0 m1 m2 : UInt8) (w : World)
    (hT : I64s w T (ss.map fun (s : Nat) => (s : Int))) (hb : Byt w A [m0, m1, m2]) :
    Calls Try.prog 16 #[.slice T n cT, .slice A 3 c, .int .i64 (p : Int), .int .u32 (ctr : Int)] w (RowOk (rowK ss [m0, m1, m2] p ctr n) n w) := by
  have HN := Lib.hid hn
  have HS := Lib.hid hs
  have HP := Lib.hid hp
  have HC := Lib.hid hc
  have HT := Lib.hid hT
  have HB := Lib.hid hb
  have H12 := Lib.hid h12
  obtain ⟨Z, hZ⟩ : ∃ Z, Z = z12.map B8 := ⟨_, rfl⟩
  have hz : ∀ w, (zeroValue 54).run Try.prog w = .ok (.agg Z.toArray) w := hZ ▸ Try.zeroI
  have HZ := Lib.hid (show Z.length = 12 by simp [hZ, z12])
  have ni : (n : Int) ≤ 12 := by omega
  clear hn hs hp hc hT hb h12 hZ
  go_enter Try.func16, Try.ntmps16
  go_wp2_with (refine wpList_var rfl 23 rfl (.int .u32 0) [.int .u32 0] Try.zero32 rfl ?_)
  intro w1 h1
  have H1 := Lib.hid h1
  clear h1
  have R1 := Lib.hid ((RowsB.empty w w.heap.size (Nat.le_refl _)).below (H1.out.below (Below.refl _ _) (Nat.le_refl _)))
  have B1 := Lib.hid (show Below w.heap.size w w1 from H1.out.below ((Below.refl _ _).alloc (Nat.le_refl _) _) (by simp))
  have GC := Lib.hid (show (w.alloc (.cells #[] 22)).heap.size = w.heap.size + 1 by simp)
  go_wp2_with (refine wpList_setc rfl 23 (.tmp 11) (.tmp 19) rfl (w.heap.size + 1) 0 .u32 (ctr : Int) (by rfl) (by rfl) 23 [.int .u32 0] (by rw [← GC.out]; exact H1.out.at_) (by simp) Try.size32 ?_)
  intro w2 h2
  obtain ⟨gc, hgc⟩ : ∃ gc, gc = w.heap.size + 1 := ⟨_, rfl⟩
  have C2 := Lib.hid (show CtrAt w2 gc ctr from hgc ▸ h2.at_)
  have R2 := Lib.hid (R1.out.grown h2.grown (by rw [← GC.out]; exact H1.out.at_) (by decide) (by decide))
  have B2 := Lib.hid (show Below w.heap.size w w2 from h2.below B1.out B1.out.size (by omega))
  have GW := Lib.hid (show w.heap.size ≤ gc by omega)
  rw [← hgc]
  clear h2 hgc
  go_wp2
  go_loopw [10, 22] (fun v i wr => ∃ k : Nat, k ≤ n ∧ i = .int .i64 k ∧ RowsB wr w.heap.size v k (rowK ss [m0, m1, m2] p ctr k) ∧ CtrAt wr gc ((ctr + k) % 4294967296) ∧ Below w.heap.size w wr) (fun _ i _ => n - (intOf i).toNat)
  case atStart => exact ⟨0, by omega, rfl, R2.out, by rw [Nat.add_zero, Nat.mod_eq_of_lt HC.out]; exact C2.out, B2.out⟩
  case round =>
    obtain ⟨k, hk, rfl, hrow, hctr, hbel⟩ := hrel
    by_cases hlt : k < n
    · have lk : k < ss.length := by rw [HN.out]; exact hlt
      obtain ⟨s, es⟩ : ∃ s, s = ss.getD k 0 := ⟨_, rfl⟩
      have hs : s < 4294967296 := by
        rw [es]; simp only [List.getD, List.getElem?_eq_getElem lk, Option.getD_some]
        exact HS.out _ (List.getElem_mem lk)
      obtain ⟨b, off, hTe, hlb, hcell⟩ := (HT.out.below hbel (Nat.le_refl _)) (by simp; omega)
      subst hTe
      have cx : wr.cell? ⟨b, off + k, none⟩ = some (.int .i64 (s : Int)) := by
        rw [hcell k (by simpa using lk), es]; simp [List.getD, lk]
      have rs := rowK_succ ss [m0, m1, m2] p ctr k
      rw [← es] at rs
      obtain ⟨R, hR⟩ : ∃ R, R = xidB s [m0, m1, m2] p ((ctr + k + 1) % 16777216) := ⟨_, rfl⟩
      have LR : R.length = 12 := by rw [hR, xidB_length _ _ _ _ rfl]
      obtain ⟨q, hq⟩ : ∃ q, q = (ctr + k) % 4294967296 := ⟨_, rfl⟩
      have NI : Hid (∀ w', Byt w' A [m0, m1, m2] → CtrAt w' gc q → Calls Try.prog 29 #[.agg (TimeV s 0).toArray, .slice A 3 c, .int .i64 (p : Int), .pointer (some ⟨gc, 0, none⟩)] w' fun e w'' => e = .returned (.agg (R.map B8).toArray) ∧ CtrAt w'' gc ((ctr + (k + 1)) % 4294967296) ∧ w'.grownBy w'' (some gc)) := Lib.hid fun w' hy hg => by
        have := newId_any s p q ((ctr + (k + 1)) % 4294967296) hs HP.out (by omega) (by omega) A c m0 m1 m2 w' hy gc hg (fun b off h => by
          obtain ⟨b', off', e', hlt, -⟩ := HB.out (by simp)
          rw [h] at e'
          injection e' with e'
          injection e' with e1 e2
          have := GW.out
          omega)
        rw [show (ctr + (k + 1)) % 4294967296 % 16777216 = (ctr + k + 1) % 16777216 by omega, ← hR] at this
        exact this
      rw [← hR] at rs
      rw [← hq] at hctr
      have RS := Lib.hid rs
      have LRR := Lib.hid LR
      have HBS := Lib.hid (sizeI_of R LR)
      have HR := Lib.hid hrow
      have HCT := Lib.hid hctr
      have HBe := Lib.hid hbel
      have HSS := Lib.hid hs
      have ki : (k : Int) < (n : Int) := by omega
      have si : (s : Int) < 4294967296 := by omega
      have UX := Lib.hid (fun w => unix_any s 0 (by omega) (by omega) (by omega) (by omega) w)
      clear es hs hcell rs hR LR hq hrow hctr hbel lk si
      go_wp2_with fail
      refine (UX.out _).mono ?_
      rintro e w3 ⟨rfl, b3⟩
      have R3 := Lib.hid (HR.out.below b3)
      have C3 := Lib.hid (show CtrAt w3 gc q from At.below HCT.out b3 (At.lt HCT.out))
      have B3 := Lib.hid (HBe.out.trans (b3.mono HBe.out.size))
      clear b3 cx
      go_wp2_with fail
      refine (NI.out w3 (HB.out.below B3.out (Nat.le_refl _)) C3.out).mono ?_
      rintro e w4 ⟨rfl, c4, g4⟩
      have R4 := Lib.hid (R3.out.grown g4 C3.out (by decide) (by decide))
      have C4 := Lib.hid c4
      have B4 := Lib.hid (B3.out.grown g4 B3.out.size (by have := GW.out; simp; omega))
      clear c4 g4
      go_wp2_with (first
        | (refine wpList_var rfl 54 rfl (.agg Z.toArray) Z hz rfl ?_)
        | fail)
      intro w5 h5
      have H5 := Lib.hid h5
      clear h5
      go_wp2_with (refine wpList_put rfl 54 (.tmp 14) (.tmp 30) rfl w4.heap.size (R.map B8) (by rfl) (by rfl) 54 Z H5.out.at_ HBS.out (by rw [HZ.out, List.length_map, LRR.out]) (B8_one _) ?_)
      intro w6 h6
      have H6 := Lib.hid h6
      have B46 := Lib.hid (show Below w4.heap.size w4 w6 from h6.below (H5.out.below (Below.refl _ _) (Nat.le_refl _)) (by have := H5.out.size; omega) (Nat.le_refl _))
      clear h6
      have R6 := Lib.hid (R4.out.below B46.out)
      have C6 := Lib.hid (show CtrAt w6 gc ((ctr + (k + 1)) % 4294967296) from At.below C4.out B46.out (At.lt C4.out))
      have B6 := Lib.hid (B4.out.trans (B46.out.mono B4.out.size))
      have HO := Lib.hid (own_empty w6 5 w6.heap.size (Nat.le_refl _))
      have HBy := Lib.hid ((H6.out.at_.byt).below (B := w6.heap.size) ((Below.refl _ _).alloc (Nat.le_refl _) (.cells #[] 5)) (Nat.le_refl _))
      go_wp2_with (refine wpList_appB rfl (.tmp 32) (.tmp 33) 22 rfl w6.heap.size 5 Try.underlying22 Try.info8 _ 0 [] (by rfl) HO.out (some ⟨w4.heap.size, 0, none⟩) 12 12 R (by rfl) HBy.out LRR.out (by simp) (by omega) (by simp) ?_)
      intro v7 w7 h7 g7
      have H7 := Lib.hid h7
      have B67 := Lib.hid (show Below w6.heap.size w6 w7 from ((Below.refl _ _).alloc (Nat.le_refl _) _).grown g7 (by simp) (by simp [Value.ownBlock]))
      clear h7 g7
      obtain ⟨-, g7, cap7, r7, e1, e2, e3⟩ := own_at (bs := R) H7.out (by omega)
      subst e1
      have I7 := Lib.hid (show InB w7 w.heap.size (.slice (some ⟨g7, 0, none⟩) 12 cap7) R from ⟨g7, cap7, r7, by rw [LRR.out], Nat.le_trans B6.out.size e2, e3⟩)
      clear e2 e3 H7
      have R7 := Lib.hid (R6.out.below B67.out)
      have C7 := Lib.hid (show CtrAt w7 gc ((ctr + (k + 1)) % 4294967296) from At.below C6.out B67.out (At.lt C6.out))
      have B7 := Lib.hid (B6.out.trans (B67.out.mono B6.out.size))
      have A8 := Lib.hid (show Below w7.heap.size w7 (w7.alloc (.cells #[.slice (some ⟨g7, 0, none⟩) 12 cap7] 22)) from (Below.refl _ _).alloc (Nat.le_refl _) _)
      have R8 := Lib.hid (R7.out.below A8.out)
      have I8 := Lib.hid (I7.out.below A8.out)
      have C8 := Lib.hid (show CtrAt (w7.alloc (.cells #[.slice (some ⟨g7, 0, none⟩) 12 cap7] 22)) gc ((ctr + (k + 1)) % 4294967296) from At.below C7.out A8.out (At.lt C7.out))
      have B8' := Lib.hid (B7.out.trans (A8.out.mono B7.out.size))
      have D8 := Lib.hid (show (w7.alloc (.cells #[.slice (some ⟨g7, 0, none⟩) 12 cap7] 22)).cell? ⟨w7.heap.size, 0, none⟩ = some (.slice (some ⟨g7, 0, none⟩) 12 cap7) from (NewB.alloc w7 22 [.slice (some ⟨g7, 0, none⟩) 12 cap7]).at_.cell 0 (by simp))
      go_wp2_with (refine wpList_appRow rfl (.tmp 31) (.tmp 35) 33 rfl w.heap.size Try.underlying33 Try.infoS _ k _ (by rfl) R8.out w7.heap.size (.slice (some ⟨g7, 0, none⟩) 12 cap7) R (by rfl) D8.out I8.out (by have := ni; omega) B8'.out.size ?_)
      intro v9 w9 r9 b9 k9 z9
      rw [← RS.out] at r9
      have R9 := Lib.hid r9
      have B9 := Lib.hid (b9 _ B8'.out)
      have C9 := Lib.hid (show CtrAt w9 gc ((ctr + (k + 1)) % 4294967296) from k9 _ _ _ (by decide) C8.out)
      clear r9 b9 k9 z9
      go_wp2
      go_roundw
      case rel => exact ⟨k + 1, by omega, by go_num, R9.out, C9.out, B9.out⟩
      case measure => simp [intOf]; omega
    · obtain rfl : k = n := by omega
      have HR := Lib.hid hrow
      have HBe := Lib.hid hbel
      clear hrow hctr hbel hlt hk
      go_wp2
      go_ret2
      exact ⟨_, rfl, HR.out, HBe.out⟩
end Go.Proofs.Ytppcpidlnpencaa
