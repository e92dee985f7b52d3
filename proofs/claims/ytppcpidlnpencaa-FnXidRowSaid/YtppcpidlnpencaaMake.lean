/-
  The thin package's XidMake.
-/
import Derived.Test.YtppcpidlnpencaaNewId
namespace Go.Proofs.Ytppcpidlnpencaa
open Go.RowKit
set_option linter.unusedVariables false
theorem Try.zero32 (w : World) : (zeroValue 23).run Try.prog w = .ok (.int .u32 0) w := by kernel_rfl
def MakeOk (bs : List UInt8) (w : World) (e : Ending) (w' : World) : Prop := ∃ v, e = .returned (.tuple #[v, .bool true]) ∧ NewBytes w w' v bs ∧ Below w.heap.size w w'
set_option maxRecDepth 100000 in
theorem xidMake_any (s p ctr q : Nat) (hs : s < 4294967296) (hp : p < 65536) (hc : ctr < 4294967296) (hq : q = (ctr + 1) % 4294967296) (A : Option Addr) (c : Nat) (m0 m1 m2 : UInt8) (w : World) (hb : Byt w A [m0, m1, m2]) :
    Calls Try.prog 11 #[.int .i64 (s : Int), .slice A 3 c, .int .i64 (p : Int), .int .u32 (ctr : Int)] w (MakeOk (xidB s [m0, m1, m2] p (q % 16777216)) w) := by
  have HB := Lib.hid hb
  have HS := Lib.hid hs
  have HP := Lib.hid hp
  have HC := Lib.hid hc
  have HQ := Lib.hid hq
  obtain ⟨Z, hZ⟩ : ∃ Z, Z = z12.map B8 := ⟨_, rfl⟩
  have hz : ∀ w, (zeroValue 54).run Try.prog w = .ok (.agg Z.toArray) w := hZ ▸ Try.zeroI
  have HZ := Lib.hid (show Z.length = 12 by simp [hZ, z12])
  obtain ⟨R, hR⟩ : ∃ R, R = xidB s [m0, m1, m2] p (q % 16777216) := ⟨_, rfl⟩
  have LR : R.length = 12 := by rw [hR, xidB_length _ _ _ _ rfl]
  have HBS := Lib.hid (sizeI_of R LR)
  have LRR := Lib.hid LR
  have HRR := Lib.hid hR
  rw [← hR]
  clear hb hs hp hc hq hZ LR hR
  go_enter Try.func11, Try.ntmps11
  go_wp2_with (refine wpList_var rfl 23 rfl (.int .u32 0) [.int .u32 0] Try.zero32 rfl ?_)
  intro w1 h1
  have H1 := Lib.hid h1
  clear h1
  go_wp2_with (refine wpList_setc rfl 23 (.tmp 10) (.tmp 15) rfl w.heap.size 0 .u32 (ctr : Int) (by rfl) (by rfl) 23 [.int .u32 0] H1.out.at_ (by simp) Try.size32 ?_)
  intro w2 h2
  have H2 := Lib.hid (show At w2 w.heap.size 23 [.int .u32 (ctr : Int)] from h2.at_)
  have B2 := Lib.hid (h2.below (H1.out.below (Below.refl _ _) (Nat.le_refl _)) (by have := H1.out.size; omega) (Nat.le_refl _))
  have S2 := Lib.hid (h2.size)
  clear h2
  go_wp2_with fail
  refine (unix_any s 0 (by omega) (by have := HS.out; omega) (by omega) (by omega) w2).mono ?_
  rintro e w3 ⟨rfl, b3⟩
  have B3 := Lib.hid (B2.out.trans (b3.mono B2.out.size))
  have G3 := Lib.hid (show At w3 w.heap.size 23 [.int .u32 (ctr : Int)] from H2.out.below b3 H2.out.lt)
  clear b3
  go_wp2_with fail
  refine (newId_any s p ctr q HS.out HP.out HC.out HQ.out A c m0 m1 m2 w3 (HB.out.below B3.out (Nat.le_refl _)) w.heap.size G3.out (fun b off h => by
    obtain ⟨b', off', e', hlt, -⟩ := HB.out (by simp)
    rw [h] at e'
    injection e' with e'
    injection e' with e1 e2
    omega)).mono ?_
  rw [← HRR.out]
  rintro e w4 ⟨rfl, g4, b4⟩
  have B4 := Lib.hid (show Below w.heap.size w w4 from B3.out.grown b4 B3.out.size (by simp))
  clear g4 b4
  go_wp2_with (first
    | (refine wpList_var rfl 54 rfl (.agg Z.toArray) Z hz rfl ?_)
    | fail)
  intro w5 h5
  have H5 := Lib.hid h5
  clear h5
  go_wp2_with (refine wpList_put rfl 54 (.tmp 11) (.tmp 20) rfl w4.heap.size (R.map B8) (by rfl) (by rfl) 54 Z H5.out.at_ HBS.out (by rw [HZ.out, List.length_map, LRR.out]) (B8_one _) ?_)
  intro w6 h6
  have H6 := Lib.hid h6
  clear h6
  have HO := Lib.hid (own_empty w6 5 w6.heap.size (Nat.le_refl _))
  have HBy := Lib.hid ((H6.out.at_.byt).below (B := w6.heap.size) ((Below.refl _ _).alloc (Nat.le_refl _) (.cells #[] 5)) (Nat.le_refl _))
  go_wp2_with (refine wpList_appB rfl (.tmp 21) (.tmp 22) 22 rfl w6.heap.size 5 Try.underlying22 Try.info8 _ 0 [] (by rfl) HO.out (some ⟨w4.heap.size, 0, none⟩) 12 12 R (by rfl) HBy.out LRR.out (by simp) (by omega) (by simp) ?_)
  intro v' w7 h7 g7
  have H7 := Lib.hid h7
  have G7 := Lib.hid g7
  clear h7 g7
  go_wp2
  go_ret2
  obtain ⟨-, g, cap, e1, e2, e3⟩ := own_byt (bs := R) H7.out (by omega)
  have s5 := H5.out.size
  have s6 := H6.out.size
  have B6 : Below w.heap.size w w6 := H6.out.below (H5.out.below B4.out B4.out.size) (by have := B4.out.size; omega) B4.out.size
  refine ⟨v', rfl, ⟨g, cap, by rw [e1, LRR.out], Nat.le_trans B6.size e2, e3⟩, ?_⟩
  exact (B6.alloc B6.size _).grown G7.out (by have := B6.size; simp; omega) (by have := B6.size; simp [Value.ownBlock]; omega)
end Go.Proofs.Ytppcpidlnpencaa
