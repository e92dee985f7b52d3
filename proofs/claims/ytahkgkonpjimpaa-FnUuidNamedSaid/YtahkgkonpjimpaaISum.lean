/-
  The thin package's Sum.
-/
import Derived.Test.YtahkgkonpjimpaaSha1New
namespace Go.Proofs.Ytahkgkonpjimpaa
open Go.RowKit
set_option linter.unusedVariables false
set_option maxRecDepth 100000 in
theorem sum_3 (b n c : Nat) (data : List UInt8) (hl : data.length = n) (hp : 0 < n) (hn : n ≤ 300) (hnc : n ≤ c) (w : World) (hb : Byt w (some ⟨b, 0, none⟩) data) :
    Calls Try.prog 5 #[.int .i64 3, .slice (some ⟨b, 0, none⟩) n c] w (CapNew (sumM data) w) := by
  have HB := Lib.hid hb
  have HL := Lib.hid hl
  have hblt : b < w.heap.size := hb.lt (by omega)
  have HBL := Lib.hid hblt
  clear hb hl hblt
  go_enter Try.func5, Try.ntmps5
  go_wp2_with fail
  refine (md5_new w).mono ?_
  rintro e w1 ⟨rfl, ⟨s1, X1, q1, hL1, hat1⟩, b1⟩
  have L1 := Lib.hid hL1
  have A1 := Lib.hid hat1
  have B1 := Lib.hid b1
  clear hL1 hat1 b1
  go_wp2_with fail
  refine (md5_write w.heap.size [] data s1 X1 q1 n c (some ⟨b, 0, none⟩) L1.out w1 A1.out HL.out (HB.out.below B1.out (Nat.le_refl _)) (.inr ⟨b, 0, rfl, by have := HBL.out; omega⟩) hnc (by decide) (by omega)).mono ?_
  rw [List.nil_append]
  rintro e w2 ⟨rfl, k1, k2⟩
  have K1 := Lib.hid k1
  have K2 := Lib.hid k2
  clear k1 k2
  go_wp2_with fail
  refine (md5_sumNil w.heap.size data (by rw [HL.out]; exact hn) w2 K1.out).mono ?_
  rintro e w3 ⟨g, cap, rfl, h1, h2, h3, h4⟩
  have H1 := Lib.hid h1
  have H2 := Lib.hid h2
  have H3 := Lib.hid h3
  have H4 := Lib.hid h4
  clear h1 h2 h3 h4
  go_wp2
  go_ret
  have b2 : Below w.heap.size w w2 := B1.out.grown K2.out B1.out.size (by simp)
  exact ⟨g, cap, rfl, H1.out, Nat.le_trans b2.size H2.out, H3.out, b2.trans (H4.out.mono b2.size)⟩
set_option maxRecDepth 100000 in
theorem sum_5 (b n c : Nat) (data : List UInt8) (hl : data.length = n) (hp : 0 < n) (hn : n ≤ 300) (hnc : n ≤ c) (w : World) (hb : Byt w (some ⟨b, 0, none⟩) data) :
    Calls Try.prog 5 #[.int .i64 5, .slice (some ⟨b, 0, none⟩) n c] w (CapNew (sumS1 data) w) := by
  have HB := Lib.hid hb
  have HL := Lib.hid hl
  have hblt : b < w.heap.size := hb.lt (by omega)
  have HBL := Lib.hid hblt
  clear hb hl hblt
  go_enter Try.func5, Try.ntmps5
  go_wp2_with fail
  refine (sha1_new w).mono ?_
  rintro e w1 ⟨rfl, ⟨s1, X1, q1, hL1, hat1⟩, b1⟩
  have L1 := Lib.hid hL1
  have A1 := Lib.hid hat1
  have B1 := Lib.hid b1
  clear hL1 hat1 b1
  go_wp2_with fail
  refine (sha1_write w.heap.size [] data s1 X1 q1 n c (some ⟨b, 0, none⟩) L1.out w1 A1.out HL.out (HB.out.below B1.out (Nat.le_refl _)) (.inr ⟨b, 0, rfl, by have := HBL.out; omega⟩) hnc (by decide) (by omega)).mono ?_
  rw [List.nil_append]
  rintro e w2 ⟨rfl, k1, k2⟩
  have K1 := Lib.hid k1
  have K2 := Lib.hid k2
  clear k1 k2
  go_wp2_with fail
  refine (sha1_sumNil w.heap.size data (by rw [HL.out]; exact hn) w2 K1.out).mono ?_
  rintro e w3 ⟨g, cap, rfl, h1, h2, h3, h4⟩
  have H1 := Lib.hid h1
  have H2 := Lib.hid h2
  have H3 := Lib.hid h3
  have H4 := Lib.hid h4
  clear h1 h2 h3 h4
  go_wp2
  go_ret
  have b2 : Below w.heap.size w w2 := B1.out.grown K2.out B1.out.size (by simp)
  exact ⟨g, cap, rfl, H1.out, Nat.le_trans b2.size H2.out, H3.out, b2.trans (H4.out.mono b2.size)⟩
end Go.Proofs.Ytahkgkonpjimpaa
