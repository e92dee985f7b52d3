/-
  String and Encode of the package xid.
-/
import Derived.Test.YtppcpidlnpencaaEncode
import Derived.Deep.RegionHeld3
namespace Go.Proofs.Ytppcpidlnpencaa
open Go.RowKit
set_option linter.unusedVariables false
theorem len12 (bs : List UInt8) (h : bs.length = 12) : ∃ b0 b1 b2 b3 b4 b5 b6 b7 b8 b9 b10 b11, bs = [b0, b1, b2, b3, b4, b5, b6, b7, b8, b9, b10, b11] := by
  match bs, h with
  | [b0, b1, b2, b3, b4, b5, b6, b7, b8, b9, b10, b11], _ => exact ⟨b0, b1, b2, b3, b4, b5, b6, b7, b8, b9, b10, b11, rfl⟩
def encB (bs : List UInt8) : List UInt8 := match bs with
  | [b0, b1, b2, b3, b4, b5, b6, b7, b8, b9, b10, b11] => encL b0 b1 b2 b3 b4 b5 b6 b7 b8 b9 b10 b11
  | _ => []
theorem encB_length (bs : List UInt8) (h : bs.length = 12) : (encB bs).length = 20 := by
  obtain ⟨b0, b1, b2, b3, b4, b5, b6, b7, b8, b9, b10, b11, rfl⟩ := len12 bs h
  rfl
theorem encodeB (g h o c2 : Nat) (t : TypeId) (cs : List Value) (hcs : cs.length = 20) (bs : List UInt8) (hbs : bs.length = 12) (w : World) (hg : At w g t cs) (hc : Cells12 w h o bs) (hne : h ≠ g) (hlt : h < w.heap.size) :
    Calls Try.prog 55 #[.slice (some ⟨g, 0, none⟩) 20 20, .slice (some ⟨h, o, none⟩) 12 c2] w fun e w' => e = .returned (.tuple #[]) ∧ At w' g t ((encB bs).map B8) ∧ w.grownBy w' (some g) := by
  obtain ⟨b0, b1, b2, b3, b4, b5, b6, b7, b8, b9, b10, b11, rfl⟩ := len12 bs hbs
  exact encode_any g h o c2 t cs hcs b0 b1 b2 b3 b4 b5 b6 b7 b8 b9 b10 b11 w hg hc hne hlt
theorem At.cells12 {w : World} {g : Nat} {t : TypeId} {bs : List UInt8} (h : At w g t (bs.map B8)) : Cells12 w g 0 bs := fun i b hi => by
  obtain ⟨h1, h2⟩ := List.getElem?_eq_some_iff.1 hi
  rw [Nat.zero_add, h.cell i (by simpa using h1)]
  simp [B8, h2]
def strX (bs : List UInt8) : ByteArray := ⟨(encB bs).toArray⟩
set_option maxRecDepth 100000 in
theorem stringX (bs : List UInt8) (hbs : bs.length = 12) (w : World) :
    Calls Try.prog 43 #[.agg (bs.map B8).toArray] w fun e w' => e = .returned (.string (strX bs)) ∧ Below w.heap.size w w' := by
  have HL := Lib.hid hbs
  have LE := Lib.hid (encB_length bs hbs)
  obtain ⟨i, hi1, hi2, hi3, hi4⟩ := info_parts Try.info8
  have I1 := Lib.hid hi1
  have I2 := Lib.hid hi2
  have I3 := Lib.hid hi3
  have I4 := Lib.hid hi4
  clear hbs hi1 hi2 hi3 hi4
  go_enter Try.func43, Try.ntmps43
  go_wp2_with (refine wpList_boxed rfl 54 (.tmp 0) rfl (.agg (bs.map B8).toArray) (bs.map B8) (by rfl) rfl ?_)
  intro w1 h1
  have H1 := Lib.hid h1
  clear h1
  go_wp2_with (refine wpList_make_row _ rfl (.const (.int .i64 20)) (.const (.int .i64 20)) 22 rfl 5 i (.int .u8 0) Try.underlying22 I1.out I2.out I3.out rfl .i64 .i64 20 (by rfl) (by rfl) (by rw [I4.out]; omega) (by omega) ?_)
  rw [made_zero]
  have hw := NewB.alloc w1 5 ((List.replicate 20 (0 : UInt8)).map B8)
  generalize w1.alloc (.cells ((List.replicate 20 (0 : UInt8)).map B8).toArray 5) = w2 at hw ⊢
  have H2 := Lib.hid hw
  clear hw
  go_wp2_with fail
  refine (encodeB w1.heap.size w.heap.size 0 12 5 _ (by simp) bs HL.out w2 H2.out.at_ ((H2.out.keep H1.out.at_).cells12) (by have := H1.out.size; omega) (by have := H1.out.size; have := H2.out.size; omega)).mono ?_
  rintro e w3 ⟨rfl, a3, g3⟩
  have A3 := Lib.hid a3
  have B3 := Lib.hid (show Below w.heap.size w w3 from (H2.out.below (H1.out.below (Below.refl _ _) (Nat.le_refl _)) (by have := H1.out.size; omega)).grown g3 (by have := H1.out.size; have := H2.out.size; omega) (by have := H1.out.size; simp; omega))
  clear a3 g3
  go_wp2_with (refine wpList_strB rfl 22 9 (.tmp 8) rfl 5 Try.underlying22 Try.underlying5 Try.underlying9 (some ⟨w1.heap.size, 0, none⟩) 20 20 (encB bs) (by rfl) A3.out.byt LE.out (by omega) ?_)
  go_ret
  exact ⟨rfl, B3.out⟩
set_option maxRecDepth 100000 in
theorem encodeX (bs : List UInt8) (hbs : bs.length = 12) (g : Nat) (t : TypeId) (cs : List Value) (hcs : cs.length = 20) (w : World) (hg : At w g t cs) :
    Calls Try.prog 44 #[.agg (bs.map B8).toArray, .slice (some ⟨g, 0, none⟩) 20 20] w fun e w' => e = .returned (.slice (some ⟨g, 0, none⟩) 20 20) ∧ At w' g t ((encB bs).map B8) ∧ w.grownBy w' (some g) := by
  have HL := Lib.hid hbs
  have HG := Lib.hid hg
  have HCS := Lib.hid hcs
  clear hbs hg hcs
  go_enter Try.func44, Try.ntmps44
  go_wp2_with (refine wpList_boxed rfl 54 (.tmp 0) rfl (.agg (bs.map B8).toArray) (bs.map B8) (by rfl) rfl ?_)
  intro w1 h1
  have H1 := Lib.hid h1
  clear h1
  go_wp2_with fail
  refine (encodeB g w.heap.size 0 12 t cs HCS.out bs HL.out w1 (H1.out.keep HG.out) H1.out.at_.cells12 (by have := HG.out.lt; omega) (by have := H1.out.size; omega)).mono ?_
  rintro e w3 ⟨rfl, a3, g3⟩
  have A3 := Lib.hid a3
  have G3 := Lib.hid (grown_trans' (World.grownBy_mono' H1.out.grown) g3)
  clear a3 g3
  go_wp2
  go_ret
  exact ⟨rfl, A3.out, G3.out⟩
end Go.Proofs.Ytppcpidlnpencaa
