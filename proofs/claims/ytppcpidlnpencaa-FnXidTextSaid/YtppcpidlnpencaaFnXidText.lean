/-
  The walk of FnXidText.
-/
import Derived.Test.YtppcpidlnpencaaRound
import Derived.Test.YtppcpidlnpencaaCmp
import Derived.Test.YtppcpidlnpencaaRow
namespace Go.Proofs.Ytppcpidlnpencaa
open Go.RowKit
set_option linter.unusedVariables false
set_option maxRecDepth 100000 in
set_option maxHeartbeats 1000000 in
theorem text_yes (A : Option Addr) (c : Nat) (bs : List UInt8) (hbs : bs.length = 12) (w : World) (hb : Byt w A bs) :
    Calls Try.prog 9 #[.slice A 12 c] w fun e w' => e = .returned (.bool true) ∧ Below w.heap.size w w' := by
  have HX := Lib.hid (fun w' (b : Below w.heap.size w w') => hb.below b (Nat.le_refl _))
  have HL := Lib.hid hbs
  have HT := Lib.hid (xidText_yes A c bs hbs w hb)
  have HR := Lib.hid (fun w => xidRead_any (strX bs) w)
  have HO := Lib.hid (show readOk (strX bs).data.toList = true from readOk_enc bs hbs)
  have HB := Lib.hid (show readB (strX bs).data.toList = bs from readB_enc bs hbs)
  have HI := Lib.hid (xidsB_enc bs hbs)
  have HZ := Lib.hid (show (strX bs).size ≤ 1000 by have : (strX bs).size = 20 := encB_length bs hbs; omega)
  have HS := Lib.hid (fun w' (h : Byt w' A bs) => strX_spec bs hbs ▸ specText A 12 c rfl bs hbs w' h)
  obtain ⟨S, hS⟩ : ∃ S, S = strX bs := ⟨_, rfl⟩
  rw [← hS] at HT HR HO HB HI HZ HS
  clear hS hb hbs
  go_enter Try.func9, Try.ntmps9
  go_wp2_with fail
  refine HT.out.mono ?_
  rintro e w1 ⟨rfl, b1⟩
  have B1 := Lib.hid b1
  clear b1
  go_wp2_with fail
  refine (HR.out w1).mono ?_
  intro e w2 h2
  obtain ⟨⟨v, rfl, ⟨g, cap, hv, hg, hy⟩⟩, b2⟩ := h2.1 HO.out
  rw [HB.out] at hv hy
  rw [HL.out] at hv
  subst hv
  have B2 := Lib.hid (B1.out.trans (b2.mono B1.out.size))
  have Y2 := Lib.hid hy
  clear h2 b2 hg hy
  go_wp2_with fail
  refine (HS.out w2 (HX.out w2 B2.out)).mono ?_
  rintro e w3 ⟨rfl, b3⟩
  have Y3 := Lib.hid (Y2.out.below b3 (Nat.le_refl _))
  have B3 := Lib.hid (B2.out.trans (b3.mono B2.out.size))
  clear b3
  go_wp2_with fail
  refine (xids_any S HZ.out w3).mono ?_
  rw [HI.out]
  rintro e w4 ⟨rfl, rfl⟩
  go_wp2_with fail
  refine (same_any (some ⟨g, 0, none⟩) A 12 12 cap c bs bs HL.out HL.out (by omega) _ Y3.out (HX.out _ B3.out)).mono ?_
  rw [sameB_self]
  intro e w5 h
  obtain ⟨rfl, b5⟩ := h.below
  have B5 := Lib.hid (B3.out.trans (b5.mono B3.out.size))
  clear h b5
  go_wp2
  go_ret
  exact ⟨rfl, B5.out⟩
set_option maxRecDepth 100000 in
theorem text_no (A : Option Addr) (n c : Nat) (hn : n ≠ 12) (w : World) :
    Calls Try.prog 9 #[.slice A n c] w fun e w' => e = .returned (.bool true) ∧ Below w.heap.size w w' := by
  have t1 : ((n : Int) != 12) = true := by rw [bne_iff_ne]; omega
  by_cases h : (2147483647 : Int) < (n : Int)
  · go_enter Try.func9, Try.ntmps9
    go_wp2
    go_ret
    exact ⟨rfl, Below.refl _ _⟩
  · go_enter Try.func9, Try.ntmps9
    go_wp2
    go_ret
    exact ⟨rfl, Below.refl _ _⟩
theorem walk_FnXidText (a0 : Option Addr) (len0 cap0 : Nat) (z0 : List Int) (w : World) (w0 : IsRow .u8 w a0 len0 cap0 z0) :
    Calls Try.prog 9 #[.slice a0 len0 cap0] w fun e w' => e = .returned (.bool true) ∧ Below w.heap.size w w' := by
  obtain ⟨bs, h1, h2, h3, h4⟩ := bytes_of_row w0
  by_cases hn : len0 = 12
  · subst hn
    exact text_yes a0 cap0 bs h1 w h2
  · exact text_no a0 len0 cap0 hn w
end Go.Proofs.Ytppcpidlnpencaa
