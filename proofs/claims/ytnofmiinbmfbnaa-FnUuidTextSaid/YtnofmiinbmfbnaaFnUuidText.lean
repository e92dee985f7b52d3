/-
  The walk of FnUuidText.
-/
import Derived.Test.YtnofmiinbmfbnaaForms
import Derived.Test.YtnofmiinbmfbnaaCmp
import Derived.Test.YtnofmiinbmfbnaaRow
namespace Go.Proofs.Ytnofmiinbmfbnaa
open Go.RowKit
set_option linter.unusedVariables false
set_option maxRecDepth 100000 in
set_option maxHeartbeats 1000000 in
theorem utext_yes (A : Option Addr) (c : Nat) (hA : A = none → c = 0) (bs : List UInt8) (hbs : bs.length = 16) (w : World) (hb : Byt w A bs) :
    Calls Try.prog 8 #[.slice A 16 c] w fun e w' => e = .returned (.bool true) ∧ Below w.heap.size w w' := by
  have HX := Lib.hid (fun w' (b : Below w.heap.size w w') => hb.below b (Nat.le_refl _))
  have HL := Lib.hid hbs
  have HT := Lib.hid (uuidText_yes A c bs hbs w hb)
  have HS := Lib.hid (fun w' (h : Byt w' A bs) => uuidStr_spec bs hbs ▸ specU A c hA bs hbs w' h)
  obtain ⟨S, hS⟩ : ∃ S, S = uuidStr bs := ⟨_, rfl⟩
  have eS : S.data.toList = encK bs 16 := by rw [hS, uuidStr_list]
  have zS : S.size = 36 := by
    have : S.data.toList.length = 36 := by rw [eS, encK_length]
    simpa using this
  obtain ⟨P, hP⟩ : ∃ P, P = stripS S := ⟨_, rfl⟩
  have eP : P.data.toList = stripL (encK bs 16) := by rw [hP]; exact strip_str S _ eS (encK_length bs 16)
  have zP : P.size = 32 := by
    have : P.data.toList.length = 32 := by rw [eP, strip_len _ (encK_length bs 16)]
    simpa using this
  obtain ⟨U1, h1⟩ : ∃ U : ByteArray, U = ⟨(S.data.toList.map upC).toArray⟩ := ⟨_, rfl⟩
  obtain ⟨U2, h2⟩ : ∃ U : ByteArray, U = ⟨(P.data.toList.map upC).toArray⟩ := ⟨_, rfl⟩
  have UP1 := Lib.hid (fun w => h1 ▸ upper_any S (by omega) (by omega) w)
  have UP2 := Lib.hid (fun w => h2 ▸ upper_any P (by omega) (by omega) w)
  have FR := Lib.hid (forms_read bs hbs S P U1 U2 eS eP (by rw [h1, map_str, eS]) (by rw [h2, map_str, eP]))
  have EP := Lib.hid hP
  have ZP := Lib.hid zP
  rw [← hS] at HT HS
  clear hb hbs hS eS hP eP zP h1 h2 hA
  go_enter Try.func8, Try.ntmps8
  go_wp2_with fail
  refine HT.out.mono ?_
  rintro e w1 ⟨rfl, b1⟩
  have B1 := Lib.hid b1
  clear b1
  go_wp2_with fail
  refine (HS.out w1 (HX.out w1 B1.out)).mono ?_
  rintro e w2 ⟨rfl, b2⟩
  have B2 := Lib.hid (B1.out.trans (b2.mono B1.out.size))
  clear b2
  go_wp2
  go_quiet (fail)
  rename_i nq
  obtain ⟨u, hu⟩ : ∃ u, u = w2.drewN nq := ⟨_, rfl⟩
  rw [← hu]
  have B3 := Lib.hid (show Below w.heap.size w u by rw [hu]; exact below_drewN B2.out nq)
  clear hu
  rw [show S.extract 0 8 ++ S.extract 9 13 ++ S.extract 14 18 ++ S.extract 19 23 ++ S.extract 24 36 = P from EP.out.symm]
  have zP := ZP.out
  go_wp2_with fail
  refine (UP1.out u).mono ?_
  rintro e w3 ⟨rfl, b3⟩
  have B4 := Lib.hid (B3.out.trans (b3.mono B3.out.size))
  clear b3
  go_wp2_with fail
  refine (UP2.out w3).mono ?_
  rintro e w4 ⟨rfl, b4⟩
  have B5 := Lib.hid (B4.out.trans (b4.mono B4.out.size))
  clear b4
  go_wp2
  change Code.wp _ _ _ _ (w4.alloc (.cells ((textForms S P U1 U2).map Value.string).toArray 9))
  have nb := NewB.alloc w4 9 ((textForms S P U1 U2).map Value.string)
  generalize w4.alloc (.cells ((textForms S P U1 U2).map Value.string).toArray 9) = w5 at nb ⊢
  obtain ⟨Ts, hTs⟩ : ∃ Ts, Ts = textForms S P U1 U2 := ⟨_, rfl⟩
  have L8 := Lib.hid (show Ts.length = 8 by rw [hTs]; rfl)
  rw [← hTs] at nb FR
  obtain ⟨g, hg⟩ : ∃ g, g = w4.heap.size := ⟨_, rfl⟩
  have A5 := Lib.hid (show At w5 g 9 (Ts.map Value.string) by rw [hg]; exact nb.at_)
  have B6 := Lib.hid (nb.below B5.out B5.out.size)
  rw [← hg]
  clear nb hTs hg zP zS
  go_loopw [61] (fun i wr => ∃ k : Nat, k ≤ 8 ∧ i = .int .i64 k ∧ At wr g 9 (Ts.map Value.string) ∧ Below w.heap.size w wr) (fun i _ => 8 - (intOf i).toNat)
  case atStart => exact ⟨0, by omega, rfl, A5.out, B6.out⟩
  case round =>
    obtain ⟨k, hk, rfl, hat, hbel⟩ := hrel
    by_cases hlt : k < 8
    · have lk : k < Ts.length := by rw [L8.out]; exact hlt
      obtain ⟨T, hT⟩ : ∃ T, T = Ts[k] := ⟨_, rfl⟩
      have cT : wr.cell? ⟨g, k, none⟩ = some (.string T) := by rw [hat.cell k (by simpa using lk), hT]; simp
      have UR := Lib.hid (fun w => uuidRead_any T w)
      have IT := Lib.hid (show implO T.data.toList = some bs from FR.out T (by rw [hT]; exact List.getElem_mem lk))
      have HAT := Lib.hid hat
      have HBe := Lib.hid hbel
      have q0 : (0 : Int) ≤ (k : Int) := by omega
      have q1 : (k : Int) < 8 := by omega
      clear hat hbel hT lk
      go_wp2_with fail
      refine (UR.out wr).mono ?_
      intro e w6 h6
      obtain ⟨⟨v, rfl, ⟨g6, c6, hv, -, y6⟩⟩, -, b6⟩ := h6.1 bs IT.out
      rw [HL.out] at hv
      subst hv
      have A6 := Lib.hid (HAT.out.below b6 HAT.out.lt)
      have B7 := Lib.hid (HBe.out.trans (b6.mono HBe.out.size))
      have Y6 := Lib.hid y6
      clear h6 y6 b6
      go_wp2_with fail
      refine (same_any (some ⟨g6, 0, none⟩) A 16 16 c6 c bs bs HL.out HL.out (by omega) _ Y6.out (HX.out _ B7.out)).mono ?_
      rw [sameB_self]
      intro e w7 h7
      obtain ⟨rfl, b7⟩ := h7.below
      have A7 := Lib.hid (A6.out.below b7 A6.out.lt)
      have B8' := Lib.hid (B7.out.trans (b7.mono B7.out.size))
      clear h7 b7
      go_wp2
      go_roundw
      case rel => exact ⟨k + 1, by omega, by go_num, A7.out, B8'.out⟩
      case measure => simp [intOf]; omega
    · obtain rfl : k = 8 := by omega
      have HBe := Lib.hid hbel
      clear hat hbel hlt hk
      go_wp2
      go_ret
      exact ⟨rfl, HBe.out⟩
set_option maxRecDepth 100000 in
theorem utext_no (A : Option Addr) (n c : Nat) (hn : n ≠ 16) (w : World) :
    Calls Try.prog 8 #[.slice A n c] w fun e w' => e = .returned (.bool true) ∧ Below w.heap.size w w' := by
  have t1 : ((n : Int) != 16) = true := by rw [bne_iff_ne]; omega
  by_cases h : (2147483647 : Int) < (n : Int)
  · go_enter Try.func8, Try.ntmps8
    go_wp2
    go_ret
    exact ⟨rfl, Below.refl _ _⟩
  · go_enter Try.func8, Try.ntmps8
    go_wp2
    go_ret
    exact ⟨rfl, Below.refl _ _⟩
theorem walk_FnUuidText (a0 : Option Addr) (len0 cap0 : Nat) (z0 : List Int) (w : World) (w0 : IsRow .u8 w a0 len0 cap0 z0) :
    Calls Try.prog 8 #[.slice a0 len0 cap0] w fun e w' => e = .returned (.bool true) ∧ Below w.heap.size w w' := by
  obtain ⟨bs, h1, h2, h3, h4⟩ := bytes_of_row w0
  by_cases hn : len0 = 16
  · subst hn
    exact utext_yes a0 cap0 h3 bs h1 w h2
  · exact utext_no a0 len0 cap0 hn w
end Go.Proofs.Ytnofmiinbmfbnaa
