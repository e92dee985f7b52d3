/-
  The walk of FnXidCompare.
-/
import Derived.Test.YtppcpidlnpencaaCmpLaw
import Derived.Test.YtppcpidlnpencaaCompX
import Derived.Test.YtppcpidlnpencaaRow
namespace Go.Proofs.Ytppcpidlnpencaa
open Go.RowKit
set_option linter.unusedVariables false
theorem less_str (xs ys : List UInt8) : Op.bytesLess (strX xs).toList (strX ys).toList = Op.bytesLess (encB xs) (encB ys) := by
  have e : ∀ bs, (strX bs).toList = encB bs := fun bs => by unfold strX; simp
  rw [e, e]
theorem eq_str (xs ys : List UInt8) : ((strX xs).toList == (strX ys).toList) = (encB xs == encB ys) := by
  have e : ∀ bs, (strX bs).toList = encB bs := fun bs => by unfold strX; simp
  rw [e, e]
theorem enc_inj (xs ys : List UInt8) (h1 : xs.length = 12) (h2 : ys.length = 12) : (encB xs == encB ys) = decide (cmpB xs ys = 0) := by
  rw [Bool.eq_iff_iff, beq_iff_eq, decide_eq_true_eq]
  constructor
  · intro h
    have := readB_enc xs h1
    rw [h, readB_enc ys h2] at this
    rw [this, cmpB_self]
  · intro h
    rw [cmpB_zero xs ys (by rw [h1, h2]) h]
set_option maxRecDepth 100000 in
set_option maxHeartbeats 2000000 in
theorem comp_yes (A1 A2 : Option Addr) (c1 c2 : Nat) (xs ys : List UInt8) (h1 : xs.length = 12) (h2 : ys.length = 12) (w : World) (hx : Byt w A1 xs) (hy : Byt w A2 ys) :
    Calls Try.prog 7 #[.slice A1 12 c1, .slice A2 12 c2] w fun e w' => e = .returned (.bool true) ∧ Below w.heap.size w w' := by
  have HX := Lib.hid (fun w' (b : Below w.heap.size w w') => hx.below b (Nat.le_refl _))
  have HY := Lib.hid (fun w' (b : Below w.heap.size w w') => hy.below b (Nat.le_refl _))
  have hne := cmpB_neg xs ys
  have hrg := cmpB_range xs ys
  have hl : Op.bytesLess (strX xs).toList (strX ys).toList = decide (cmpB xs ys < 0) := by rw [less_str, less_enc xs ys h1 h2]
  have he : ((strX xs).toList == (strX ys).toList) = decide (cmpB xs ys = 0) := by rw [eq_str, enc_inj xs ys h1 h2]
  obtain ⟨n, hn⟩ : ∃ n, n = cmpB xs ys := ⟨_, rfl⟩
  rw [← hn] at hne
  have HC1 := Lib.hid (fun w (a : Byt w A1 xs) (b : Byt w A2 ys) => hn ▸ xidCompare_any A1 A2 c1 c2 xs ys h1 h2 w a b)
  have HC2 := Lib.hid (fun w (a : Byt w A1 xs) (b : Byt w A2 ys) => hne ▸ xidCompare_any A2 A1 c2 c1 ys xs h2 h1 w b a)
  have HT1 := Lib.hid (fun w (a : Byt w A1 xs) => xidText_yes A1 c1 xs h1 w a)
  have HT2 := Lib.hid (fun w (a : Byt w A2 ys) => xidText_yes A2 c2 ys h2 w a)
  have HC3 := Lib.hid (fun w (a : Byt w A1 xs) (b : Byt w A2 ys) => hn ▸ compare_any A1 A2 12 c1 c2 xs ys h1 h2 (by omega) w a b)
  rw [← hn] at hl he hrg
  obtain ⟨X, hX⟩ : ∃ X, X = strX xs := ⟨_, rfl⟩
  obtain ⟨Y, hY⟩ : ∃ Y, Y = strX ys := ⟨_, rfl⟩
  rw [← hX] at hl he HT1
  rw [← hY] at hl he HT2
  clear h1 h2 hx hy hne hn hX hY
  rcases hrg with rfl | rfl | rfl
  all_goals
    first | replace hl := hl.trans (show _ = true by decide) | replace hl := hl.trans (show _ = false by decide)
    first | replace he := he.trans (show _ = true by decide) | replace he := he.trans (show _ = false by decide)
    go_enter Try.func7, Try.ntmps7
    go_wp2_with fail
    refine (HC1.out w (HX.out w (Below.refl _ _)) (HY.out w (Below.refl _ _))).mono ?_
    rintro e w1 ⟨rfl, b1⟩
    have B1 := Lib.hid b1
    clear b1
    go_wp2_with fail
    refine (HC2.out w1 (HX.out w1 B1.out) (HY.out w1 B1.out)).mono ?_
    rintro e w2 ⟨rfl, b2⟩
    have B2 := Lib.hid (B1.out.trans (b2.mono B1.out.size))
    clear b2
    go_wp2_with fail
    refine (HT1.out w2 (HX.out w2 B2.out)).mono ?_
    rintro e w3 ⟨rfl, b3⟩
    have B3 := Lib.hid (B2.out.trans (b3.mono B2.out.size))
    clear b3
    go_wp2_with fail
    refine (HT2.out w3 (HY.out w3 B3.out)).mono ?_
    rintro e w4 ⟨rfl, b4⟩
    have B4 := Lib.hid (B3.out.trans (b4.mono B3.out.size))
    clear b4
    go_wp2_with fail
    refine (HC3.out w4 (HX.out w4 B4.out) (HY.out w4 B4.out)).mono ?_
    intro e w5 h5
    obtain ⟨rfl, b5⟩ := h5.below
    have B5 := Lib.hid (B4.out.trans (b5.mono B4.out.size))
    clear h5 b5
    go_wp2
    go_ret
    exact ⟨rfl, B5.out⟩
set_option maxRecDepth 100000 in
theorem comp_no (A1 A2 : Option Addr) (n m c1 c2 : Nat) (h : n ≠ 12 ∨ m ≠ 12) (w : World) :
    Calls Try.prog 7 #[.slice A1 n c1, .slice A2 m c2] w fun e w' => e = .returned (.bool true) ∧ Below w.heap.size w w' := by
  by_cases h1 : (2147483647 : Int) < (n : Int)
  · clear h
    go_enter Try.func7, Try.ntmps7
    go_wp2
    go_ret
    exact ⟨rfl, Below.refl _ _⟩
  · have d1 : decide ((2147483647 : Int) < (n : Int)) = false := by simp; omega
    by_cases h2 : (2147483647 : Int) < (m : Int)
    · clear h
      go_enter Try.func7, Try.ntmps7
      go_wp2
      go_ret
      exact ⟨rfl, Below.refl _ _⟩
    · have d2 : decide ((2147483647 : Int) < (m : Int)) = false := by simp; omega
      by_cases h3 : n = 12
      · subst h3
        have t1 : ((m : Int) != 12) = true := by rw [bne_iff_ne]; omega
        clear h
        go_enter Try.func7, Try.ntmps7
        go_wp2
        go_ret
        exact ⟨rfl, Below.refl _ _⟩
      · have t1 : ((n : Int) != 12) = true := by rw [bne_iff_ne]; omega
        clear h
        go_enter Try.func7, Try.ntmps7
        go_wp2
        go_ret
        exact ⟨rfl, Below.refl _ _⟩
theorem walk_FnXidCompare (a0 : Option Addr) (len0 cap0 : Nat) (z0 : List Int) (a1 : Option Addr) (len1 cap1 : Nat) (z1 : List Int) (w : World) (w0 : IsRow .u8 w a0 len0 cap0 z0) (w1 : IsRow .u8 w a1 len1 cap1 z1) :
    Calls Try.prog 7 #[.slice a0 len0 cap0, .slice a1 len1 cap1] w fun e w' => e = .returned (.bool true) ∧ Below w.heap.size w w' := by
  obtain ⟨xs, h1, h2, h3, h4⟩ := bytes_of_row w0
  obtain ⟨ys, k1, k2, k3, k4⟩ := bytes_of_row w1
  by_cases h : len0 ≠ 12 ∨ len1 ≠ 12
  · exact comp_no a0 a1 len0 len1 cap0 cap1 h w
  · obtain rfl : len0 = 12 := by omega
    obtain rfl : len1 = 12 := by omega
    exact comp_yes a0 a1 cap0 cap1 xs ys h1 k1 w h2 k2
end Go.Proofs.Ytppcpidlnpencaa
