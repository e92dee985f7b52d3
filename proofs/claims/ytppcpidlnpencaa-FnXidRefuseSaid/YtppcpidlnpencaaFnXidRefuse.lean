/-
  The walk of FnXidRefuse.
-/
import Derived.Test.YtppcpidlnpencaaRound
import Derived.Test.YtppcpidlnpencaaTextNo
import Derived.Test.YtppcpidlnpencaaRow
namespace Go.Proofs.Ytppcpidlnpencaa
open Go.RowKit
set_option linter.unusedVariables false
def nuls : ByteArray := ⟨#[48, 48, 48, 48, 48, 48, 48, 48, 48, 48, 48, 48, 48, 48, 48, 48, 48, 48, 48, 48]⟩
theorem nuls_ok : readOk nuls.data.toList = true := by decide +kernel
def anyV (ok : Bool) (w w' : World) (e : Ending) : Prop := (∃ v, e = .returned (.tuple #[v, .bool ok])) ∧ Below w.heap.size w w'
theorem readAny (s : ByteArray) (ok : Bool) (h : readOk s.data.toList = ok) (w : World) : Calls Try.prog 14 #[.string s] w fun e w' => anyV ok w w' e := by
  refine (xidRead_any s w).mono fun e w' h' => ?_
  cases ok with
  | true => obtain ⟨⟨v, rfl, -⟩, b⟩ := h'.1 h; exact ⟨⟨v, rfl⟩, b⟩
  | false => obtain ⟨rfl, b⟩ := h'.2 h; exact ⟨⟨_, rfl⟩, b⟩
theorem textAny (A : Option Addr) (n c : Nat) (bs : List UInt8) (hl : bs.length = n) (w : World) (hb : Byt w A bs) (is : Bool) (hi : is = decide (n = 12)) :
    Calls Try.prog 21 #[.slice A n c] w fun e w' => (∃ x y, e = .returned (.tuple #[x, y, .bool is])) ∧ Below w.heap.size w w' := by
  by_cases h : n = 12
  · subst h
    rw [hi]
    exact (xidText_yes A c bs hl w hb).mono fun e w' ⟨h1, h2⟩ => ⟨⟨_, _, h1⟩, h2⟩
  · rw [hi, decide_eq_false h]
    exact (xidText_no A n c h w).mono fun e w' ⟨h1, h2⟩ => ⟨⟨_, _, h1⟩, h2⟩
theorem eq12 (n : Nat) (is : Bool) (h : is = decide (n = 12)) : ((n : Int) == 12) = is := by
  rw [h, Bool.eq_iff_iff]; simp; omega
set_option maxRecDepth 100000 in
set_option maxHeartbeats 1000000 in
theorem refuse_small (s : ByteArray) (m : Nat) (hm : s.size = m) (hs : m ≤ 100) (A : Option Addr) (n c : Nat) (hn : n ≤ 100) (bs : List UInt8) (hbs : bs.length = n) (w : World) (hb : Byt w A bs) :
    Calls Try.prog 8 #[.string s, .slice A n c] w fun e w' => e = .returned (.bool true) ∧ Below w.heap.size w w' := by
  have HX := Lib.hid (fun w' (b : Below w.heap.size w w') => hb.below b (Nat.le_refl _))
  obtain ⟨ok, hok⟩ : ∃ ok, ok = readOk s.data.toList := ⟨_, rfl⟩
  have HR := Lib.hid (fun w => readAny s ok hok.symm w)
  obtain ⟨is, his⟩ : ∃ is, is = decide (n = 12) := ⟨_, rfl⟩
  have HT := Lib.hid (fun w (h : Byt w A bs) => textAny A n c bs hbs w h is his)
  have t1 := eq12 n is his
  have HXI := Lib.hid (fun h : ok = true => show xidsB s = true from xidsB_read s.data.toList (hok ▸ h))
  have HSZ := Lib.hid (show s.size ≤ 1000 by omega)
  have p1 : (n : Int) ≤ 100 := by omega
  have p2 : (m : Int) ≤ 100 := by omega
  clear hb hbs hok his
  have d1 : decide ((2147483647 : Int) < (m : Int)) = false := by simp; omega
  have d2 : decide ((2147483647 : Int) < (n : Int)) = false := by simp; omega
  have d3 : decide ((100 : Int) < (m : Int)) = false := by simp; omega
  have d4 : decide ((100 : Int) < (n : Int)) = false := by simp; omega
  go_enter Try.func8, Try.ntmps8
  go_wp2_with fail
  refine (HR.out w).mono ?_
  rintro e w1 ⟨⟨v, rfl⟩, b1⟩
  have B1 := Lib.hid b1
  clear b1
  go_wp2_with fail
  refine (HT.out w1 (HX.out w1 B1.out)).mono ?_
  rintro e w2 ⟨⟨x, y, rfl⟩, b2⟩
  have B2 := Lib.hid (B1.out.trans (b2.mono B1.out.size))
  clear b2
  go_wp2_with fail
  refine (readAny nuls true nuls_ok w2).mono ?_
  rintro e w3 ⟨⟨u, rfl⟩, b3⟩
  have B3 := Lib.hid (B2.out.trans (b3.mono B2.out.size))
  clear b3
  cases ok with
  | true =>
    have HI := Lib.hid (HXI.out rfl)
    go_wp2_with fail
    refine (xids_any s HSZ.out w3).mono ?_
    rw [HI.out]
    rintro e w4 ⟨rfl, rfl⟩
    go_wp2
    go_ret
    exact ⟨rfl, B3.out⟩
  | false =>
    go_wp2
    go_ret
    exact ⟨rfl, B3.out⟩
set_option maxRecDepth 100000 in
theorem refuse_long (s : ByteArray) (m : Nat) (hm : s.size = m) (A : Option Addr) (n c : Nat) (h : 100 < m ∨ 100 < n) (w : World) :
    Calls Try.prog 8 #[.string s, .slice A n c] w fun e w' => e = .returned (.bool true) ∧ Below w.heap.size w w' := by
  by_cases h1 : (2147483647 : Int) < (m : Int)
  · clear h
    go_enter Try.func8, Try.ntmps8
    go_wp2
    go_ret
    exact ⟨rfl, Below.refl _ _⟩
  · have d1 : decide ((2147483647 : Int) < (m : Int)) = false := by simp; omega
    by_cases h2 : (2147483647 : Int) < (n : Int)
    · clear h
      go_enter Try.func8, Try.ntmps8
      go_wp2
      go_ret
      exact ⟨rfl, Below.refl _ _⟩
    · have d2 : decide ((2147483647 : Int) < (n : Int)) = false := by simp; omega
      by_cases h3 : (100 : Int) < (m : Int)
      · clear h
        go_enter Try.func8, Try.ntmps8
        go_wp2
        go_ret
        exact ⟨rfl, Below.refl _ _⟩
      · have d3 : decide ((100 : Int) < (m : Int)) = false := by simp; omega
        have h4 : (100 : Int) < (n : Int) := by omega
        clear h
        go_enter Try.func8, Try.ntmps8
        go_wp2
        go_ret
        exact ⟨rfl, Below.refl _ _⟩
theorem walk_FnXidRefuse (a0 : ByteArray) (a1 : Option Addr) (len1 cap1 : Nat) (z1 : List Int) (w : World) (w0 : a0.size ≤ maxLen) (w1 : IsRow .u8 w a1 len1 cap1 z1) :
    Calls Try.prog 8 #[.string a0, .slice a1 len1 cap1] w fun e w' => e = .returned (.bool true) ∧ Below w.heap.size w w' := by
  obtain ⟨bs, h1, h2, h3, h4⟩ := bytes_of_row w1
  by_cases h : 100 < a0.size ∨ 100 < len1
  · exact refuse_long a0 _ rfl a1 len1 cap1 h w
  · exact refuse_small a0 _ rfl (by omega) a1 len1 cap1 (by omega) bs h1 w h2
end Go.Proofs.Ytppcpidlnpencaa
