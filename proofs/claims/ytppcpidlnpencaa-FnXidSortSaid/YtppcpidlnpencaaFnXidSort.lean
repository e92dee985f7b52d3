/-
  The walk of FnXidSort.
-/
import Derived.Test.YtppcpidlnpencaaSort7
import Derived.Test.YtppcpidlnpencaaLst
namespace Go.Proofs.Ytppcpidlnpencaa
open Go.RowKit
set_option linter.unusedVariables false
def RetTrue (w : World) (e : Ending) (w' : World) : Prop := e = .returned (.bool true) ∧ Below w.heap.size w w'
set_option maxRecDepth 100000 in
set_option maxHeartbeats 1000000 in
theorem xidSort_main (Ls : List (List UInt8)) (n : Nat) (hl : Ls.length = n) (hn : n ≤ maxLen) (A : Option Addr) (c : Nat) (w : World) (hT : LstB w A Ls) :
    Calls Try.prog 10 #[.slice A n c] w (RetTrue w) := by
  have HT := Lib.hid hT
  have HF := Lib.hid (fits_any Ls n hl hn A c w hT)
  have HL := Lib.hid hl
  clear hl hT
  go_enter Try.func10, Try.ntmps10
  go_wp2_with fail
  refine (HF.out).mono ?_
  rintro e w' ⟨rfl, b, rfl, hb⟩
  cases b with
  | false =>
    clear hb
    go_wp2
    go_ret
    exact ⟨rfl, Below.refl _ _⟩
  | true =>
    have HN := Lib.hid (hb rfl)
    clear hb
    go_wp2_with fail
    refine (sized_any Ls n HL.out HN.out A c _ HT.out).mono ?_
    rintro e w' ⟨rfl, b, rfl, hb⟩
    cases b with
    | false =>
      clear hb
      go_wp2
      go_ret
      exact ⟨rfl, Below.refl _ _⟩
    | true =>
      have H12 := Lib.hid (hb rfl).2
      have HN12 := Lib.hid (hb rfl).1
      clear hb
      go_wp2_with fail
      refine (xidSort_any Ls n HL.out HN12.out H12.out A c _ HT.out).mono ?_
      rintro e w1 ⟨v1, rfl, r1, b1⟩
      have R1 := Lib.hid r1
      have B1 := Lib.hid b1
      clear r1 b1
      go_wp2_with fail
      refine (sorted_any Ls n HL.out HN12.out H12.out A c w1 (HT.out.below B1.out (Nat.le_refl _))).mono ?_
      rintro e w2 ⟨v2, rfl, r2, b2⟩
      have R2 := Lib.hid r2
      have R1' := Lib.hid (R1.out.below b2)
      have B2 := Lib.hid (B1.out.trans (b2.mono B1.out.size))
      clear r2 b2
      go_wp2_with fail
      refine (sameLists_any _ _ v1 v2 n (by have := HN12.out; omega) (sortB Ls) (sortB_12 H12.out) w2 R1'.out R2.out).mono ?_
      rintro e w3 ⟨rfl, b3⟩
      have B3 := Lib.hid (B2.out.trans (b3.mono B2.out.size))
      clear b3
      go_wp2
      go_ret
      exact ⟨rfl, B3.out⟩
theorem walk_FnXidSort (a0 : Option Addr) (len0 cap0 : Nat) (w : World) (w0 : ∃ Ls : List (List UInt8), Ls.length = len0 ∧ len0 ≤ maxLen ∧ LstB w a0 Ls) :
    Calls Try.prog 10 #[.slice a0 len0 cap0] w fun e w' => e = .returned (.bool true) ∧ Below w.heap.size w w' := by
  obtain ⟨Ls, h1, h2, h3⟩ := w0
  exact xidSort_main Ls len0 h1 h2 a0 cap0 w h3
end Go.Proofs.Ytppcpidlnpencaa
