/-
  The walk of FnUuidBytes.
-/
import Derived.Test.YtnofmiinbmfbnaaText
import Derived.Test.YtnofmiinbmfbnaaCmp
import Derived.Test.YtnofmiinbmfbnaaRow
namespace Go.Proofs.Ytnofmiinbmfbnaa
open Go.RowKit
set_option linter.unusedVariables false
set_option maxRecDepth 100000 in
theorem uuidBytes_yes (A : Option Addr) (n c : Nat) (bs : List UInt8) (hn : n = 16) (hbs : bs.length = 16) (w : World) (hb : Byt w A bs) : Calls Try.prog 16 #[.slice A n c] w (ToldOk bs w) := by
  have HL := Lib.hid hbs
  have HB := Lib.hid hb
  have HN := Lib.hid hn
  clear hbs hb hn
  go_enter Try.func16, Try.ntmps16
  go_wp2_with fail
  refine (fromBytes_yes A n c bs HN.out HL.out w HB.out).mono ?_
  rintro e w1 ⟨rfl, bel1⟩
  have E1 := Lib.hid bel1
  clear bel1
  go_wp2_with fail
  refine (told_yes bs HL.out w1).mono ?_
  rintro e w2 ⟨r, rfl, hr, bel2⟩
  have HR := Lib.hid hr
  have E2 := Lib.hid bel2
  clear hr bel2
  go_wp2
  go_ret2
  obtain ⟨g, cap, rfl, hg, hby⟩ := HR.out
  have := E1.out.size
  exact ⟨_, rfl, ⟨g, cap, rfl, by omega, hby⟩, E1.out.trans (E2.out.mono E1.out.size)⟩
set_option maxRecDepth 100000 in
theorem uuidBytes_no (A : Option Addr) (n c : Nat) (hn : n ≠ 16) (w : World) : Calls Try.prog 16 #[.slice A n c] w fun e w' => e = .returned (.tuple #[.slice none 0 0, .bool false]) ∧ Below w.heap.size w w' := by
  have HN := Lib.hid hn
  clear hn
  go_enter Try.func16, Try.ntmps16
  go_wp2_with fail
  refine (fromBytes_nz A n c HN.out w).mono ?_
  rintro e w1 ⟨⟨cs, T, x, rfl, -, -⟩, bel1⟩
  have E1 := Lib.hid bel1
  clear bel1
  go_wp2_with fail
  refine (told_no cs.toArray T x w1).mono ?_
  rintro e w2 ⟨rfl, bel2⟩
  have E2 := Lib.hid bel2
  clear bel2
  go_wp2
  go_ret2
  exact ⟨rfl, E1.out.trans (E2.out.mono E1.out.size)⟩

set_option maxRecDepth 100000 in
theorem bytes_law_yes (A : Option Addr) (c : Nat) (bs : List UInt8) (hbs : bs.length = 16) (w : World) (hb : Byt w A bs) :
    Calls Try.prog 5 #[.slice A 16 c] w fun e w' => e = .returned (.bool true) ∧ Below w.heap.size w w' := by
  have HL := Lib.hid hbs
  have HB := Lib.hid hb
  clear hbs hb
  obtain ⟨S, hS⟩ : ∃ S, S = uuidStr bs := ⟨_, rfl⟩
  have HS := Lib.hid hS
  clear hS
  go_enter Try.func5, Try.ntmps5
  go_wp2_with fail
  refine (uuidBytes_yes A 16 c bs rfl HL.out w HB.out).mono ?_
  rintro e w1 ⟨r, rfl, ⟨g, cap, rfl, hg, hby⟩, bel1⟩
  have E1 := Lib.hid bel1
  have G1 := Lib.hid hby
  have B1 := Lib.hid (HB.out.below bel1 (Nat.le_refl _))
  clear hg bel1 hby
  go_wp2_with fail
  refine (uuidText_yes A c bs HL.out w1 B1.out).mono ?_
  rw [← HS.out]
  rintro e w2 ⟨rfl, bel2⟩
  have E2 := Lib.hid bel2
  clear bel2
  go_wp2_with fail
  refine (same_any (some ⟨g, 0, none⟩) A bs.length 16 cap c bs bs rfl HL.out (by have := HL.out; omega) w2 (G1.out.below E2.out (Nat.le_refl _)) (B1.out.below E2.out (Nat.le_refl _))).mono ?_
  rw [sameB_self]
  intro e w3 h
  obtain ⟨rfl, bel3⟩ := h.below
  have E3 := Lib.hid bel3
  clear h bel3
  go_wp2
  go_ret
  exact ⟨rfl, E1.out.trans ((E2.out.mono E1.out.size).trans (E3.out.mono (Nat.le_trans E1.out.size E2.out.size)))⟩

set_option maxRecDepth 100000 in
theorem bytes_law_no (A : Option Addr) (n c : Nat) (hn : n ≠ 16) (w : World) :
    Calls Try.prog 5 #[.slice A n c] w fun e w' => e = .returned (.bool true) ∧ Below w.heap.size w w' := by
  have HN := Lib.hid hn
  have t1 : ((n : Int) == 16) = false := by simp; omega
  clear hn
  by_cases h1 : (2147483647 : Int) < (n : Int)
  · go_enter Try.func5, Try.ntmps5
    go_wp2
    go_ret
    exact ⟨rfl, Below.refl _ _⟩
  by_cases h2 : (100 : Int) < (n : Int)
  · go_enter Try.func5, Try.ntmps5
    go_wp2
    go_ret
    exact ⟨rfl, Below.refl _ _⟩
  go_enter Try.func5, Try.ntmps5
  go_wp2_with fail
  refine (uuidBytes_no A n c HN.out w).mono ?_
  rintro e w1 ⟨rfl, bel1⟩
  have E1 := Lib.hid bel1
  clear bel1
  go_wp2_with fail
  refine (uuidText_no A n c HN.out w1).mono ?_
  rintro e w2 ⟨rfl, bel2⟩
  have E2 := Lib.hid bel2
  clear bel2
  go_wp2
  go_ret
  exact ⟨rfl, E1.out.trans (E2.out.mono E1.out.size)⟩

theorem walk_FnUuidBytes (a0 : Option Addr) (len0 cap0 : Nat) (z0 : List Int) (w : World) (w0 : IsRow .u8 w a0 len0 cap0 z0) :
    Calls Try.prog 5 #[.slice a0 len0 cap0] w fun e w' => e = .returned (.bool true) ∧ Below w.heap.size w w' := by
  obtain ⟨bs, h1, h2, h3, h4⟩ := bytes_of_row w0
  by_cases hn : len0 = 16
  · subst hn
    exact bytes_law_yes a0 cap0 bs h1 w h2
  · exact bytes_law_no a0 len0 cap0 hn w
end Go.Proofs.Ytnofmiinbmfbnaa
