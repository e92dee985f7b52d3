/-
  The thin package's UuidRandom, and the walk of FnUuidRandom.
-/
import Derived.Test.YtbojjpgekbljfaaNewV4
import Derived.Test.YtbojjpgekbljfaaCmp
import Derived.Test.YtbojjpgekbljfaaRow
namespace Go.Proofs.Ytbojjpgekbljfaa
open Go.RowKit
set_option linter.unusedVariables false
def wor0 : List Value := [.int .i64 0, .int .i64 0, .slice none 0 0]
theorem world_build0 (w : World) : (Instr.build 51 #[]).run Try.prog w = .ok (.agg wor0.toArray) w := by kernel_rfl
theorem run_mk16 (u : World) : (Instr.makeSlice 22 (.int .i64 16) (.int .i64 16)).run Try.prog u = .ok (.slice (some ⟨u.heap.size, 0, none⟩) 16 16) (u.alloc (.cells ((List.replicate 16 (0 : UInt8)).map B8).toArray 5)) := by
  have e : madeCells #[Value.int .u8 0] 16 = ((List.replicate 16 (0 : UInt8)).map B8).toArray := by kernel_rfl
  rw [← e]; exact run_make_row' 22 5 (.int .u8 0) 1 Try.underlying22 Try.info8 rfl .i64 .i64 16 (by omega) (by omega) u
set_option maxRecDepth 100000 in
theorem uuidRandom_yes (A : Option Addr) (n c : Nat) (ds : List UInt8) (hl : ds.length = n) (hn : 16 ≤ n) (hm : n ≤ 70000) (hc : A = none → c = 0) (hnc : n ≤ c) (w : World) (hb : Byt w A ds) :
    Calls Try.prog 21 #[.slice A n c] w (ToldOk (formN (ds.take 16) 4) w) := by
  have LF := Lib.hid (show (formN (ds.take 16) 4).length = 16 by rw [formN, List.length_set, List.length_set, List.length_take]; omega)
  have M := Lib.hid (fun q w' => maker_any q A n c ds hl hc hnc w w' hb)
  have V := Lib.hid (fun w' g f ep hw => newV4_yes w w' g f ep hw ds (by omega) (by omega))
  obtain ⟨R, hR⟩ : ∃ R, R = formN (ds.take 16) 4 := ⟨_, rfl⟩
  rw [← hR] at LF V ⊢
  clear hR hl hc hb
  go_enter Try.func21, Try.ntmps21
  go_wp2_with (first
    | (refine wpList_build0 rfl 51 rfl (.agg wor0.toArray) world_build0 ?_)
    | (refine wpList_boxed rfl 51 (.tmp 5) rfl (.agg wor0.toArray) wor0 (by rfl) rfl ?_))
  intro w1 h1
  have H1 := Lib.hid h1
  have B1 := Lib.hid (h1.below (Below.refl w.heap.size w) (Nat.le_refl _))
  clear h1
  go_wp2_with fail
  refine (M.out w.heap.size w1).mono ?_
  rintro e w2 ⟨g, f, rfl, hg, hf, hfg, ag, af, b2⟩
  have B2 := Lib.hid (B1.out.trans (b2.mono B1.out.size))
  have X := Lib.hid (V.out w2 g f _ _ ag af hfg B2.out (Nat.le_trans B1.out.size hg) (Nat.le_trans B1.out.size hf))
  clear hg hf hfg ag af b2
  go_wp2_with fail
  refine (X.out).mono ?_
  rintro e w3 ⟨rfl, b3⟩
  have B3 := Lib.hid b3
  clear b3
  go_wp2_with fail
  refine (told_yes R LF.out w3).mono ?_
  rintro e w4 ⟨v, rfl, ⟨g', cap, rfl, h1, h2⟩, b4⟩
  have B4 := Lib.hid (B3.out.trans (b4.mono B3.out.size))
  have G := Lib.hid (Nat.le_trans B3.out.size h1)
  have H2 := Lib.hid h2
  clear h1 h2 b4
  go_wp2
  go_ret2
  exact ⟨_, rfl, ⟨g', cap, rfl, G.out, H2.out⟩, B4.out⟩
set_option maxRecDepth 100000 in
theorem uuidRandom_no (A : Option Addr) (n c : Nat) (ds : List UInt8) (hl : ds.length = n) (hn : n < 16) (hc : A = none → c = 0) (hnc : n ≤ c) (w : World) (hb : Byt w A ds) :
    Calls Try.prog 21 #[.slice A n c] w fun e w' => e = .returned (.tuple #[.slice none 0 0, .bool false]) ∧ Below w.heap.size w w' := by
  have M := Lib.hid (fun q w' => maker_any q A n c ds hl hc hnc w w' hb)
  have V := Lib.hid (fun w' g f ep hw => newV4_no w w' g f ep hw ds (by omega) (by omega))
  clear hl hc hb
  go_enter Try.func21, Try.ntmps21
  go_wp2_with (first
    | (refine wpList_build0 rfl 51 rfl (.agg wor0.toArray) world_build0 ?_)
    | (refine wpList_boxed rfl 51 (.tmp 5) rfl (.agg wor0.toArray) wor0 (by rfl) rfl ?_))
  intro w1 h1
  have H1 := Lib.hid h1
  have B1 := Lib.hid (h1.below (Below.refl w.heap.size w) (Nat.le_refl _))
  clear h1
  go_wp2_with fail
  refine (M.out w.heap.size w1).mono ?_
  rintro e w2 ⟨g, f, rfl, hg, hf, hfg, ag, af, b2⟩
  have B2 := Lib.hid (B1.out.trans (b2.mono B1.out.size))
  have X := Lib.hid (V.out w2 g f _ _ ag af hfg B2.out (Nat.le_trans B1.out.size hg) (Nat.le_trans B1.out.size hf))
  clear hg hf hfg ag af b2
  go_wp2_with fail
  refine (X.out).mono ?_
  rintro e w3 ⟨⟨cs, x, rfl⟩, b3⟩
  have B3 := Lib.hid b3
  clear b3
  go_wp2_with fail
  refine (told_no cs _ x w3).mono ?_
  rintro e w4 ⟨rfl, b4⟩
  have B4 := Lib.hid (B3.out.trans (b4.mono B3.out.size))
  clear b4
  go_wp2
  go_ret2
  exact ⟨rfl, B4.out⟩
set_option maxRecDepth 100000 in
theorem random_law_yes (A : Option Addr) (n c : Nat) (ds : List UInt8) (hl : ds.length = n) (hn : 16 ≤ n) (hm : n ≤ 100) (hc : A = none → c = 0) (hnc : n ≤ c) (w : World) (hb : Byt w A ds) :
    Calls Try.prog 6 #[.slice A n c] w fun e w' => e = .returned (.bool true) ∧ Below w.heap.size w w' := by
  have U := Lib.hid (uuidRandom_yes A n c ds hl hn (by omega) hc hnc w hb)
  have Fm := Lib.hid (fun w' (b : Below w.heap.size w w') => form_any A n c hn ds hl 4 (by decide) hc w' (hb.below b (Nat.le_refl _)) hnc)
  have LF := Lib.hid (show (formN (ds.take 16) 4).length = 16 by rw [formN, List.length_set, List.length_set, List.length_take]; omega)
  obtain ⟨R, hR⟩ : ∃ R, R = formN (ds.take 16) 4 := ⟨_, rfl⟩
  rw [← hR] at LF U Fm
  clear hR hl hc hb
  go_enter Try.func6, Try.ntmps6
  go_wp2_with fail
  refine (U.out).mono ?_
  rintro e w1 ⟨v, rfl, ⟨g1, c1, rfl, -, h2⟩, b1⟩
  have B1 := Lib.hid b1
  have Y1 := Lib.hid h2
  clear h2 b1
  rw [LF.out]
  go_wp2_with fail
  refine (Fm.out w1 B1.out).mono ?_
  rintro e w2 ⟨v, rfl, ⟨g2, c2, rfl, -, h2⟩, b2⟩
  have B2 := Lib.hid (B1.out.trans (b2.mono B1.out.size))
  have Z1 := Lib.hid (Y1.out.below b2 (Nat.le_refl _))
  have Y2 := Lib.hid h2
  clear h2 b2
  rw [LF.out]
  go_wp2_with fail
  refine (same_any (some ⟨g1, 0, none⟩) (some ⟨g2, 0, none⟩) 16 16 c1 c2 R R LF.out LF.out (by omega) w2 Z1.out Y2.out).mono ?_
  rw [sameB_self]
  intro e w3 h
  obtain ⟨rfl, b3⟩ := h.below
  have B3 := Lib.hid (B2.out.trans (b3.mono B2.out.size))
  clear h b3
  go_wp2
  go_ret
  exact ⟨rfl, B3.out⟩
set_option maxRecDepth 100000 in
theorem random_law_no (A : Option Addr) (n c : Nat) (ds : List UInt8) (hl : ds.length = n) (hn : n < 16) (hc : A = none → c = 0) (hnc : n ≤ c) (w : World) (hb : Byt w A ds) :
    Calls Try.prog 6 #[.slice A n c] w fun e w' => e = .returned (.bool true) ∧ Below w.heap.size w w' := by
  have U := Lib.hid (uuidRandom_no A n c ds hl hn hc hnc w hb)
  have mk := run_mk16
  clear hl hc hb
  go_enter Try.func6, Try.ntmps6
  go_wp2_with fail
  refine (U.out).mono ?_
  rintro e w1 ⟨rfl, b1⟩
  have B1 := Lib.hid b1
  have NB := Lib.hid (NewB.alloc w1 5 ((List.replicate 16 (0 : UInt8)).map B8))
  clear b1
  go_wp2_with fail
  refine (uuidRandom_yes (some ⟨w1.heap.size, 0, none⟩) 16 16 (List.replicate 16 0) (by simp) (by omega) (by omega) (by simp) (by omega) _ NB.out.at_.byt).mono ?_
  rintro e w2 ⟨v, rfl, -, b2⟩
  have B2 := Lib.hid ((NB.out.below B1.out B1.out.size).trans (b2.mono (by have := NB.out.size; have := B1.out.size; omega)))
  clear b2
  go_wp2
  go_ret
  exact ⟨rfl, B2.out⟩
set_option maxRecDepth 100000 in
theorem random_law_big (A : Option Addr) (n c : Nat) (hn : ¬ n ≤ 100) (w : World) :
    Calls Try.prog 6 #[.slice A n c] w fun e w' => e = .returned (.bool true) ∧ Below w.heap.size w w' := by
  go_enter Try.func6, Try.ntmps6
  go_wp2
  all_goals (first | (exfalso; omega) | (go_ret; exact ⟨rfl, Below.refl _ _⟩))
theorem walk_FnUuidRandom (a0 : Option Addr) (len0 cap0 : Nat) (z0 : List Int) (w : World) (w0 : IsRow .u8 w a0 len0 cap0 z0) :
    Calls Try.prog 6 #[.slice a0 len0 cap0] w fun e w' => e = .returned (.bool true) ∧ Below w.heap.size w w' := by
  obtain ⟨xs, hx, hxb, hxc, hxn⟩ := bytes_of_row w0
  by_cases hs : len0 ≤ 100
  · by_cases h0 : len0 < 16
    · exact random_law_no a0 len0 cap0 xs hx h0 hxc hxn w hxb
    · exact random_law_yes a0 len0 cap0 xs hx (by omega) hs hxc hxn w hxb
  · exact random_law_big a0 len0 cap0 hs w
end Go.Proofs.Ytbojjpgekbljfaa
