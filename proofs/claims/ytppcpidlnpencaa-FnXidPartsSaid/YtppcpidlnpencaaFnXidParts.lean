/-
  The walk of FnXidParts.
-/
import Derived.Test.YtppcpidlnpencaaParts
import Derived.Test.YtppcpidlnpencaaCmp
import Derived.Test.YtppcpidlnpencaaRow
namespace Go.Proofs.Ytppcpidlnpencaa
open Go.RowKit
set_option linter.unusedVariables false
set_option maxRecDepth 100000 in
set_option maxHeartbeats 2000000 in
theorem parts_yes (b off c : Nat) (hc : 12 ≤ c) (b0 b1 b2 b3 b4 b5 b6 b7 b8 b9 b10 b11 : UInt8) (w : World) (hb : Byt w (some ⟨b, off, none⟩) [b0, b1, b2, b3, b4, b5, b6, b7, b8, b9, b10, b11]) :
    Calls Try.prog 6 #[.slice (some ⟨b, off, none⟩) 12 c] w fun e w' => e = .returned (.bool true) ∧ Below w.heap.size w w' := by
  have HX := Lib.hid (fun w' (h : Below w.heap.size w w') => hb.below h (Nat.le_refl _))
  have N4 := Lib.hid (fun w' (h : Below w.heap.size w w') => number_any (some ⟨b, off, none⟩) 4 c [b0, b1, b2, b3] rfl (by omega) (by omega) w' ((hb.below h (Nat.le_refl _)).take 4))
  have N2 := Lib.hid (fun w' (h : Below w.heap.size w w') => number_any (some ⟨b, off + 7, none⟩) 2 (c - 7) [b7, b8] rfl (by omega) (by omega) w' (((hb.below h (Nat.le_refl _)).drop 7).take 2))
  have N3 := Lib.hid (fun w' (h : Below w.heap.size w w') => number_any (some ⟨b, off + 9, none⟩) 3 (c - 9) [b9, b10, b11] rfl (by omega) (by omega) w' ((hb.below h (Nat.le_refl _)).drop 9))
  have Y3 := Lib.hid (fun w' (h : Below w.heap.size w w') => show Byt w' (some ⟨b, off + 4, none⟩) [b4, b5, b6] from ((hb.below h (Nat.le_refl _)).drop 4).take 3)
  have HP := Lib.hid (xidParts_any (some ⟨b, off, none⟩) c b0 b1 b2 b3 b4 b5 b6 b7 b8 b9 b10 b11 w hb)
  obtain ⟨bs, hbs⟩ : ∃ bs, bs = [b0, b1, b2, b3, b4, b5, b6, b7, b8, b9, b10, b11] := ⟨_, rfl⟩
  rw [← hbs] at HX HP
  have HL := Lib.hid (show bs.length = 12 by rw [hbs]; rfl)
  obtain ⟨n, hn⟩ : ∃ n, n = numB [b0, b1, b2, b3] := ⟨_, rfl⟩
  obtain ⟨p, hp⟩ : ∃ p, p = numB [b7, b8] := ⟨_, rfl⟩
  obtain ⟨q, hq⟩ : ∃ q, q = numB [b9, b10, b11] := ⟨_, rfl⟩
  obtain ⟨nil, hnil⟩ : ∃ nil, nil = decide (bs = z12) := ⟨_, rfl⟩
  have nlt : n < 4294967296 := hn ▸ numB_4 b0 b1 b2 b3
  have plt : p < 65536 := hp ▸ numB_2 b7 b8
  have qlt : q < 16777216 := hq ▸ numB_3 b9 b10 b11
  rw [← hn] at N4 HP
  rw [← hp] at N2 HP
  rw [← hq] at N3 HP
  rw [← hnil] at HP
  obtain ⟨ms, hms⟩ : ∃ ms, ms = [b4, b5, b6] := ⟨_, rfl⟩
  have HM := Lib.hid (show ms.length = 3 by rw [hms]; rfl)
  rw [← hms] at HP Y3
  have HN := Lib.hid hnil
  have ni : (n : Int) < 4294967296 := by omega
  have pi : (p : Int) < 65536 := by omega
  have qi : (q : Int) < 16777216 := by omega
  have ci : (12 : Int) ≤ (c : Int) := by omega
  obtain ⟨i, hi1, hi2, hi3, hi4⟩ := info_parts Try.info8
  have I1 := Lib.hid hi1
  have I2 := Lib.hid hi2
  have I3 := Lib.hid hi3
  have I4 := Lib.hid hi4
  clear hb hbs hn hp hq hnil nlt plt qlt hms hc hi1 hi2 hi3 hi4
  go_enter Try.func6, Try.ntmps6
  go_wp2_with fail
  refine HP.out.mono ?_
  rintro e w1 ⟨g, cap, rfl, hg, hy, b1⟩
  have B1 := Lib.hid b1
  have Y1 := Lib.hid hy
  clear hg hy b1
  go_wp2_with fail
  refine (N4.out w1 B1.out).mono ?_
  rintro e w2 ⟨rfl, rfl⟩
  go_wp2_with fail
  refine (same_any (some ⟨g, 0, none⟩) (some ⟨b, off + 4, none⟩) 3 3 cap (c - 4) ms ms HM.out HM.out (by omega) _ Y1.out (Y3.out _ B1.out)).mono ?_
  rw [sameB_self]
  intro e w3 h3
  obtain ⟨rfl, b3⟩ := h3.below
  have B3 := Lib.hid (B1.out.trans (b3.mono B1.out.size))
  clear h3 b3
  go_wp2_with fail
  refine (N2.out w3 B3.out).mono ?_
  rintro e w4 ⟨rfl, rfl⟩
  go_wp2_with fail
  refine (N3.out _ B3.out).mono ?_
  rintro e w5 ⟨rfl, rfl⟩
  have mk : (Instr.makeSlice 22 (.int .i64 12) (.int .i64 12)).run Try.prog w5 = .ok (.slice (some ⟨w5.heap.size, 0, none⟩) 12 12) (w5.alloc (.cells (z12.map B8).toArray 5)) := by
    rw [show z12 = List.replicate 12 (0 : UInt8) from rfl, ← made_zero]; exact run_make_row' 22 5 (.int .u8 0) 1 Try.underlying22 Try.info8 rfl .i64 .i64 12 (by omega) (by omega) w5
  have nb := NewB.alloc w5 5 (z12.map B8)
  generalize w5.alloc (.cells (z12.map B8).toArray 5) = w6 at nb mk
  have B5 := Lib.hid (nb.below B3.out B3.out.size)
  have H5 := Lib.hid nb
  clear nb
  have SS : Hid (Calls Try.prog 12 #[.slice (some ⟨b, off, none⟩) 12 c, .slice (some ⟨w5.heap.size, 0, none⟩) 12 12] w6 (SamePost nil w6)) := Lib.hid (by
    rw [HN.out]
    exact same_any (some ⟨b, off, none⟩) (some ⟨w5.heap.size, 0, none⟩) 12 12 c 12 bs z12 HL.out rfl (by omega) w6 (HX.out w6 B5.out) H5.out.at_.byt)
  go_wp2_with fail
  refine SS.out.mono ?_
  intro e w7 h6
  obtain ⟨rfl, b6'⟩ := h6.below
  have B6 := Lib.hid (B5.out.trans (b6'.mono B5.out.size))
  clear h6 b6'
  cases nil
  all_goals
    go_wp2
    go_ret
    exact ⟨rfl, B6.out⟩
set_option maxRecDepth 100000 in
theorem parts_no (A : Option Addr) (n c : Nat) (hn : n ≠ 12) (w : World) :
    Calls Try.prog 6 #[.slice A n c] w fun e w' => e = .returned (.bool true) ∧ Below w.heap.size w w' := by
  have t1 : ((n : Int) != 12) = true := by rw [bne_iff_ne]; omega
  by_cases h : (2147483647 : Int) < (n : Int)
  · go_enter Try.func6, Try.ntmps6
    go_wp2
    go_ret
    exact ⟨rfl, Below.refl _ _⟩
  · go_enter Try.func6, Try.ntmps6
    go_wp2
    go_ret
    exact ⟨rfl, Below.refl _ _⟩
theorem walk_FnXidParts (a0 : Option Addr) (len0 cap0 : Nat) (z0 : List Int) (w : World) (w0 : IsRow .u8 w a0 len0 cap0 z0) :
    Calls Try.prog 6 #[.slice a0 len0 cap0] w fun e w' => e = .returned (.bool true) ∧ Below w.heap.size w w' := by
  obtain ⟨bs, h1, h2, h3, h4⟩ := bytes_of_row w0
  by_cases hn : len0 = 12
  · subst hn
    obtain ⟨b, off, rfl, -, -⟩ := id h2 (by omega)
    obtain ⟨b0, b1, b2, b3, b4, b5, b6, b7, b8, b9, b10, b11, rfl⟩ := len12 bs h1
    exact parts_yes b off cap0 h4 b0 b1 b2 b3 b4 b5 b6 b7 b8 b9 b10 b11 w h2
  · exact parts_no a0 len0 cap0 hn w
end Go.Proofs.Ytppcpidlnpencaa
