/-
  The walk of FnXidRead.
-/
import Derived.Test.YtppcpidlnpencaaRound
import Derived.Test.YtppcpidlnpencaaRow
namespace Go.Proofs.Ytppcpidlnpencaa
open Go.RowKit
set_option linter.unusedVariables false
theorem size_of_readOk (s : ByteArray) (h : readOk s.data.toList = true) : s.size = 20 := by
  have := (readOk_split _ h).1
  simpa using this
set_option maxRecDepth 100000 in
set_option maxHeartbeats 1000000 in
theorem read_yes (s : ByteArray) (hok : readOk s.data.toList = true) (w : World) :
    Calls Try.prog 4 #[.string s] w fun e w' => e = .returned (.bool true) ∧ Below w.heap.size w w' := by
  have hsz := size_of_readOk s hok
  have HR := Lib.hid (xidRead_any s w)
  have HO := Lib.hid hok
  have HL := Lib.hid (readB_length s.data.toList (readOk_split _ hok).1)
  obtain ⟨R, hR⟩ : ∃ R, R = readB s.data.toList := ⟨_, rfl⟩
  have HRR := Lib.hid hR
  rw [← hR] at HL
  have HS := Lib.hid (show xidStr R = s by rw [← strX_spec R HL.out, hR]; exact strX_readB s hok)
  clear hok hR
  go_enter Try.func4, Try.ntmps4
  go_wp2_with fail
  refine HR.out.mono ?_
  intro e w1 h1
  obtain ⟨⟨v, rfl, ⟨g, cap, hv, hg, hy⟩⟩, b1⟩ := h1.1 HO.out
  rw [← HRR.out] at hv hy
  rw [HL.out] at hv
  subst hv
  have B1 := Lib.hid b1
  have Y1 := Lib.hid hy
  clear h1 b1 hg hy
  go_wp2_with fail
  refine (specText (some ⟨g, 0, none⟩) 12 cap rfl R HL.out w1 Y1.out).mono ?_
  rw [HS.out]
  rintro e w2 ⟨rfl, b2⟩
  have B2 := Lib.hid (B1.out.trans (b2.mono B1.out.size))
  clear b2
  go_wp2
  go_ret
  exact ⟨rfl, B2.out⟩
set_option maxRecDepth 100000 in
set_option maxHeartbeats 1000000 in
theorem read_no (s : ByteArray) (n : Nat) (hn : s.size = n) (h100 : n ≤ 100) (hok : readOk s.data.toList = false) (w : World) :
    Calls Try.prog 4 #[.string s] w fun e w' => e = .returned (.bool true) ∧ Below w.heap.size w w' := by
  have HR := Lib.hid (xidRead_any s w)
  have HO := Lib.hid hok
  obtain ⟨zs, hzs⟩ : ∃ zs, zs = List.replicate 12 (0 : UInt8) := ⟨_, rfl⟩
  have LZ := Lib.hid (show zs.length = 12 by simp [hzs])
  obtain ⟨S, hS⟩ : ∃ S, S = strX zs := ⟨_, rfl⟩
  have HS := Lib.hid (show xidStr zs = S by rw [hS, strX_spec zs LZ.out])
  have HK := Lib.hid (show readOk S.data.toList = true by rw [hS]; exact readOk_enc zs LZ.out)
  have HZ := Lib.hid hzs
  obtain ⟨i, hi1, hi2, hi3, hi4⟩ := info_parts Try.info8
  have I1 := Lib.hid hi1
  have I2 := Lib.hid hi2
  have I3 := Lib.hid hi3
  have I4 := Lib.hid hi4
  clear hok hS hzs hi1 hi2 hi3 hi4
  go_enter Try.func4, Try.ntmps4
  go_wp2_with fail
  refine HR.out.mono ?_
  intro e w1 h1
  obtain ⟨rfl, b1⟩ := h1.2 HO.out
  have B1 := Lib.hid b1
  clear h1 b1
  go_wp2_with (refine wpList_make_row _ rfl (.const (.int .i64 12)) (.const (.int .i64 12)) 22 rfl 5 i (.int .u8 0) Try.underlying22 I1.out I2.out I3.out rfl .i64 .i64 12 (by rfl) (by rfl) (by rw [I4.out]; omega) (by omega) ?_)
  rw [made_zero, ← HZ.out]
  have hw := NewB.alloc w1 5 (zs.map B8)
  generalize w1.alloc (.cells (zs.map B8).toArray 5) = w2 at hw ⊢
  have H2 := Lib.hid hw
  have B2 := Lib.hid (hw.below B1.out B1.out.size)
  clear hw
  go_wp2_with fail
  refine (specText (some ⟨w1.heap.size, 0, none⟩) 12 12 rfl zs LZ.out w2 H2.out.at_.byt).mono ?_
  rw [HS.out]
  rintro e w3 ⟨rfl, b3⟩
  have B3 := Lib.hid (B2.out.trans (b3.mono B2.out.size))
  clear b3
  go_wp2_with fail
  refine (xidRead_any S w3).mono ?_
  intro e w4 h4
  obtain ⟨⟨v, rfl, -⟩, b4⟩ := h4.1 HK.out
  have B4 := Lib.hid (B3.out.trans (b4.mono B3.out.size))
  clear h4 b4
  go_wp2
  go_ret
  exact ⟨rfl, B4.out⟩
set_option maxRecDepth 100000 in
theorem read_long (s : ByteArray) (h100 : 100 < s.size) (w : World) :
    Calls Try.prog 4 #[.string s] w fun e w' => e = .returned (.bool true) ∧ Below w.heap.size w w' := by
  obtain ⟨n, hn⟩ : ∃ n, n = s.size := ⟨_, rfl⟩
  have hn' : s.size = n := hn.symm
  have t0 : (100 : Int) < (n : Int) := by omega
  clear hn h100
  by_cases h : (2147483647 : Int) < (n : Int)
  · go_enter Try.func4, Try.ntmps4
    go_wp2
    go_ret
    exact ⟨rfl, Below.refl _ _⟩
  · go_enter Try.func4, Try.ntmps4
    go_wp2
    go_ret
    exact ⟨rfl, Below.refl _ _⟩
theorem walk_FnXidRead (a0 : ByteArray) (w : World) (w0 : a0.size ≤ maxLen) :
    Calls Try.prog 4 #[.string a0] w fun e w' => e = .returned (.bool true) ∧ Below w.heap.size w w' := by
  rcases Nat.lt_or_ge 100 a0.size with h | h
  · exact read_long a0 h w
  · cases hok : readOk a0.data.toList with
    | true => exact read_yes a0 hok w
    | false => exact read_no a0 _ rfl h hok w
end Go.Proofs.Ytppcpidlnpencaa
