/-
  Less and Swap on a list of IDs, and the standard library's insertionSort over them.
-/
import Derived.Test.YtppcpidlnpencaaSort2
import Derived.Test.YtppcpidlnpencaaSortLaw
namespace Go.Proofs.Ytppcpidlnpencaa
open Go.RowKit
set_option linter.unusedVariables false
def IDs (w : World) (g : Nat) (Ls : List (List UInt8)) (rest : List Value) : Prop := At w g 54 (flat Ls rest)
theorem less_L (g n c : Nat) (Ls : List (List UInt8)) (rest : List Value) (hl : Ls.length = n) (h12 : ∀ L ∈ Ls, L.length = 12) (i j : Nat) (hi : i < n) (hj : j < n) (w : World) (hg : IDs w g Ls rest) :
    Calls Try.prog 99 #[.slice (some ⟨g, 0, none⟩) n c, .int .i64 (i : Int), .int .i64 (j : Int)] w fun e w' => e = .returned (.bool (decide (cmpB (Ls.getD i []) (Ls.getD j []) < 0))) ∧ IDs w' g Ls rest ∧ w.grownBy w' (some g) := by
  obtain ⟨ex, lx⟩ := getD_12 h12 (i := i) (by omega)
  obtain ⟨ey, ly⟩ := getD_12 h12 (i := j) (by omega)
  refine (sorter_less g n c i j hi hj _ _ lx ly w ?_ ?_).mono ?_
  · exact At.rangeM hg _ (by rw [List.length_map, lx]; exact flat_at Ls rest i _ h12 ex)
  · exact At.rangeM hg _ (by rw [List.length_map, ly]; exact flat_at Ls rest j _ h12 ey)
  · rintro e w' ⟨rfl, hb⟩
    exact ⟨rfl, At.below hg hb (At.lt hg), grown_of_below hb _⟩
theorem swap_L (g n c : Nat) (Ls : List (List UInt8)) (rest : List Value) (hl : Ls.length = n) (h12 : ∀ L ∈ Ls, L.length = 12) (i j : Nat) (hi : i < n) (hj : j < n) (w : World) (hg : IDs w g Ls rest) :
    Calls Try.prog 100 #[.slice (some ⟨g, 0, none⟩) n c, .int .i64 (i : Int), .int .i64 (j : Int)] w fun e w' => e = .returned (.tuple #[]) ∧ IDs w' g ((Ls.set i (Ls.getD j [])).set j (Ls.getD i [])) rest ∧ w.grownBy w' (some g) := by
  obtain ⟨ex, lx⟩ := getD_12 h12 (i := i) (by omega)
  obtain ⟨ey, ly⟩ := getD_12 h12 (i := j) (by omega)
  have hf := flat_len Ls rest h12
  refine (sorter_swap g n c i j hi hj (flat Ls rest) _ _ lx ly w hg (by omega) (flat_at Ls rest i _ h12 ex) (flat_at Ls rest j _ h12 ey)).mono ?_
  rintro e w' ⟨rfl, hp⟩
  refine ⟨rfl, ?_, hp.grown⟩
  have := hp.at_
  rw [flat_set Ls rest i _ h12 (by omega) ly, flat_set _ rest j _ (set_12 h12 i ly) (by rw [List.length_set]; omega) lx] at this
  exact this
theorem less_method (A : Option Addr) (n c : Nat) (w : World) : (method 245 93 (.slice A n c) "Less").run Try.prog w = .ok (99, .slice A n c) w := by kernel_rfl
theorem swap_method (A : Option Addr) (n c : Nat) (w : World) : (method 245 93 (.slice A n c) "Swap").run Try.prog w = .ok (100, .slice A n c) w := by kernel_rfl
theorem inn_step (k : Nat) (L : List (List UInt8)) : inn (k + 1) L = if cmpB (L.getD (k + 1) []) (L.getD k []) < 0 then inn k ((L.set (k + 1) (L.getD k [])).set k (L.getD (k + 1) [])) else L := rfl
set_option maxRecDepth 100000 in
set_option maxHeartbeats 2000000 in
theorem insertion_any (g n c : Nat) (d : List (List UInt8)) (rest : List Value) (hl : d.length = n) (h12 : ∀ L ∈ d, L.length = 12) (hn : 1 ≤ n) (hn' : n ≤ 1000000) (w : World) (hg : IDs w g d rest) :
    Calls Try.prog 64 #[.iface 93 (.slice (some ⟨g, 0, none⟩) n c), .int .i64 0, .int .i64 (n : Int)] w fun e w' => e = .returned (.tuple #[]) ∧ IDs w' g (sortB d) rest ∧ w.grownBy w' (some g) := by
  have HL := Lib.hid hl
  have H12 := Lib.hid h12
  have HG := Lib.hid hg
  clear hl h12 hg
  have hml := less_method (some ⟨g, 0, none⟩) n c
  have hms := swap_method (some ⟨g, 0, none⟩) n c
  go_enter Try.func64, Try.ntmps64
  go_wp2
  go_loopw [6] (fun vi wr => ∃ (i : Nat), vi = .int .i64 i ∧ 1 ≤ i ∧ i ≤ n ∧ IDs wr g (stage d i) rest ∧ w.grownBy wr (some g)) (fun vi _ => n - (intOf vi).toNat)
  case atStart => exact ⟨1, by go_num, by omega, hn, by rw [stage_one]; exact HG.out, (PutB.refl HG.out).grown⟩
  case round =>
    obtain ⟨i, rfl, h1, hin, hI, hgr⟩ := hrel
    have HI := Lib.hid hI
    have HGR := Lib.hid hgr
    clear hI hgr
    by_cases hlt : i < n
    · have qi : (i : Int) < (n : Int) := by omega
      have hl' : (stage d i).length = n := by rw [stage_length d i (by have := HL.out; omega)]; exact HL.out
      have h12' := stage_12 d i (by have := HL.out; omega) H12.out
      have HST := Lib.hid (stage_step d i (by have := HL.out; omega))
      obtain ⟨D, hD⟩ : ∃ D, D = stage d i := ⟨_, rfl⟩
      rw [← hD] at hl' h12' HST
      have HI' := Lib.hid (show IDs wr g D rest by rw [hD]; exact HI.out)
      have HL' := Lib.hid hl'
      have H12' := Lib.hid h12'
      clear hD HI hl' h12'
      go_wp2
      go_loopw [7] (fun vj wr2 => ∃ (j : Nat) (E : List (List UInt8)), vj = .int .i64 j ∧ j ≤ i ∧ E.length = n ∧ (∀ L ∈ E, L.length = 12) ∧ inn j E = inn i D ∧ IDs wr2 g E rest ∧ w.grownBy wr2 (some g)) (fun vj _ => (intOf vj).toNat)
      case atStart => exact ⟨i, D, rfl, Nat.le_refl _, HL'.out, H12'.out, rfl, HI'.out, HGR.out⟩
      case round =>
        obtain ⟨j, E, rfl, hji, hE, hE12, hEq, hIE, hgE⟩ := hrel
        have QE := Lib.hid hEq
        have LE := Lib.hid hE
        have E12 := Lib.hid hE12
        have GE := Lib.hid hgE
        have IE := Lib.hid hIE
        clear hE hE12 hEq hIE hgE
        have out : inn j E = E → ∀ wx, IDs wx g E rest → w.grownBy wx (some g) → ∃ i' : Nat, Value.int .i64 ((i : Int) + 1) = .int .i64 (i' : Nat) ∧ 1 ≤ i' ∧ i' ≤ n ∧ IDs wx g (stage d i') rest ∧ w.grownBy wx (some g) := fun he wx h1 h2 =>
          ⟨i + 1, by go_num, by omega, by omega, by rw [← HST.out, ← QE.out, he]; exact h1, h2⟩
        have OUT : Hid _ := Lib.hid out
        clear out
        by_cases hj0 : 0 < j
        · obtain ⟨k, rfl⟩ : ∃ k, j = k + 1 := ⟨j - 1, by omega⟩
          have HLs := Lib.hid (fun wx (h : IDs wx g E rest) => less_L g n c E rest LE.out E12.out (k + 1) k (by omega) (by omega) wx h)
          have HSw := Lib.hid (fun wx (h : IDs wx g E rest) => swap_L g n c E rest LE.out E12.out (k + 1) k (by omega) (by omega) wx h)
          have hdec := inn_step k E
          have LX := Lib.hid (getD_12 E12.out (i := k + 1) (by have := LE.out; omega)).2
          have LY := Lib.hid (getD_12 E12.out (i := k) (by have := LE.out; omega)).2
          obtain ⟨X, hX⟩ : ∃ X, X = E.getD (k + 1) [] := ⟨_, rfl⟩
          obtain ⟨Y, hY⟩ : ∃ Y, Y = E.getD k [] := ⟨_, rfl⟩
          rw [← hX, ← hY] at HLs HSw hdec
          rw [← hX] at LX
          rw [← hY] at LY
          have HD := Lib.hid hdec
          rw [show ((k + 1 : Nat) : Int) = (k : Int) + 1 by omega] at HLs HSw
          clear hdec hX hY
          by_cases hv : cmpB X Y < 0
          · rw [decide_eq_true hv] at HLs
            have HV := Lib.hid hv
            clear hv
            go_wp2_with (first
              | (go_at_call 99; refine (HLs.out _ IE.out).mono ?_; rintro e w3 ⟨rfl, i3, g3⟩; have I3 := Lib.hid i3; have G3 := Lib.hid g3; clear i3 g3)
              | (go_at_call 100; refine (HSw.out _ I3.out).mono ?_; rintro e w4 ⟨rfl, i4, g4⟩; have I4 := Lib.hid i4; have G4 := Lib.hid g4; clear i4 g4)
              | fail)
            refine ⟨⟨k, _, rfl, by omega, by rw [List.length_set, List.length_set]; exact LE.out, set_12 (set_12 E12.out _ LY.out) _ LX.out, ?_, I4.out, grown_trans' GE.out (grown_trans' G3.out G4.out)⟩, by simp [intOf]⟩
            rw [← QE.out, HD.out, if_pos HV.out]
          · rw [decide_eq_false hv] at HLs
            have HV := Lib.hid hv
            clear hv
            go_wp2_with (first
              | (go_at_call 99; refine (HLs.out _ IE.out).mono ?_; rintro e w3 ⟨rfl, i3, g3⟩; have I3 := Lib.hid i3; have G3 := Lib.hid g3; clear i3 g3)
              | fail)
            go_roundw
            case rel => exact OUT.out (by rw [HD.out, if_neg (by have := HV.out; omega)]) _ I3.out (grown_trans' GE.out G3.out)
            case measure => simp [intOf]; omega
        · have hj0' : j = 0 := by omega
          subst hj0'
          go_wp2
          go_roundw
          case rel => exact OUT.out rfl _ IE.out GE.out
          case measure => simp [intOf]; omega
    · have hni : i = n := by omega
      subst hni
      go_wp2
      go_end0
      refine ⟨rfl, ?_, HGR.out⟩
      rw [← stage_end, HL.out]
      exact HI.out
end Go.Proofs.Ytppcpidlnpencaa
