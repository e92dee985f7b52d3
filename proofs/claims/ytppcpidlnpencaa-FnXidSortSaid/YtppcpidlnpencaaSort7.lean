/-
  zzFits1, Sized, SameLists.
-/
import Derived.Test.YtppcpidlnpencaaSort6
import Derived.IntWalk
namespace Go.Proofs.Ytppcpidlnpencaa
open Go.RowKit
set_option linter.unusedVariables false
theorem LstB.cell {w : World} {A : Option Addr} {Ls : List (List UInt8)} (h : LstB w A Ls) {k : Nat} (hk : k < Ls.length) : ∃ b off, A = some ⟨b, off, none⟩ ∧ ∃ A' c, w.cell? ⟨b, off + k, none⟩ = some (.slice A' (Ls.getD k []).length c) := by
  obtain ⟨b, off, rfl, -, hc⟩ := h (by omega)
  have e : Ls[k]? = some (Ls.getD k []) := by simp [List.getD, hk]
  obtain ⟨A', c, h1, -⟩ := hc k _ e
  exact ⟨b, off, rfl, A', c, h1⟩
def FitsPost (n : Nat) (w : World) (e : Ending) (w' : World) : Prop := w' = w ∧ ∃ b, e = .returned (.bool b) ∧ (b = true → n ≤ 2147483647)
def SizedPost (Ls : List (List UInt8)) (n : Nat) (w : World) (e : Ending) (w' : World) : Prop := w' = w ∧ ∃ b, e = .returned (.bool b) ∧ (b = true → n ≤ 12 ∧ ∀ L ∈ Ls, L.length = 12)
set_option maxRecDepth 100000 in
theorem fits_any (Ls : List (List UInt8)) (n : Nat) (hl : Ls.length = n) (hn : n ≤ maxLen) (A : Option Addr) (c : Nat) (w : World) (hT : LstB w A Ls) :
    Calls Try.prog 24 #[.slice A n c] w (FitsPost n w) := by
  have HL := Lib.hid hl
  have HT := Lib.hid hT
  clear hl hT
  simp only [maxLen] at hn
  go_enter Try.func24, Try.ntmps24
  by_cases hb : n ≤ 2147483647
  · have q0 : ¬ ((2147483647 : Int) < (n : Int)) := by omega
    have q0' : decide ((2147483647 : Int) < (n : Int)) = false := decide_eq_false q0
    go_wp2
    clear q0'
    go_loop [10] (fun i => ∃ k : Nat, k ≤ n ∧ i = .int .i64 k) (fun i => n - (intOf i).toNat)
    case atStart => exact ⟨0, by omega, rfl⟩
    case round =>
      obtain ⟨k, hk, rfl⟩ := hrel
      by_cases hlt : k < n
      · obtain ⟨b, off, hTe, A', c', cx⟩ := HT.out.cell (k := k) (by rw [HL.out]; exact hlt)
        subst hTe
        obtain ⟨l, hl⟩ : ∃ l, l = (Ls.getD k []).length := ⟨_, rfl⟩
        rw [← hl] at cx
        have q1 : (k : Int) < (n : Int) := by omega
        clear hl
        by_cases h2 : (2147483647 : Int) < (l : Int)
        · have t2 : decide ((2147483647 : Int) < (l : Int)) = true := decide_eq_true h2
          go_wp2
          go_ret
          exact ⟨rfl, _, rfl, fun h => by cases h⟩
        · have t2 : decide ((2147483647 : Int) < (l : Int)) = false := decide_eq_false h2
          go_wp2
          go_round
          case rel => exact ⟨k + 1, by omega, by go_num⟩
          case measure => simp [intOf]; omega
      · go_wp2
        go_ret
        exact ⟨rfl, _, rfl, fun _ => hb⟩
  · have q0 : ((2147483647 : Int) < (n : Int)) := by omega
    have q0' : decide ((2147483647 : Int) < (n : Int)) = true := decide_eq_true q0
    go_wp2
    go_ret
    exact ⟨rfl, _, rfl, fun h => by cases h⟩
set_option maxRecDepth 100000 in
theorem sized_any (Ls : List (List UInt8)) (n : Nat) (hl : Ls.length = n) (hn : n ≤ 2147483647) (A : Option Addr) (c : Nat) (w : World) (hT : LstB w A Ls) :
    Calls Try.prog 25 #[.slice A n c, .int .i64 12] w (SizedPost Ls n w) := by
  have HL := Lib.hid hl
  have HT := Lib.hid hT
  clear hl hT
  go_enter Try.func25, Try.ntmps25
  go_wp2
  go_loop [9] (fun i => ∃ k : Nat, k ≤ n ∧ i = .int .i64 k ∧ ∀ j, j < k → (Ls.getD j []).length = 12) (fun i => n - (intOf i).toNat)
  case atStart => exact ⟨0, by omega, rfl, fun j hj => by omega⟩
  case round =>
    obtain ⟨k, hk, rfl, hall⟩ := hrel
    have HA := Lib.hid hall
    clear hall
    by_cases hlt : k < n
    · obtain ⟨b, off, hTe, A', c', cx⟩ := HT.out.cell (k := k) (by rw [HL.out]; exact hlt)
      subst hTe
      obtain ⟨l, hl⟩ : ∃ l, l = (Ls.getD k []).length := ⟨_, rfl⟩
      rw [← hl] at cx
      have q1 : (k : Int) < (n : Int) := by omega
      have HLL := Lib.hid hl
      clear hl
      by_cases h2 : l = 12
      · have H2 := Lib.hid (show (Ls.getD k []).length = 12 by rw [← HLL.out, h2])
        subst h2
        go_wp2
        go_round
        case rel => exact ⟨k + 1, by omega, by go_num, fun j hj => by
          rcases Nat.lt_or_ge j k with h | h
          · exact HA.out j h
          · obtain rfl : j = k := by omega
            exact H2.out⟩
        case measure => simp [intOf]; omega
      · have t2 : ((l : Int) != 12) = true := by rw [bne_iff_ne]; omega
        go_wp2
        go_ret
        exact ⟨rfl, _, rfl, fun h => by cases h⟩
    · obtain rfl : k = n := by omega
      have HALL := Lib.hid (show ∀ L ∈ Ls, L.length = 12 from fun L hL => by
        obtain ⟨j, hj, rfl⟩ := List.mem_iff_getElem.1 hL
        have := HA.out j (by rw [← HL.out]; exact hj)
        rwa [show Ls.getD j [] = Ls[j] by simp [List.getD, hj]] at this)
      go_wp2
      go_ret
      exact ⟨rfl, _, rfl, fun h => ⟨by have := of_decide_eq_true h; omega, HALL.out⟩⟩
set_option maxRecDepth 100000 in
theorem sameLists_yes (b1 b2 n c1 c2 : Nat) (hn : n ≤ 100000) (base1 base2 : Nat) (Ls : List (List UInt8)) (hl : Ls.length = n) (hm' : ∀ L ∈ Ls, L.length = 12) (w : World)
    (h1 : ∀ j L, Ls[j]? = some L → ∃ u, w.cell? ⟨b1, j, none⟩ = some u ∧ InB w base1 u L) (h2 : ∀ j L, Ls[j]? = some L → ∃ u, w.cell? ⟨b2, j, none⟩ = some u ∧ InB w base2 u L) :
    Calls Try.prog 27 #[.slice (some ⟨b1, 0, none⟩) n c1, .slice (some ⟨b2, 0, none⟩) n c2] w fun e w' => e = .returned (.bool true) ∧ ∃ m, w' = w.drewN m := by
  have HL := Lib.hid hl
  have HM := Lib.hid hm'
  have H1 := Lib.hid h1
  have H2 := Lib.hid h2
  have ni : (n : Int) ≤ 100000 := by omega
  clear hl hm' h1 h2 hn
  go_enter Try.func27, Try.ntmps27
  go_wp2
  go_loopw [13] (fun i wr => ∃ k : Nat, k ≤ n ∧ i = .int .i64 k ∧ ∃ m, wr = w.drewN m) (fun i _ => n - (intOf i).toNat)
  case atStart => exact ⟨0, by omega, rfl, 0, rfl⟩
  case round =>
    obtain ⟨k, hk, rfl, mm, hwr⟩ := hrel
    have HW := Lib.hid hwr
    clear hwr
    by_cases hlt : k < n
    · have l0 : k < Ls.length := by rw [HL.out]; exact hlt
      obtain ⟨eX, lX⟩ := getD_12 HM.out l0
      obtain ⟨X, hX⟩ : ∃ X, X = Ls.getD k [] := ⟨_, rfl⟩
      rw [← hX] at eX lX
      obtain ⟨u1, d1, i1⟩ := H1.out k X eX
      obtain ⟨u2, d2, i2⟩ := H2.out k X eX
      obtain ⟨g1, p1, rfl, -, -, y1⟩ := i1.byt
      obtain ⟨g2, p2, rfl, -, -, y2⟩ := i2.byt
      rw [lX] at d1 d2
      have d1' : wr.cell? ⟨b1, k, none⟩ = some (.slice (some ⟨g1, 0, none⟩) 12 p1) := by rw [HW.out]; exact d1
      have d2' : wr.cell? ⟨b2, k, none⟩ = some (.slice (some ⟨g2, 0, none⟩) 12 p2) := by rw [HW.out]; exact d2
      have CC : Hid (∀ q, Calls Try.prog 12 #[.slice (some ⟨g1, 0, none⟩) 12 p1, .slice (some ⟨g2, 0, none⟩) 12 p2] (wr.drewN q) (SamePost true (wr.drewN q))) := Lib.hid fun q => by
        rw [HW.out, ← sameB_self X]; exact same_any _ _ 12 12 p1 p2 X X lX lX (by omega) _ ((y1.drewN mm).drewN q) ((y2.drewN mm).drewN q)
      have q2 : (k : Int) < (n : Int) := by omega
      clear d1 d2 hX eX lX i1 i2 y1 y2 l0
      go_wp2
      go_quiet ((go_at_call 12; exact Calls.quiet_of (CC.out _)))
      clear d1' d2'
      go_wp2
      go_roundw
      case rel => exact ⟨k + 1, by omega, by go_num, by rw [HW.out]; exact drewN2 _ _ _⟩
      case measure => simp [intOf]; omega
    · clear hk
      go_wp2
      go_ret
      exact ⟨rfl, mm, HW.out⟩
set_option maxRecDepth 100000 in
theorem sameLists_nil (A1 A2 : Option Addr) (c1 c2 : Nat) (w : World) : Calls Try.prog 27 #[.slice A1 0 c1, .slice A2 0 c2] w fun e w' => e = .returned (.bool true) ∧ ∃ m, w' = w.drewN m := by
  go_enter Try.func27, Try.ntmps27
  go_wp2
  refine wp_loop_rounds 1 ?_
  rw [rounds_succ]
  go_wp2
  go_ret
  exact ⟨rfl, 0, rfl⟩
theorem sameLists_any (base1 base2 : Nat) (v1 v2 : Value) (n : Nat) (hn : n ≤ 100000) (Ls : List (List UInt8)) (hm' : ∀ L ∈ Ls, L.length = 12) (w : World) (h1 : RowsB w base1 v1 n Ls) (h2 : RowsB w base2 v2 n Ls) :
    Calls Try.prog 27 #[v1, v2] w fun e w' => e = .returned (.bool true) ∧ Below w.heap.size w w' := by
  rcases Nat.eq_zero_or_pos n with h0 | h0
  · subst h0
    obtain ⟨A1, cap1, rfl⟩ := h1.slice
    obtain ⟨A2, cap2, rfl⟩ := h2.slice
    exact (sameLists_nil A1 A2 cap1 cap2 w).mono fun e w' ⟨k1, q, k2⟩ => ⟨k1, k2 ▸ below_drewN (Below.refl _ _) q⟩
  · have hl := h1.length
    obtain ⟨g1, cap1, rfl, -, k1⟩ := h1.cell h0
    obtain ⟨g2, cap2, rfl, -, k2⟩ := h2.cell h0
    exact (sameLists_yes g1 g2 n cap1 cap2 hn base1 base2 Ls hl hm' w k1 k2).mono fun e w' ⟨k1, q, k2⟩ => ⟨k1, k2 ▸ below_drewN (Below.refl _ _) q⟩
end Go.Proofs.Ytppcpidlnpencaa
