/-
  spec.Rising, of lists that ascend.
-/
import Derived.Test.YtbojjpgekbljfaaList
import Derived.Test.YtbojjpgekbljfaaCmp
import Derived.IntWalk
namespace Go.Proofs.Ytbojjpgekbljfaa
open Go.RowKit
set_option linter.unusedVariables false
def Ascend (Ls : List (List UInt8)) : Prop := ∀ j A B, Ls[j]? = some A → Ls[j + 1]? = some B → cmpB A B < 0
set_option maxRecDepth 100000 in
theorem rising_yes (base : Nat) (b n cap : Nat) (hn : n ≤ 100000) (m : Nat) (hm : m ≤ 2147483647) (Ls : List (List UInt8)) (hl : Ls.length = n) (hm' : ∀ L ∈ Ls, L.length = m) (hasc : Ascend Ls) (w : World)
    (hc : ∀ j L, Ls[j]? = some L → ∃ u, w.cell? ⟨b, j, none⟩ = some u ∧ InB w base u L) :
    Calls Try.prog 23 #[.slice (some ⟨b, 0, none⟩) n cap] w fun e w' => e = .returned (.bool true) ∧ ∃ m, w' = w.drewN m := by
  have HL := Lib.hid hl
  have HM := Lib.hid hm'
  have HA := Lib.hid hasc
  have HC := Lib.hid hc
  have HB := Lib.hid hm
  have ni : (n : Int) ≤ 100000 := by omega
  clear hl hm' hasc hc hn hm
  go_enter Try.func23, Try.ntmps23
  go_wp2
  go_loopw [3] (fun i wr => ∃ k : Nat, (k + 1 ≤ n ∨ k = 0) ∧ i = .int .i64 ((k : Int) + 1) ∧ ∃ m, wr = w.drewN m) (fun i _ => n - (intOf i).toNat)
  case atStart => exact ⟨0, .inr rfl, by go_num, 0, rfl⟩
  case round =>
    obtain ⟨k, hk, rfl, mm, hwr⟩ := hrel
    have HW := Lib.hid hwr
    clear hwr
    by_cases hlt : k + 1 < n
    · have l0 : k < Ls.length := by rw [HL.out]; omega
      have l1 : k + 1 < Ls.length := by rw [HL.out]; exact hlt
      obtain ⟨X, hX⟩ : ∃ X, X = Ls[k] := ⟨_, rfl⟩
      obtain ⟨Y, hY⟩ : ∃ Y, Y = Ls[k + 1] := ⟨_, rfl⟩
      have eX : Ls[k]? = some X := by rw [hX]; simp [l0]
      have eY : Ls[k + 1]? = some Y := by rw [hY]; simp [l1]
      have hlt' := HA.out k X Y eX eY
      have lX := HM.out X (List.mem_of_getElem? eX)
      have lY := HM.out Y (List.mem_of_getElem? eY)
      obtain ⟨u1, c1, i1⟩ := HC.out k X eX
      obtain ⟨u2, c2, i2⟩ := HC.out (k + 1) Y eY
      obtain ⟨g1, p1, rfl, -, -, y1⟩ := i1.byt
      obtain ⟨g2, p2, rfl, -, -, y2⟩ := i2.byt
      rw [lX] at c1
      rw [lY] at c2
      obtain ⟨r, hr⟩ : ∃ r, r = cmpB X Y := ⟨_, rfl⟩
      have c1' : wr.cell? ⟨b, k, none⟩ = some (.slice (some ⟨g1, 0, none⟩) m p1) := by rw [HW.out]; exact c1
      have c2' : wr.cell? ⟨b, k + 1, none⟩ = some (.slice (some ⟨g2, 0, none⟩) m p2) := by rw [HW.out]; exact c2
      have CC : Hid (∀ q, Calls Try.prog 13 #[.slice (some ⟨g1, 0, none⟩) m p1, .slice (some ⟨g2, 0, none⟩) m p2] (wr.drewN q) (CmpPost r (wr.drewN q))) := Lib.hid fun q => by
        rw [hr, HW.out]; exact compare_any _ _ m p1 p2 X Y lX lY HB.out _ ((y1.drewN mm).drewN q) ((y2.drewN mm).drewN q)
      rw [← hr] at hlt'
      have t1 : ¬ (0 : Int) ≤ r := by omega
      have t2 : decide ((0 : Int) ≤ r) = false := by simpa using t1
      have q1 : (0 : Int) ≤ (k : Int) := by omega
      have q2 : (k : Int) < (n : Int) := by omega
      have q3 : (0 : Int) ≤ (k : Int) + 1 := by omega
      have q4 : (k : Int) + 1 < (n : Int) := by omega
      have q5 : IntKind.i64.wrap (k : Int) = (k : Int) := IntWalk.i64_in _ (by omega)
      have q6 : ((k : Int) + 1).toNat = k + 1 := by omega
      clear c1 c2 hX hY eX eY lX lY i1 i2 y1 y2 hr hlt' l0 l1
      go_wp2
      go_quiet ((go_at_call 13; exact Calls.quiet_of (CC.out _)))
      clear q5 q6 c1' c2' q3
      go_wp2
      go_roundw
      case rel => exact ⟨k + 1, .inl (by omega), by go_num, by rw [HW.out]; exact drewN2 _ _ _⟩
      case measure => simp [intOf]; omega
    · have t1 : ¬ ((k : Int) + 1 < (n : Int)) := by omega
      clear hk hlt
      go_wp2
      go_ret
      exact ⟨rfl, mm, HW.out⟩
set_option maxRecDepth 100000 in
theorem rising_nil (A : Option Addr) (cap : Nat) (w : World) : Calls Try.prog 23 #[.slice A 0 cap] w fun e w' => e = .returned (.bool true) ∧ ∃ m, w' = w.drewN m := by
  go_enter Try.func23, Try.ntmps23
  go_wp2
  refine wp_loop_rounds 1 ?_
  rw [rounds_succ]
  go_wp2
  go_ret
  exact ⟨rfl, 0, rfl⟩
theorem rising_any (base : Nat) (v : Value) (n : Nat) (hn : n ≤ 100000) (m : Nat) (hm : m ≤ 2147483647) (Ls : List (List UInt8)) (hm' : ∀ L ∈ Ls, L.length = m) (hasc : Ascend Ls) (w : World) (h : RowsB w base v n Ls) :
    Calls Try.prog 23 #[v] w fun e w' => e = .returned (.bool true) ∧ Below w.heap.size w w' := by
  rcases Nat.eq_zero_or_pos n with h0 | h0
  · subst h0
    obtain ⟨A, cap, rfl⟩ := h.slice
    exact (rising_nil A cap w).mono fun e w' ⟨h1, q, h2⟩ => ⟨h1, h2 ▸ below_drewN (Below.refl _ _) q⟩
  · obtain ⟨b, cap, rfl, -, hc⟩ := h.cell h0
    exact (rising_yes base b n cap hn m hm Ls h.length hm' hasc w hc).mono fun e w' ⟨h1, q, h2⟩ => ⟨h1, h2 ▸ below_drewN (Below.refl _ _) q⟩
end Go.Proofs.Ytbojjpgekbljfaa
