/-
  The thin package's clock and address.
-/
import Derived.Test.YtbojjpgekbljfaaTimeB
import Derived.Test.YtbojjpgekbljfaaCell
import Derived.StillTailTactics
namespace Go.Proofs.Ytbojjpgekbljfaa
open Go.RowKit
set_option linter.unusedVariables false
def WorB (s n : Int) (N : Option Addr) (k c : Nat) : List Value := [.int .i64 s, .int .i64 n, .slice N k c]
set_option maxRecDepth 100000 in
set_option pp.maxSteps 100000 in
set_option pp.deepTerms true in
theorem now_any (q : Nat) (s n : Int) (h1 : -12219292800 ≤ s) (h2 : s < 10000000000) (h3 : 0 ≤ n) (h4 : n < 1000000000) (N : Option Addr) (k c : Nat) (w : World) (hq : At w q 51 (WorB s n N k c)) :
    Calls Try.prog 27 #[.pointer (some ⟨q, 0, none⟩)] w fun e w' => e = .returned (.agg (TimeV s n).toArray) ∧ Below w.heap.size w w' := by
  obtain ⟨Z, hZ⟩ : ∃ Z, Z = ZeroT := ⟨_, rfl⟩
  have hz : ∀ w, (zeroValue 63).run Try.prog w = .ok (.agg Z.toArray) w := hZ ▸ Try.zeroT
  have HZ := Lib.hid (show Z.length = 3 by rw [hZ]; rfl)
  obtain ⟨T, hT⟩ : ∃ T, T = TimeV s n := ⟨_, rfl⟩
  have LT := Lib.hid (show T.length = 3 by rw [hT]; rfl)
  have T1 := Lib.hid (show ∀ v ∈ T, v.oneCell' = true from hT ▸ TimeV_one s n)
  have HTS := Lib.hid (show (Try.prog.info? 63).map (·.size) = some T.length by rw [hT]; exact Try.sizeT s n)
  have UX := Lib.hid (show ∀ w, Calls Try.prog 50 #[.int .i64 s, .int .i64 n] w fun e w' => e = .returned (.agg T.toArray) ∧ Below w.heap.size w w' from fun w => hT ▸ unix_any s n h1 h2 h3 h4 w)
  rw [← hT]
  have HQ := Lib.hid hq
  clear hZ hT hq
  go_enter Try.func27, Try.ntmps27
  go_wp2_with (refine wpList_var rfl 63 rfl (.agg Z.toArray) Z hz rfl ?_)
  intro w1 h1
  have H1 := Lib.hid h1
  have Q1 := Lib.hid (h1.keep HQ.out)
  clear h1
  have k0 : w1.cell? ⟨q, 0, none⟩ = some (.int .i64 s) := Q1.out.cell 0 (by simp [WorB])
  have k1 : w1.cell? ⟨q, 1, none⟩ = some (.int .i64 n) := Q1.out.cell 1 (by simp [WorB])
  go_wp2_with fail
  go_still_tail 8, (by kernel_rfl)
  change wpList _ _ _ _ _ w1.drew
  go_wp2_with fail
  refine (UX.out w1.drew).mono ?_
  rintro e w2 ⟨rfl, b2⟩
  have B2 := Lib.hid b2
  have A2 := Lib.hid (H1.out.at_.drew.below b2 (by have := H1.out.size; simp; omega))
  clear b2
  go_wp2_with (refine wpList_put rfl 63 (.tmp 2) (.tmp 11) rfl w.heap.size T (by rfl) (by rfl) 63 Z A2.out HTS.out (by rw [HZ.out, LT.out]) T1.out ?_)
  intro w3 h3'
  have H3 := Lib.hid h3'
  clear h3'
  go_wp2
  refine ret_cell 2 63 rfl w.heap.size 63 T _ rfl H3.out.at_ Try.underlying63 rfl HTS.out rfl ⟨rfl, ?_⟩
  have s1 := H1.out.size
  have b1 : Below w.heap.size w w1.drew := below_drewN (H1.out.below (Below.refl _ _) (Nat.le_refl _)) 1
  have b2 := b1.trans (B2.out.mono b1.size)
  exact H3.out.below b2 b2.size (Nat.le_refl _)
set_option maxRecDepth 100000 in
theorem address_any (q : Nat) (s n : Int) (N : Option Addr) (k c : Nat) (w : World) (hq : At w q 51 (WorB s n N k c)) :
    Calls Try.prog 41 #[.pointer (some ⟨q, 0, none⟩)] w fun e w' => e = .returned (.tuple #[.slice N k c, .nilIface]) ∧ w' = w := by
  have k2 : w.cell? ⟨q, 2, none⟩ = some (.slice N k c) := hq.cell 2 (by simp [WorB])
  clear hq
  go_enter Try.func41, Try.ntmps41
  go_wp2
  go_ret2
  exact ⟨rfl, rfl⟩
end Go.Proofs.Ytbojjpgekbljfaa
