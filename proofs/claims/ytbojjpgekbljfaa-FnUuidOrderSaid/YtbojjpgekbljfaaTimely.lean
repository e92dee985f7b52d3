/-
  spec.Timely and spec.At.
-/
import Derived.Test.YtbojjpgekbljfaaBase
namespace Go.Proofs.Ytbojjpgekbljfaa
open Go.RowKit
set_option linter.unusedVariables false
set_option maxRecDepth 100000 in
theorem timely_yes (s n : Int) (h1 : 0 ≤ s) (h2 : s < 4102444800) (h3 : 0 ≤ n) (h4 : n < 1000000000) (w : World) : Calls Try.prog 10 #[.int .i64 s, .int .i64 n] w fun e w' => e = .returned (.bool true) ∧ w = w' := by
  go_enter Try.func10, Try.ntmps10
  go_wp2
  go_ret
  exact ⟨rfl, rfl⟩
set_option maxRecDepth 100000 in
theorem timely_no (s n : Int) (h : ¬ (0 ≤ s ∧ s < 4102444800 ∧ 0 ≤ n ∧ n < 1000000000)) (w : World) : Calls Try.prog 10 #[.int .i64 s, .int .i64 n] w fun e w' => e = .returned (.bool false) ∧ w = w' := by
  have H := Lib.hid h
  clear h
  by_cases h1 : 0 ≤ s
  · by_cases h2 : s < 4102444800
    · by_cases h3 : 0 ≤ n
      · have h4 : 1000000000 ≤ n := by have := H.out; omega
        have hd : decide (n < 1000000000) = false := by simp; omega
        go_enter Try.func10, Try.ntmps10
        go_wp2
        go_ret
        exact ⟨rfl, rfl⟩
      · go_enter Try.func10, Try.ntmps10
        go_wp2
        go_ret
        exact ⟨rfl, rfl⟩
    · go_enter Try.func10, Try.ntmps10
      go_wp2
      go_ret
      exact ⟨rfl, rfl⟩
  · go_enter Try.func10, Try.ntmps10
    go_wp2
    go_ret
    exact ⟨rfl, rfl⟩
set_option maxRecDepth 100000 in
theorem at_any (v s n : Int) (hv : (v == 7) = false) (h1 : 0 ≤ s) (h2 : s < 4102444800) (h3 : 0 ≤ n) (h4 : n < 1000000000) (w : World) : Calls Try.prog 12 #[.int .i64 v, .int .i64 s, .int .i64 n] w fun e w' => e = .returned (.int .u64 (s * 10000000 + n / 100 + 122192928000000000)) ∧ w = w' := by
  go_enter Try.func12, Try.ntmps12
  go_wp2
  go_ret
  exact ⟨rfl, rfl⟩
set_option maxRecDepth 100000 in
theorem at_seven (s n : Int) (h1 : 0 ≤ s) (h2 : s < 4102444800) (h3 : 0 ≤ n) (h4 : n < 1000000000) (w : World) : Calls Try.prog 12 #[.int .i64 7, .int .i64 s, .int .i64 n] w fun e w' => e = .returned (.int .u64 ((s * 1000 + n / 1000000) * 10000 + 122192928000000000)) ∧ w = w' := by
  go_enter Try.func12, Try.ntmps12
  go_wp2
  go_ret
  exact ⟨rfl, rfl⟩
end Go.Proofs.Ytbojjpgekbljfaa
