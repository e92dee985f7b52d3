/-
  The walk of FnStampTime.
-/
import Derived.Test.YtnofmiinbmfbnaaStampT
import Derived.Test.YtnofmiinbmfbnaaTimely
import Derived.ProofKit
namespace Go.Proofs.Ytnofmiinbmfbnaa
open Go.RowKit
set_option linter.unusedVariables false
theorem i64_of_wf (n : Int) (h : (Lit.int .i64 n).wf = true) : -9223372036854775808 ≤ n ∧ n ≤ 9223372036854775807 := by
  have h1 : IntKind.i64.min = -9223372036854775808 := rfl
  have h2 : IntKind.i64.max = 9223372036854775807 := rfl
  simp only [Lit.wf, Bool.and_eq_true, decide_eq_true_eq] at h
  omega
set_option maxRecDepth 100000 in
theorem walk_FnStampTime (a0 a1 : Int) (w : World) (w0 : (Lit.int .i64 a0).wf = true) (w1 : (Lit.int .i64 a1).wf = true) :
    Calls Try.prog 3 #[.int .i64 a0, .int .i64 a1] w fun e w' => e = .returned (.bool true) ∧ Below w.heap.size w w' := by
  by_cases h : 0 ≤ a0 ∧ a0 < 4102444800 ∧ 0 ≤ a1 ∧ a1 < 1000000000
  · obtain ⟨h1, h2, h3, h4⟩ := h
    have E1 := Lib.hid (show (a0 * 10000000 + a1 / 100 + 122192928000000000) / 10000000 - 12219292800 = a0 by omega)
    have E2 := Lib.hid (show 100 * ((a0 * 10000000 + a1 / 100 + 122192928000000000) % 10000000) = a1 / 100 * 100 by omega)
    clear w0 w1
    go_enter Try.func3, Try.ntmps3
    go_wp2_with fail
    refine (timely_yes a0 a1 h1 h2 h3 h4 w).mono ?_
    rintro e w1 ⟨rfl, rfl⟩
    go_wp2_with fail
    refine (at_any 1 a0 a1 (by decide) h1 h2 h3 h4 w).mono ?_
    rintro e w1 ⟨rfl, rfl⟩
    go_wp2_with fail
    refine (implStamp (a0 * 10000000 + a1 / 100 + 122192928000000000) a0 (a1 / 100 * 100) (by omega) (by omega) E1.out E2.out w).mono ?_
    rintro e w1 ⟨rfl, b1⟩
    have B1 := Lib.hid b1
    clear b1
    go_wp2
    go_ret
    exact ⟨rfl, B1.out⟩
  · go_enter Try.func3, Try.ntmps3
    go_wp2_with fail
    refine (timely_no a0 a1 h w).mono ?_
    rintro e w1 ⟨rfl, rfl⟩
    clear h
    go_wp2
    go_ret
    exact ⟨rfl, Below.refl _ _⟩
end Go.Proofs.Ytnofmiinbmfbnaa
