/-
  The walk of FnUuidNode.
-/
import Derived.Test.YtbojjpgekbljfaaAtI
import Derived.Test.YtbojjpgekbljfaaTimely
import Derived.Test.YtbojjpgekbljfaaCmp
import Derived.Test.YtbojjpgekbljfaaRow
namespace Go.Proofs.Ytbojjpgekbljfaa
open Go.RowKit
set_option linter.unusedVariables false
theorem atB_node (sec nano : Int) (node ds : List UInt8) : (atB 1 sec nano node ds).drop 10 = node := by simp [atB, v1B]
set_option maxRecDepth 100000 in
theorem node_law_yes (sec nano : Int) (N A : Option Addr) (cN n c : Nat) (node ds : List UInt8) (hl : ds.length = n) (h16 : 16 ≤ n) (h100 : n ≤ 100) (hc : A = none → c = 0) (hnc : n ≤ c) (w : World) (hP : Pre w sec nano N node ds) (hb : Byt w A ds) :
    Calls Try.prog 9 #[.int .i64 sec, .int .i64 nano, .slice N 6 cN, .slice A n c] w fun e w' => e = .returned (.bool true) ∧ Below w.heap.size w w' := by
  have TY := Lib.hid (timely_yes sec nano hP.s0 hP.s1 hP.n0 hP.n1)
  have U := Lib.hid (fun w' => uuidAt1 (w := w') (cN := cN) (sec := sec) (nano := nano) (N := N) (A := A) (node := node) (ds := ds) (c := c) (n := n))
  have U1 := Lib.hid (U.out w hP hl hc hnc hb)
  have LD := Lib.hid (atB_length 1 sec nano node ds hP.hnl hP.d0)
  have DN := Lib.hid (atB_node sec nano node ds)
  have HN := Lib.hid hP.hN
  have LN := Lib.hid hP.hnl
  obtain ⟨D, hD⟩ : ∃ D, D = atB 1 sec nano node ds := ⟨_, rfl⟩
  rw [← hD] at U1 LD DN
  clear U hD hP hl hc hb
  go_enter Try.func9, Try.ntmps9
  go_wp2_with fail
  refine (TY.out w).mono ?_
  rintro e w1 ⟨rfl, rfl⟩
  go_wp2_with fail
  refine U1.out.mono ?_
  rintro e w1 ⟨g, cap, rfl, hcap, hg, hby, b1⟩
  rw [LD.out] at hcap ⊢
  have B1 := Lib.hid b1
  have BY := Lib.hid (show Byt w1 (some ⟨g, 10, none⟩) node by
    have h := hby.drop 10
    rw [DN.out, Nat.zero_add] at h
    exact h)
  have NY := Lib.hid (HN.out.below b1 (Nat.le_refl _))
  have z1 : ¬ cap = 10 := by omega
  clear hg hby b1
  go_wp2_with fail
  refine (same_any (some ⟨g, 10, none⟩) N 6 6 (cap - 10) cN node node LN.out LN.out (by omega) w1 BY.out NY.out).mono ?_
  rw [sameB_self]
  intro e w3 h
  obtain ⟨rfl, b3⟩ := h.below
  have B3 := Lib.hid (B1.out.trans (b3.mono B1.out.size))
  clear h b3
  go_wp2
  go_ret
  exact ⟨rfl, B3.out⟩
set_option maxRecDepth 100000 in
theorem node_law_untimely (sec nano : Int) (N A : Option Addr) (nN cN n c : Nat) (h : ¬ (0 ≤ sec ∧ sec < 4102444800 ∧ 0 ≤ nano ∧ nano < 1000000000)) (hb1 : (nN : Int) ≤ 2147483647) (hb2 : (n : Int) ≤ 2147483647) (w : World) :
    Calls Try.prog 9 #[.int .i64 sec, .int .i64 nano, .slice N nN cN, .slice A n c] w fun e w' => e = .returned (.bool true) ∧ Below w.heap.size w w' := by
  have TN := Lib.hid (timely_no sec nano h)
  clear h
  go_enter Try.func9, Try.ntmps9
  go_wp2_with fail
  refine (TN.out w).mono ?_
  rintro e w1 ⟨rfl, rfl⟩
  go_wp2
  go_ret
  exact ⟨rfl, Below.refl _ _⟩
set_option maxRecDepth 100000 in
theorem node_law_a (sec nano : Int) (N A : Option Addr) (nN cN n c : Nat) (h : 0 ≤ sec ∧ sec < 4102444800 ∧ 0 ≤ nano ∧ nano < 1000000000) (t : nN ≠ 6) (hb1 : (nN : Int) ≤ 2147483647) (hb2 : (n : Int) ≤ 2147483647) (w : World) :
    Calls Try.prog 9 #[.int .i64 sec, .int .i64 nano, .slice N nN cN, .slice A n c] w fun e w' => e = .returned (.bool true) ∧ Below w.heap.size w w' := by
  have TY := Lib.hid (timely_yes sec nano h.1 h.2.1 h.2.2.1 h.2.2.2)
  clear h
  have t : ((nN : Int) != 6) = true := by rw [bne_iff_ne]; omega
  go_enter Try.func9, Try.ntmps9
  go_wp2_with fail
  refine (TY.out w).mono ?_
  rintro e w1 ⟨rfl, rfl⟩
  go_wp2
  go_ret
  exact ⟨rfl, Below.refl _ _⟩
set_option maxRecDepth 100000 in
theorem node_law_b (sec nano : Int) (N A : Option Addr) (nN cN n c : Nat) (h : 0 ≤ sec ∧ sec < 4102444800 ∧ 0 ≤ nano ∧ nano < 1000000000) (t : nN = 6) (t2 : n < 16) (hb1 : (nN : Int) ≤ 2147483647) (hb2 : (n : Int) ≤ 2147483647) (w : World) :
    Calls Try.prog 9 #[.int .i64 sec, .int .i64 nano, .slice N nN cN, .slice A n c] w fun e w' => e = .returned (.bool true) ∧ Below w.heap.size w w' := by
  have TY := Lib.hid (timely_yes sec nano h.1 h.2.1 h.2.2.1 h.2.2.2)
  clear h
  subst t
  go_enter Try.func9, Try.ntmps9
  go_wp2_with fail
  refine (TY.out w).mono ?_
  rintro e w1 ⟨rfl, rfl⟩
  go_wp2
  go_ret
  exact ⟨rfl, Below.refl _ _⟩
set_option maxRecDepth 100000 in
theorem node_law_c (sec nano : Int) (N A : Option Addr) (nN cN n c : Nat) (h : 0 ≤ sec ∧ sec < 4102444800 ∧ 0 ≤ nano ∧ nano < 1000000000) (t : nN = 6) (t2 : 100 < n) (hb1 : (nN : Int) ≤ 2147483647) (hb2 : (n : Int) ≤ 2147483647) (w : World) :
    Calls Try.prog 9 #[.int .i64 sec, .int .i64 nano, .slice N nN cN, .slice A n c] w fun e w' => e = .returned (.bool true) ∧ Below w.heap.size w w' := by
  have TY := Lib.hid (timely_yes sec nano h.1 h.2.1 h.2.2.1 h.2.2.2)
  clear h
  subst t
  have t3 : ¬ (n : Int) < 16 := by omega
  go_enter Try.func9, Try.ntmps9
  go_wp2_with fail
  refine (TY.out w).mono ?_
  rintro e w1 ⟨rfl, rfl⟩
  go_wp2
  go_ret
  exact ⟨rfl, Below.refl _ _⟩
set_option maxRecDepth 100000 in
theorem node_law_big (a0 a1 : Int) (N A : Option Addr) (nN cN n c : Nat) (h : ¬ ((nN : Int) ≤ 2147483647 ∧ (n : Int) ≤ 2147483647)) (w : World) :
    Calls Try.prog 9 #[.int .i64 a0, .int .i64 a1, .slice N nN cN, .slice A n c] w fun e w' => e = .returned (.bool true) ∧ Below w.heap.size w w' := by
  by_cases h1 : (nN : Int) ≤ 2147483647
  · have h2 : (2147483647 : Int) < (n : Int) := by omega
    clear h
    go_enter Try.func9, Try.ntmps9
    go_wp2
    go_ret
    exact ⟨rfl, Below.refl _ _⟩
  · have h2 : (2147483647 : Int) < (nN : Int) := by omega
    clear h
    go_enter Try.func9, Try.ntmps9
    go_wp2
    go_ret
    exact ⟨rfl, Below.refl _ _⟩
theorem walk_FnUuidNode (a0 a1 : Int) (a2 : Option Addr) (len2 cap2 : Nat) (z2 : List Int) (a3 : Option Addr) (len3 cap3 : Nat) (z3 : List Int) (w : World) (w0 : (Lit.int .i64 a0).wf = true) (w1 : (Lit.int .i64 a1).wf = true) (w2 : IsRow .u8 w a2 len2 cap2 z2) (w3 : IsRow .u8 w a3 len3 cap3 z3) :
    Calls Try.prog 9 #[.int .i64 a0, .int .i64 a1, .slice a2 len2 cap2, .slice a3 len3 cap3] w fun e w' => e = .returned (.bool true) ∧ Below w.heap.size w w' := by
  obtain ⟨xs, hx, hxb, hxc, hxn⟩ := bytes_of_row w2
  obtain ⟨ys, hy, hyb, hyc, hyn⟩ := bytes_of_row w3
  by_cases hb : (len2 : Int) ≤ 2147483647 ∧ (len3 : Int) ≤ 2147483647
  · by_cases ht : 0 ≤ a0 ∧ a0 < 4102444800 ∧ 0 ≤ a1 ∧ a1 < 1000000000
    · by_cases h6 : len2 = 6
      · by_cases h16 : len3 < 16
        · exact node_law_b a0 a1 a2 a3 len2 cap2 len3 cap3 ht h6 h16 hb.1 hb.2 w
        · by_cases h100 : 100 < len3
          · exact node_law_c a0 a1 a2 a3 len2 cap2 len3 cap3 ht h6 h100 hb.1 hb.2 w
          · subst h6
            exact node_law_yes a0 a1 a2 a3 cap2 len3 cap3 xs ys hy (by omega) (by omega) hyc hyn w ⟨hxb, hx, ht.1, ht.2.1, ht.2.2.1, ht.2.2.2, by omega, by omega⟩ hyb
      · exact node_law_a a0 a1 a2 a3 len2 cap2 len3 cap3 ht h6 hb.1 hb.2 w
    · exact node_law_untimely a0 a1 a2 a3 len2 cap2 len3 cap3 ht hb.1 hb.2 w
  · exact node_law_big a0 a1 a2 a3 len2 cap2 len3 cap3 hb w
end Go.Proofs.Ytbojjpgekbljfaa
