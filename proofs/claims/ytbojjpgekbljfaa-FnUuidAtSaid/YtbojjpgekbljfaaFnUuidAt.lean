/-
  The walk of FnUuidAt.
-/
import Derived.Test.YtbojjpgekbljfaaAtLaw
import Derived.Test.YtbojjpgekbljfaaTimely
import Derived.Test.YtbojjpgekbljfaaCmp
import Derived.Test.YtbojjpgekbljfaaRow
namespace Go.Proofs.Ytbojjpgekbljfaa
open Go.RowKit
set_option linter.unusedVariables false
set_option maxRecDepth 100000 in
theorem law_yes1 (sec nano : Int) (N A : Option Addr) (cN n c : Nat) (node ds : List UInt8) (hl : ds.length = n) (h16 : 16 ≤ n) (h100 : n ≤ 100) (hc : A = none → c = 0) (hnc : n ≤ c) (w : World) (hP : Pre w sec nano N node ds) (hb : Byt w A ds) :
    Calls Try.prog 8 #[.int .i64 1, .int .i64 sec, .int .i64 nano, .slice N 6 cN, .slice A n c] w fun e w' => e = .returned (.bool true) ∧ Below w.heap.size w w' := by
  have TY := Lib.hid (timely_yes sec nano hP.s0 hP.s1 hP.n0 hP.n1)
  have U1 := Lib.hid (uuidAt1 (cN := cN) hP hl hc hnc hb)
  have LD := Lib.hid (atB_length 1 sec nano node ds hP.hnl hP.d0)
  obtain ⟨p1, p2, p3⟩ := plain1 sec nano node ds hP.s0 hP.s1 hP.n0 hP.n1
  have AT := Lib.hid (show ∀ w, Calls Try.prog 12 #[.int .i64 1, .int .i64 sec, .int .i64 nano] w fun e w' => e = .returned (.int .u64 (atV 1 sec nano)) ∧ w = w' from fun w => at_any 1 sec nano (by decide) hP.s0 hP.s1 hP.n0 hP.n1 w)
  obtain ⟨D, hD⟩ : ∃ D, D = atB 1 sec nano node ds := ⟨_, rfl⟩
  obtain ⟨V, hV⟩ : ∃ V, V = atV 1 sec nano := ⟨_, rfl⟩
  rw [← hD] at U1 LD p1 p2 p3
  rw [← hV] at AT p3
  obtain ⟨x, hx⟩ : ∃ x, x = D.getD 6 0 := ⟨_, rfl⟩
  rw [← hx] at p1
  have q1 : (x.toNat : Int) / 16 = 1 := by omega
  have HX := Lib.hid hx
  have Q2 := Lib.hid p2
  have Q3 := Lib.hid p3
  clear hD hV hP hl hc hb p1 p2 p3 hx
  go_enter Try.func8, Try.ntmps8
  go_wp2_with fail
  refine (TY.out w).mono ?_
  rintro e w1 ⟨rfl, rfl⟩
  go_wp2_with fail
  refine U1.out.mono ?_
  rintro e w1 ⟨g, cap, rfl, hcap, hg, hby, b1⟩
  rw [LD.out] at hcap ⊢
  have B1 := Lib.hid b1
  have BY := Lib.hid hby
  have k6 : w1.cell? ⟨g, 6, none⟩ = some (.int .u8 (x.toNat : Int)) := by
    obtain ⟨b, off, e, -, hcell⟩ := hby (by rw [LD.out]; omega)
    injection e with e
    injection e with e1 e2
    subst e1 e2
    have h := hcell 6 (by rw [LD.out]; omega)
    rw [Nat.zero_add] at h
    rw [h, HX.out]
    simp [B8, List.getD, show 6 < D.length by rw [LD.out]; omega]
  have VA := Lib.hid (variant_one (some ⟨g, 0, none⟩) 16 cap D LD.out rfl _ rfl Q2.out w1 hby)
  have SA := Lib.hid (fun w2 (b : Below w1.heap.size w1 w2) => stamp_1 (some ⟨g, 0, none⟩) cap hcap D LD.out x HX.out.symm q1 w2 (hby.below b (Nat.le_refl _)))
  rw [Q3.out] at SA
  clear hg hby b1
  go_wp2_with fail
  refine VA.out.mono ?_
  rintro e w2 ⟨rfl, rfl⟩
  go_wp2_with fail
  refine (SA.out w2 (Below.refl _ _)).mono ?_
  rintro e w3 ⟨rfl, b3⟩
  have B3 := Lib.hid (B1.out.trans (b3.mono B1.out.size))
  clear b3
  go_wp2_with fail
  refine (AT.out w3).mono ?_
  rintro e w4 ⟨rfl, rfl⟩
  go_wp2
  go_ret
  exact ⟨rfl, B3.out⟩
set_option maxRecDepth 100000 in
theorem law_yes6 (sec nano : Int) (N A : Option Addr) (cN n c : Nat) (node ds : List UInt8) (hl : ds.length = n) (h16 : 16 ≤ n) (h100 : n ≤ 100) (hc : A = none → c = 0) (hnc : n ≤ c) (w : World) (hP : Pre w sec nano N node ds) (hb : Byt w A ds) :
    Calls Try.prog 8 #[.int .i64 6, .int .i64 sec, .int .i64 nano, .slice N 6 cN, .slice A n c] w fun e w' => e = .returned (.bool true) ∧ Below w.heap.size w w' := by
  have TY := Lib.hid (timely_yes sec nano hP.s0 hP.s1 hP.n0 hP.n1)
  have U1 := Lib.hid (uuidAt6 (cN := cN) hP hl hc hnc hb)
  have LD := Lib.hid (atB_length 6 sec nano node ds hP.hnl hP.d0)
  obtain ⟨p1, p2, p3⟩ := plain6 sec nano node ds hP.s0 hP.s1 hP.n0 hP.n1
  have AT := Lib.hid (show ∀ w, Calls Try.prog 12 #[.int .i64 6, .int .i64 sec, .int .i64 nano] w fun e w' => e = .returned (.int .u64 (atV 6 sec nano)) ∧ w = w' from fun w => at_any 6 sec nano (by decide) hP.s0 hP.s1 hP.n0 hP.n1 w)
  obtain ⟨D, hD⟩ : ∃ D, D = atB 6 sec nano node ds := ⟨_, rfl⟩
  obtain ⟨V, hV⟩ : ∃ V, V = atV 6 sec nano := ⟨_, rfl⟩
  rw [← hD] at U1 LD p1 p2 p3
  rw [← hV] at AT p3
  obtain ⟨x, hx⟩ : ∃ x, x = D.getD 6 0 := ⟨_, rfl⟩
  rw [← hx] at p1
  have q1 : (x.toNat : Int) / 16 = 6 := by omega
  have HX := Lib.hid hx
  have Q2 := Lib.hid p2
  have Q3 := Lib.hid p3
  clear hD hV hP hl hc hb p1 p2 p3 hx
  go_enter Try.func8, Try.ntmps8
  go_wp2_with fail
  refine (TY.out w).mono ?_
  rintro e w1 ⟨rfl, rfl⟩
  go_wp2_with fail
  refine U1.out.mono ?_
  rintro e w1 ⟨g, cap, rfl, hcap, hg, hby, b1⟩
  rw [LD.out] at hcap ⊢
  have B1 := Lib.hid b1
  have BY := Lib.hid hby
  have k6 : w1.cell? ⟨g, 6, none⟩ = some (.int .u8 (x.toNat : Int)) := by
    obtain ⟨b, off, e, -, hcell⟩ := hby (by rw [LD.out]; omega)
    injection e with e
    injection e with e1 e2
    subst e1 e2
    have h := hcell 6 (by rw [LD.out]; omega)
    rw [Nat.zero_add] at h
    rw [h, HX.out]
    simp [B8, List.getD, show 6 < D.length by rw [LD.out]; omega]
  have VA := Lib.hid (variant_one (some ⟨g, 0, none⟩) 16 cap D LD.out rfl _ rfl Q2.out w1 hby)
  have SA := Lib.hid (fun w2 (b : Below w1.heap.size w1 w2) => stamp_6 (some ⟨g, 0, none⟩) cap hcap D LD.out x HX.out.symm q1 w2 (hby.below b (Nat.le_refl _)))
  rw [Q3.out] at SA
  clear hg hby b1
  go_wp2_with fail
  refine VA.out.mono ?_
  rintro e w2 ⟨rfl, rfl⟩
  go_wp2_with fail
  refine (SA.out w2 (Below.refl _ _)).mono ?_
  rintro e w3 ⟨rfl, b3⟩
  have B3 := Lib.hid (B1.out.trans (b3.mono B1.out.size))
  clear b3
  go_wp2_with fail
  refine (AT.out w3).mono ?_
  rintro e w4 ⟨rfl, rfl⟩
  go_wp2
  go_ret
  exact ⟨rfl, B3.out⟩
set_option maxRecDepth 100000 in
theorem law_yes7 (sec nano : Int) (N A : Option Addr) (cN n c : Nat) (node ds : List UInt8) (hl : ds.length = n) (h16 : 16 ≤ n) (h100 : n ≤ 100) (hc : A = none → c = 0) (hnc : n ≤ c) (w : World) (hP : Pre w sec nano N node ds) (hb : Byt w A ds) :
    Calls Try.prog 8 #[.int .i64 7, .int .i64 sec, .int .i64 nano, .slice N 6 cN, .slice A n c] w fun e w' => e = .returned (.bool true) ∧ Below w.heap.size w w' := by
  have TY := Lib.hid (timely_yes sec nano hP.s0 hP.s1 hP.n0 hP.n1)
  have U1 := Lib.hid (uuidAt7 (cN := cN) hP hl hc hnc hb)
  have LD := Lib.hid (atB_length 7 sec nano node ds hP.hnl hP.d0)
  obtain ⟨p1, p2, p3⟩ := plain7 sec nano node ds hP.s0 hP.s1 hP.n0 hP.n1
  have AT := Lib.hid (show ∀ w, Calls Try.prog 12 #[.int .i64 7, .int .i64 sec, .int .i64 nano] w fun e w' => e = .returned (.int .u64 (atV 7 sec nano)) ∧ w = w' from fun w => at_seven sec nano hP.s0 hP.s1 hP.n0 hP.n1 w)
  obtain ⟨D, hD⟩ : ∃ D, D = atB 7 sec nano node ds := ⟨_, rfl⟩
  obtain ⟨V, hV⟩ : ∃ V, V = atV 7 sec nano := ⟨_, rfl⟩
  rw [← hD] at U1 LD p1 p2 p3
  rw [← hV] at AT p3
  obtain ⟨x, hx⟩ : ∃ x, x = D.getD 6 0 := ⟨_, rfl⟩
  rw [← hx] at p1
  have q1 : (x.toNat : Int) / 16 = 7 := by omega
  have HX := Lib.hid hx
  have Q2 := Lib.hid p2
  have Q3 := Lib.hid p3
  clear hD hV hP hl hc hb p1 p2 p3 hx
  go_enter Try.func8, Try.ntmps8
  go_wp2_with fail
  refine (TY.out w).mono ?_
  rintro e w1 ⟨rfl, rfl⟩
  go_wp2_with fail
  refine U1.out.mono ?_
  rintro e w1 ⟨g, cap, rfl, hcap, hg, hby, b1⟩
  rw [LD.out] at hcap ⊢
  have B1 := Lib.hid b1
  have BY := Lib.hid hby
  have k6 : w1.cell? ⟨g, 6, none⟩ = some (.int .u8 (x.toNat : Int)) := by
    obtain ⟨b, off, e, -, hcell⟩ := hby (by rw [LD.out]; omega)
    injection e with e
    injection e with e1 e2
    subst e1 e2
    have h := hcell 6 (by rw [LD.out]; omega)
    rw [Nat.zero_add] at h
    rw [h, HX.out]
    simp [B8, List.getD, show 6 < D.length by rw [LD.out]; omega]
  have VA := Lib.hid (variant_one (some ⟨g, 0, none⟩) 16 cap D LD.out rfl _ rfl Q2.out w1 hby)
  have SA := Lib.hid (fun w2 (b : Below w1.heap.size w1 w2) => stamp_7 (some ⟨g, 0, none⟩) cap hcap D LD.out x HX.out.symm q1 w2 (hby.below b (Nat.le_refl _)))
  rw [Q3.out] at SA
  clear hg hby b1
  go_wp2_with fail
  refine VA.out.mono ?_
  rintro e w2 ⟨rfl, rfl⟩
  go_wp2_with fail
  refine (SA.out w2 (Below.refl _ _)).mono ?_
  rintro e w3 ⟨rfl, b3⟩
  have B3 := Lib.hid (B1.out.trans (b3.mono B1.out.size))
  clear b3
  go_wp2_with fail
  refine (AT.out w3).mono ?_
  rintro e w4 ⟨rfl, rfl⟩
  go_wp2
  go_ret
  exact ⟨rfl, B3.out⟩
set_option maxRecDepth 100000 in
theorem law_other (v sec nano : Int) (N A : Option Addr) (cN n c : Nat) (ds : List UInt8) (h1 : (v == 1) = false) (h6 : (v == 6) = false) (h7 : (v == 7) = false) (h : 0 ≤ sec ∧ sec < 4102444800 ∧ 0 ≤ nano ∧ nano < 1000000000) (hl : ds.length = n) (h16 : 16 ≤ n) (h100 : n ≤ 100) (hc : A = none → c = 0) (hnc : n ≤ c) (w : World) (hb : Byt w A ds) :
    Calls Try.prog 8 #[.int .i64 v, .int .i64 sec, .int .i64 nano, .slice N 6 cN, .slice A n c] w fun e w' => e = .returned (.bool true) ∧ Below w.heap.size w w' := by
  have TY := Lib.hid (timely_yes sec nano h.1 h.2.1 h.2.2.1 h.2.2.2)
  have U1 := Lib.hid (uuidAt_no (N := N) (nN := 6) (cN := cN) (sec := sec) (nano := nano) h1 h6 h7 hl hc hnc hb)
  have t1 : (v != 1) = true := by simp [bne, h1]
  have t6 : (v != 6) = true := by simp [bne, h6]
  have t7 : (v != 7) = true := by simp [bne, h7]
  clear h hl hc hb
  go_enter Try.func8, Try.ntmps8
  go_wp2_with fail
  refine (TY.out w).mono ?_
  rintro e w1 ⟨rfl, rfl⟩
  go_wp2_with fail
  refine U1.out.mono ?_
  rintro e w1 ⟨rfl, b1⟩
  have B1 := Lib.hid b1
  clear b1
  go_wp2
  go_ret
  exact ⟨rfl, B1.out⟩
set_option maxRecDepth 100000 in
theorem law_untimely (v sec nano : Int) (N A : Option Addr) (nN cN n c : Nat) (h : ¬ (0 ≤ sec ∧ sec < 4102444800 ∧ 0 ≤ nano ∧ nano < 1000000000)) (hb1 : (nN : Int) ≤ 2147483647) (hb2 : (n : Int) ≤ 2147483647) (w : World) :
    Calls Try.prog 8 #[.int .i64 v, .int .i64 sec, .int .i64 nano, .slice N nN cN, .slice A n c] w fun e w' => e = .returned (.bool true) ∧ Below w.heap.size w w' := by
  have TN := Lib.hid (timely_no sec nano h)
  clear h
  go_enter Try.func8, Try.ntmps8
  go_wp2_with fail
  refine (TN.out w).mono ?_
  rintro e w1 ⟨rfl, rfl⟩
  go_wp2
  go_ret
  exact ⟨rfl, Below.refl _ _⟩
set_option maxRecDepth 100000 in
theorem law_a (v sec nano : Int) (N A : Option Addr) (nN cN n c : Nat) (h : 0 ≤ sec ∧ sec < 4102444800 ∧ 0 ≤ nano ∧ nano < 1000000000) (t : nN ≠ 6) (hb1 : (nN : Int) ≤ 2147483647) (hb2 : (n : Int) ≤ 2147483647) (w : World) :
    Calls Try.prog 8 #[.int .i64 v, .int .i64 sec, .int .i64 nano, .slice N nN cN, .slice A n c] w fun e w' => e = .returned (.bool true) ∧ Below w.heap.size w w' := by
  have TY := Lib.hid (timely_yes sec nano h.1 h.2.1 h.2.2.1 h.2.2.2)
  clear h
  have t : ((nN : Int) != 6) = true := by rw [bne_iff_ne]; omega
  go_enter Try.func8, Try.ntmps8
  go_wp2_with fail
  refine (TY.out w).mono ?_
  rintro e w1 ⟨rfl, rfl⟩
  go_wp2
  go_ret
  exact ⟨rfl, Below.refl _ _⟩
set_option maxRecDepth 100000 in
theorem law_b (v sec nano : Int) (N A : Option Addr) (nN cN n c : Nat) (h : 0 ≤ sec ∧ sec < 4102444800 ∧ 0 ≤ nano ∧ nano < 1000000000) (t : nN = 6) (t2 : n < 16) (hb1 : (nN : Int) ≤ 2147483647) (hb2 : (n : Int) ≤ 2147483647) (w : World) :
    Calls Try.prog 8 #[.int .i64 v, .int .i64 sec, .int .i64 nano, .slice N nN cN, .slice A n c] w fun e w' => e = .returned (.bool true) ∧ Below w.heap.size w w' := by
  have TY := Lib.hid (timely_yes sec nano h.1 h.2.1 h.2.2.1 h.2.2.2)
  clear h
  subst t
  go_enter Try.func8, Try.ntmps8
  go_wp2_with fail
  refine (TY.out w).mono ?_
  rintro e w1 ⟨rfl, rfl⟩
  go_wp2
  go_ret
  exact ⟨rfl, Below.refl _ _⟩
set_option maxRecDepth 100000 in
theorem law_c (v sec nano : Int) (N A : Option Addr) (nN cN n c : Nat) (h : 0 ≤ sec ∧ sec < 4102444800 ∧ 0 ≤ nano ∧ nano < 1000000000) (t : nN = 6) (t2 : 100 < n) (hb1 : (nN : Int) ≤ 2147483647) (hb2 : (n : Int) ≤ 2147483647) (w : World) :
    Calls Try.prog 8 #[.int .i64 v, .int .i64 sec, .int .i64 nano, .slice N nN cN, .slice A n c] w fun e w' => e = .returned (.bool true) ∧ Below w.heap.size w w' := by
  have TY := Lib.hid (timely_yes sec nano h.1 h.2.1 h.2.2.1 h.2.2.2)
  clear h
  subst t
  have t3 : ¬ (n : Int) < 16 := by omega
  go_enter Try.func8, Try.ntmps8
  go_wp2_with fail
  refine (TY.out w).mono ?_
  rintro e w1 ⟨rfl, rfl⟩
  go_wp2
  go_ret
  exact ⟨rfl, Below.refl _ _⟩
set_option maxRecDepth 100000 in
theorem law_big (v a0 a1 : Int) (N A : Option Addr) (nN cN n c : Nat) (h : ¬ ((nN : Int) ≤ 2147483647 ∧ (n : Int) ≤ 2147483647)) (w : World) :
    Calls Try.prog 8 #[.int .i64 v, .int .i64 a0, .int .i64 a1, .slice N nN cN, .slice A n c] w fun e w' => e = .returned (.bool true) ∧ Below w.heap.size w w' := by
  by_cases h1 : (nN : Int) ≤ 2147483647
  · have h2 : (2147483647 : Int) < (n : Int) := by omega
    clear h
    go_enter Try.func8, Try.ntmps8
    go_wp2
    go_ret
    exact ⟨rfl, Below.refl _ _⟩
  · have h2 : (2147483647 : Int) < (nN : Int) := by omega
    clear h
    go_enter Try.func8, Try.ntmps8
    go_wp2
    go_ret
    exact ⟨rfl, Below.refl _ _⟩
theorem walk_FnUuidAt (a0 a1 a2 : Int) (a3 : Option Addr) (len3 cap3 : Nat) (z3 : List Int) (a4 : Option Addr) (len4 cap4 : Nat) (z4 : List Int) (w : World) (w0 : (Lit.int .i64 a0).wf = true) (w1 : (Lit.int .i64 a1).wf = true) (w2 : (Lit.int .i64 a2).wf = true) (w3 : IsRow .u8 w a3 len3 cap3 z3) (w4 : IsRow .u8 w a4 len4 cap4 z4) :
    Calls Try.prog 8 #[.int .i64 a0, .int .i64 a1, .int .i64 a2, .slice a3 len3 cap3, .slice a4 len4 cap4] w fun e w' => e = .returned (.bool true) ∧ Below w.heap.size w w' := by
  obtain ⟨xs, hx, hxb, hxc, hxn⟩ := bytes_of_row w3
  obtain ⟨ys, hy, hyb, hyc, hyn⟩ := bytes_of_row w4
  by_cases hb : (len3 : Int) ≤ 2147483647 ∧ (len4 : Int) ≤ 2147483647
  · by_cases ht : 0 ≤ a1 ∧ a1 < 4102444800 ∧ 0 ≤ a2 ∧ a2 < 1000000000
    · by_cases h6 : len3 = 6
      · by_cases h16 : len4 < 16
        · exact law_b a0 a1 a2 a3 a4 len3 cap3 len4 cap4 ht h6 h16 hb.1 hb.2 w
        · by_cases h100 : 100 < len4
          · exact law_c a0 a1 a2 a3 a4 len3 cap3 len4 cap4 ht h6 h100 hb.1 hb.2 w
          · subst h6
            have hP : Pre w a1 a2 a3 xs ys := ⟨hxb, hx, ht.1, ht.2.1, ht.2.2.1, ht.2.2.2, by omega, by omega⟩
            by_cases v1 : a0 = 1
            · subst v1; exact law_yes1 a1 a2 a3 a4 cap3 len4 cap4 xs ys hy (by omega) (by omega) hyc hyn w hP hyb
            · by_cases v6 : a0 = 6
              · subst v6; exact law_yes6 a1 a2 a3 a4 cap3 len4 cap4 xs ys hy (by omega) (by omega) hyc hyn w hP hyb
              · by_cases v7 : a0 = 7
                · subst v7; exact law_yes7 a1 a2 a3 a4 cap3 len4 cap4 xs ys hy (by omega) (by omega) hyc hyn w hP hyb
                · exact law_other a0 a1 a2 a3 a4 cap3 len4 cap4 ys (by simpa using v1) (by simpa using v6) (by simpa using v7) ht hy (by omega) (by omega) hyc hyn w hyb
      · exact law_a a0 a1 a2 a3 a4 len3 cap3 len4 cap4 ht h6 hb.1 hb.2 w
    · exact law_untimely a0 a1 a2 a3 a4 len3 cap3 len4 cap4 ht hb.1 hb.2 w
  · exact law_big a0 a1 a2 a3 a4 len3 cap3 len4 cap4 hb w
end Go.Proofs.Ytbojjpgekbljfaa
