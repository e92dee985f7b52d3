/-
  The walk of FnUuidOrder.
-/
import Derived.Test.YtbojjpgekbljfaaOrdLaw
import Derived.Test.YtbojjpgekbljfaaTimely
import Derived.Test.YtbojjpgekbljfaaRow
namespace Go.Proofs.Ytbojjpgekbljfaa
open Go.RowKit
set_option linter.unusedVariables false
theorem Pre.below {w w' : World} {sec nano : Int} {N : Option Addr} {node ds : List UInt8} (h : Pre w sec nano N node ds) (b : Below w.heap.size w w') : Pre w' sec nano N node ds :=
  ⟨h.hN.below b (Nat.le_refl _), h.hnl, h.s0, h.s1, h.n0, h.n1, h.d0, h.d1⟩
set_option maxRecDepth 100000 in
set_option maxHeartbeats 1000000 in
theorem order_lt_lt (s n s' n' : Int) (N A : Option Addr) (cN m c : Nat) (node ds : List UInt8) (hl : ds.length = m) (h16 : 16 ≤ m) (h100 : m ≤ 100) (hc : A = none → c = 0) (hnc : m ≤ c) (w : World) (hP : Pre w s n N node ds) (hP' : Pre w s' n' N node ds) (hb : Byt w A ds) (h6 : atV 6 s n < atV 6 s' n') (h7 : atV 7 s n < atV 7 s' n') :
    Calls Try.prog 3 #[.int .i64 s, .int .i64 n, .int .i64 s', .int .i64 n', .slice N 6 cN, .slice A m c] w fun e w' => e = .returned (.bool true) ∧ Below w.heap.size w w' := by
  have TY := Lib.hid (timely_yes s n hP.s0 hP.s1 hP.n0 hP.n1)
  have TY' := Lib.hid (timely_yes s' n' hP'.s0 hP'.s1 hP'.n0 hP'.n1)
  have UA6 := Lib.hid (fun w' (b : Below w.heap.size w w') => uuidAt6 (cN := cN) (hP.below b) hl hc hnc (hb.below b (Nat.le_refl _)))
  have UB6 := Lib.hid (fun w' (b : Below w.heap.size w w') => uuidAt6 (cN := cN) (hP'.below b) hl hc hnc (hb.below b (Nat.le_refl _)))
  have LA6 := Lib.hid (atB_length 6 s n node ds hP.hnl hP.d0)
  have LB6 := Lib.hid (atB_length 6 s' n' node ds hP.hnl hP.d0)
  have AA6 := Lib.hid (show ∀ w, Calls Try.prog 12 #[.int .i64 6, .int .i64 s, .int .i64 n] w fun e w' => e = .returned (.int .u64 (atV 6 s n)) ∧ w = w' from fun w => at_any 6 s n (by decide) hP.s0 hP.s1 hP.n0 hP.n1 w)
  have AB6 := Lib.hid (show ∀ w, Calls Try.prog 12 #[.int .i64 6, .int .i64 s', .int .i64 n'] w fun e w' => e = .returned (.int .u64 (atV 6 s' n')) ∧ w = w' from fun w => at_any 6 s' n' (by decide) hP'.s0 hP'.s1 hP'.n0 hP'.n1 w)
  have c6 := (ord6 s n s' n' node ds hP.s0 hP.s1 hP.n0 hP.n1 hP'.s0 hP'.s1 hP'.n0 hP'.n1 h6).1
  obtain ⟨DA6, hDA6⟩ : ∃ D, D = atB 6 s n node ds := ⟨_, rfl⟩
  obtain ⟨DB6, hDB6⟩ : ∃ D, D = atB 6 s' n' node ds := ⟨_, rfl⟩
  rw [← hDA6] at UA6 LA6 c6
  rw [← hDB6] at UB6 LB6 c6
  obtain ⟨VA6, hVA6⟩ : ∃ V, V = atV 6 s n := ⟨_, rfl⟩
  obtain ⟨VB6, hVB6⟩ : ∃ V, V = atV 6 s' n' := ⟨_, rfl⟩
  rw [← hVA6] at AA6 h6
  rw [← hVB6] at AB6 h6
  obtain ⟨C6, hC6⟩ : ∃ C, C = cmpB DA6 DB6 := ⟨_, rfl⟩
  rw [← hC6] at c6
  have HC6 := Lib.hid hC6
  have d6 : ¬ (0 : Int) ≤ C6 := by omega
  have i6 : ¬ VB6 < VA6 := by omega
  clear hDA6 hDB6 hVA6 hVB6 hC6
  have UA7 := Lib.hid (fun w' (b : Below w.heap.size w w') => uuidAt7 (cN := cN) (hP.below b) hl hc hnc (hb.below b (Nat.le_refl _)))
  have UB7 := Lib.hid (fun w' (b : Below w.heap.size w w') => uuidAt7 (cN := cN) (hP'.below b) hl hc hnc (hb.below b (Nat.le_refl _)))
  have LA7 := Lib.hid (atB_length 7 s n node ds hP.hnl hP.d0)
  have LB7 := Lib.hid (atB_length 7 s' n' node ds hP.hnl hP.d0)
  have AA7 := Lib.hid (show ∀ w, Calls Try.prog 12 #[.int .i64 7, .int .i64 s, .int .i64 n] w fun e w' => e = .returned (.int .u64 (atV 7 s n)) ∧ w = w' from fun w => at_seven s n hP.s0 hP.s1 hP.n0 hP.n1 w)
  have AB7 := Lib.hid (show ∀ w, Calls Try.prog 12 #[.int .i64 7, .int .i64 s', .int .i64 n'] w fun e w' => e = .returned (.int .u64 (atV 7 s' n')) ∧ w = w' from fun w => at_seven s' n' hP'.s0 hP'.s1 hP'.n0 hP'.n1 w)
  have c7 := (ord7 s n s' n' node ds hP.s0 hP.s1 hP.n0 hP.n1 hP'.s0 hP'.s1 hP'.n0 hP'.n1 h7).1
  obtain ⟨DA7, hDA7⟩ : ∃ D, D = atB 7 s n node ds := ⟨_, rfl⟩
  obtain ⟨DB7, hDB7⟩ : ∃ D, D = atB 7 s' n' node ds := ⟨_, rfl⟩
  rw [← hDA7] at UA7 LA7 c7
  rw [← hDB7] at UB7 LB7 c7
  obtain ⟨VA7, hVA7⟩ : ∃ V, V = atV 7 s n := ⟨_, rfl⟩
  obtain ⟨VB7, hVB7⟩ : ∃ V, V = atV 7 s' n' := ⟨_, rfl⟩
  rw [← hVA7] at AA7 h7
  rw [← hVB7] at AB7 h7
  obtain ⟨C7, hC7⟩ : ∃ C, C = cmpB DA7 DB7 := ⟨_, rfl⟩
  rw [← hC7] at c7
  have HC7 := Lib.hid hC7
  have d7 : ¬ (0 : Int) ≤ C7 := by omega
  have i7 : ¬ VB7 < VA7 := by omega
  clear hDA7 hDB7 hVA7 hVB7 hC7
  clear hl hc hb hP hP'
  have NB := NewB.alloc w 3 [.int .i64 6, .int .i64 7]
  have BN := Lib.hid (NB.below (Below.refl w.heap.size w) (Nat.le_refl _))
  have TL := Lib.hid NB.at_
  clear NB
  go_enter Try.func3, Try.ntmps3
  go_wp2_with fail
  refine (TY.out w).mono ?_
  rintro e w1 ⟨rfl, rfl⟩
  go_wp2_with fail
  refine (TY'.out w).mono ?_
  rintro e w1 ⟨rfl, rfl⟩
  go_wp2_with (refine wp_loop_rounds 3 ?_)
  rw [rounds_succ]
  go_wp2_with fail
  refine (UA6.out _ BN.out).mono ?_
  rintro e xa6 ⟨ga6, ca6, rfl, -, -, ya6, ba6⟩
  have BA6 := Lib.hid (BN.out.trans (ba6.mono BN.out.size))
  have YA6 := Lib.hid ya6
  have TA6 := Lib.hid (TL.out.below ba6 TL.out.lt)
  clear ya6 ba6
  rw [LA6.out]
  go_wp2_with fail
  refine (UB6.out _ BA6.out).mono ?_
  rintro e xb6 ⟨gb6, cb6, rfl, -, -, yb6, bb6⟩
  have BB6 := Lib.hid (BA6.out.trans (bb6.mono BA6.out.size))
  have YB6 := Lib.hid yb6
  have YA6' := Lib.hid (YA6.out.below bb6 (Nat.le_refl _))
  have TB6 := Lib.hid (TA6.out.below bb6 TA6.out.lt)
  clear yb6 bb6
  rw [LB6.out]
  go_wp2_with fail
  refine (AA6.out _).mono ?_
  rintro e x ⟨rfl, rfl⟩
  go_wp2_with fail
  refine (AB6.out _).mono ?_
  rintro e x ⟨rfl, rfl⟩
  go_wp2_with fail
  refine (compare_any (some ⟨ga6, 0, none⟩) (some ⟨gb6, 0, none⟩) 16 ca6 cb6 DA6 DB6 LA6.out LB6.out (by omega) xb6 YA6'.out YB6.out).mono ?_
  rw [← HC6.out]
  intro e xc6 h
  obtain ⟨rfl, bc6⟩ := h.below
  have BC6 := Lib.hid (BB6.out.trans (bc6.mono BB6.out.size))
  have TC6 := Lib.hid (TB6.out.below bc6 TB6.out.lt)
  clear h bc6
  have TL7 := Lib.hid TC6.out
  have k1 : xc6.cell? ⟨w.heap.size, 1, none⟩ = some (.int .i64 7) := TL7.out.cell 1 (by simp)
  go_wp2_with fail
  rw [rounds_succ]
  go_wp2_with fail
  refine (UA7.out _ BC6.out).mono ?_
  rintro e xa7 ⟨ga7, ca7, rfl, -, -, ya7, ba7⟩
  have BA7 := Lib.hid (BC6.out.trans (ba7.mono BC6.out.size))
  have YA7 := Lib.hid ya7
  have TA7 := Lib.hid (TL7.out.below ba7 TL7.out.lt)
  clear ya7 ba7
  rw [LA7.out]
  go_wp2_with fail
  refine (UB7.out _ BA7.out).mono ?_
  rintro e xb7 ⟨gb7, cb7, rfl, -, -, yb7, bb7⟩
  have BB7 := Lib.hid (BA7.out.trans (bb7.mono BA7.out.size))
  have YB7 := Lib.hid yb7
  have YA7' := Lib.hid (YA7.out.below bb7 (Nat.le_refl _))
  have TB7 := Lib.hid (TA7.out.below bb7 TA7.out.lt)
  clear yb7 bb7
  rw [LB7.out]
  go_wp2_with fail
  refine (AA7.out _).mono ?_
  rintro e x ⟨rfl, rfl⟩
  go_wp2_with fail
  refine (AB7.out _).mono ?_
  rintro e x ⟨rfl, rfl⟩
  go_wp2_with fail
  refine (compare_any (some ⟨ga7, 0, none⟩) (some ⟨gb7, 0, none⟩) 16 ca7 cb7 DA7 DB7 LA7.out LB7.out (by omega) xb7 YA7'.out YB7.out).mono ?_
  rw [← HC7.out]
  intro e xc7 h
  obtain ⟨rfl, bc7⟩ := h.below
  have BC7 := Lib.hid (BB7.out.trans (bc7.mono BB7.out.size))
  have TC7 := Lib.hid (TB7.out.below bc7 TB7.out.lt)
  clear h bc7
  go_wp2_with fail
  rw [rounds_succ]
  go_wp2
  go_ret
  exact ⟨rfl, BC7.out⟩
set_option maxRecDepth 100000 in
set_option maxHeartbeats 1000000 in
theorem order_lt_eq (s n s' n' : Int) (N A : Option Addr) (cN m c : Nat) (node ds : List UInt8) (hl : ds.length = m) (h16 : 16 ≤ m) (h100 : m ≤ 100) (hc : A = none → c = 0) (hnc : m ≤ c) (w : World) (hP : Pre w s n N node ds) (hP' : Pre w s' n' N node ds) (hb : Byt w A ds) (h6 : atV 6 s n < atV 6 s' n') (h7 : atV 7 s n = atV 7 s' n') :
    Calls Try.prog 3 #[.int .i64 s, .int .i64 n, .int .i64 s', .int .i64 n', .slice N 6 cN, .slice A m c] w fun e w' => e = .returned (.bool true) ∧ Below w.heap.size w w' := by
  have TY := Lib.hid (timely_yes s n hP.s0 hP.s1 hP.n0 hP.n1)
  have TY' := Lib.hid (timely_yes s' n' hP'.s0 hP'.s1 hP'.n0 hP'.n1)
  have UA6 := Lib.hid (fun w' (b : Below w.heap.size w w') => uuidAt6 (cN := cN) (hP.below b) hl hc hnc (hb.below b (Nat.le_refl _)))
  have UB6 := Lib.hid (fun w' (b : Below w.heap.size w w') => uuidAt6 (cN := cN) (hP'.below b) hl hc hnc (hb.below b (Nat.le_refl _)))
  have LA6 := Lib.hid (atB_length 6 s n node ds hP.hnl hP.d0)
  have LB6 := Lib.hid (atB_length 6 s' n' node ds hP.hnl hP.d0)
  have AA6 := Lib.hid (show ∀ w, Calls Try.prog 12 #[.int .i64 6, .int .i64 s, .int .i64 n] w fun e w' => e = .returned (.int .u64 (atV 6 s n)) ∧ w = w' from fun w => at_any 6 s n (by decide) hP.s0 hP.s1 hP.n0 hP.n1 w)
  have AB6 := Lib.hid (show ∀ w, Calls Try.prog 12 #[.int .i64 6, .int .i64 s', .int .i64 n'] w fun e w' => e = .returned (.int .u64 (atV 6 s' n')) ∧ w = w' from fun w => at_any 6 s' n' (by decide) hP'.s0 hP'.s1 hP'.n0 hP'.n1 w)
  have c6 := (ord6 s n s' n' node ds hP.s0 hP.s1 hP.n0 hP.n1 hP'.s0 hP'.s1 hP'.n0 hP'.n1 h6).1
  obtain ⟨DA6, hDA6⟩ : ∃ D, D = atB 6 s n node ds := ⟨_, rfl⟩
  obtain ⟨DB6, hDB6⟩ : ∃ D, D = atB 6 s' n' node ds := ⟨_, rfl⟩
  rw [← hDA6] at UA6 LA6 c6
  rw [← hDB6] at UB6 LB6 c6
  obtain ⟨VA6, hVA6⟩ : ∃ V, V = atV 6 s n := ⟨_, rfl⟩
  obtain ⟨VB6, hVB6⟩ : ∃ V, V = atV 6 s' n' := ⟨_, rfl⟩
  rw [← hVA6] at AA6 h6
  rw [← hVB6] at AB6 h6
  obtain ⟨C6, hC6⟩ : ∃ C, C = cmpB DA6 DB6 := ⟨_, rfl⟩
  rw [← hC6] at c6
  have HC6 := Lib.hid hC6
  have d6 : ¬ (0 : Int) ≤ C6 := by omega
  have i6 : ¬ VB6 < VA6 := by omega
  clear hDA6 hDB6 hVA6 hVB6 hC6
  have UA7 := Lib.hid (fun w' (b : Below w.heap.size w w') => uuidAt7 (cN := cN) (hP.below b) hl hc hnc (hb.below b (Nat.le_refl _)))
  have UB7 := Lib.hid (fun w' (b : Below w.heap.size w w') => uuidAt7 (cN := cN) (hP'.below b) hl hc hnc (hb.below b (Nat.le_refl _)))
  have LA7 := Lib.hid (atB_length 7 s n node ds hP.hnl hP.d0)
  have LB7 := Lib.hid (atB_length 7 s' n' node ds hP.hnl hP.d0)
  have AA7 := Lib.hid (show ∀ w, Calls Try.prog 12 #[.int .i64 7, .int .i64 s, .int .i64 n] w fun e w' => e = .returned (.int .u64 (atV 7 s n)) ∧ w = w' from fun w => at_seven s n hP.s0 hP.s1 hP.n0 hP.n1 w)
  have AB7 := Lib.hid (show ∀ w, Calls Try.prog 12 #[.int .i64 7, .int .i64 s', .int .i64 n'] w fun e w' => e = .returned (.int .u64 (atV 7 s' n')) ∧ w = w' from fun w => at_seven s' n' hP'.s0 hP'.s1 hP'.n0 hP'.n1 w)
  obtain ⟨DA7, hDA7⟩ : ∃ D, D = atB 7 s n node ds := ⟨_, rfl⟩
  obtain ⟨DB7, hDB7⟩ : ∃ D, D = atB 7 s' n' node ds := ⟨_, rfl⟩
  rw [← hDA7] at UA7 LA7
  rw [← hDB7] at UB7 LB7
  obtain ⟨VA7, hVA7⟩ : ∃ V, V = atV 7 s n := ⟨_, rfl⟩
  obtain ⟨VB7, hVB7⟩ : ∃ V, V = atV 7 s' n' := ⟨_, rfl⟩
  rw [← hVA7] at AA7 h7
  rw [← hVB7] at AB7 h7
  rw [← h7] at AB7
  clear hDA7 hDB7 hVA7 hVB7 h7
  clear hl hc hb hP hP'
  have NB := NewB.alloc w 3 [.int .i64 6, .int .i64 7]
  have BN := Lib.hid (NB.below (Below.refl w.heap.size w) (Nat.le_refl _))
  have TL := Lib.hid NB.at_
  clear NB
  go_enter Try.func3, Try.ntmps3
  go_wp2_with fail
  refine (TY.out w).mono ?_
  rintro e w1 ⟨rfl, rfl⟩
  go_wp2_with fail
  refine (TY'.out w).mono ?_
  rintro e w1 ⟨rfl, rfl⟩
  go_wp2_with (refine wp_loop_rounds 3 ?_)
  rw [rounds_succ]
  go_wp2_with fail
  refine (UA6.out _ BN.out).mono ?_
  rintro e xa6 ⟨ga6, ca6, rfl, -, -, ya6, ba6⟩
  have BA6 := Lib.hid (BN.out.trans (ba6.mono BN.out.size))
  have YA6 := Lib.hid ya6
  have TA6 := Lib.hid (TL.out.below ba6 TL.out.lt)
  clear ya6 ba6
  rw [LA6.out]
  go_wp2_with fail
  refine (UB6.out _ BA6.out).mono ?_
  rintro e xb6 ⟨gb6, cb6, rfl, -, -, yb6, bb6⟩
  have BB6 := Lib.hid (BA6.out.trans (bb6.mono BA6.out.size))
  have YB6 := Lib.hid yb6
  have YA6' := Lib.hid (YA6.out.below bb6 (Nat.le_refl _))
  have TB6 := Lib.hid (TA6.out.below bb6 TA6.out.lt)
  clear yb6 bb6
  rw [LB6.out]
  go_wp2_with fail
  refine (AA6.out _).mono ?_
  rintro e x ⟨rfl, rfl⟩
  go_wp2_with fail
  refine (AB6.out _).mono ?_
  rintro e x ⟨rfl, rfl⟩
  go_wp2_with fail
  refine (compare_any (some ⟨ga6, 0, none⟩) (some ⟨gb6, 0, none⟩) 16 ca6 cb6 DA6 DB6 LA6.out LB6.out (by omega) xb6 YA6'.out YB6.out).mono ?_
  rw [← HC6.out]
  intro e xc6 h
  obtain ⟨rfl, bc6⟩ := h.below
  have BC6 := Lib.hid (BB6.out.trans (bc6.mono BB6.out.size))
  have TC6 := Lib.hid (TB6.out.below bc6 TB6.out.lt)
  clear h bc6
  have TL7 := Lib.hid TC6.out
  have k1 : xc6.cell? ⟨w.heap.size, 1, none⟩ = some (.int .i64 7) := TL7.out.cell 1 (by simp)
  go_wp2_with fail
  rw [rounds_succ]
  go_wp2_with fail
  refine (UA7.out _ BC6.out).mono ?_
  rintro e xa7 ⟨ga7, ca7, rfl, -, -, ya7, ba7⟩
  have BA7 := Lib.hid (BC6.out.trans (ba7.mono BC6.out.size))
  have YA7 := Lib.hid ya7
  have TA7 := Lib.hid (TL7.out.below ba7 TL7.out.lt)
  clear ya7 ba7
  rw [LA7.out]
  go_wp2_with fail
  refine (UB7.out _ BA7.out).mono ?_
  rintro e xb7 ⟨gb7, cb7, rfl, -, -, yb7, bb7⟩
  have BB7 := Lib.hid (BA7.out.trans (bb7.mono BA7.out.size))
  have YB7 := Lib.hid yb7
  have YA7' := Lib.hid (YA7.out.below bb7 (Nat.le_refl _))
  have TB7 := Lib.hid (TA7.out.below bb7 TA7.out.lt)
  clear yb7 bb7
  rw [LB7.out]
  go_wp2_with fail
  refine (AA7.out _).mono ?_
  rintro e x ⟨rfl, rfl⟩
  go_wp2_with fail
  refine (AB7.out _).mono ?_
  rintro e x ⟨rfl, rfl⟩
  go_wp2_with fail
  rw [rounds_succ]
  go_wp2
  go_ret
  exact ⟨rfl, BB7.out⟩
set_option maxRecDepth 100000 in
set_option maxHeartbeats 1000000 in
theorem order_lt_gt (s n s' n' : Int) (N A : Option Addr) (cN m c : Nat) (node ds : List UInt8) (hl : ds.length = m) (h16 : 16 ≤ m) (h100 : m ≤ 100) (hc : A = none → c = 0) (hnc : m ≤ c) (w : World) (hP : Pre w s n N node ds) (hP' : Pre w s' n' N node ds) (hb : Byt w A ds) (h6 : atV 6 s n < atV 6 s' n') (h7 : atV 7 s' n' < atV 7 s n) :
    Calls Try.prog 3 #[.int .i64 s, .int .i64 n, .int .i64 s', .int .i64 n', .slice N 6 cN, .slice A m c] w fun e w' => e = .returned (.bool true) ∧ Below w.heap.size w w' := by
  have TY := Lib.hid (timely_yes s n hP.s0 hP.s1 hP.n0 hP.n1)
  have TY' := Lib.hid (timely_yes s' n' hP'.s0 hP'.s1 hP'.n0 hP'.n1)
  have UA6 := Lib.hid (fun w' (b : Below w.heap.size w w') => uuidAt6 (cN := cN) (hP.below b) hl hc hnc (hb.below b (Nat.le_refl _)))
  have UB6 := Lib.hid (fun w' (b : Below w.heap.size w w') => uuidAt6 (cN := cN) (hP'.below b) hl hc hnc (hb.below b (Nat.le_refl _)))
  have LA6 := Lib.hid (atB_length 6 s n node ds hP.hnl hP.d0)
  have LB6 := Lib.hid (atB_length 6 s' n' node ds hP.hnl hP.d0)
  have AA6 := Lib.hid (show ∀ w, Calls Try.prog 12 #[.int .i64 6, .int .i64 s, .int .i64 n] w fun e w' => e = .returned (.int .u64 (atV 6 s n)) ∧ w = w' from fun w => at_any 6 s n (by decide) hP.s0 hP.s1 hP.n0 hP.n1 w)
  have AB6 := Lib.hid (show ∀ w, Calls Try.prog 12 #[.int .i64 6, .int .i64 s', .int .i64 n'] w fun e w' => e = .returned (.int .u64 (atV 6 s' n')) ∧ w = w' from fun w => at_any 6 s' n' (by decide) hP'.s0 hP'.s1 hP'.n0 hP'.n1 w)
  have c6 := (ord6 s n s' n' node ds hP.s0 hP.s1 hP.n0 hP.n1 hP'.s0 hP'.s1 hP'.n0 hP'.n1 h6).1
  obtain ⟨DA6, hDA6⟩ : ∃ D, D = atB 6 s n node ds := ⟨_, rfl⟩
  obtain ⟨DB6, hDB6⟩ : ∃ D, D = atB 6 s' n' node ds := ⟨_, rfl⟩
  rw [← hDA6] at UA6 LA6 c6
  rw [← hDB6] at UB6 LB6 c6
  obtain ⟨VA6, hVA6⟩ : ∃ V, V = atV 6 s n := ⟨_, rfl⟩
  obtain ⟨VB6, hVB6⟩ : ∃ V, V = atV 6 s' n' := ⟨_, rfl⟩
  rw [← hVA6] at AA6 h6
  rw [← hVB6] at AB6 h6
  obtain ⟨C6, hC6⟩ : ∃ C, C = cmpB DA6 DB6 := ⟨_, rfl⟩
  rw [← hC6] at c6
  have HC6 := Lib.hid hC6
  have d6 : ¬ (0 : Int) ≤ C6 := by omega
  have i6 : ¬ VB6 < VA6 := by omega
  clear hDA6 hDB6 hVA6 hVB6 hC6
  have UA7 := Lib.hid (fun w' (b : Below w.heap.size w w') => uuidAt7 (cN := cN) (hP.below b) hl hc hnc (hb.below b (Nat.le_refl _)))
  have UB7 := Lib.hid (fun w' (b : Below w.heap.size w w') => uuidAt7 (cN := cN) (hP'.below b) hl hc hnc (hb.below b (Nat.le_refl _)))
  have LA7 := Lib.hid (atB_length 7 s n node ds hP.hnl hP.d0)
  have LB7 := Lib.hid (atB_length 7 s' n' node ds hP.hnl hP.d0)
  have AA7 := Lib.hid (show ∀ w, Calls Try.prog 12 #[.int .i64 7, .int .i64 s, .int .i64 n] w fun e w' => e = .returned (.int .u64 (atV 7 s n)) ∧ w = w' from fun w => at_seven s n hP.s0 hP.s1 hP.n0 hP.n1 w)
  have AB7 := Lib.hid (show ∀ w, Calls Try.prog 12 #[.int .i64 7, .int .i64 s', .int .i64 n'] w fun e w' => e = .returned (.int .u64 (atV 7 s' n')) ∧ w = w' from fun w => at_seven s' n' hP'.s0 hP'.s1 hP'.n0 hP'.n1 w)
  have c7 := (ord7 s' n' s n node ds hP'.s0 hP'.s1 hP'.n0 hP'.n1 hP.s0 hP.s1 hP.n0 hP.n1 h7).2
  obtain ⟨DA7, hDA7⟩ : ∃ D, D = atB 7 s n node ds := ⟨_, rfl⟩
  obtain ⟨DB7, hDB7⟩ : ∃ D, D = atB 7 s' n' node ds := ⟨_, rfl⟩
  rw [← hDA7] at UA7 LA7 c7
  rw [← hDB7] at UB7 LB7 c7
  obtain ⟨VA7, hVA7⟩ : ∃ V, V = atV 7 s n := ⟨_, rfl⟩
  obtain ⟨VB7, hVB7⟩ : ∃ V, V = atV 7 s' n' := ⟨_, rfl⟩
  rw [← hVA7] at AA7 h7
  rw [← hVB7] at AB7 h7
  obtain ⟨C7, hC7⟩ : ∃ C, C = cmpB DA7 DB7 := ⟨_, rfl⟩
  rw [← hC7] at c7
  have HC7 := Lib.hid hC7
  have d7 : ¬ C7 ≤ (0 : Int) := by omega
  have i7 : ¬ VA7 < VB7 := by omega
  clear hDA7 hDB7 hVA7 hVB7 hC7
  clear hl hc hb hP hP'
  have NB := NewB.alloc w 3 [.int .i64 6, .int .i64 7]
  have BN := Lib.hid (NB.below (Below.refl w.heap.size w) (Nat.le_refl _))
  have TL := Lib.hid NB.at_
  clear NB
  go_enter Try.func3, Try.ntmps3
  go_wp2_with fail
  refine (TY.out w).mono ?_
  rintro e w1 ⟨rfl, rfl⟩
  go_wp2_with fail
  refine (TY'.out w).mono ?_
  rintro e w1 ⟨rfl, rfl⟩
  go_wp2_with (refine wp_loop_rounds 3 ?_)
  rw [rounds_succ]
  go_wp2_with fail
  refine (UA6.out _ BN.out).mono ?_
  rintro e xa6 ⟨ga6, ca6, rfl, -, -, ya6, ba6⟩
  have BA6 := Lib.hid (BN.out.trans (ba6.mono BN.out.size))
  have YA6 := Lib.hid ya6
  have TA6 := Lib.hid (TL.out.below ba6 TL.out.lt)
  clear ya6 ba6
  rw [LA6.out]
  go_wp2_with fail
  refine (UB6.out _ BA6.out).mono ?_
  rintro e xb6 ⟨gb6, cb6, rfl, -, -, yb6, bb6⟩
  have BB6 := Lib.hid (BA6.out.trans (bb6.mono BA6.out.size))
  have YB6 := Lib.hid yb6
  have YA6' := Lib.hid (YA6.out.below bb6 (Nat.le_refl _))
  have TB6 := Lib.hid (TA6.out.below bb6 TA6.out.lt)
  clear yb6 bb6
  rw [LB6.out]
  go_wp2_with fail
  refine (AA6.out _).mono ?_
  rintro e x ⟨rfl, rfl⟩
  go_wp2_with fail
  refine (AB6.out _).mono ?_
  rintro e x ⟨rfl, rfl⟩
  go_wp2_with fail
  refine (compare_any (some ⟨ga6, 0, none⟩) (some ⟨gb6, 0, none⟩) 16 ca6 cb6 DA6 DB6 LA6.out LB6.out (by omega) xb6 YA6'.out YB6.out).mono ?_
  rw [← HC6.out]
  intro e xc6 h
  obtain ⟨rfl, bc6⟩ := h.below
  have BC6 := Lib.hid (BB6.out.trans (bc6.mono BB6.out.size))
  have TC6 := Lib.hid (TB6.out.below bc6 TB6.out.lt)
  clear h bc6
  have TL7 := Lib.hid TC6.out
  have k1 : xc6.cell? ⟨w.heap.size, 1, none⟩ = some (.int .i64 7) := TL7.out.cell 1 (by simp)
  go_wp2_with fail
  rw [rounds_succ]
  go_wp2_with fail
  refine (UA7.out _ BC6.out).mono ?_
  rintro e xa7 ⟨ga7, ca7, rfl, -, -, ya7, ba7⟩
  have BA7 := Lib.hid (BC6.out.trans (ba7.mono BC6.out.size))
  have YA7 := Lib.hid ya7
  have TA7 := Lib.hid (TL7.out.below ba7 TL7.out.lt)
  clear ya7 ba7
  rw [LA7.out]
  go_wp2_with fail
  refine (UB7.out _ BA7.out).mono ?_
  rintro e xb7 ⟨gb7, cb7, rfl, -, -, yb7, bb7⟩
  have BB7 := Lib.hid (BA7.out.trans (bb7.mono BA7.out.size))
  have YB7 := Lib.hid yb7
  have YA7' := Lib.hid (YA7.out.below bb7 (Nat.le_refl _))
  have TB7 := Lib.hid (TA7.out.below bb7 TA7.out.lt)
  clear yb7 bb7
  rw [LB7.out]
  go_wp2_with fail
  refine (AA7.out _).mono ?_
  rintro e x ⟨rfl, rfl⟩
  go_wp2_with fail
  refine (AB7.out _).mono ?_
  rintro e x ⟨rfl, rfl⟩
  go_wp2_with fail
  refine (compare_any (some ⟨ga7, 0, none⟩) (some ⟨gb7, 0, none⟩) 16 ca7 cb7 DA7 DB7 LA7.out LB7.out (by omega) xb7 YA7'.out YB7.out).mono ?_
  rw [← HC7.out]
  intro e xc7 h
  obtain ⟨rfl, bc7⟩ := h.below
  have BC7 := Lib.hid (BB7.out.trans (bc7.mono BB7.out.size))
  have TC7 := Lib.hid (TB7.out.below bc7 TB7.out.lt)
  clear h bc7
  go_wp2_with fail
  rw [rounds_succ]
  go_wp2
  go_ret
  exact ⟨rfl, BC7.out⟩
set_option maxRecDepth 100000 in
set_option maxHeartbeats 1000000 in
theorem order_eq_lt (s n s' n' : Int) (N A : Option Addr) (cN m c : Nat) (node ds : List UInt8) (hl : ds.length = m) (h16 : 16 ≤ m) (h100 : m ≤ 100) (hc : A = none → c = 0) (hnc : m ≤ c) (w : World) (hP : Pre w s n N node ds) (hP' : Pre w s' n' N node ds) (hb : Byt w A ds) (h6 : atV 6 s n = atV 6 s' n') (h7 : atV 7 s n < atV 7 s' n') :
    Calls Try.prog 3 #[.int .i64 s, .int .i64 n, .int .i64 s', .int .i64 n', .slice N 6 cN, .slice A m c] w fun e w' => e = .returned (.bool true) ∧ Below w.heap.size w w' := by
  have TY := Lib.hid (timely_yes s n hP.s0 hP.s1 hP.n0 hP.n1)
  have TY' := Lib.hid (timely_yes s' n' hP'.s0 hP'.s1 hP'.n0 hP'.n1)
  have UA6 := Lib.hid (fun w' (b : Below w.heap.size w w') => uuidAt6 (cN := cN) (hP.below b) hl hc hnc (hb.below b (Nat.le_refl _)))
  have UB6 := Lib.hid (fun w' (b : Below w.heap.size w w') => uuidAt6 (cN := cN) (hP'.below b) hl hc hnc (hb.below b (Nat.le_refl _)))
  have LA6 := Lib.hid (atB_length 6 s n node ds hP.hnl hP.d0)
  have LB6 := Lib.hid (atB_length 6 s' n' node ds hP.hnl hP.d0)
  have AA6 := Lib.hid (show ∀ w, Calls Try.prog 12 #[.int .i64 6, .int .i64 s, .int .i64 n] w fun e w' => e = .returned (.int .u64 (atV 6 s n)) ∧ w = w' from fun w => at_any 6 s n (by decide) hP.s0 hP.s1 hP.n0 hP.n1 w)
  have AB6 := Lib.hid (show ∀ w, Calls Try.prog 12 #[.int .i64 6, .int .i64 s', .int .i64 n'] w fun e w' => e = .returned (.int .u64 (atV 6 s' n')) ∧ w = w' from fun w => at_any 6 s' n' (by decide) hP'.s0 hP'.s1 hP'.n0 hP'.n1 w)
  obtain ⟨DA6, hDA6⟩ : ∃ D, D = atB 6 s n node ds := ⟨_, rfl⟩
  obtain ⟨DB6, hDB6⟩ : ∃ D, D = atB 6 s' n' node ds := ⟨_, rfl⟩
  rw [← hDA6] at UA6 LA6
  rw [← hDB6] at UB6 LB6
  obtain ⟨VA6, hVA6⟩ : ∃ V, V = atV 6 s n := ⟨_, rfl⟩
  obtain ⟨VB6, hVB6⟩ : ∃ V, V = atV 6 s' n' := ⟨_, rfl⟩
  rw [← hVA6] at AA6 h6
  rw [← hVB6] at AB6 h6
  rw [← h6] at AB6
  clear hDA6 hDB6 hVA6 hVB6 h6
  have UA7 := Lib.hid (fun w' (b : Below w.heap.size w w') => uuidAt7 (cN := cN) (hP.below b) hl hc hnc (hb.below b (Nat.le_refl _)))
  have UB7 := Lib.hid (fun w' (b : Below w.heap.size w w') => uuidAt7 (cN := cN) (hP'.below b) hl hc hnc (hb.below b (Nat.le_refl _)))
  have LA7 := Lib.hid (atB_length 7 s n node ds hP.hnl hP.d0)
  have LB7 := Lib.hid (atB_length 7 s' n' node ds hP.hnl hP.d0)
  have AA7 := Lib.hid (show ∀ w, Calls Try.prog 12 #[.int .i64 7, .int .i64 s, .int .i64 n] w fun e w' => e = .returned (.int .u64 (atV 7 s n)) ∧ w = w' from fun w => at_seven s n hP.s0 hP.s1 hP.n0 hP.n1 w)
  have AB7 := Lib.hid (show ∀ w, Calls Try.prog 12 #[.int .i64 7, .int .i64 s', .int .i64 n'] w fun e w' => e = .returned (.int .u64 (atV 7 s' n')) ∧ w = w' from fun w => at_seven s' n' hP'.s0 hP'.s1 hP'.n0 hP'.n1 w)
  have c7 := (ord7 s n s' n' node ds hP.s0 hP.s1 hP.n0 hP.n1 hP'.s0 hP'.s1 hP'.n0 hP'.n1 h7).1
  obtain ⟨DA7, hDA7⟩ : ∃ D, D = atB 7 s n node ds := ⟨_, rfl⟩
  obtain ⟨DB7, hDB7⟩ : ∃ D, D = atB 7 s' n' node ds := ⟨_, rfl⟩
  rw [← hDA7] at UA7 LA7 c7
  rw [← hDB7] at UB7 LB7 c7
  obtain ⟨VA7, hVA7⟩ : ∃ V, V = atV 7 s n := ⟨_, rfl⟩
  obtain ⟨VB7, hVB7⟩ : ∃ V, V = atV 7 s' n' := ⟨_, rfl⟩
  rw [← hVA7] at AA7 h7
  rw [← hVB7] at AB7 h7
  obtain ⟨C7, hC7⟩ : ∃ C, C = cmpB DA7 DB7 := ⟨_, rfl⟩
  rw [← hC7] at c7
  have HC7 := Lib.hid hC7
  have d7 : ¬ (0 : Int) ≤ C7 := by omega
  have i7 : ¬ VB7 < VA7 := by omega
  clear hDA7 hDB7 hVA7 hVB7 hC7
  clear hl hc hb hP hP'
  have NB := NewB.alloc w 3 [.int .i64 6, .int .i64 7]
  have BN := Lib.hid (NB.below (Below.refl w.heap.size w) (Nat.le_refl _))
  have TL := Lib.hid NB.at_
  clear NB
  go_enter Try.func3, Try.ntmps3
  go_wp2_with fail
  refine (TY.out w).mono ?_
  rintro e w1 ⟨rfl, rfl⟩
  go_wp2_with fail
  refine (TY'.out w).mono ?_
  rintro e w1 ⟨rfl, rfl⟩
  go_wp2_with (refine wp_loop_rounds 3 ?_)
  rw [rounds_succ]
  go_wp2_with fail
  refine (UA6.out _ BN.out).mono ?_
  rintro e xa6 ⟨ga6, ca6, rfl, -, -, ya6, ba6⟩
  have BA6 := Lib.hid (BN.out.trans (ba6.mono BN.out.size))
  have YA6 := Lib.hid ya6
  have TA6 := Lib.hid (TL.out.below ba6 TL.out.lt)
  clear ya6 ba6
  rw [LA6.out]
  go_wp2_with fail
  refine (UB6.out _ BA6.out).mono ?_
  rintro e xb6 ⟨gb6, cb6, rfl, -, -, yb6, bb6⟩
  have BB6 := Lib.hid (BA6.out.trans (bb6.mono BA6.out.size))
  have YB6 := Lib.hid yb6
  have YA6' := Lib.hid (YA6.out.below bb6 (Nat.le_refl _))
  have TB6 := Lib.hid (TA6.out.below bb6 TA6.out.lt)
  clear yb6 bb6
  rw [LB6.out]
  go_wp2_with fail
  refine (AA6.out _).mono ?_
  rintro e x ⟨rfl, rfl⟩
  go_wp2_with fail
  refine (AB6.out _).mono ?_
  rintro e x ⟨rfl, rfl⟩
  have TL7 := Lib.hid TB6.out
  have k1 : xb6.cell? ⟨w.heap.size, 1, none⟩ = some (.int .i64 7) := TL7.out.cell 1 (by simp)
  go_wp2_with fail
  rw [rounds_succ]
  go_wp2_with fail
  refine (UA7.out _ BB6.out).mono ?_
  rintro e xa7 ⟨ga7, ca7, rfl, -, -, ya7, ba7⟩
  have BA7 := Lib.hid (BB6.out.trans (ba7.mono BB6.out.size))
  have YA7 := Lib.hid ya7
  have TA7 := Lib.hid (TL7.out.below ba7 TL7.out.lt)
  clear ya7 ba7
  rw [LA7.out]
  go_wp2_with fail
  refine (UB7.out _ BA7.out).mono ?_
  rintro e xb7 ⟨gb7, cb7, rfl, -, -, yb7, bb7⟩
  have BB7 := Lib.hid (BA7.out.trans (bb7.mono BA7.out.size))
  have YB7 := Lib.hid yb7
  have YA7' := Lib.hid (YA7.out.below bb7 (Nat.le_refl _))
  have TB7 := Lib.hid (TA7.out.below bb7 TA7.out.lt)
  clear yb7 bb7
  rw [LB7.out]
  go_wp2_with fail
  refine (AA7.out _).mono ?_
  rintro e x ⟨rfl, rfl⟩
  go_wp2_with fail
  refine (AB7.out _).mono ?_
  rintro e x ⟨rfl, rfl⟩
  go_wp2_with fail
  refine (compare_any (some ⟨ga7, 0, none⟩) (some ⟨gb7, 0, none⟩) 16 ca7 cb7 DA7 DB7 LA7.out LB7.out (by omega) xb7 YA7'.out YB7.out).mono ?_
  rw [← HC7.out]
  intro e xc7 h
  obtain ⟨rfl, bc7⟩ := h.below
  have BC7 := Lib.hid (BB7.out.trans (bc7.mono BB7.out.size))
  have TC7 := Lib.hid (TB7.out.below bc7 TB7.out.lt)
  clear h bc7
  go_wp2_with fail
  rw [rounds_succ]
  go_wp2
  go_ret
  exact ⟨rfl, BC7.out⟩
set_option maxRecDepth 100000 in
set_option maxHeartbeats 1000000 in
theorem order_eq_eq (s n s' n' : Int) (N A : Option Addr) (cN m c : Nat) (node ds : List UInt8) (hl : ds.length = m) (h16 : 16 ≤ m) (h100 : m ≤ 100) (hc : A = none → c = 0) (hnc : m ≤ c) (w : World) (hP : Pre w s n N node ds) (hP' : Pre w s' n' N node ds) (hb : Byt w A ds) (h6 : atV 6 s n = atV 6 s' n') (h7 : atV 7 s n = atV 7 s' n') :
    Calls Try.prog 3 #[.int .i64 s, .int .i64 n, .int .i64 s', .int .i64 n', .slice N 6 cN, .slice A m c] w fun e w' => e = .returned (.bool true) ∧ Below w.heap.size w w' := by
  have TY := Lib.hid (timely_yes s n hP.s0 hP.s1 hP.n0 hP.n1)
  have TY' := Lib.hid (timely_yes s' n' hP'.s0 hP'.s1 hP'.n0 hP'.n1)
  have UA6 := Lib.hid (fun w' (b : Below w.heap.size w w') => uuidAt6 (cN := cN) (hP.below b) hl hc hnc (hb.below b (Nat.le_refl _)))
  have UB6 := Lib.hid (fun w' (b : Below w.heap.size w w') => uuidAt6 (cN := cN) (hP'.below b) hl hc hnc (hb.below b (Nat.le_refl _)))
  have LA6 := Lib.hid (atB_length 6 s n node ds hP.hnl hP.d0)
  have LB6 := Lib.hid (atB_length 6 s' n' node ds hP.hnl hP.d0)
  have AA6 := Lib.hid (show ∀ w, Calls Try.prog 12 #[.int .i64 6, .int .i64 s, .int .i64 n] w fun e w' => e = .returned (.int .u64 (atV 6 s n)) ∧ w = w' from fun w => at_any 6 s n (by decide) hP.s0 hP.s1 hP.n0 hP.n1 w)
  have AB6 := Lib.hid (show ∀ w, Calls Try.prog 12 #[.int .i64 6, .int .i64 s', .int .i64 n'] w fun e w' => e = .returned (.int .u64 (atV 6 s' n')) ∧ w = w' from fun w => at_any 6 s' n' (by decide) hP'.s0 hP'.s1 hP'.n0 hP'.n1 w)
  obtain ⟨DA6, hDA6⟩ : ∃ D, D = atB 6 s n node ds := ⟨_, rfl⟩
  obtain ⟨DB6, hDB6⟩ : ∃ D, D = atB 6 s' n' node ds := ⟨_, rfl⟩
  rw [← hDA6] at UA6 LA6
  rw [← hDB6] at UB6 LB6
  obtain ⟨VA6, hVA6⟩ : ∃ V, V = atV 6 s n := ⟨_, rfl⟩
  obtain ⟨VB6, hVB6⟩ : ∃ V, V = atV 6 s' n' := ⟨_, rfl⟩
  rw [← hVA6] at AA6 h6
  rw [← hVB6] at AB6 h6
  rw [← h6] at AB6
  clear hDA6 hDB6 hVA6 hVB6 h6
  have UA7 := Lib.hid (fun w' (b : Below w.heap.size w w') => uuidAt7 (cN := cN) (hP.below b) hl hc hnc (hb.below b (Nat.le_refl _)))
  have UB7 := Lib.hid (fun w' (b : Below w.heap.size w w') => uuidAt7 (cN := cN) (hP'.below b) hl hc hnc (hb.below b (Nat.le_refl _)))
  have LA7 := Lib.hid (atB_length 7 s n node ds hP.hnl hP.d0)
  have LB7 := Lib.hid (atB_length 7 s' n' node ds hP.hnl hP.d0)
  have AA7 := Lib.hid (show ∀ w, Calls Try.prog 12 #[.int .i64 7, .int .i64 s, .int .i64 n] w fun e w' => e = .returned (.int .u64 (atV 7 s n)) ∧ w = w' from fun w => at_seven s n hP.s0 hP.s1 hP.n0 hP.n1 w)
  have AB7 := Lib.hid (show ∀ w, Calls Try.prog 12 #[.int .i64 7, .int .i64 s', .int .i64 n'] w fun e w' => e = .returned (.int .u64 (atV 7 s' n')) ∧ w = w' from fun w => at_seven s' n' hP'.s0 hP'.s1 hP'.n0 hP'.n1 w)
  obtain ⟨DA7, hDA7⟩ : ∃ D, D = atB 7 s n node ds := ⟨_, rfl⟩
  obtain ⟨DB7, hDB7⟩ : ∃ D, D = atB 7 s' n' node ds := ⟨_, rfl⟩
  rw [← hDA7] at UA7 LA7
  rw [← hDB7] at UB7 LB7
  obtain ⟨VA7, hVA7⟩ : ∃ V, V = atV 7 s n := ⟨_, rfl⟩
  obtain ⟨VB7, hVB7⟩ : ∃ V, V = atV 7 s' n' := ⟨_, rfl⟩
  rw [← hVA7] at AA7 h7
  rw [← hVB7] at AB7 h7
  rw [← h7] at AB7
  clear hDA7 hDB7 hVA7 hVB7 h7
  clear hl hc hb hP hP'
  have NB := NewB.alloc w 3 [.int .i64 6, .int .i64 7]
  have BN := Lib.hid (NB.below (Below.refl w.heap.size w) (Nat.le_refl _))
  have TL := Lib.hid NB.at_
  clear NB
  go_enter Try.func3, Try.ntmps3
  go_wp2_with fail
  refine (TY.out w).mono ?_
  rintro e w1 ⟨rfl, rfl⟩
  go_wp2_with fail
  refine (TY'.out w).mono ?_
  rintro e w1 ⟨rfl, rfl⟩
  go_wp2_with (refine wp_loop_rounds 3 ?_)
  rw [rounds_succ]
  go_wp2_with fail
  refine (UA6.out _ BN.out).mono ?_
  rintro e xa6 ⟨ga6, ca6, rfl, -, -, ya6, ba6⟩
  have BA6 := Lib.hid (BN.out.trans (ba6.mono BN.out.size))
  have YA6 := Lib.hid ya6
  have TA6 := Lib.hid (TL.out.below ba6 TL.out.lt)
  clear ya6 ba6
  rw [LA6.out]
  go_wp2_with fail
  refine (UB6.out _ BA6.out).mono ?_
  rintro e xb6 ⟨gb6, cb6, rfl, -, -, yb6, bb6⟩
  have BB6 := Lib.hid (BA6.out.trans (bb6.mono BA6.out.size))
  have YB6 := Lib.hid yb6
  have YA6' := Lib.hid (YA6.out.below bb6 (Nat.le_refl _))
  have TB6 := Lib.hid (TA6.out.below bb6 TA6.out.lt)
  clear yb6 bb6
  rw [LB6.out]
  go_wp2_with fail
  refine (AA6.out _).mono ?_
  rintro e x ⟨rfl, rfl⟩
  go_wp2_with fail
  refine (AB6.out _).mono ?_
  rintro e x ⟨rfl, rfl⟩
  have TL7 := Lib.hid TB6.out
  have k1 : xb6.cell? ⟨w.heap.size, 1, none⟩ = some (.int .i64 7) := TL7.out.cell 1 (by simp)
  go_wp2_with fail
  rw [rounds_succ]
  go_wp2_with fail
  refine (UA7.out _ BB6.out).mono ?_
  rintro e xa7 ⟨ga7, ca7, rfl, -, -, ya7, ba7⟩
  have BA7 := Lib.hid (BB6.out.trans (ba7.mono BB6.out.size))
  have YA7 := Lib.hid ya7
  have TA7 := Lib.hid (TL7.out.below ba7 TL7.out.lt)
  clear ya7 ba7
  rw [LA7.out]
  go_wp2_with fail
  refine (UB7.out _ BA7.out).mono ?_
  rintro e xb7 ⟨gb7, cb7, rfl, -, -, yb7, bb7⟩
  have BB7 := Lib.hid (BA7.out.trans (bb7.mono BA7.out.size))
  have YB7 := Lib.hid yb7
  have YA7' := Lib.hid (YA7.out.below bb7 (Nat.le_refl _))
  have TB7 := Lib.hid (TA7.out.below bb7 TA7.out.lt)
  clear yb7 bb7
  rw [LB7.out]
  go_wp2_with fail
  refine (AA7.out _).mono ?_
  rintro e x ⟨rfl, rfl⟩
  go_wp2_with fail
  refine (AB7.out _).mono ?_
  rintro e x ⟨rfl, rfl⟩
  go_wp2_with fail
  rw [rounds_succ]
  go_wp2
  go_ret
  exact ⟨rfl, BB7.out⟩
set_option maxRecDepth 100000 in
set_option maxHeartbeats 1000000 in
theorem order_eq_gt (s n s' n' : Int) (N A : Option Addr) (cN m c : Nat) (node ds : List UInt8) (hl : ds.length = m) (h16 : 16 ≤ m) (h100 : m ≤ 100) (hc : A = none → c = 0) (hnc : m ≤ c) (w : World) (hP : Pre w s n N node ds) (hP' : Pre w s' n' N node ds) (hb : Byt w A ds) (h6 : atV 6 s n = atV 6 s' n') (h7 : atV 7 s' n' < atV 7 s n) :
    Calls Try.prog 3 #[.int .i64 s, .int .i64 n, .int .i64 s', .int .i64 n', .slice N 6 cN, .slice A m c] w fun e w' => e = .returned (.bool true) ∧ Below w.heap.size w w' := by
  have TY := Lib.hid (timely_yes s n hP.s0 hP.s1 hP.n0 hP.n1)
  have TY' := Lib.hid (timely_yes s' n' hP'.s0 hP'.s1 hP'.n0 hP'.n1)
  have UA6 := Lib.hid (fun w' (b : Below w.heap.size w w') => uuidAt6 (cN := cN) (hP.below b) hl hc hnc (hb.below b (Nat.le_refl _)))
  have UB6 := Lib.hid (fun w' (b : Below w.heap.size w w') => uuidAt6 (cN := cN) (hP'.below b) hl hc hnc (hb.below b (Nat.le_refl _)))
  have LA6 := Lib.hid (atB_length 6 s n node ds hP.hnl hP.d0)
  have LB6 := Lib.hid (atB_length 6 s' n' node ds hP.hnl hP.d0)
  have AA6 := Lib.hid (show ∀ w, Calls Try.prog 12 #[.int .i64 6, .int .i64 s, .int .i64 n] w fun e w' => e = .returned (.int .u64 (atV 6 s n)) ∧ w = w' from fun w => at_any 6 s n (by decide) hP.s0 hP.s1 hP.n0 hP.n1 w)
  have AB6 := Lib.hid (show ∀ w, Calls Try.prog 12 #[.int .i64 6, .int .i64 s', .int .i64 n'] w fun e w' => e = .returned (.int .u64 (atV 6 s' n')) ∧ w = w' from fun w => at_any 6 s' n' (by decide) hP'.s0 hP'.s1 hP'.n0 hP'.n1 w)
  obtain ⟨DA6, hDA6⟩ : ∃ D, D = atB 6 s n node ds := ⟨_, rfl⟩
  obtain ⟨DB6, hDB6⟩ : ∃ D, D = atB 6 s' n' node ds := ⟨_, rfl⟩
  rw [← hDA6] at UA6 LA6
  rw [← hDB6] at UB6 LB6
  obtain ⟨VA6, hVA6⟩ : ∃ V, V = atV 6 s n := ⟨_, rfl⟩
  obtain ⟨VB6, hVB6⟩ : ∃ V, V = atV 6 s' n' := ⟨_, rfl⟩
  rw [← hVA6] at AA6 h6
  rw [← hVB6] at AB6 h6
  rw [← h6] at AB6
  clear hDA6 hDB6 hVA6 hVB6 h6
  have UA7 := Lib.hid (fun w' (b : Below w.heap.size w w') => uuidAt7 (cN := cN) (hP.below b) hl hc hnc (hb.below b (Nat.le_refl _)))
  have UB7 := Lib.hid (fun w' (b : Below w.heap.size w w') => uuidAt7 (cN := cN) (hP'.below b) hl hc hnc (hb.below b (Nat.le_refl _)))
  have LA7 := Lib.hid (atB_length 7 s n node ds hP.hnl hP.d0)
  have LB7 := Lib.hid (atB_length 7 s' n' node ds hP.hnl hP.d0)
  have AA7 := Lib.hid (show ∀ w, Calls Try.prog 12 #[.int .i64 7, .int .i64 s, .int .i64 n] w fun e w' => e = .returned (.int .u64 (atV 7 s n)) ∧ w = w' from fun w => at_seven s n hP.s0 hP.s1 hP.n0 hP.n1 w)
  have AB7 := Lib.hid (show ∀ w, Calls Try.prog 12 #[.int .i64 7, .int .i64 s', .int .i64 n'] w fun e w' => e = .returned (.int .u64 (atV 7 s' n')) ∧ w = w' from fun w => at_seven s' n' hP'.s0 hP'.s1 hP'.n0 hP'.n1 w)
  have c7 := (ord7 s' n' s n node ds hP'.s0 hP'.s1 hP'.n0 hP'.n1 hP.s0 hP.s1 hP.n0 hP.n1 h7).2
  obtain ⟨DA7, hDA7⟩ : ∃ D, D = atB 7 s n node ds := ⟨_, rfl⟩
  obtain ⟨DB7, hDB7⟩ : ∃ D, D = atB 7 s' n' node ds := ⟨_, rfl⟩
  rw [← hDA7] at UA7 LA7 c7
  rw [← hDB7] at UB7 LB7 c7
  obtain ⟨VA7, hVA7⟩ : ∃ V, V = atV 7 s n := ⟨_, rfl⟩
  obtain ⟨VB7, hVB7⟩ : ∃ V, V = atV 7 s' n' := ⟨_, rfl⟩
  rw [← hVA7] at AA7 h7
  rw [← hVB7] at AB7 h7
  obtain ⟨C7, hC7⟩ : ∃ C, C = cmpB DA7 DB7 := ⟨_, rfl⟩
  rw [← hC7] at c7
  have HC7 := Lib.hid hC7
  have d7 : ¬ C7 ≤ (0 : Int) := by omega
  have i7 : ¬ VA7 < VB7 := by omega
  clear hDA7 hDB7 hVA7 hVB7 hC7
  clear hl hc hb hP hP'
  have NB := NewB.alloc w 3 [.int .i64 6, .int .i64 7]
  have BN := Lib.hid (NB.below (Below.refl w.heap.size w) (Nat.le_refl _))
  have TL := Lib.hid NB.at_
  clear NB
  go_enter Try.func3, Try.ntmps3
  go_wp2_with fail
  refine (TY.out w).mono ?_
  rintro e w1 ⟨rfl, rfl⟩
  go_wp2_with fail
  refine (TY'.out w).mono ?_
  rintro e w1 ⟨rfl, rfl⟩
  go_wp2_with (refine wp_loop_rounds 3 ?_)
  rw [rounds_succ]
  go_wp2_with fail
  refine (UA6.out _ BN.out).mono ?_
  rintro e xa6 ⟨ga6, ca6, rfl, -, -, ya6, ba6⟩
  have BA6 := Lib.hid (BN.out.trans (ba6.mono BN.out.size))
  have YA6 := Lib.hid ya6
  have TA6 := Lib.hid (TL.out.below ba6 TL.out.lt)
  clear ya6 ba6
  rw [LA6.out]
  go_wp2_with fail
  refine (UB6.out _ BA6.out).mono ?_
  rintro e xb6 ⟨gb6, cb6, rfl, -, -, yb6, bb6⟩
  have BB6 := Lib.hid (BA6.out.trans (bb6.mono BA6.out.size))
  have YB6 := Lib.hid yb6
  have YA6' := Lib.hid (YA6.out.below bb6 (Nat.le_refl _))
  have TB6 := Lib.hid (TA6.out.below bb6 TA6.out.lt)
  clear yb6 bb6
  rw [LB6.out]
  go_wp2_with fail
  refine (AA6.out _).mono ?_
  rintro e x ⟨rfl, rfl⟩
  go_wp2_with fail
  refine (AB6.out _).mono ?_
  rintro e x ⟨rfl, rfl⟩
  have TL7 := Lib.hid TB6.out
  have k1 : xb6.cell? ⟨w.heap.size, 1, none⟩ = some (.int .i64 7) := TL7.out.cell 1 (by simp)
  go_wp2_with fail
  rw [rounds_succ]
  go_wp2_with fail
  refine (UA7.out _ BB6.out).mono ?_
  rintro e xa7 ⟨ga7, ca7, rfl, -, -, ya7, ba7⟩
  have BA7 := Lib.hid (BB6.out.trans (ba7.mono BB6.out.size))
  have YA7 := Lib.hid ya7
  have TA7 := Lib.hid (TL7.out.below ba7 TL7.out.lt)
  clear ya7 ba7
  rw [LA7.out]
  go_wp2_with fail
  refine (UB7.out _ BA7.out).mono ?_
  rintro e xb7 ⟨gb7, cb7, rfl, -, -, yb7, bb7⟩
  have BB7 := Lib.hid (BA7.out.trans (bb7.mono BA7.out.size))
  have YB7 := Lib.hid yb7
  have YA7' := Lib.hid (YA7.out.below bb7 (Nat.le_refl _))
  have TB7 := Lib.hid (TA7.out.below bb7 TA7.out.lt)
  clear yb7 bb7
  rw [LB7.out]
  go_wp2_with fail
  refine (AA7.out _).mono ?_
  rintro e x ⟨rfl, rfl⟩
  go_wp2_with fail
  refine (AB7.out _).mono ?_
  rintro e x ⟨rfl, rfl⟩
  go_wp2_with fail
  refine (compare_any (some ⟨ga7, 0, none⟩) (some ⟨gb7, 0, none⟩) 16 ca7 cb7 DA7 DB7 LA7.out LB7.out (by omega) xb7 YA7'.out YB7.out).mono ?_
  rw [← HC7.out]
  intro e xc7 h
  obtain ⟨rfl, bc7⟩ := h.below
  have BC7 := Lib.hid (BB7.out.trans (bc7.mono BB7.out.size))
  have TC7 := Lib.hid (TB7.out.below bc7 TB7.out.lt)
  clear h bc7
  go_wp2_with fail
  rw [rounds_succ]
  go_wp2
  go_ret
  exact ⟨rfl, BC7.out⟩
set_option maxRecDepth 100000 in
set_option maxHeartbeats 1000000 in
theorem order_gt_lt (s n s' n' : Int) (N A : Option Addr) (cN m c : Nat) (node ds : List UInt8) (hl : ds.length = m) (h16 : 16 ≤ m) (h100 : m ≤ 100) (hc : A = none → c = 0) (hnc : m ≤ c) (w : World) (hP : Pre w s n N node ds) (hP' : Pre w s' n' N node ds) (hb : Byt w A ds) (h6 : atV 6 s' n' < atV 6 s n) (h7 : atV 7 s n < atV 7 s' n') :
    Calls Try.prog 3 #[.int .i64 s, .int .i64 n, .int .i64 s', .int .i64 n', .slice N 6 cN, .slice A m c] w fun e w' => e = .returned (.bool true) ∧ Below w.heap.size w w' := by
  have TY := Lib.hid (timely_yes s n hP.s0 hP.s1 hP.n0 hP.n1)
  have TY' := Lib.hid (timely_yes s' n' hP'.s0 hP'.s1 hP'.n0 hP'.n1)
  have UA6 := Lib.hid (fun w' (b : Below w.heap.size w w') => uuidAt6 (cN := cN) (hP.below b) hl hc hnc (hb.below b (Nat.le_refl _)))
  have UB6 := Lib.hid (fun w' (b : Below w.heap.size w w') => uuidAt6 (cN := cN) (hP'.below b) hl hc hnc (hb.below b (Nat.le_refl _)))
  have LA6 := Lib.hid (atB_length 6 s n node ds hP.hnl hP.d0)
  have LB6 := Lib.hid (atB_length 6 s' n' node ds hP.hnl hP.d0)
  have AA6 := Lib.hid (show ∀ w, Calls Try.prog 12 #[.int .i64 6, .int .i64 s, .int .i64 n] w fun e w' => e = .returned (.int .u64 (atV 6 s n)) ∧ w = w' from fun w => at_any 6 s n (by decide) hP.s0 hP.s1 hP.n0 hP.n1 w)
  have AB6 := Lib.hid (show ∀ w, Calls Try.prog 12 #[.int .i64 6, .int .i64 s', .int .i64 n'] w fun e w' => e = .returned (.int .u64 (atV 6 s' n')) ∧ w = w' from fun w => at_any 6 s' n' (by decide) hP'.s0 hP'.s1 hP'.n0 hP'.n1 w)
  have c6 := (ord6 s' n' s n node ds hP'.s0 hP'.s1 hP'.n0 hP'.n1 hP.s0 hP.s1 hP.n0 hP.n1 h6).2
  obtain ⟨DA6, hDA6⟩ : ∃ D, D = atB 6 s n node ds := ⟨_, rfl⟩
  obtain ⟨DB6, hDB6⟩ : ∃ D, D = atB 6 s' n' node ds := ⟨_, rfl⟩
  rw [← hDA6] at UA6 LA6 c6
  rw [← hDB6] at UB6 LB6 c6
  obtain ⟨VA6, hVA6⟩ : ∃ V, V = atV 6 s n := ⟨_, rfl⟩
  obtain ⟨VB6, hVB6⟩ : ∃ V, V = atV 6 s' n' := ⟨_, rfl⟩
  rw [← hVA6] at AA6 h6
  rw [← hVB6] at AB6 h6
  obtain ⟨C6, hC6⟩ : ∃ C, C = cmpB DA6 DB6 := ⟨_, rfl⟩
  rw [← hC6] at c6
  have HC6 := Lib.hid hC6
  have d6 : ¬ C6 ≤ (0 : Int) := by omega
  have i6 : ¬ VA6 < VB6 := by omega
  clear hDA6 hDB6 hVA6 hVB6 hC6
  have UA7 := Lib.hid (fun w' (b : Below w.heap.size w w') => uuidAt7 (cN := cN) (hP.below b) hl hc hnc (hb.below b (Nat.le_refl _)))
  have UB7 := Lib.hid (fun w' (b : Below w.heap.size w w') => uuidAt7 (cN := cN) (hP'.below b) hl hc hnc (hb.below b (Nat.le_refl _)))
  have LA7 := Lib.hid (atB_length 7 s n node ds hP.hnl hP.d0)
  have LB7 := Lib.hid (atB_length 7 s' n' node ds hP.hnl hP.d0)
  have AA7 := Lib.hid (show ∀ w, Calls Try.prog 12 #[.int .i64 7, .int .i64 s, .int .i64 n] w fun e w' => e = .returned (.int .u64 (atV 7 s n)) ∧ w = w' from fun w => at_seven s n hP.s0 hP.s1 hP.n0 hP.n1 w)
  have AB7 := Lib.hid (show ∀ w, Calls Try.prog 12 #[.int .i64 7, .int .i64 s', .int .i64 n'] w fun e w' => e = .returned (.int .u64 (atV 7 s' n')) ∧ w = w' from fun w => at_seven s' n' hP'.s0 hP'.s1 hP'.n0 hP'.n1 w)
  have c7 := (ord7 s n s' n' node ds hP.s0 hP.s1 hP.n0 hP.n1 hP'.s0 hP'.s1 hP'.n0 hP'.n1 h7).1
  obtain ⟨DA7, hDA7⟩ : ∃ D, D = atB 7 s n node ds := ⟨_, rfl⟩
  obtain ⟨DB7, hDB7⟩ : ∃ D, D = atB 7 s' n' node ds := ⟨_, rfl⟩
  rw [← hDA7] at UA7 LA7 c7
  rw [← hDB7] at UB7 LB7 c7
  obtain ⟨VA7, hVA7⟩ : ∃ V, V = atV 7 s n := ⟨_, rfl⟩
  obtain ⟨VB7, hVB7⟩ : ∃ V, V = atV 7 s' n' := ⟨_, rfl⟩
  rw [← hVA7] at AA7 h7
  rw [← hVB7] at AB7 h7
  obtain ⟨C7, hC7⟩ : ∃ C, C = cmpB DA7 DB7 := ⟨_, rfl⟩
  rw [← hC7] at c7
  have HC7 := Lib.hid hC7
  have d7 : ¬ (0 : Int) ≤ C7 := by omega
  have i7 : ¬ VB7 < VA7 := by omega
  clear hDA7 hDB7 hVA7 hVB7 hC7
  clear hl hc hb hP hP'
  have NB := NewB.alloc w 3 [.int .i64 6, .int .i64 7]
  have BN := Lib.hid (NB.below (Below.refl w.heap.size w) (Nat.le_refl _))
  have TL := Lib.hid NB.at_
  clear NB
  go_enter Try.func3, Try.ntmps3
  go_wp2_with fail
  refine (TY.out w).mono ?_
  rintro e w1 ⟨rfl, rfl⟩
  go_wp2_with fail
  refine (TY'.out w).mono ?_
  rintro e w1 ⟨rfl, rfl⟩
  go_wp2_with (refine wp_loop_rounds 3 ?_)
  rw [rounds_succ]
  go_wp2_with fail
  refine (UA6.out _ BN.out).mono ?_
  rintro e xa6 ⟨ga6, ca6, rfl, -, -, ya6, ba6⟩
  have BA6 := Lib.hid (BN.out.trans (ba6.mono BN.out.size))
  have YA6 := Lib.hid ya6
  have TA6 := Lib.hid (TL.out.below ba6 TL.out.lt)
  clear ya6 ba6
  rw [LA6.out]
  go_wp2_with fail
  refine (UB6.out _ BA6.out).mono ?_
  rintro e xb6 ⟨gb6, cb6, rfl, -, -, yb6, bb6⟩
  have BB6 := Lib.hid (BA6.out.trans (bb6.mono BA6.out.size))
  have YB6 := Lib.hid yb6
  have YA6' := Lib.hid (YA6.out.below bb6 (Nat.le_refl _))
  have TB6 := Lib.hid (TA6.out.below bb6 TA6.out.lt)
  clear yb6 bb6
  rw [LB6.out]
  go_wp2_with fail
  refine (AA6.out _).mono ?_
  rintro e x ⟨rfl, rfl⟩
  go_wp2_with fail
  refine (AB6.out _).mono ?_
  rintro e x ⟨rfl, rfl⟩
  go_wp2_with fail
  refine (compare_any (some ⟨ga6, 0, none⟩) (some ⟨gb6, 0, none⟩) 16 ca6 cb6 DA6 DB6 LA6.out LB6.out (by omega) xb6 YA6'.out YB6.out).mono ?_
  rw [← HC6.out]
  intro e xc6 h
  obtain ⟨rfl, bc6⟩ := h.below
  have BC6 := Lib.hid (BB6.out.trans (bc6.mono BB6.out.size))
  have TC6 := Lib.hid (TB6.out.below bc6 TB6.out.lt)
  clear h bc6
  have TL7 := Lib.hid TC6.out
  have k1 : xc6.cell? ⟨w.heap.size, 1, none⟩ = some (.int .i64 7) := TL7.out.cell 1 (by simp)
  go_wp2_with fail
  rw [rounds_succ]
  go_wp2_with fail
  refine (UA7.out _ BC6.out).mono ?_
  rintro e xa7 ⟨ga7, ca7, rfl, -, -, ya7, ba7⟩
  have BA7 := Lib.hid (BC6.out.trans (ba7.mono BC6.out.size))
  have YA7 := Lib.hid ya7
  have TA7 := Lib.hid (TL7.out.below ba7 TL7.out.lt)
  clear ya7 ba7
  rw [LA7.out]
  go_wp2_with fail
  refine (UB7.out _ BA7.out).mono ?_
  rintro e xb7 ⟨gb7, cb7, rfl, -, -, yb7, bb7⟩
  have BB7 := Lib.hid (BA7.out.trans (bb7.mono BA7.out.size))
  have YB7 := Lib.hid yb7
  have YA7' := Lib.hid (YA7.out.below bb7 (Nat.le_refl _))
  have TB7 := Lib.hid (TA7.out.below bb7 TA7.out.lt)
  clear yb7 bb7
  rw [LB7.out]
  go_wp2_with fail
  refine (AA7.out _).mono ?_
  rintro e x ⟨rfl, rfl⟩
  go_wp2_with fail
  refine (AB7.out _).mono ?_
  rintro e x ⟨rfl, rfl⟩
  go_wp2_with fail
  refine (compare_any (some ⟨ga7, 0, none⟩) (some ⟨gb7, 0, none⟩) 16 ca7 cb7 DA7 DB7 LA7.out LB7.out (by omega) xb7 YA7'.out YB7.out).mono ?_
  rw [← HC7.out]
  intro e xc7 h
  obtain ⟨rfl, bc7⟩ := h.below
  have BC7 := Lib.hid (BB7.out.trans (bc7.mono BB7.out.size))
  have TC7 := Lib.hid (TB7.out.below bc7 TB7.out.lt)
  clear h bc7
  go_wp2_with fail
  rw [rounds_succ]
  go_wp2
  go_ret
  exact ⟨rfl, BC7.out⟩
set_option maxRecDepth 100000 in
set_option maxHeartbeats 1000000 in
theorem order_gt_eq (s n s' n' : Int) (N A : Option Addr) (cN m c : Nat) (node ds : List UInt8) (hl : ds.length = m) (h16 : 16 ≤ m) (h100 : m ≤ 100) (hc : A = none → c = 0) (hnc : m ≤ c) (w : World) (hP : Pre w s n N node ds) (hP' : Pre w s' n' N node ds) (hb : Byt w A ds) (h6 : atV 6 s' n' < atV 6 s n) (h7 : atV 7 s n = atV 7 s' n') :
    Calls Try.prog 3 #[.int .i64 s, .int .i64 n, .int .i64 s', .int .i64 n', .slice N 6 cN, .slice A m c] w fun e w' => e = .returned (.bool true) ∧ Below w.heap.size w w' := by
  have TY := Lib.hid (timely_yes s n hP.s0 hP.s1 hP.n0 hP.n1)
  have TY' := Lib.hid (timely_yes s' n' hP'.s0 hP'.s1 hP'.n0 hP'.n1)
  have UA6 := Lib.hid (fun w' (b : Below w.heap.size w w') => uuidAt6 (cN := cN) (hP.below b) hl hc hnc (hb.below b (Nat.le_refl _)))
  have UB6 := Lib.hid (fun w' (b : Below w.heap.size w w') => uuidAt6 (cN := cN) (hP'.below b) hl hc hnc (hb.below b (Nat.le_refl _)))
  have LA6 := Lib.hid (atB_length 6 s n node ds hP.hnl hP.d0)
  have LB6 := Lib.hid (atB_length 6 s' n' node ds hP.hnl hP.d0)
  have AA6 := Lib.hid (show ∀ w, Calls Try.prog 12 #[.int .i64 6, .int .i64 s, .int .i64 n] w fun e w' => e = .returned (.int .u64 (atV 6 s n)) ∧ w = w' from fun w => at_any 6 s n (by decide) hP.s0 hP.s1 hP.n0 hP.n1 w)
  have AB6 := Lib.hid (show ∀ w, Calls Try.prog 12 #[.int .i64 6, .int .i64 s', .int .i64 n'] w fun e w' => e = .returned (.int .u64 (atV 6 s' n')) ∧ w = w' from fun w => at_any 6 s' n' (by decide) hP'.s0 hP'.s1 hP'.n0 hP'.n1 w)
  have c6 := (ord6 s' n' s n node ds hP'.s0 hP'.s1 hP'.n0 hP'.n1 hP.s0 hP.s1 hP.n0 hP.n1 h6).2
  obtain ⟨DA6, hDA6⟩ : ∃ D, D = atB 6 s n node ds := ⟨_, rfl⟩
  obtain ⟨DB6, hDB6⟩ : ∃ D, D = atB 6 s' n' node ds := ⟨_, rfl⟩
  rw [← hDA6] at UA6 LA6 c6
  rw [← hDB6] at UB6 LB6 c6
  obtain ⟨VA6, hVA6⟩ : ∃ V, V = atV 6 s n := ⟨_, rfl⟩
  obtain ⟨VB6, hVB6⟩ : ∃ V, V = atV 6 s' n' := ⟨_, rfl⟩
  rw [← hVA6] at AA6 h6
  rw [← hVB6] at AB6 h6
  obtain ⟨C6, hC6⟩ : ∃ C, C = cmpB DA6 DB6 := ⟨_, rfl⟩
  rw [← hC6] at c6
  have HC6 := Lib.hid hC6
  have d6 : ¬ C6 ≤ (0 : Int) := by omega
  have i6 : ¬ VA6 < VB6 := by omega
  clear hDA6 hDB6 hVA6 hVB6 hC6
  have UA7 := Lib.hid (fun w' (b : Below w.heap.size w w') => uuidAt7 (cN := cN) (hP.below b) hl hc hnc (hb.below b (Nat.le_refl _)))
  have UB7 := Lib.hid (fun w' (b : Below w.heap.size w w') => uuidAt7 (cN := cN) (hP'.below b) hl hc hnc (hb.below b (Nat.le_refl _)))
  have LA7 := Lib.hid (atB_length 7 s n node ds hP.hnl hP.d0)
  have LB7 := Lib.hid (atB_length 7 s' n' node ds hP.hnl hP.d0)
  have AA7 := Lib.hid (show ∀ w, Calls Try.prog 12 #[.int .i64 7, .int .i64 s, .int .i64 n] w fun e w' => e = .returned (.int .u64 (atV 7 s n)) ∧ w = w' from fun w => at_seven s n hP.s0 hP.s1 hP.n0 hP.n1 w)
  have AB7 := Lib.hid (show ∀ w, Calls Try.prog 12 #[.int .i64 7, .int .i64 s', .int .i64 n'] w fun e w' => e = .returned (.int .u64 (atV 7 s' n')) ∧ w = w' from fun w => at_seven s' n' hP'.s0 hP'.s1 hP'.n0 hP'.n1 w)
  obtain ⟨DA7, hDA7⟩ : ∃ D, D = atB 7 s n node ds := ⟨_, rfl⟩
  obtain ⟨DB7, hDB7⟩ : ∃ D, D = atB 7 s' n' node ds := ⟨_, rfl⟩
  rw [← hDA7] at UA7 LA7
  rw [← hDB7] at UB7 LB7
  obtain ⟨VA7, hVA7⟩ : ∃ V, V = atV 7 s n := ⟨_, rfl⟩
  obtain ⟨VB7, hVB7⟩ : ∃ V, V = atV 7 s' n' := ⟨_, rfl⟩
  rw [← hVA7] at AA7 h7
  rw [← hVB7] at AB7 h7
  rw [← h7] at AB7
  clear hDA7 hDB7 hVA7 hVB7 h7
  clear hl hc hb hP hP'
  have NB := NewB.alloc w 3 [.int .i64 6, .int .i64 7]
  have BN := Lib.hid (NB.below (Below.refl w.heap.size w) (Nat.le_refl _))
  have TL := Lib.hid NB.at_
  clear NB
  go_enter Try.func3, Try.ntmps3
  go_wp2_with fail
  refine (TY.out w).mono ?_
  rintro e w1 ⟨rfl, rfl⟩
  go_wp2_with fail
  refine (TY'.out w).mono ?_
  rintro e w1 ⟨rfl, rfl⟩
  go_wp2_with (refine wp_loop_rounds 3 ?_)
  rw [rounds_succ]
  go_wp2_with fail
  refine (UA6.out _ BN.out).mono ?_
  rintro e xa6 ⟨ga6, ca6, rfl, -, -, ya6, ba6⟩
  have BA6 := Lib.hid (BN.out.trans (ba6.mono BN.out.size))
  have YA6 := Lib.hid ya6
  have TA6 := Lib.hid (TL.out.below ba6 TL.out.lt)
  clear ya6 ba6
  rw [LA6.out]
  go_wp2_with fail
  refine (UB6.out _ BA6.out).mono ?_
  rintro e xb6 ⟨gb6, cb6, rfl, -, -, yb6, bb6⟩
  have BB6 := Lib.hid (BA6.out.trans (bb6.mono BA6.out.size))
  have YB6 := Lib.hid yb6
  have YA6' := Lib.hid (YA6.out.below bb6 (Nat.le_refl _))
  have TB6 := Lib.hid (TA6.out.below bb6 TA6.out.lt)
  clear yb6 bb6
  rw [LB6.out]
  go_wp2_with fail
  refine (AA6.out _).mono ?_
  rintro e x ⟨rfl, rfl⟩
  go_wp2_with fail
  refine (AB6.out _).mono ?_
  rintro e x ⟨rfl, rfl⟩
  go_wp2_with fail
  refine (compare_any (some ⟨ga6, 0, none⟩) (some ⟨gb6, 0, none⟩) 16 ca6 cb6 DA6 DB6 LA6.out LB6.out (by omega) xb6 YA6'.out YB6.out).mono ?_
  rw [← HC6.out]
  intro e xc6 h
  obtain ⟨rfl, bc6⟩ := h.below
  have BC6 := Lib.hid (BB6.out.trans (bc6.mono BB6.out.size))
  have TC6 := Lib.hid (TB6.out.below bc6 TB6.out.lt)
  clear h bc6
  have TL7 := Lib.hid TC6.out
  have k1 : xc6.cell? ⟨w.heap.size, 1, none⟩ = some (.int .i64 7) := TL7.out.cell 1 (by simp)
  go_wp2_with fail
  rw [rounds_succ]
  go_wp2_with fail
  refine (UA7.out _ BC6.out).mono ?_
  rintro e xa7 ⟨ga7, ca7, rfl, -, -, ya7, ba7⟩
  have BA7 := Lib.hid (BC6.out.trans (ba7.mono BC6.out.size))
  have YA7 := Lib.hid ya7
  have TA7 := Lib.hid (TL7.out.below ba7 TL7.out.lt)
  clear ya7 ba7
  rw [LA7.out]
  go_wp2_with fail
  refine (UB7.out _ BA7.out).mono ?_
  rintro e xb7 ⟨gb7, cb7, rfl, -, -, yb7, bb7⟩
  have BB7 := Lib.hid (BA7.out.trans (bb7.mono BA7.out.size))
  have YB7 := Lib.hid yb7
  have YA7' := Lib.hid (YA7.out.below bb7 (Nat.le_refl _))
  have TB7 := Lib.hid (TA7.out.below bb7 TA7.out.lt)
  clear yb7 bb7
  rw [LB7.out]
  go_wp2_with fail
  refine (AA7.out _).mono ?_
  rintro e x ⟨rfl, rfl⟩
  go_wp2_with fail
  refine (AB7.out _).mono ?_
  rintro e x ⟨rfl, rfl⟩
  go_wp2_with fail
  rw [rounds_succ]
  go_wp2
  go_ret
  exact ⟨rfl, BB7.out⟩
set_option maxRecDepth 100000 in
set_option maxHeartbeats 1000000 in
theorem order_gt_gt (s n s' n' : Int) (N A : Option Addr) (cN m c : Nat) (node ds : List UInt8) (hl : ds.length = m) (h16 : 16 ≤ m) (h100 : m ≤ 100) (hc : A = none → c = 0) (hnc : m ≤ c) (w : World) (hP : Pre w s n N node ds) (hP' : Pre w s' n' N node ds) (hb : Byt w A ds) (h6 : atV 6 s' n' < atV 6 s n) (h7 : atV 7 s' n' < atV 7 s n) :
    Calls Try.prog 3 #[.int .i64 s, .int .i64 n, .int .i64 s', .int .i64 n', .slice N 6 cN, .slice A m c] w fun e w' => e = .returned (.bool true) ∧ Below w.heap.size w w' := by
  have TY := Lib.hid (timely_yes s n hP.s0 hP.s1 hP.n0 hP.n1)
  have TY' := Lib.hid (timely_yes s' n' hP'.s0 hP'.s1 hP'.n0 hP'.n1)
  have UA6 := Lib.hid (fun w' (b : Below w.heap.size w w') => uuidAt6 (cN := cN) (hP.below b) hl hc hnc (hb.below b (Nat.le_refl _)))
  have UB6 := Lib.hid (fun w' (b : Below w.heap.size w w') => uuidAt6 (cN := cN) (hP'.below b) hl hc hnc (hb.below b (Nat.le_refl _)))
  have LA6 := Lib.hid (atB_length 6 s n node ds hP.hnl hP.d0)
  have LB6 := Lib.hid (atB_length 6 s' n' node ds hP.hnl hP.d0)
  have AA6 := Lib.hid (show ∀ w, Calls Try.prog 12 #[.int .i64 6, .int .i64 s, .int .i64 n] w fun e w' => e = .returned (.int .u64 (atV 6 s n)) ∧ w = w' from fun w => at_any 6 s n (by decide) hP.s0 hP.s1 hP.n0 hP.n1 w)
  have AB6 := Lib.hid (show ∀ w, Calls Try.prog 12 #[.int .i64 6, .int .i64 s', .int .i64 n'] w fun e w' => e = .returned (.int .u64 (atV 6 s' n')) ∧ w = w' from fun w => at_any 6 s' n' (by decide) hP'.s0 hP'.s1 hP'.n0 hP'.n1 w)
  have c6 := (ord6 s' n' s n node ds hP'.s0 hP'.s1 hP'.n0 hP'.n1 hP.s0 hP.s1 hP.n0 hP.n1 h6).2
  obtain ⟨DA6, hDA6⟩ : ∃ D, D = atB 6 s n node ds := ⟨_, rfl⟩
  obtain ⟨DB6, hDB6⟩ : ∃ D, D = atB 6 s' n' node ds := ⟨_, rfl⟩
  rw [← hDA6] at UA6 LA6 c6
  rw [← hDB6] at UB6 LB6 c6
  obtain ⟨VA6, hVA6⟩ : ∃ V, V = atV 6 s n := ⟨_, rfl⟩
  obtain ⟨VB6, hVB6⟩ : ∃ V, V = atV 6 s' n' := ⟨_, rfl⟩
  rw [← hVA6] at AA6 h6
  rw [← hVB6] at AB6 h6
  obtain ⟨C6, hC6⟩ : ∃ C, C = cmpB DA6 DB6 := ⟨_, rfl⟩
  rw [← hC6] at c6
  have HC6 := Lib.hid hC6
  have d6 : ¬ C6 ≤ (0 : Int) := by omega
  have i6 : ¬ VA6 < VB6 := by omega
  clear hDA6 hDB6 hVA6 hVB6 hC6
  have UA7 := Lib.hid (fun w' (b : Below w.heap.size w w') => uuidAt7 (cN := cN) (hP.below b) hl hc hnc (hb.below b (Nat.le_refl _)))
  have UB7 := Lib.hid (fun w' (b : Below w.heap.size w w') => uuidAt7 (cN := cN) (hP'.below b) hl hc hnc (hb.below b (Nat.le_refl _)))
  have LA7 := Lib.hid (atB_length 7 s n node ds hP.hnl hP.d0)
  have LB7 := Lib.hid (atB_length 7 s' n' node ds hP.hnl hP.d0)
  have AA7 := Lib.hid (show ∀ w, Calls Try.prog 12 #[.int .i64 7, .int .i64 s, .int .i64 n] w fun e w' => e = .returned (.int .u64 (atV 7 s n)) ∧ w = w' from fun w => at_seven s n hP.s0 hP.s1 hP.n0 hP.n1 w)
  have AB7 := Lib.hid (show ∀ w, Calls Try.prog 12 #[.int .i64 7, .int .i64 s', .int .i64 n'] w fun e w' => e = .returned (.int .u64 (atV 7 s' n')) ∧ w = w' from fun w => at_seven s' n' hP'.s0 hP'.s1 hP'.n0 hP'.n1 w)
  have c7 := (ord7 s' n' s n node ds hP'.s0 hP'.s1 hP'.n0 hP'.n1 hP.s0 hP.s1 hP.n0 hP.n1 h7).2
  obtain ⟨DA7, hDA7⟩ : ∃ D, D = atB 7 s n node ds := ⟨_, rfl⟩
  obtain ⟨DB7, hDB7⟩ : ∃ D, D = atB 7 s' n' node ds := ⟨_, rfl⟩
  rw [← hDA7] at UA7 LA7 c7
  rw [← hDB7] at UB7 LB7 c7
  obtain ⟨VA7, hVA7⟩ : ∃ V, V = atV 7 s n := ⟨_, rfl⟩
  obtain ⟨VB7, hVB7⟩ : ∃ V, V = atV 7 s' n' := ⟨_, rfl⟩
  rw [← hVA7] at AA7 h7
  rw [← hVB7] at AB7 h7
  obtain ⟨C7, hC7⟩ : ∃ C, C = cmpB DA7 DB7 := ⟨_, rfl⟩
  rw [← hC7] at c7
  have HC7 := Lib.hid hC7
  have d7 : ¬ C7 ≤ (0 : Int) := by omega
  have i7 : ¬ VA7 < VB7 := by omega
  clear hDA7 hDB7 hVA7 hVB7 hC7
  clear hl hc hb hP hP'
  have NB := NewB.alloc w 3 [.int .i64 6, .int .i64 7]
  have BN := Lib.hid (NB.below (Below.refl w.heap.size w) (Nat.le_refl _))
  have TL := Lib.hid NB.at_
  clear NB
  go_enter Try.func3, Try.ntmps3
  go_wp2_with fail
  refine (TY.out w).mono ?_
  rintro e w1 ⟨rfl, rfl⟩
  go_wp2_with fail
  refine (TY'.out w).mono ?_
  rintro e w1 ⟨rfl, rfl⟩
  go_wp2_with (refine wp_loop_rounds 3 ?_)
  rw [rounds_succ]
  go_wp2_with fail
  refine (UA6.out _ BN.out).mono ?_
  rintro e xa6 ⟨ga6, ca6, rfl, -, -, ya6, ba6⟩
  have BA6 := Lib.hid (BN.out.trans (ba6.mono BN.out.size))
  have YA6 := Lib.hid ya6
  have TA6 := Lib.hid (TL.out.below ba6 TL.out.lt)
  clear ya6 ba6
  rw [LA6.out]
  go_wp2_with fail
  refine (UB6.out _ BA6.out).mono ?_
  rintro e xb6 ⟨gb6, cb6, rfl, -, -, yb6, bb6⟩
  have BB6 := Lib.hid (BA6.out.trans (bb6.mono BA6.out.size))
  have YB6 := Lib.hid yb6
  have YA6' := Lib.hid (YA6.out.below bb6 (Nat.le_refl _))
  have TB6 := Lib.hid (TA6.out.below bb6 TA6.out.lt)
  clear yb6 bb6
  rw [LB6.out]
  go_wp2_with fail
  refine (AA6.out _).mono ?_
  rintro e x ⟨rfl, rfl⟩
  go_wp2_with fail
  refine (AB6.out _).mono ?_
  rintro e x ⟨rfl, rfl⟩
  go_wp2_with fail
  refine (compare_any (some ⟨ga6, 0, none⟩) (some ⟨gb6, 0, none⟩) 16 ca6 cb6 DA6 DB6 LA6.out LB6.out (by omega) xb6 YA6'.out YB6.out).mono ?_
  rw [← HC6.out]
  intro e xc6 h
  obtain ⟨rfl, bc6⟩ := h.below
  have BC6 := Lib.hid (BB6.out.trans (bc6.mono BB6.out.size))
  have TC6 := Lib.hid (TB6.out.below bc6 TB6.out.lt)
  clear h bc6
  have TL7 := Lib.hid TC6.out
  have k1 : xc6.cell? ⟨w.heap.size, 1, none⟩ = some (.int .i64 7) := TL7.out.cell 1 (by simp)
  go_wp2_with fail
  rw [rounds_succ]
  go_wp2_with fail
  refine (UA7.out _ BC6.out).mono ?_
  rintro e xa7 ⟨ga7, ca7, rfl, -, -, ya7, ba7⟩
  have BA7 := Lib.hid (BC6.out.trans (ba7.mono BC6.out.size))
  have YA7 := Lib.hid ya7
  have TA7 := Lib.hid (TL7.out.below ba7 TL7.out.lt)
  clear ya7 ba7
  rw [LA7.out]
  go_wp2_with fail
  refine (UB7.out _ BA7.out).mono ?_
  rintro e xb7 ⟨gb7, cb7, rfl, -, -, yb7, bb7⟩
  have BB7 := Lib.hid (BA7.out.trans (bb7.mono BA7.out.size))
  have YB7 := Lib.hid yb7
  have YA7' := Lib.hid (YA7.out.below bb7 (Nat.le_refl _))
  have TB7 := Lib.hid (TA7.out.below bb7 TA7.out.lt)
  clear yb7 bb7
  rw [LB7.out]
  go_wp2_with fail
  refine (AA7.out _).mono ?_
  rintro e x ⟨rfl, rfl⟩
  go_wp2_with fail
  refine (AB7.out _).mono ?_
  rintro e x ⟨rfl, rfl⟩
  go_wp2_with fail
  refine (compare_any (some ⟨ga7, 0, none⟩) (some ⟨gb7, 0, none⟩) 16 ca7 cb7 DA7 DB7 LA7.out LB7.out (by omega) xb7 YA7'.out YB7.out).mono ?_
  rw [← HC7.out]
  intro e xc7 h
  obtain ⟨rfl, bc7⟩ := h.below
  have BC7 := Lib.hid (BB7.out.trans (bc7.mono BB7.out.size))
  have TC7 := Lib.hid (TB7.out.below bc7 TB7.out.lt)
  clear h bc7
  go_wp2_with fail
  rw [rounds_succ]
  go_wp2
  go_ret
  exact ⟨rfl, BC7.out⟩
set_option maxRecDepth 100000 in
theorem order_un1 (s n s' n' : Int) (N A : Option Addr) (nN cN m c : Nat) (h : ¬ (0 ≤ s ∧ s < 4102444800 ∧ 0 ≤ n ∧ n < 1000000000)) (hb1 : (nN : Int) ≤ 2147483647) (hb2 : (m : Int) ≤ 2147483647) (w : World) :
    Calls Try.prog 3 #[.int .i64 s, .int .i64 n, .int .i64 s', .int .i64 n', .slice N nN cN, .slice A m c] w fun e w' => e = .returned (.bool true) ∧ Below w.heap.size w w' := by
  have TN := Lib.hid (timely_no s n h)
  clear h
  go_enter Try.func3, Try.ntmps3
  go_wp2_with fail
  refine (TN.out w).mono ?_
  rintro e w1 ⟨rfl, rfl⟩
  go_wp2
  go_ret
  exact ⟨rfl, Below.refl _ _⟩
set_option maxRecDepth 100000 in
theorem order_un2 (s n s' n' : Int) (N A : Option Addr) (nN cN m c : Nat) (h : 0 ≤ s ∧ s < 4102444800 ∧ 0 ≤ n ∧ n < 1000000000) (h' : ¬ (0 ≤ s' ∧ s' < 4102444800 ∧ 0 ≤ n' ∧ n' < 1000000000)) (hb1 : (nN : Int) ≤ 2147483647) (hb2 : (m : Int) ≤ 2147483647) (w : World) :
    Calls Try.prog 3 #[.int .i64 s, .int .i64 n, .int .i64 s', .int .i64 n', .slice N nN cN, .slice A m c] w fun e w' => e = .returned (.bool true) ∧ Below w.heap.size w w' := by
  have TY := Lib.hid (timely_yes s n h.1 h.2.1 h.2.2.1 h.2.2.2)
  have TN := Lib.hid (timely_no s' n' h')
  clear h h'
  go_enter Try.func3, Try.ntmps3
  go_wp2_with fail
  refine (TY.out w).mono ?_
  rintro e w1 ⟨rfl, rfl⟩
  go_wp2_with fail
  refine (TN.out w).mono ?_
  rintro e w1 ⟨rfl, rfl⟩
  go_wp2
  go_ret
  exact ⟨rfl, Below.refl _ _⟩
set_option maxRecDepth 100000 in
theorem order_a (s n s' n' : Int) (N A : Option Addr) (nN cN m c : Nat) (h : 0 ≤ s ∧ s < 4102444800 ∧ 0 ≤ n ∧ n < 1000000000) (h' : 0 ≤ s' ∧ s' < 4102444800 ∧ 0 ≤ n' ∧ n' < 1000000000) (t : nN ≠ 6) (hb1 : (nN : Int) ≤ 2147483647) (hb2 : (m : Int) ≤ 2147483647) (w : World) :
    Calls Try.prog 3 #[.int .i64 s, .int .i64 n, .int .i64 s', .int .i64 n', .slice N nN cN, .slice A m c] w fun e w' => e = .returned (.bool true) ∧ Below w.heap.size w w' := by
  have TY := Lib.hid (timely_yes s n h.1 h.2.1 h.2.2.1 h.2.2.2)
  have TY' := Lib.hid (timely_yes s' n' h'.1 h'.2.1 h'.2.2.1 h'.2.2.2)
  clear h h'
  have t : ((nN : Int) != 6) = true := by rw [bne_iff_ne]; omega
  go_enter Try.func3, Try.ntmps3
  go_wp2_with fail
  refine (TY.out w).mono ?_
  rintro e w1 ⟨rfl, rfl⟩
  go_wp2_with fail
  refine (TY'.out w).mono ?_
  rintro e w1 ⟨rfl, rfl⟩
  go_wp2
  go_ret
  exact ⟨rfl, Below.refl _ _⟩
set_option maxRecDepth 100000 in
theorem order_b (s n s' n' : Int) (N A : Option Addr) (nN cN m c : Nat) (h : 0 ≤ s ∧ s < 4102444800 ∧ 0 ≤ n ∧ n < 1000000000) (h' : 0 ≤ s' ∧ s' < 4102444800 ∧ 0 ≤ n' ∧ n' < 1000000000) (t : nN = 6) (t2 : m < 16) (hb1 : (nN : Int) ≤ 2147483647) (hb2 : (m : Int) ≤ 2147483647) (w : World) :
    Calls Try.prog 3 #[.int .i64 s, .int .i64 n, .int .i64 s', .int .i64 n', .slice N nN cN, .slice A m c] w fun e w' => e = .returned (.bool true) ∧ Below w.heap.size w w' := by
  have TY := Lib.hid (timely_yes s n h.1 h.2.1 h.2.2.1 h.2.2.2)
  have TY' := Lib.hid (timely_yes s' n' h'.1 h'.2.1 h'.2.2.1 h'.2.2.2)
  clear h h'
  subst t
  go_enter Try.func3, Try.ntmps3
  go_wp2_with fail
  refine (TY.out w).mono ?_
  rintro e w1 ⟨rfl, rfl⟩
  go_wp2_with fail
  refine (TY'.out w).mono ?_
  rintro e w1 ⟨rfl, rfl⟩
  go_wp2
  go_ret
  exact ⟨rfl, Below.refl _ _⟩
set_option maxRecDepth 100000 in
theorem order_c (s n s' n' : Int) (N A : Option Addr) (nN cN m c : Nat) (h : 0 ≤ s ∧ s < 4102444800 ∧ 0 ≤ n ∧ n < 1000000000) (h' : 0 ≤ s' ∧ s' < 4102444800 ∧ 0 ≤ n' ∧ n' < 1000000000) (t : nN = 6) (t2 : 100 < m) (hb1 : (nN : Int) ≤ 2147483647) (hb2 : (m : Int) ≤ 2147483647) (w : World) :
    Calls Try.prog 3 #[.int .i64 s, .int .i64 n, .int .i64 s', .int .i64 n', .slice N nN cN, .slice A m c] w fun e w' => e = .returned (.bool true) ∧ Below w.heap.size w w' := by
  have TY := Lib.hid (timely_yes s n h.1 h.2.1 h.2.2.1 h.2.2.2)
  have TY' := Lib.hid (timely_yes s' n' h'.1 h'.2.1 h'.2.2.1 h'.2.2.2)
  clear h h'
  subst t
  have t3 : ¬ (m : Int) < 16 := by omega
  go_enter Try.func3, Try.ntmps3
  go_wp2_with fail
  refine (TY.out w).mono ?_
  rintro e w1 ⟨rfl, rfl⟩
  go_wp2_with fail
  refine (TY'.out w).mono ?_
  rintro e w1 ⟨rfl, rfl⟩
  go_wp2
  go_ret
  exact ⟨rfl, Below.refl _ _⟩
set_option maxRecDepth 100000 in
theorem order_big (s n s' n' : Int) (N A : Option Addr) (nN cN m c : Nat) (h : ¬ ((nN : Int) ≤ 2147483647 ∧ (m : Int) ≤ 2147483647)) (w : World) :
    Calls Try.prog 3 #[.int .i64 s, .int .i64 n, .int .i64 s', .int .i64 n', .slice N nN cN, .slice A m c] w fun e w' => e = .returned (.bool true) ∧ Below w.heap.size w w' := by
  by_cases h1 : (nN : Int) ≤ 2147483647
  · have h2 : (2147483647 : Int) < (m : Int) := by omega
    clear h
    go_enter Try.func3, Try.ntmps3
    go_wp2
    go_ret
    exact ⟨rfl, Below.refl _ _⟩
  · have h2 : (2147483647 : Int) < (nN : Int) := by omega
    clear h
    go_enter Try.func3, Try.ntmps3
    go_wp2
    go_ret
    exact ⟨rfl, Below.refl _ _⟩
theorem walk_FnUuidOrder (a0 a1 a2 a3 : Int) (a4 : Option Addr) (len4 cap4 : Nat) (z4 : List Int) (a5 : Option Addr) (len5 cap5 : Nat) (z5 : List Int) (w : World) (w0 : (Lit.int .i64 a0).wf = true) (w1 : (Lit.int .i64 a1).wf = true) (w2 : (Lit.int .i64 a2).wf = true) (w3 : (Lit.int .i64 a3).wf = true) (w4 : IsRow .u8 w a4 len4 cap4 z4) (w5 : IsRow .u8 w a5 len5 cap5 z5) :
    Calls Try.prog 3 #[.int .i64 a0, .int .i64 a1, .int .i64 a2, .int .i64 a3, .slice a4 len4 cap4, .slice a5 len5 cap5] w fun e w' => e = .returned (.bool true) ∧ Below w.heap.size w w' := by
  obtain ⟨xs, hx, hxb, hxc, hxn⟩ := bytes_of_row w4
  obtain ⟨ys, hy, hyb, hyc, hyn⟩ := bytes_of_row w5
  by_cases hb : (len4 : Int) ≤ 2147483647 ∧ (len5 : Int) ≤ 2147483647
  · by_cases ht : 0 ≤ a0 ∧ a0 < 4102444800 ∧ 0 ≤ a1 ∧ a1 < 1000000000
    · by_cases ht' : 0 ≤ a2 ∧ a2 < 4102444800 ∧ 0 ≤ a3 ∧ a3 < 1000000000
      · by_cases h6 : len4 = 6
        · by_cases h16 : len5 < 16
          · exact order_b a0 a1 a2 a3 a4 a5 len4 cap4 len5 cap5 ht ht' h6 h16 hb.1 hb.2 w
          · by_cases h100 : 100 < len5
            · exact order_c a0 a1 a2 a3 a4 a5 len4 cap4 len5 cap5 ht ht' h6 h100 hb.1 hb.2 w
            · subst h6
              have P : Pre w a0 a1 a4 xs ys := ⟨hxb, hx, ht.1, ht.2.1, ht.2.2.1, ht.2.2.2, by omega, by omega⟩
              have P' : Pre w a2 a3 a4 xs ys := ⟨hxb, hx, ht'.1, ht'.2.1, ht'.2.2.1, ht'.2.2.2, by omega, by omega⟩
              rcases Int.lt_trichotomy (atV 6 a0 a1) (atV 6 a2 a3) with p | p | p <;> rcases Int.lt_trichotomy (atV 7 a0 a1) (atV 7 a2 a3) with q | q | q
              · exact order_lt_lt a0 a1 a2 a3 a4 a5 cap4 len5 cap5 xs ys hy (by omega) (by omega) hyc hyn w P P' hyb p q
              · exact order_lt_eq a0 a1 a2 a3 a4 a5 cap4 len5 cap5 xs ys hy (by omega) (by omega) hyc hyn w P P' hyb p q
              · exact order_lt_gt a0 a1 a2 a3 a4 a5 cap4 len5 cap5 xs ys hy (by omega) (by omega) hyc hyn w P P' hyb p q
              · exact order_eq_lt a0 a1 a2 a3 a4 a5 cap4 len5 cap5 xs ys hy (by omega) (by omega) hyc hyn w P P' hyb p q
              · exact order_eq_eq a0 a1 a2 a3 a4 a5 cap4 len5 cap5 xs ys hy (by omega) (by omega) hyc hyn w P P' hyb p q
              · exact order_eq_gt a0 a1 a2 a3 a4 a5 cap4 len5 cap5 xs ys hy (by omega) (by omega) hyc hyn w P P' hyb p q
              · exact order_gt_lt a0 a1 a2 a3 a4 a5 cap4 len5 cap5 xs ys hy (by omega) (by omega) hyc hyn w P P' hyb p q
              · exact order_gt_eq a0 a1 a2 a3 a4 a5 cap4 len5 cap5 xs ys hy (by omega) (by omega) hyc hyn w P P' hyb p q
              · exact order_gt_gt a0 a1 a2 a3 a4 a5 cap4 len5 cap5 xs ys hy (by omega) (by omega) hyc hyn w P P' hyb p q
        · exact order_a a0 a1 a2 a3 a4 a5 len4 cap4 len5 cap5 ht ht' h6 hb.1 hb.2 w
      · exact order_un2 a0 a1 a2 a3 a4 a5 len4 cap4 len5 cap5 ht ht' hb.1 hb.2 w
    · exact order_un1 a0 a1 a2 a3 a4 a5 len4 cap4 len5 cap5 ht hb.1 hb.2 w
  · exact order_big a0 a1 a2 a3 a4 a5 len4 cap4 len5 cap5 hb w
end Go.Proofs.Ytbojjpgekbljfaa
