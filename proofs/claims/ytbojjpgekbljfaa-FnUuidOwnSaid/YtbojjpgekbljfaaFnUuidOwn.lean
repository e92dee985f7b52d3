/-
  The walk of FnUuidOwn.
-/
import Derived.Test.YtbojjpgekbljfaaNewV8
import Derived.Test.YtbojjpgekbljfaaCmp
import Derived.Test.YtbojjpgekbljfaaRow
import Derived.Test.YtbojjpgekbljfaaReg
namespace Go.Proofs.Ytbojjpgekbljfaa
open Go.RowKit
set_option linter.unusedVariables false
def ZB (n : Nat) (x : Value) (w : World) : Prop := ∃ g a, x = .slice (some ⟨g, 0, none⟩) n n ∧ a.length = n ∧ Byt w (some ⟨g, 0, none⟩) a
def OwC (j : Nat) (x : Value) (w : World) : Prop :=
  match j with
  | 0 => ZB 6 x w
  | 1 => ZB 2 x w
  | 2 => ZB 8 x w
  | 3 => ∃ v, x = .tuple #[v, .bool true]
  | 4 => ∃ v, x = .tuple #[v, .bool true]
  | 6 => x = .bool true
  | 8 => x = .bool true
  | _ => True
theorem ZB.below {n : Nat} {x : Value} {w w' : World} (b : Below w.heap.size w w') (h : ZB n x w) : ZB n x w' := by
  obtain ⟨g, a, h1, h2, h3⟩ := h
  exact ⟨g, a, h1, h2, h3.below b (Nat.le_refl _)⟩
theorem OwC.below {j : Nat} {x : Value} {w w' : World} (b : Below w.heap.size w w') (h : OwC j x w) : OwC j x w' := by
  unfold OwC at *
  split <;> simp only at h ⊢ <;> first | exact h | exact h.below b
theorem made_zero (m : Nat) : madeCells #[Value.int .u8 0] m = ((List.replicate m (0 : UInt8)).map B8).toArray := by
  apply Array.ext
  · simp [madeCells]
  · intro i h1 h2
    simp [madeCells, B8, Nat.mod_one]
theorem run_mk (m : Nat) (h : m ≤ 16) (u : World) : (Instr.makeSlice 22 (.int .i64 m) (.int .i64 m)).run Try.prog u = .ok (.slice (some ⟨u.heap.size, 0, none⟩) m m) (u.alloc (.cells ((List.replicate m (0 : UInt8)).map B8).toArray 5)) := by
  rw [← made_zero]; exact run_make_row' 22 5 (.int .u8 0) 1 Try.underlying22 Try.info8 rfl .i64 .i64 m (by omega) (by omega) u
set_option maxRecDepth 100000 in
theorem own_law_yes (A B C : Option Addr) (ca cb cc : Nat) (hA : A = none → ca = 0) (hB : B = none → cb = 0) (hC : C = none → cc = 0) (a b c : List UInt8) (ha : a.length = 6) (hb : b.length = 2) (hc : c.length = 8) (w : World) (ba : Byt w A a) (bb : Byt w B b) (bc : Byt w C c) :
    Calls Try.prog 5 #[.slice A 6 ca, .slice B 2 cb, .slice C 8 cc] w fun e w' => e = .returned (.bool true) ∧ Below w.heap.size w w' := by
  have F := Lib.hid (uuidOwn_yes A B C ca cb cc a b c ha hb hc w ba bb bc)
  have J1 := Lib.hid (fun w' (h : Below w.heap.size w w') => join_any B C 2 cb 8 cc hB hC b c hb hc (by omega) (by omega) (by omega) w' (bb.below h (Nat.le_refl _)) (bc.below h (Nat.le_refl _)))
  have J2 := Lib.hid (fun D (cd : Nat) w' (h : Below w.heap.size w w') (hd : Byt w' (some D) (b ++ c)) => join_any A (some D) 6 ca 10 cd hA (by simp) a (b ++ c) ha (by simp; omega) (by omega) (by omega) (by omega) w' (ba.below h (Nat.le_refl _)) hd)
  have LR := Lib.hid (show (v8N a b c).length = 16 by rw [v8N, formN, List.length_set, List.length_set]; simp; omega)
  have LJ := Lib.hid (show (a ++ (b ++ c)).length = 16 by simp; omega)
  have LK := Lib.hid (show (b ++ c).length = 10 by simp; omega)
  obtain ⟨R, hR⟩ : ∃ R, R = v8N a b c := ⟨_, rfl⟩
  rw [← hR] at LR F
  have RJ := Lib.hid (show formN ((a ++ (b ++ c)).take 16) 8 = R by rw [List.take_of_length_le (Nat.le_of_eq LJ.out), ← List.append_assoc, hR]; rfl)
  obtain ⟨J, hJ⟩ : ∃ J, J = a ++ (b ++ c) := ⟨_, rfl⟩
  obtain ⟨K, hK⟩ : ∃ K, K = b ++ c := ⟨_, rfl⟩
  rw [← hJ] at RJ LJ
  rw [← hK] at LK
  have HJ := Lib.hid hJ
  have HK := Lib.hid hK
  clear hR hJ hK ha hb hc ba bb bc hA hB hC
  go_enter Try.func5, Try.ntmps5
  go_wp2_with fail
  refine (F.out).mono ?_
  rintro e w1 ⟨v, rfl, ⟨g1, c1, rfl, h1, h2⟩, b1⟩
  have B1 := Lib.hid b1
  have BY1 := Lib.hid h2
  clear h1 h2 b1
  go_wp2_with fail
  refine (J1.out w1 B1.out).mono ?_
  rintro e w2 ⟨g2, c2, rfl, hc2, h1, h2, b2⟩
  have B2 := Lib.hid (B1.out.trans (b2.mono B1.out.size))
  have BR2 := Lib.hid (BY1.out.below b2 (Nat.le_refl _))
  have BY2 := Lib.hid h2
  clear h1 h2 b2
  rw [← HK.out, LK.out]
  go_wp2_with fail
  refine (J2.out _ _ w2 B2.out BY2.out).mono ?_
  rintro e w3 ⟨g3, c3, rfl, hc3, h1, h2, b3⟩
  rw [← HJ.out] at h2
  have B3 := Lib.hid (B2.out.trans (b3.mono B2.out.size))
  have BR3 := Lib.hid (BR2.out.below b3 (Nat.le_refl _))
  have BY3 := Lib.hid h2
  clear h1 h2 b3
  rw [← HJ.out, LJ.out]
  go_wp2_with fail
  refine (form_any (some ⟨g3, 0, none⟩) 16 c3 (by omega) J LJ.out 8 (by decide) (by simp) w3 BY3.out (by rw [← HJ.out] at hc3; have := LJ.out; omega)).mono ?_
  rw [RJ.out]
  rintro e w4 ⟨v, rfl, ⟨g4, c4, rfl, h1, h2⟩, b4⟩
  have B4 := Lib.hid (B3.out.trans (b4.mono B3.out.size))
  have BR4 := Lib.hid (BR3.out.below b4 (Nat.le_refl _))
  have BY4 := Lib.hid h2
  clear h1 h2 b4
  rw [LR.out]
  go_wp2_with fail
  refine (same_any (some ⟨g1, 0, none⟩) (some ⟨g4, 0, none⟩) 16 16 c1 c4 R R LR.out LR.out (by omega) w4 BR4.out BY4.out).mono ?_
  rw [sameB_self]
  intro e w5 h
  obtain ⟨rfl, b5⟩ := h.below
  have B5 := Lib.hid (B4.out.trans (b5.mono B4.out.size))
  clear h b5
  go_wp2
  go_ret
  exact ⟨rfl, B5.out⟩
set_option maxRecDepth 100000 in
set_option pp.maxSteps 100000 in
set_option pp.deepTerms true in
theorem own_law_no1 (A B C : Option Addr) (na nb nc ca cb cc : Nat) (h : na ≠ 6) (hs : na + nb + nc ≤ 100) (w : World) :
    Calls Try.prog 5 #[.slice A na ca, .slice B nb cb, .slice C nc cc] w fun e w' => e = .returned (.bool true) ∧ Below w.heap.size w w' := by
  have F := Lib.hid (uuidOwn_no A B C na nb nc ca cb cc (by omega) w)
  have t : ((na : Int) != 6) = true := by rw [bne_iff_ne]; omega
  go_enter Try.func5, Try.ntmps5
  go_wp2_with fail
  refine (F.out).mono ?_
  rintro e w1 ⟨rfl, b1⟩
  have B1 := Lib.hid b1
  clear b1
  go_wp2_with fail
  refine wp_region_inv (RI (fun v => ⟨#[Value.slice A na ca, Value.slice B nb cb, Value.slice C nc cc, undef, undef, undef, Value.bool false, Value.slice none 0 0, Value.bool false, v 7, v 8, Value.slice A na ca, Value.int IntKind.i64 (na : Int), Value.bool (decide (2147483647 < (na : Int))), Value.bool (decide (2147483647 < (na : Int))), Value.slice B nb cb, Value.int IntKind.i64 (nb : Int), Value.bool (decide (2147483647 < (nb : Int))), Value.bool (decide (2147483647 < (na : Int)) || decide (2147483647 < (nb : Int))), Value.bool (decide (2147483647 < (na : Int)) || decide (2147483647 < (nb : Int))), Value.slice C nc cc, Value.int IntKind.i64 (nc : Int), Value.bool (decide (2147483647 < (nc : Int))), Value.bool (decide (2147483647 < (na : Int)) || decide (2147483647 < (nb : Int)) || decide (2147483647 < (nc : Int))), Value.slice A na ca, Value.int IntKind.i64 (na : Int), Value.slice B nb cb, Value.int IntKind.i64 (nb : Int), Value.int IntKind.i64 ((na : Int) + (nb : Int)), Value.slice C nc cc, Value.int IntKind.i64 (nc : Int), Value.int IntKind.i64 ((na : Int) + (nb : Int) + (nc : Int)), Value.bool (decide (100 < (na : Int) + (nb : Int) + (nc : Int))), Value.tuple #[Value.slice none 0 0, Value.bool false], Value.slice A na ca, Value.slice B nb cb, Value.slice C nc cc, Value.tuple #[Value.slice none 0 0, Value.bool false], Value.slice none 0 0, Value.bool false, Value.slice A na ca, Value.int IntKind.i64 (na : Int), Value.bool true, Value.bool true, undef, undef, undef, Value.bool true, Value.bool true, undef, undef, undef, Value.bool true, v 4, v 0, v 1, v 2, v 3, v 5, v 6, undef, undef, undef, undef, undef, undef, undef, undef, undef, undef, undef, undef, undef, undef, undef, undef], []⟩) OwC (Below w.heap.size w)) [0, 1, 2, 3, 4, 5, 6, 7, 8] (by kernel_rfl) (by kernel_rfl) (by kernel_rfl) ?_ ?_ ?_
  · exact ⟨fun _ => undef, rfl, (fun j hj => by rw [getD_replicate_false] at hj; cases hj), below_drewN B1.out 1⟩
  · refine AllI.cons ?_ (AllI.cons ?_ (AllI.cons ?_ (AllI.cons ?_ (AllI.cons ?_ (AllI.cons ?_ (AllI.cons ?_ (AllI.cons ?_ (AllI.cons ?_ AllI.nil))))))))
    · refine stepRI [] rfl rfl (by kernel_rfl) fun v u hv hS K hK => ?_
      have mk : (Instr.makeSlice 22 (.int .i64 6) (.int .i64 6)).run Try.prog u = .ok (.slice (some ⟨u.heap.size, 0, none⟩) 6 6) (u.alloc (.cells ((List.replicate 6 (0 : UInt8)).map B8).toArray 5)) := run_mk 6 (by omega) u
      have nb := NewB.alloc u 5 ((List.replicate 6 (0 : UInt8)).map B8)
      generalize u.alloc (.cells ((List.replicate 6 (0 : UInt8)).map B8).toArray 5) = u' at nb mk
      have nbel := Lib.hid (nb.below (Below.refl u.heap.size u) (Nat.le_refl _))
      have NB := Lib.hid nb
      clear nb
      go_simp
      exact hK.out _ _ _ (by simp [upd]) (fun j x _ h => h.below nbel.out) ⟨u.heap.size, _, rfl, by simp, NB.out.at_.byt⟩ (hS.trans (nbel.out.mono hS.size))
    · refine stepRI [] rfl rfl (by kernel_rfl) fun v u hv hS K hK => ?_
      have mk : (Instr.makeSlice 22 (.int .i64 2) (.int .i64 2)).run Try.prog u = .ok (.slice (some ⟨u.heap.size, 0, none⟩) 2 2) (u.alloc (.cells ((List.replicate 2 (0 : UInt8)).map B8).toArray 5)) := run_mk 2 (by omega) u
      have nb := NewB.alloc u 5 ((List.replicate 2 (0 : UInt8)).map B8)
      generalize u.alloc (.cells ((List.replicate 2 (0 : UInt8)).map B8).toArray 5) = u' at nb mk
      have nbel := Lib.hid (nb.below (Below.refl u.heap.size u) (Nat.le_refl _))
      have NB := Lib.hid nb
      clear nb
      go_simp
      exact hK.out _ _ _ (by simp [upd]) (fun j x _ h => h.below nbel.out) ⟨u.heap.size, _, rfl, by simp, NB.out.at_.byt⟩ (hS.trans (nbel.out.mono hS.size))
    · refine stepRI [] rfl rfl (by kernel_rfl) fun v u hv hS K hK => ?_
      have mk : (Instr.makeSlice 22 (.int .i64 8) (.int .i64 8)).run Try.prog u = .ok (.slice (some ⟨u.heap.size, 0, none⟩) 8 8) (u.alloc (.cells ((List.replicate 8 (0 : UInt8)).map B8).toArray 5)) := run_mk 8 (by omega) u
      have nb := NewB.alloc u 5 ((List.replicate 8 (0 : UInt8)).map B8)
      generalize u.alloc (.cells ((List.replicate 8 (0 : UInt8)).map B8).toArray 5) = u' at nb mk
      have nbel := Lib.hid (nb.below (Below.refl u.heap.size u) (Nat.le_refl _))
      have NB := Lib.hid nb
      clear nb
      go_simp
      exact hK.out _ _ _ (by simp [upd]) (fun j x _ h => h.below nbel.out) ⟨u.heap.size, _, rfl, by simp, NB.out.at_.byt⟩ (hS.trans (nbel.out.mono hS.size))
    · refine stepRI [0, 1, 2] rfl rfl (by kernel_rfl) fun v u hv hS K hK => ?_
      obtain ⟨g0, a0, e0, l0, y0⟩ := hv 0 rfl
      obtain ⟨g1, a1, e1, l1, y1⟩ := hv 1 rfl
      obtain ⟨g2, a2, e2, l2, y2⟩ := hv 2 rfl
      have G := Lib.hid (uuidOwn_yes _ _ _ 6 2 8 a0 a1 a2 l0 l1 l2 u y0 y1 y2)
      clear l0 l1 l2 y0 y1 y2
      go_simp
      go_at_call 17
      refine (G.out).mono ?_
      rintro e u' ⟨x, rfl, -, b4⟩
      go_wp2_with fail
      exact hK.out _ _ _ (by simp [upd, e0, e1, e2]) (fun j x _ h => h.below b4) ⟨x, rfl⟩ (hS.trans (b4.mono hS.size))
    · refine stepRI [3] rfl rfl (by kernel_rfl) fun v u hv hS K hK => ?_
      obtain ⟨x, e3⟩ := hv 3 rfl
      go_simp
      exact hK.out _ _ _ (by simp [upd, e3]) (fun _ _ _ h => h) ⟨x, rfl⟩ hS
    · refine stepRI [4] rfl rfl (by kernel_rfl) fun v u hv hS K hK => ?_
      obtain ⟨x, e3⟩ := hv 4 rfl
      go_simp
      exact hK.out _ _ _ (by simp [upd, e3]; rfl) (fun _ _ _ h => h) trivial hS
    · refine stepRI [4] rfl rfl (by kernel_rfl) fun v u hv hS K hK => ?_
      obtain ⟨x, e3⟩ := hv 4 rfl
      go_simp
      exact hK.out _ _ _ (by simp [upd, e3]) (fun _ _ _ h => h) rfl hS
    · refine stepRI [] rfl rfl (by kernel_rfl) fun v u hv hS K hK => ?_
      go_simp
      exact hK.out _ _ _ (by simp [upd]; rfl) (fun _ _ _ h => h) trivial hS
    · refine stepRI [6] rfl rfl (by kernel_rfl) fun v u hv hS K hK => ?_
      have e6 : v 6 = .bool true := hv 6 rfl
      go_simp
      exact hK.out _ _ _ (by simp [upd, e6]) (fun _ _ _ h => h) rfl hS
  · intro li a u hall hI
    obtain ⟨v, rfl, hv, hS⟩ := hI
    have e8 : v 8 = .bool true := hv 8 (hall 8 (by decide))
    have HS' := Lib.hid hS
    clear hv hall hS
    go_wp2
    go_ret
    exact ⟨rfl, HS'.out⟩
set_option maxRecDepth 100000 in
set_option pp.maxSteps 100000 in
set_option pp.deepTerms true in
theorem own_law_no2 (A B C : Option Addr) (na nb nc ca cb cc : Nat) (h1 : na = 6) (h : nb ≠ 2) (hs : na + nb + nc ≤ 100) (w : World) :
    Calls Try.prog 5 #[.slice A na ca, .slice B nb cb, .slice C nc cc] w fun e w' => e = .returned (.bool true) ∧ Below w.heap.size w w' := by
  have F := Lib.hid (uuidOwn_no A B C na nb nc ca cb cc (by omega) w)
  subst h1
  have t : ((nb : Int) != 2) = true := by rw [bne_iff_ne]; omega
  go_enter Try.func5, Try.ntmps5
  go_wp2_with fail
  refine (F.out).mono ?_
  rintro e w1 ⟨rfl, b1⟩
  have B1 := Lib.hid b1
  clear b1
  go_wp2_with fail
  refine wp_region_inv (RI (fun v => ⟨#[Value.slice A 6 ca, Value.slice B nb cb, Value.slice C nc cc, undef, undef, undef, Value.bool false, Value.slice none 0 0, Value.bool false, v 7, v 8, Value.slice A 6 ca, Value.int IntKind.i64 6, Value.bool false, Value.bool false, Value.slice B nb cb, Value.int IntKind.i64 (nb : Int), Value.bool (decide (2147483647 < (nb : Int))), Value.bool (decide (2147483647 < (nb : Int))), Value.bool (decide (2147483647 < (nb : Int))), Value.slice C nc cc, Value.int IntKind.i64 (nc : Int), Value.bool (decide (2147483647 < (nc : Int))), Value.bool (decide (2147483647 < (nb : Int)) || decide (2147483647 < (nc : Int))), Value.slice A 6 ca, Value.int IntKind.i64 6, Value.slice B nb cb, Value.int IntKind.i64 (nb : Int), Value.int IntKind.i64 (6 + (nb : Int)), Value.slice C nc cc, Value.int IntKind.i64 (nc : Int), Value.int IntKind.i64 (6 + (nb : Int) + (nc : Int)), Value.bool (decide (100 < 6 + (nb : Int) + (nc : Int))), Value.tuple #[Value.slice none 0 0, Value.bool false], Value.slice A 6 ca, Value.slice B nb cb, Value.slice C nc cc, Value.tuple #[Value.slice none 0 0, Value.bool false], Value.slice none 0 0, Value.bool false, Value.slice A 6 ca, Value.int IntKind.i64 6, Value.bool false, Value.bool false, Value.slice B nb cb, Value.int IntKind.i64 (nb : Int), Value.bool true, Value.bool true, Value.bool true, undef, undef, undef, Value.bool true, v 4, v 0, v 1, v 2, v 3, v 5, v 6, undef, undef, undef, undef, undef, undef, undef, undef, undef, undef, undef, undef, undef, undef, undef, undef], []⟩) OwC (Below w.heap.size w)) [0, 1, 2, 3, 4, 5, 6, 7, 8] (by kernel_rfl) (by kernel_rfl) (by kernel_rfl) ?_ ?_ ?_
  · exact ⟨fun _ => undef, rfl, (fun j hj => by rw [getD_replicate_false] at hj; cases hj), below_drewN B1.out 1⟩
  · refine AllI.cons ?_ (AllI.cons ?_ (AllI.cons ?_ (AllI.cons ?_ (AllI.cons ?_ (AllI.cons ?_ (AllI.cons ?_ (AllI.cons ?_ (AllI.cons ?_ AllI.nil))))))))
    · refine stepRI [] rfl rfl (by kernel_rfl) fun v u hv hS K hK => ?_
      have mk : (Instr.makeSlice 22 (.int .i64 6) (.int .i64 6)).run Try.prog u = .ok (.slice (some ⟨u.heap.size, 0, none⟩) 6 6) (u.alloc (.cells ((List.replicate 6 (0 : UInt8)).map B8).toArray 5)) := run_mk 6 (by omega) u
      have nb := NewB.alloc u 5 ((List.replicate 6 (0 : UInt8)).map B8)
      generalize u.alloc (.cells ((List.replicate 6 (0 : UInt8)).map B8).toArray 5) = u' at nb mk
      have nbel := Lib.hid (nb.below (Below.refl u.heap.size u) (Nat.le_refl _))
      have NB := Lib.hid nb
      clear nb
      go_simp
      exact hK.out _ _ _ (by simp [upd]) (fun j x _ h => h.below nbel.out) ⟨u.heap.size, _, rfl, by simp, NB.out.at_.byt⟩ (hS.trans (nbel.out.mono hS.size))
    · refine stepRI [] rfl rfl (by kernel_rfl) fun v u hv hS K hK => ?_
      have mk : (Instr.makeSlice 22 (.int .i64 2) (.int .i64 2)).run Try.prog u = .ok (.slice (some ⟨u.heap.size, 0, none⟩) 2 2) (u.alloc (.cells ((List.replicate 2 (0 : UInt8)).map B8).toArray 5)) := run_mk 2 (by omega) u
      have nb := NewB.alloc u 5 ((List.replicate 2 (0 : UInt8)).map B8)
      generalize u.alloc (.cells ((List.replicate 2 (0 : UInt8)).map B8).toArray 5) = u' at nb mk
      have nbel := Lib.hid (nb.below (Below.refl u.heap.size u) (Nat.le_refl _))
      have NB := Lib.hid nb
      clear nb
      go_simp
      exact hK.out _ _ _ (by simp [upd]) (fun j x _ h => h.below nbel.out) ⟨u.heap.size, _, rfl, by simp, NB.out.at_.byt⟩ (hS.trans (nbel.out.mono hS.size))
    · refine stepRI [] rfl rfl (by kernel_rfl) fun v u hv hS K hK => ?_
      have mk : (Instr.makeSlice 22 (.int .i64 8) (.int .i64 8)).run Try.prog u = .ok (.slice (some ⟨u.heap.size, 0, none⟩) 8 8) (u.alloc (.cells ((List.replicate 8 (0 : UInt8)).map B8).toArray 5)) := run_mk 8 (by omega) u
      have nb := NewB.alloc u 5 ((List.replicate 8 (0 : UInt8)).map B8)
      generalize u.alloc (.cells ((List.replicate 8 (0 : UInt8)).map B8).toArray 5) = u' at nb mk
      have nbel := Lib.hid (nb.below (Below.refl u.heap.size u) (Nat.le_refl _))
      have NB := Lib.hid nb
      clear nb
      go_simp
      exact hK.out _ _ _ (by simp [upd]) (fun j x _ h => h.below nbel.out) ⟨u.heap.size, _, rfl, by simp, NB.out.at_.byt⟩ (hS.trans (nbel.out.mono hS.size))
    · refine stepRI [0, 1, 2] rfl rfl (by kernel_rfl) fun v u hv hS K hK => ?_
      obtain ⟨g0, a0, e0, l0, y0⟩ := hv 0 rfl
      obtain ⟨g1, a1, e1, l1, y1⟩ := hv 1 rfl
      obtain ⟨g2, a2, e2, l2, y2⟩ := hv 2 rfl
      have G := Lib.hid (uuidOwn_yes _ _ _ 6 2 8 a0 a1 a2 l0 l1 l2 u y0 y1 y2)
      clear l0 l1 l2 y0 y1 y2
      go_simp
      go_at_call 17
      refine (G.out).mono ?_
      rintro e u' ⟨x, rfl, -, b4⟩
      go_wp2_with fail
      exact hK.out _ _ _ (by simp [upd, e0, e1, e2]) (fun j x _ h => h.below b4) ⟨x, rfl⟩ (hS.trans (b4.mono hS.size))
    · refine stepRI [3] rfl rfl (by kernel_rfl) fun v u hv hS K hK => ?_
      obtain ⟨x, e3⟩ := hv 3 rfl
      go_simp
      exact hK.out _ _ _ (by simp [upd, e3]) (fun _ _ _ h => h) ⟨x, rfl⟩ hS
    · refine stepRI [4] rfl rfl (by kernel_rfl) fun v u hv hS K hK => ?_
      obtain ⟨x, e3⟩ := hv 4 rfl
      go_simp
      exact hK.out _ _ _ (by simp [upd, e3]; rfl) (fun _ _ _ h => h) trivial hS
    · refine stepRI [4] rfl rfl (by kernel_rfl) fun v u hv hS K hK => ?_
      obtain ⟨x, e3⟩ := hv 4 rfl
      go_simp
      exact hK.out _ _ _ (by simp [upd, e3]) (fun _ _ _ h => h) rfl hS
    · refine stepRI [] rfl rfl (by kernel_rfl) fun v u hv hS K hK => ?_
      go_simp
      exact hK.out _ _ _ (by simp [upd]; rfl) (fun _ _ _ h => h) trivial hS
    · refine stepRI [6] rfl rfl (by kernel_rfl) fun v u hv hS K hK => ?_
      have e6 : v 6 = .bool true := hv 6 rfl
      go_simp
      exact hK.out _ _ _ (by simp [upd, e6]) (fun _ _ _ h => h) rfl hS
  · intro li a u hall hI
    obtain ⟨v, rfl, hv, hS⟩ := hI
    have e8 : v 8 = .bool true := hv 8 (hall 8 (by decide))
    have HS' := Lib.hid hS
    clear hv hall hS
    go_wp2
    go_ret
    exact ⟨rfl, HS'.out⟩
set_option maxRecDepth 100000 in
set_option pp.maxSteps 100000 in
set_option pp.deepTerms true in
theorem own_law_no3 (A B C : Option Addr) (na nb nc ca cb cc : Nat) (h1 : na = 6) (h2 : nb = 2) (h : nc ≠ 8) (hs : na + nb + nc ≤ 100) (w : World) :
    Calls Try.prog 5 #[.slice A na ca, .slice B nb cb, .slice C nc cc] w fun e w' => e = .returned (.bool true) ∧ Below w.heap.size w w' := by
  have F := Lib.hid (uuidOwn_no A B C na nb nc ca cb cc (by omega) w)
  subst h1 h2
  have t : ((nc : Int) != 8) = true := by rw [bne_iff_ne]; omega
  go_enter Try.func5, Try.ntmps5
  go_wp2_with fail
  refine (F.out).mono ?_
  rintro e w1 ⟨rfl, b1⟩
  have B1 := Lib.hid b1
  clear b1
  go_wp2_with fail
  refine wp_region_inv (RI (fun v => ⟨#[Value.slice A 6 ca, Value.slice B 2 cb, Value.slice C nc cc, undef, undef, undef, Value.bool false, Value.slice none 0 0, Value.bool false, v 7, v 8, Value.slice A 6 ca, Value.int IntKind.i64 6, Value.bool false, Value.bool false, Value.slice B 2 cb, Value.int IntKind.i64 2, Value.bool false, Value.bool false, Value.bool false, Value.slice C nc cc, Value.int IntKind.i64 (nc : Int), Value.bool (decide (2147483647 < (nc : Int))), Value.bool (decide (2147483647 < (nc : Int))), Value.slice A 6 ca, Value.int IntKind.i64 6, Value.slice B 2 cb, Value.int IntKind.i64 2, Value.int IntKind.i64 8, Value.slice C nc cc, Value.int IntKind.i64 (nc : Int), Value.int IntKind.i64 (8 + (nc : Int)), Value.bool (decide (100 < 8 + (nc : Int))), Value.tuple #[Value.slice none 0 0, Value.bool false], Value.slice A 6 ca, Value.slice B 2 cb, Value.slice C nc cc, Value.tuple #[Value.slice none 0 0, Value.bool false], Value.slice none 0 0, Value.bool false, Value.slice A 6 ca, Value.int IntKind.i64 6, Value.bool false, Value.bool false, Value.slice B 2 cb, Value.int IntKind.i64 2, Value.bool false, Value.bool false, Value.bool false, Value.slice C nc cc, Value.int IntKind.i64 (nc : Int), Value.bool true, Value.bool true, v 4, v 0, v 1, v 2, v 3, v 5, v 6, undef, undef, undef, undef, undef, undef, undef, undef, undef, undef, undef, undef, undef, undef, undef, undef], []⟩) OwC (Below w.heap.size w)) [0, 1, 2, 3, 4, 5, 6, 7, 8] (by kernel_rfl) (by kernel_rfl) (by kernel_rfl) ?_ ?_ ?_
  · exact ⟨fun _ => undef, rfl, (fun j hj => by rw [getD_replicate_false] at hj; cases hj), below_drewN B1.out 1⟩
  · refine AllI.cons ?_ (AllI.cons ?_ (AllI.cons ?_ (AllI.cons ?_ (AllI.cons ?_ (AllI.cons ?_ (AllI.cons ?_ (AllI.cons ?_ (AllI.cons ?_ AllI.nil))))))))
    · refine stepRI [] rfl rfl (by kernel_rfl) fun v u hv hS K hK => ?_
      have mk : (Instr.makeSlice 22 (.int .i64 6) (.int .i64 6)).run Try.prog u = .ok (.slice (some ⟨u.heap.size, 0, none⟩) 6 6) (u.alloc (.cells ((List.replicate 6 (0 : UInt8)).map B8).toArray 5)) := run_mk 6 (by omega) u
      have nb := NewB.alloc u 5 ((List.replicate 6 (0 : UInt8)).map B8)
      generalize u.alloc (.cells ((List.replicate 6 (0 : UInt8)).map B8).toArray 5) = u' at nb mk
      have nbel := Lib.hid (nb.below (Below.refl u.heap.size u) (Nat.le_refl _))
      have NB := Lib.hid nb
      clear nb
      go_simp
      exact hK.out _ _ _ (by simp [upd]) (fun j x _ h => h.below nbel.out) ⟨u.heap.size, _, rfl, by simp, NB.out.at_.byt⟩ (hS.trans (nbel.out.mono hS.size))
    · refine stepRI [] rfl rfl (by kernel_rfl) fun v u hv hS K hK => ?_
      have mk : (Instr.makeSlice 22 (.int .i64 2) (.int .i64 2)).run Try.prog u = .ok (.slice (some ⟨u.heap.size, 0, none⟩) 2 2) (u.alloc (.cells ((List.replicate 2 (0 : UInt8)).map B8).toArray 5)) := run_mk 2 (by omega) u
      have nb := NewB.alloc u 5 ((List.replicate 2 (0 : UInt8)).map B8)
      generalize u.alloc (.cells ((List.replicate 2 (0 : UInt8)).map B8).toArray 5) = u' at nb mk
      have nbel := Lib.hid (nb.below (Below.refl u.heap.size u) (Nat.le_refl _))
      have NB := Lib.hid nb
      clear nb
      go_simp
      exact hK.out _ _ _ (by simp [upd]) (fun j x _ h => h.below nbel.out) ⟨u.heap.size, _, rfl, by simp, NB.out.at_.byt⟩ (hS.trans (nbel.out.mono hS.size))
    · refine stepRI [] rfl rfl (by kernel_rfl) fun v u hv hS K hK => ?_
      have mk : (Instr.makeSlice 22 (.int .i64 8) (.int .i64 8)).run Try.prog u = .ok (.slice (some ⟨u.heap.size, 0, none⟩) 8 8) (u.alloc (.cells ((List.replicate 8 (0 : UInt8)).map B8).toArray 5)) := run_mk 8 (by omega) u
      have nb := NewB.alloc u 5 ((List.replicate 8 (0 : UInt8)).map B8)
      generalize u.alloc (.cells ((List.replicate 8 (0 : UInt8)).map B8).toArray 5) = u' at nb mk
      have nbel := Lib.hid (nb.below (Below.refl u.heap.size u) (Nat.le_refl _))
      have NB := Lib.hid nb
      clear nb
      go_simp
      exact hK.out _ _ _ (by simp [upd]) (fun j x _ h => h.below nbel.out) ⟨u.heap.size, _, rfl, by simp, NB.out.at_.byt⟩ (hS.trans (nbel.out.mono hS.size))
    · refine stepRI [0, 1, 2] rfl rfl (by kernel_rfl) fun v u hv hS K hK => ?_
      obtain ⟨g0, a0, e0, l0, y0⟩ := hv 0 rfl
      obtain ⟨g1, a1, e1, l1, y1⟩ := hv 1 rfl
      obtain ⟨g2, a2, e2, l2, y2⟩ := hv 2 rfl
      have G := Lib.hid (uuidOwn_yes _ _ _ 6 2 8 a0 a1 a2 l0 l1 l2 u y0 y1 y2)
      clear l0 l1 l2 y0 y1 y2
      go_simp
      go_at_call 17
      refine (G.out).mono ?_
      rintro e u' ⟨x, rfl, -, b4⟩
      go_wp2_with fail
      exact hK.out _ _ _ (by simp [upd, e0, e1, e2]) (fun j x _ h => h.below b4) ⟨x, rfl⟩ (hS.trans (b4.mono hS.size))
    · refine stepRI [3] rfl rfl (by kernel_rfl) fun v u hv hS K hK => ?_
      obtain ⟨x, e3⟩ := hv 3 rfl
      go_simp
      exact hK.out _ _ _ (by simp [upd, e3]) (fun _ _ _ h => h) ⟨x, rfl⟩ hS
    · refine stepRI [4] rfl rfl (by kernel_rfl) fun v u hv hS K hK => ?_
      obtain ⟨x, e3⟩ := hv 4 rfl
      go_simp
      exact hK.out _ _ _ (by simp [upd, e3]; rfl) (fun _ _ _ h => h) trivial hS
    · refine stepRI [4] rfl rfl (by kernel_rfl) fun v u hv hS K hK => ?_
      obtain ⟨x, e3⟩ := hv 4 rfl
      go_simp
      exact hK.out _ _ _ (by simp [upd, e3]) (fun _ _ _ h => h) rfl hS
    · refine stepRI [] rfl rfl (by kernel_rfl) fun v u hv hS K hK => ?_
      go_simp
      exact hK.out _ _ _ (by simp [upd]; rfl) (fun _ _ _ h => h) trivial hS
    · refine stepRI [6] rfl rfl (by kernel_rfl) fun v u hv hS K hK => ?_
      have e6 : v 6 = .bool true := hv 6 rfl
      go_simp
      exact hK.out _ _ _ (by simp [upd, e6]) (fun _ _ _ h => h) rfl hS
  · intro li a u hall hI
    obtain ⟨v, rfl, hv, hS⟩ := hI
    have e8 : v 8 = .bool true := hv 8 (hall 8 (by decide))
    have HS' := Lib.hid hS
    clear hv hall hS
    go_wp2
    go_ret
    exact ⟨rfl, HS'.out⟩
set_option maxRecDepth 100000 in
theorem own_law_big (A B C : Option Addr) (na nb nc ca cb cc : Nat) (hs : ¬ na + nb + nc ≤ 100) (w : World) :
    Calls Try.prog 5 #[.slice A na ca, .slice B nb cb, .slice C nc cc] w fun e w' => e = .returned (.bool true) ∧ Below w.heap.size w w' := by
  go_enter Try.func5, Try.ntmps5
  go_wp2
  all_goals (first | (exfalso; omega) | (go_ret; exact ⟨rfl, Below.refl _ _⟩))
theorem walk_FnUuidOwn (a0 : Option Addr) (len0 cap0 : Nat) (z0 : List Int) (a1 : Option Addr) (len1 cap1 : Nat) (z1 : List Int) (a2 : Option Addr) (len2 cap2 : Nat) (z2 : List Int) (w : World) (w0 : IsRow .u8 w a0 len0 cap0 z0) (w1 : IsRow .u8 w a1 len1 cap1 z1) (w2 : IsRow .u8 w a2 len2 cap2 z2) :
    Calls Try.prog 5 #[.slice a0 len0 cap0, .slice a1 len1 cap1, .slice a2 len2 cap2] w fun e w' => e = .returned (.bool true) ∧ Below w.heap.size w w' := by
  obtain ⟨xs, hx, hxb, hxc, -⟩ := bytes_of_row w0
  obtain ⟨ys, hy, hyb, hyc, -⟩ := bytes_of_row w1
  obtain ⟨zs, hz, hzb, hzc, -⟩ := bytes_of_row w2
  by_cases hs : len0 + len1 + len2 ≤ 100
  · by_cases h0 : len0 = 6
    · by_cases h1 : len1 = 2
      · by_cases h2 : len2 = 8
        · subst h0 h1 h2
          exact own_law_yes a0 a1 a2 cap0 cap1 cap2 hxc hyc hzc xs ys zs hx hy hz w hxb hyb hzb
        · exact own_law_no3 a0 a1 a2 len0 len1 len2 cap0 cap1 cap2 h0 h1 h2 hs w
      · exact own_law_no2 a0 a1 a2 len0 len1 len2 cap0 cap1 cap2 h0 h1 hs w
    · exact own_law_no1 a0 a1 a2 len0 len1 len2 cap0 cap1 cap2 h0 hs w
  · exact own_law_big a0 a1 a2 len0 len1 len2 cap0 cap1 cap2 hs w
end Go.Proofs.Ytbojjpgekbljfaa
