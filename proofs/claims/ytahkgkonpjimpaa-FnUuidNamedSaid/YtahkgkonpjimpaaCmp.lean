/-
  spec.Compare and spec.Same: the order of bytes, and whether bytes are the same.
-/
import Derived.Test.YtahkgkonpjimpaaBase
namespace Go.Proofs.Ytahkgkonpjimpaa
open Go.RowKit
def cmpB : List UInt8 → List UInt8 → Int
  | a :: p, b :: q => if a = b then cmpB p q else if a.toNat < b.toNat then -1 else 1
  | _, _ => 0
theorem cmpB_nil (ys : List UInt8) : cmpB [] ys = 0 := by cases ys <;> rfl
theorem cmpB_self : ∀ xs : List UInt8, cmpB xs xs = 0
  | [] => rfl
  | a :: p => by simp [cmpB, cmpB_self p]
theorem cmpB_zero : ∀ xs ys : List UInt8, xs.length = ys.length → cmpB xs ys = 0 → xs = ys
  | [], [], _, _ => rfl
  | a :: p, b :: q, hl, h => by
    unfold cmpB at h
    by_cases e : a = b
    · rw [if_pos e] at h
      rw [e, cmpB_zero p q (by simpa using hl) h]
    · rw [if_neg e] at h
      split at h <;> omega
  | [], _ :: _, hl, _ => by simp at hl
  | _ :: _, [], hl, _ => by simp at hl
def CmpAt (xs ys : List UInt8) (k : Nat) : Prop := cmpB (xs.drop k) (ys.drop k) = cmpB xs ys
theorem CmpAt.start (xs ys : List UInt8) : CmpAt xs ys 0 := rfl
theorem CmpAt.step {xs ys : List UInt8} {k : Nat} (h : CmpAt xs ys k) (h1 : k < xs.length) (h2 : k < ys.length) (e : xs[k] = ys[k]) : CmpAt xs ys (k + 1) := by
  unfold CmpAt at *
  rw [← h, List.drop_eq_getElem_cons h1, List.drop_eq_getElem_cons h2, cmpB, if_pos e]
theorem CmpAt.less {xs ys : List UInt8} {k : Nat} (h : CmpAt xs ys k) (h1 : k < xs.length) (h2 : k < ys.length) (e : xs[k].toNat < ys[k].toNat) : cmpB xs ys = -1 := by
  unfold CmpAt at *
  rw [← h, List.drop_eq_getElem_cons h1, List.drop_eq_getElem_cons h2, cmpB, if_neg (fun e' => by rw [e'] at e; omega), if_pos e]
theorem CmpAt.more {xs ys : List UInt8} {k : Nat} (h : CmpAt xs ys k) (h1 : k < xs.length) (h2 : k < ys.length) (e : ys[k].toNat < xs[k].toNat) : cmpB xs ys = 1 := by
  unfold CmpAt at *
  rw [← h, List.drop_eq_getElem_cons h1, List.drop_eq_getElem_cons h2, cmpB, if_neg (fun e' => by rw [e'] at e; omega), if_neg (by omega)]
theorem CmpAt.done {xs ys : List UInt8} {k : Nat} (h : CmpAt xs ys k) (h1 : xs.length ≤ k) : cmpB xs ys = 0 := by
  unfold CmpAt at *
  rw [← h, List.drop_eq_nil_of_le h1, cmpB_nil]
theorem sign_zero (w : World) : Calls Try.prog 32 #[.int .i64 0] w fun e w' => e = .returned (.int .i64 0) ∧ w = w' := by
  go_enter Try.func32, Try.ntmps32
  go_wp2
  go_ret
  exact ⟨rfl, rfl⟩
theorem drewN3 (w : World) (a b c : Nat) : ∃ m, ((w.drewN a).drewN b).drewN c = w.drewN m := ⟨a + (b + c), by rw [World.drewN_drewN, World.drewN_drewN]⟩
theorem drewN2 (w : World) (a b : Nat) : ∃ m, (w.drewN a).drewN b = w.drewN m := ⟨a + b, by rw [World.drewN_drewN]⟩
def CmpPost (v : Int) (w : World) (e : Ending) (w' : World) : Prop := e = .returned (.int .i64 v) ∧ ∃ m, w' = w.drewN m
set_option maxRecDepth 100000 in
theorem compare_some (b1 o1 b2 o2 c1 c2 n : Nat) (xs ys : List UInt8) (h1 : xs.length = n) (h2 : ys.length = n) (hn : n ≤ 2147483647) (w : World)
    (hx : ∀ j (h : j < xs.length), w.cell? ⟨b1, o1 + j, none⟩ = some (B8 xs[j])) (hy : ∀ j (h : j < ys.length), w.cell? ⟨b2, o2 + j, none⟩ = some (B8 ys[j])) :
    Calls Try.prog 19 #[.slice (some ⟨b1, o1, none⟩) n c1, .slice (some ⟨b2, o2, none⟩) n c2] w (CmpPost (cmpB xs ys) w) := by
  have H1 := Lib.hid h1
  have H2 := Lib.hid h2
  have HX := Lib.hid hx
  have HY := Lib.hid hy
  clear h1 h2 hx hy
  go_enter Try.func19, Try.ntmps19
  go_wp2
  go_loopw [5] (fun i wr => ∃ k : Nat, k ≤ n ∧ i = .int .i64 k ∧ CmpAt xs ys k ∧ ∃ m, wr = w.drewN m) (fun i _ => n - (intOf i).toNat)
  case atStart => exact ⟨0, Nat.zero_le _, rfl, CmpAt.start xs ys, 0, rfl⟩
  case round =>
    obtain ⟨k, hk, rfl, hrel, m, rfl⟩ := hrel
    by_cases hlt : k < n
    · have l1 : k < xs.length := by have := H1.out; omega
      have l2 : k < ys.length := by have := H2.out; omega
      obtain ⟨x, ex⟩ : ∃ x, x = xs[k] := ⟨_, rfl⟩
      obtain ⟨y, ey⟩ : ∃ y, y = ys[k] := ⟨_, rfl⟩
      have cx : w.cell? ⟨b1, o1 + k, none⟩ = some (.int .u8 (x.toNat : Int)) := by rw [HX.out k l1, ex]; rfl
      have cy : w.cell? ⟨b2, o2 + k, none⟩ = some (.int .u8 (y.toNat : Int)) := by rw [HY.out k l2, ey]; rfl
      have EX := Lib.hid ex
      have EY := Lib.hid ey
      clear ex ey
      have p1 : (0 : Int) ≤ (k : Int) := by omega
      have p2 : (k : Int) < (n : Int) := by omega
      rcases Nat.lt_trichotomy x.toNat y.toNat with hxy | hxy | hxy
      · have t1 : ((x.toNat : Int) != (y.toNat : Int)) = true := by rw [bne_iff_ne]; omega
        have t2 : (x.toNat : Int) < (y.toNat : Int) := by omega
        go_wp2
        go_quiet (fail)
        go_wp2
        go_quiet (fail)
        go_wp2
        go_ret
        refine ⟨?_, drewN3 _ _ _ _⟩
        rw [hrel.less l1 l2 (by rw [← EX.out, ← EY.out]; exact hxy)]
        rfl
      · have t1 : ((x.toNat : Int) != (y.toNat : Int)) = false := by rw [bne_eq_false_iff_eq]; omega
        have HXY := Lib.hid hxy
        clear hxy
        go_wp2
        go_quiet (fail)
        go_wp2
        go_roundw
        case rel => exact ⟨k + 1, by omega, by go_num, hrel.step l1 l2 (by rw [← EX.out, ← EY.out]; exact UInt8.toNat_inj.1 HXY.out), _, rfl⟩
        case measure => simp [intOf]; omega
      · have t1 : ((x.toNat : Int) != (y.toNat : Int)) = true := by rw [bne_iff_ne]; omega
        have t2 : ¬ (x.toNat : Int) < (y.toNat : Int) := by omega
        have t3 : decide ((x.toNat : Int) < (y.toNat : Int)) = false := by simpa using t2
        go_wp2
        go_quiet (fail)
        go_wp2
        go_quiet (fail)
        go_wp2
        go_ret
        refine ⟨?_, drewN3 _ _ _ _⟩
        rw [hrel.more l1 l2 (by rw [← EX.out, ← EY.out]; exact hxy)]
        rfl
    · obtain rfl : k = n := by omega
      have hd := hrel.done (by have := H1.out; omega)
      have HD := Lib.hid hd
      clear hd
      go_wp2_with (go_at_call 32; refine (sign_zero _).mono ?_; rintro e w' ⟨rfl, rfl⟩)
      go_ret
      refine ⟨?_, _, rfl⟩
      rw [HD.out]
      rfl
set_option maxRecDepth 100000 in
theorem compare_none (A1 A2 : Option Addr) (c1 c2 : Nat) (w : World) : Calls Try.prog 19 #[.slice A1 0 c1, .slice A2 0 c2] w (CmpPost 0 w) := by
  go_enter Try.func19, Try.ntmps19
  go_wp2
  refine wp_loop_rounds 1 ?_
  rw [rounds_succ]
  go_wp2_with (go_at_call 32; refine (sign_zero _).mono ?_; rintro e w' ⟨rfl, rfl⟩)
  go_ret
  exact ⟨rfl, 0, rfl⟩
theorem compare_any (A1 A2 : Option Addr) (n c1 c2 : Nat) (xs ys : List UInt8) (h1 : xs.length = n) (h2 : ys.length = n) (hn : n ≤ 2147483647) (w : World) (hx : Byt w A1 xs) (hy : Byt w A2 ys) :
    Calls Try.prog 19 #[.slice A1 n c1, .slice A2 n c2] w (CmpPost (cmpB xs ys) w) := by
  rcases Nat.eq_zero_or_pos n with h0 | h0
  · subst h0
    obtain rfl := List.eq_nil_of_length_eq_zero h1
    rw [cmpB_nil]
    exact compare_none A1 A2 c1 c2 w
  · obtain ⟨b1, o1, rfl, _, g1⟩ := hx (by omega)
    obtain ⟨b2, o2, rfl, _, g2⟩ := hy (by omega)
    exact compare_some b1 o1 b2 o2 c1 c2 n xs ys h1 h2 hn w g1 g2
def SamePost (v : Bool) (w : World) (e : Ending) (w' : World) : Prop := e = .returned (.bool v) ∧ ∃ m, w' = w.drewN m
theorem SamePost.below {v : Bool} {w w' : World} {e : Ending} (h : SamePost v w e w') : e = .returned (.bool v) ∧ Below w.heap.size w w' := by
  obtain ⟨rfl, m, rfl⟩ := h
  exact ⟨rfl, below_drewN (Below.refl _ _) m⟩
theorem CmpPost.below {v : Int} {w w' : World} {e : Ending} (h : CmpPost v w e w') : e = .returned (.int .i64 v) ∧ Below w.heap.size w w' := by
  obtain ⟨rfl, m, rfl⟩ := h
  exact ⟨rfl, below_drewN (Below.refl _ _) m⟩
def sameB (xs ys : List UInt8) : Bool := decide (xs = ys)
theorem sameB_self (xs : List UInt8) : sameB xs xs = true := by simp [sameB]
set_option maxRecDepth 100000 in
theorem same_any (A1 A2 : Option Addr) (n1 n2 c1 c2 : Nat) (xs ys : List UInt8) (h1 : xs.length = n1) (h2 : ys.length = n2) (hn : n1 ≤ 2147483647) (w : World) (hx : Byt w A1 xs) (hy : Byt w A2 ys) :
    Calls Try.prog 6 #[.slice A1 n1 c1, .slice A2 n2 c2] w (SamePost (sameB xs ys) w) := by
  have HX := Lib.hid hx
  have HY := Lib.hid hy
  have H1 := Lib.hid h1
  have H2 := Lib.hid h2
  clear hx hy h1 h2
  by_cases hne : n1 = n2
  · subst hne
    have hv : (cmpB xs ys == 0) = sameB xs ys := by
      unfold sameB
      rw [Bool.eq_iff_iff, beq_iff_eq, decide_eq_true_iff]
      exact ⟨cmpB_zero xs ys (by rw [H1.out, H2.out]), fun e => by rw [e, cmpB_self]⟩
    obtain ⟨v, ev⟩ : ∃ v, v = cmpB xs ys := ⟨_, rfl⟩
    rw [← ev] at hv
    have HV := Lib.hid hv
    have EV := Lib.hid ev
    clear hv ev
    go_enter Try.func6, Try.ntmps6
    go_wp2_with fail
    refine (compare_any A1 A2 n1 c1 c2 xs ys H1.out H2.out hn _ HX.out HY.out).mono ?_
    rw [← EV.out]
    rintro e w' ⟨rfl, m, rfl⟩
    go_wp2
    go_ret
    refine ⟨?_, m, rfl⟩
    rw [← HV.out]
    rfl
  · have hf : sameB xs ys = false := by
      unfold sameB
      rw [decide_eq_false_iff_not]
      intro e
      exact hne (by rw [← H1.out, ← H2.out, e])
    have HF := Lib.hid hf
    clear hf
    have t1 : ((n1 : Int) == (n2 : Int)) = false := by simp; omega
    go_enter Try.func6, Try.ntmps6
    go_wp2
    go_ret
    refine ⟨?_, 0, rfl⟩
    rw [HF.out]
    rfl
end Go.Proofs.Ytahkgkonpjimpaa
