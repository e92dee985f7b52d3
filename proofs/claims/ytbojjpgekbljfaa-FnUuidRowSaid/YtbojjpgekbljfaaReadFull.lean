/-
  readFull over a feed.
-/
import Derived.Test.YtbojjpgekbljfaaFeed
import Derived.Test.YtbojjpgekbljfaaReg3
namespace Go.Proofs.Ytbojjpgekbljfaa
open Go.RowKit
set_option linter.unusedVariables false
def eofS : ByteArray := ⟨#[117, 110, 101, 120, 112, 101, 99, 116, 101, 100, 32, 69, 79, 70]⟩
def eofV : Value := .iface 100 (.string eofS)
def RfC (R B K0 SL K ER : Value) (j : Nat) (x : Value) : Prop :=
  match j with
  | 0 => x = R
  | 1 => x = B
  | 2 => x = K0
  | 3 => x = SL
  | 4 => x = .func (.method "Read") #[R] #[]
  | 6 => x = R
  | 7 => x = .tuple #[K, ER]
  | 8 => x = .tuple #[K, ER]
  | 9 => x = K
  | 10 => x = ER
  | 11 => x = K
  | 12 => x = ER
  | _ => True
theorem feed_method (p : Option Addr) (w : World) : (method 242 76 (.pointer p) "Read").run Try.prog w = .ok (91, .pointer p) w := by kernel_rfl
theorem error_method (s : ByteArray) (w : World) : (method 242 100 (.string s) "Error").run Try.prog w = .ok (92, .string s) w := by kernel_rfl
def ReadNo (w : World) (f b : Nat) (t : TypeId) (l : Nat) (e : Ending) (w' : World) : Prop := (∃ x y, e = .returned (.tuple #[x, .iface 100 y])) ∧ (∃ cur, cur.length = l ∧ At w' b t cur) ∧ Two w w' f b
set_option maxRecDepth 100000 in
theorem readFull_yes (w0 w : World) (f b o n c : Nat) (t : TypeId) (cur : List Value) (ds : List UInt8) (hn : 0 < n) (hd : n ≤ ds.length) (hdl : ds.length ≤ 70000) (hnc : n ≤ c) (hfit : o + n ≤ cur.length) (hf : FeedAt w0 w f ds) (hb : At w b t cur) (hfb : f ≠ b) (h0 : Below w0.heap.size w0 w) :
    Calls Try.prog 51 #[.iface 76 (.pointer (some ⟨f, 0, none⟩)), .slice (some ⟨b, o, none⟩) n c] w (ReadYes w0 w f b o t cur ds n) := by
  have z1 : (0 : Int) < (n : Int) := by omega
  have c0 : ¬ c = 0 := by omega
  have hmf := Try.hmf
  have hmt := feed_method
  have R := Lib.hid (fun m => feedRead_yes w0 (w.drewN m) f b o n c t cur ds n (Nat.min_eq_right hd).symm hn (by omega) hdl (by omega) hfit hf hb hfb (below_drewN h0 m))
  go_enter Try.func51, Try.ntmps51
  go_wp2_with (refine wp_loop_rounds 2 ?_)
  rw [rounds_succ]
  go_wp2_with fail
  refine wp_region_rj (fun v => ⟨#[(Value.iface 76 (Value.pointer (some { block := f, off := 0 }))), (Value.slice (some { block := b, off := o }) n c), undef, undef, Value.int IntKind.i64 0, v 12, v 11, Value.int IntKind.i64 0, (Value.slice (some { block := b, off := o }) n c), Value.int IntKind.i64 (n : Int), Value.bool true, Value.bool true, Value.nilIface, Value.bool true, Value.bool true, v 8, v 0, v 1, v 2, v 3, v 4, v 5, v 6, v 7, v 9, v 10, undef, undef, undef, undef, undef, undef, undef, undef, undef, undef, undef, undef, undef, undef, undef, undef, undef, undef, undef], []⟩)
    (RfC (Value.iface 76 (Value.pointer (some { block := f, off := 0 }))) (Value.slice (some { block := b, off := o }) n c) (.int .i64 0) (Value.slice (some { block := b, off := o }) n c) (.int .i64 n) .nilIface)
    (fun d u => if d then FeedAt w0 u f (ds.drop n) ∧ At u b t (splice cur o ((ds.take n).map B8)) ∧ Two w u f b else u = w.drewN 1) 7
    (fun j => if j = 11 then .int .i64 0 else if j = 12 then .nilIface else undef) [0, 1, 2, 3, 4, 5, 6, 7, 8, 9, 10, 11, 12] (by kernel_rfl) (by kernel_rfl) (by kernel_rfl) (by decide) rfl rfl ?_ ?_
  · refine AllI.cons ?_ (AllI.cons ?_ (AllI.cons ?_ (AllI.cons ?_ (AllI.cons ?_ (AllI.cons ?_ (AllI.cons ?_ (AllI.cons ?_ (AllI.cons ?_ (AllI.cons ?_ (AllI.cons ?_ (AllI.cons ?_ (AllI.cons ?_ AllI.nil))))))))))))
    · refine stepRJ [] rfl rfl rfl (by kernel_rfl) fun d v u hv hS K hK => ?_
      clear hS
      go_simp
      exact hK.out _ _ (by simp [upd]; try rfl) rfl
    · refine stepRJ [] rfl rfl rfl (by kernel_rfl) fun d v u hv hS K hK => ?_
      clear hS
      go_simp
      exact hK.out _ _ (by simp [upd]; try rfl) rfl
    · refine stepRJ [] rfl rfl rfl (by kernel_rfl) fun d v u hv hS K hK => ?_
      clear hS
      go_simp
      exact hK.out _ _ (by simp [upd]; try rfl) rfl
    · refine stepRJ [1, 2] rfl rfl rfl (by kernel_rfl) fun d v u hv hS K hK => ?_
      clear hS
      have e1 := hv 1 rfl
      simp only [RfC] at e1
      have e2 := hv 2 rfl
      simp only [RfC] at e2
      go_simp
      exact hK.out _ _ (by simp [upd, e1, e2]; try rfl) rfl
    · refine stepRJ [0] rfl rfl rfl (by kernel_rfl) fun d v u hv hS K hK => ?_
      clear hS
      have e0 := hv 0 rfl
      simp only [RfC] at e0
      go_simp
      exact hK.out _ _ (by simp [upd, e0]; try rfl) rfl
    · refine stepRJ [4] rfl rfl rfl (by kernel_rfl) fun d v u hv hS K hK => ?_
      clear hS
      have e4 := hv 4 rfl
      simp only [RfC] at e4
      go_simp
      exact hK.out _ _ (by simp [upd, e4]; try rfl) trivial
    · refine stepRJ [0, 4] rfl rfl rfl (by kernel_rfl) fun d v u hv hS K hK => ?_
      clear hS
      have e0 := hv 0 rfl
      simp only [RfC] at e0
      have e4 := hv 4 rfl
      simp only [RfC] at e4
      go_simp
      exact hK.out _ _ (by simp [upd, e0, e4]; try rfl) rfl
    · refine stepRJc [3, 6] rfl rfl (by kernel_rfl) fun v u hv hS K hK => ?_
      have e3 := hv 3 rfl
      have e6 := hv 6 rfl
      simp only [RfC] at e3 e6
      have hS : u = w.drewN 1 := hS
      subst hS
      go_simp
      go_at_call 91
      refine (R.out 1).mono ?_
      rintro e u' ⟨rfl, r1, r2, r3⟩
      have R1 := Lib.hid r1
      have R2 := Lib.hid r2
      have R3 := Lib.hid (show Two w u' f b from ⟨r3.os, r3.tape, r3.output, r3.size, r3.block⟩)
      clear r1 r2 r3
      go_wp2_with fail
      exact hK.out _ _ _ (by simp [upd, e3, e6]) rfl ⟨R1.out, R2.out, R3.out⟩
    · refine stepRJ [7] rfl rfl rfl (by kernel_rfl) fun d v u hv hS K hK => ?_
      clear hS
      have e7 := hv 7 rfl
      simp only [RfC] at e7
      go_simp
      exact hK.out _ _ (by simp [upd, e7]; try rfl) rfl
    · refine stepRJ [8] rfl rfl rfl (by kernel_rfl) fun d v u hv hS K hK => ?_
      clear hS
      have e8 := hv 8 rfl
      simp only [RfC] at e8
      go_simp
      exact hK.out _ _ (by simp [upd, e8]; try rfl) rfl
    · refine stepRJ [8] rfl rfl rfl (by kernel_rfl) fun d v u hv hS K hK => ?_
      clear hS
      have e8 := hv 8 rfl
      simp only [RfC] at e8
      go_simp
      exact hK.out _ _ (by simp [upd, e8]; try rfl) rfl
    · refine stepRJ [9] rfl rfl rfl (by kernel_rfl) fun d v u hv hS K hK => ?_
      clear hS
      have e9 := hv 9 rfl
      simp only [RfC] at e9
      go_simp
      exact hK.out _ _ (by simp [upd, e9]; try rfl) rfl
    · refine stepRJ [10] rfl rfl rfl (by kernel_rfl) fun d v u hv hS K hK => ?_
      clear hS
      have e10 := hv 10 rfl
      simp only [RfC] at e10
      go_simp
      exact hK.out _ _ (by simp [upd, e10]; try rfl) rfl
  · intro v u hv hS
    obtain ⟨r1, r2, r3⟩ : FeedAt w0 u f (ds.drop n) ∧ At u b t (splice cur o ((ds.take n).map B8)) ∧ Two w u f b := hS
    have R1 := Lib.hid r1
    have R2 := Lib.hid r2
    have R3 := Lib.hid r3
    have e11 : v 11 = .int .i64 (n : Int) := hv 11 (by decide)
    have e12 : v 12 = .nilIface := hv 12 (by decide)
    rw [e11, e12]
    clear hv r1 r2 r3 e11 e12
    go_wp2_with fail
    rw [rounds_succ]
    go_wp2
    go_ret2
    exact ⟨rfl, R1.out, R2.out, R3.out⟩
set_option maxRecDepth 100000 in
theorem readFull_nil (w0 w : World) (f b o n c : Nat) (t : TypeId) (cur : List Value) (hn : 0 < n) (hnl : n ≤ 70000) (hnc : n ≤ c) (hf : FeedAt w0 w f []) (hb : At w b t cur) :
    Calls Try.prog 51 #[.iface 76 (.pointer (some ⟨f, 0, none⟩)), .slice (some ⟨b, o, none⟩) n c] w (ReadNo w f b t cur.length) := by
  have z1 : (0 : Int) < (n : Int) := by omega
  have z2 : ¬ (n : Int) ≤ 0 := by omega
  have c0 : ¬ c = 0 := by omega
  have hmf := Try.hmf
  have hmt := feed_method
  have HB := Lib.hid hb
  have R := Lib.hid (fun v m => feedRead_no w0 (w.drewN m) f v hf)
  clear hb
  go_enter Try.func51, Try.ntmps51
  go_wp2_with (refine wp_loop_rounds 2 ?_)
  rw [rounds_succ]
  go_wp2_with fail
  refine wp_region_rj (fun v => ⟨#[(Value.iface 76 (Value.pointer (some { block := f, off := 0 }))), (Value.slice (some { block := b, off := o }) n c), undef, undef, Value.int IntKind.i64 0, v 12, v 11, Value.int IntKind.i64 0, (Value.slice (some { block := b, off := o }) n c), Value.int IntKind.i64 (n : Int), Value.bool true, Value.bool true, Value.nilIface, Value.bool true, Value.bool true, v 8, v 0, v 1, v 2, v 3, v 4, v 5, v 6, v 7, v 9, v 10, undef, undef, undef, undef, undef, undef, undef, undef, undef, undef, undef, undef, undef, undef, undef, undef, undef, undef, undef], []⟩)
    (RfC (Value.iface 76 (Value.pointer (some { block := f, off := 0 }))) (Value.slice (some { block := b, off := o }) n c) (.int .i64 0) (Value.slice (some { block := b, off := o }) n c) (.int .i64 0) eofV)
    (fun d u => if d then At u b t cur ∧ Two w u f b else u = w.drewN 1) 7
    (fun j => if j = 11 then .int .i64 0 else if j = 12 then .nilIface else undef) [0, 1, 2, 3, 4, 5, 6, 7, 8, 9, 10, 11, 12] (by kernel_rfl) (by kernel_rfl) (by kernel_rfl) (by decide) rfl rfl ?_ ?_
  · refine AllI.cons ?_ (AllI.cons ?_ (AllI.cons ?_ (AllI.cons ?_ (AllI.cons ?_ (AllI.cons ?_ (AllI.cons ?_ (AllI.cons ?_ (AllI.cons ?_ (AllI.cons ?_ (AllI.cons ?_ (AllI.cons ?_ (AllI.cons ?_ AllI.nil))))))))))))
    · refine stepRJ [] rfl rfl rfl (by kernel_rfl) fun d v u hv hS K hK => ?_
      clear hS
      go_simp
      exact hK.out _ _ (by simp [upd]; try rfl) rfl
    · refine stepRJ [] rfl rfl rfl (by kernel_rfl) fun d v u hv hS K hK => ?_
      clear hS
      go_simp
      exact hK.out _ _ (by simp [upd]; try rfl) rfl
    · refine stepRJ [] rfl rfl rfl (by kernel_rfl) fun d v u hv hS K hK => ?_
      clear hS
      go_simp
      exact hK.out _ _ (by simp [upd]; try rfl) rfl
    · refine stepRJ [1, 2] rfl rfl rfl (by kernel_rfl) fun d v u hv hS K hK => ?_
      clear hS
      have e1 := hv 1 rfl
      simp only [RfC] at e1
      have e2 := hv 2 rfl
      simp only [RfC] at e2
      go_simp
      exact hK.out _ _ (by simp [upd, e1, e2]; try rfl) rfl
    · refine stepRJ [0] rfl rfl rfl (by kernel_rfl) fun d v u hv hS K hK => ?_
      clear hS
      have e0 := hv 0 rfl
      simp only [RfC] at e0
      go_simp
      exact hK.out _ _ (by simp [upd, e0]; try rfl) rfl
    · refine stepRJ [4] rfl rfl rfl (by kernel_rfl) fun d v u hv hS K hK => ?_
      clear hS
      have e4 := hv 4 rfl
      simp only [RfC] at e4
      go_simp
      exact hK.out _ _ (by simp [upd, e4]; try rfl) trivial
    · refine stepRJ [0, 4] rfl rfl rfl (by kernel_rfl) fun d v u hv hS K hK => ?_
      clear hS
      have e0 := hv 0 rfl
      simp only [RfC] at e0
      have e4 := hv 4 rfl
      simp only [RfC] at e4
      go_simp
      exact hK.out _ _ (by simp [upd, e0, e4]; try rfl) rfl
    · refine stepRJc [3, 6] rfl rfl (by kernel_rfl) fun v u hv hS K hK => ?_
      have e3 := hv 3 rfl
      have e6 := hv 6 rfl
      simp only [RfC] at e3 e6
      have hS : u = w.drewN 1 := hS
      subst hS
      go_simp
      go_at_call 91
      refine (R.out _ 1).mono ?_
      rintro e u' ⟨rfl, rfl⟩
      go_wp2_with fail
      exact hK.out _ _ _ (by simp [upd, e3, e6]; try rfl) rfl ⟨HB.out, Two.drewN (Two.refl w f b) 1⟩
    · refine stepRJ [7] rfl rfl rfl (by kernel_rfl) fun d v u hv hS K hK => ?_
      clear hS
      have e7 := hv 7 rfl
      simp only [RfC] at e7
      go_simp
      exact hK.out _ _ (by simp [upd, e7]; try rfl) rfl
    · refine stepRJ [8] rfl rfl rfl (by kernel_rfl) fun d v u hv hS K hK => ?_
      clear hS
      have e8 := hv 8 rfl
      simp only [RfC] at e8
      go_simp
      exact hK.out _ _ (by simp [upd, e8]; try rfl) rfl
    · refine stepRJ [8] rfl rfl rfl (by kernel_rfl) fun d v u hv hS K hK => ?_
      clear hS
      have e8 := hv 8 rfl
      simp only [RfC] at e8
      go_simp
      exact hK.out _ _ (by simp [upd, e8]; try rfl) rfl
    · refine stepRJ [9] rfl rfl rfl (by kernel_rfl) fun d v u hv hS K hK => ?_
      clear hS
      have e9 := hv 9 rfl
      simp only [RfC] at e9
      go_simp
      exact hK.out _ _ (by simp [upd, e9]; try rfl) rfl
    · refine stepRJ [10] rfl rfl rfl (by kernel_rfl) fun d v u hv hS K hK => ?_
      clear hS
      have e10 := hv 10 rfl
      simp only [RfC] at e10
      go_simp
      exact hK.out _ _ (by simp [upd, e10]; try rfl) rfl
  · intro v u hv hS
    obtain ⟨r2, r3⟩ : At u b t cur ∧ Two w u f b := hS
    have R2 := Lib.hid r2
    have R3 := Lib.hid r3
    have e11 : v 11 = .int .i64 0 := hv 11 (by decide)
    have e12 : v 12 = eofV := hv 12 (by decide)
    rw [e11, e12]
    clear hv r2 r3 e11 e12
    unfold eofV
    go_wp2_with fail
    rw [rounds_succ]
    go_wp2
    go_ret2
    exact ⟨⟨_, _, rfl⟩, ⟨cur, rfl, R2.out⟩, R3.out⟩
set_option maxRecDepth 100000 in
theorem error_any (s : ByteArray) (w : World) : Calls Try.prog 92 #[.string s] w fun e w' => e = .returned (.string s) ∧ w' = w := by
  go_enter Try.func92, Try.ntmps92
  go_wp2
  go_ret
  exact ⟨rfl, rfl⟩
theorem eof_ne : (eofS.toList == [69, 79, 70]) = false := by kernel_rfl
set_option maxRecDepth 100000 in
theorem readFull_few (w0 w : World) (f b o n c : Nat) (t : TypeId) (cur : List Value) (ds : List UInt8) (k : Nat) (hk : ds.length = k) (hk0 : 0 < k) (hkn : k < n) (hnl : n ≤ 70000) (hnc : n ≤ c) (hfit : o + n ≤ cur.length) (hf : FeedAt w0 w f ds) (hb : At w b t cur) (hfb : f ≠ b) (h0 : Below w0.heap.size w0 w) :
    Calls Try.prog 51 #[.iface 76 (.pointer (some ⟨f, 0, none⟩)), .slice (some ⟨b, o, none⟩) n c] w (ReadNo w f b t cur.length) := by
  have z1 : (0 : Int) < (n : Int) := by omega
  have z2 : ¬ (n : Int) ≤ (k : Int) := by omega
  have z3 : (0 : Int) < (k : Int) := by omega
  have z4 : (k : Int) < (n : Int) := by omega
  have z5 : (k : Int) ≤ (n : Int) := by omega
  have z7 : k ≤ n := by omega
  have z6 : (0 : Int) ≤ (k : Int) := by omega
  have c0 : ¬ c = 0 := by omega
  have c1 : ¬ c = k := by omega
  have hmf := Try.hmf
  have hmt := feed_method
  have hme := error_method
  have hne := eof_ne
  have DD := Lib.hid (show ds.drop k = [] from List.drop_eq_nil_of_le (by omega))
  have LL := Lib.hid (show (splice cur o ((ds.take k).map B8)).length = cur.length by unfold splice; simp; omega)
  have R := Lib.hid (fun m => feedRead_yes w0 (w.drewN m) f b o n c t cur ds k (by rw [hk]; exact (Nat.min_eq_left (by omega)).symm) (by omega) (by omega) (by omega) (by omega) hfit hf hb hfb (below_drewN h0 m))
  go_enter Try.func51, Try.ntmps51
  go_wp2_with (refine wp_loop_rounds 3 ?_)
  rw [rounds_succ]
  go_wp2_with fail
  refine wp_region_rj (fun v => ⟨#[(Value.iface 76 (Value.pointer (some { block := f, off := 0 }))), (Value.slice (some { block := b, off := o }) n c), undef, undef, Value.int IntKind.i64 0, v 12, v 11, Value.int IntKind.i64 0, (Value.slice (some { block := b, off := o }) n c), Value.int IntKind.i64 (n : Int), Value.bool true, Value.bool true, Value.nilIface, Value.bool true, Value.bool true, v 8, v 0, v 1, v 2, v 3, v 4, v 5, v 6, v 7, v 9, v 10, undef, undef, undef, undef, undef, undef, undef, undef, undef, undef, undef, undef, undef, undef, undef, undef, undef, undef, undef], []⟩)
    (RfC (Value.iface 76 (Value.pointer (some { block := f, off := 0 }))) (Value.slice (some { block := b, off := o }) n c) (.int .i64 0) (Value.slice (some { block := b, off := o }) n c) (.int .i64 k) .nilIface)
    (fun d u => if d then FeedAt w0 u f (ds.drop k) ∧ At u b t (splice cur o ((ds.take k).map B8)) ∧ Two w u f b else u = w.drewN 1) 7
    (fun j => if j = 11 then .int .i64 0 else if j = 12 then .nilIface else undef) [0, 1, 2, 3, 4, 5, 6, 7, 8, 9, 10, 11, 12] (by kernel_rfl) (by kernel_rfl) (by kernel_rfl) (by decide) rfl rfl ?_ ?_
  · refine AllI.cons ?_ (AllI.cons ?_ (AllI.cons ?_ (AllI.cons ?_ (AllI.cons ?_ (AllI.cons ?_ (AllI.cons ?_ (AllI.cons ?_ (AllI.cons ?_ (AllI.cons ?_ (AllI.cons ?_ (AllI.cons ?_ (AllI.cons ?_ AllI.nil))))))))))))
    · refine stepRJ [] rfl rfl rfl (by kernel_rfl) fun d v u hv hS K hK => ?_
      clear hS
      go_simp
      exact hK.out _ _ (by simp [upd]; try rfl) rfl
    · refine stepRJ [] rfl rfl rfl (by kernel_rfl) fun d v u hv hS K hK => ?_
      clear hS
      go_simp
      exact hK.out _ _ (by simp [upd]; try rfl) rfl
    · refine stepRJ [] rfl rfl rfl (by kernel_rfl) fun d v u hv hS K hK => ?_
      clear hS
      go_simp
      exact hK.out _ _ (by simp [upd]; try rfl) rfl
    · refine stepRJ [1, 2] rfl rfl rfl (by kernel_rfl) fun d v u hv hS K hK => ?_
      clear hS
      have e1 := hv 1 rfl
      simp only [RfC] at e1
      have e2 := hv 2 rfl
      simp only [RfC] at e2
      go_simp
      exact hK.out _ _ (by simp [upd, e1, e2]; try rfl) rfl
    · refine stepRJ [0] rfl rfl rfl (by kernel_rfl) fun d v u hv hS K hK => ?_
      clear hS
      have e0 := hv 0 rfl
      simp only [RfC] at e0
      go_simp
      exact hK.out _ _ (by simp [upd, e0]; try rfl) rfl
    · refine stepRJ [4] rfl rfl rfl (by kernel_rfl) fun d v u hv hS K hK => ?_
      clear hS
      have e4 := hv 4 rfl
      simp only [RfC] at e4
      go_simp
      exact hK.out _ _ (by simp [upd, e4]; try rfl) trivial
    · refine stepRJ [0, 4] rfl rfl rfl (by kernel_rfl) fun d v u hv hS K hK => ?_
      clear hS
      have e0 := hv 0 rfl
      simp only [RfC] at e0
      have e4 := hv 4 rfl
      simp only [RfC] at e4
      go_simp
      exact hK.out _ _ (by simp [upd, e0, e4]; try rfl) rfl
    · refine stepRJc [3, 6] rfl rfl (by kernel_rfl) fun v u hv hS K hK => ?_
      have e3 := hv 3 rfl
      have e6 := hv 6 rfl
      simp only [RfC] at e3 e6
      have hS : u = w.drewN 1 := hS
      subst hS
      go_simp
      go_at_call 91
      refine (R.out 1).mono ?_
      rintro e u' ⟨rfl, r1, r2, r3⟩
      have R1 := Lib.hid r1
      have R2 := Lib.hid r2
      have R3 := Lib.hid (show Two w u' f b from ⟨r3.os, r3.tape, r3.output, r3.size, r3.block⟩)
      clear r1 r2 r3
      go_wp2_with fail
      exact hK.out _ _ _ (by simp [upd, e3, e6]) rfl ⟨R1.out, R2.out, R3.out⟩
    · refine stepRJ [7] rfl rfl rfl (by kernel_rfl) fun d v u hv hS K hK => ?_
      clear hS
      have e7 := hv 7 rfl
      simp only [RfC] at e7
      go_simp
      exact hK.out _ _ (by simp [upd, e7]; try rfl) rfl
    · refine stepRJ [8] rfl rfl rfl (by kernel_rfl) fun d v u hv hS K hK => ?_
      clear hS
      have e8 := hv 8 rfl
      simp only [RfC] at e8
      go_simp
      exact hK.out _ _ (by simp [upd, e8]; try rfl) rfl
    · refine stepRJ [8] rfl rfl rfl (by kernel_rfl) fun d v u hv hS K hK => ?_
      clear hS
      have e8 := hv 8 rfl
      simp only [RfC] at e8
      go_simp
      exact hK.out _ _ (by simp [upd, e8]; try rfl) rfl
    · refine stepRJ [9] rfl rfl rfl (by kernel_rfl) fun d v u hv hS K hK => ?_
      clear hS
      have e9 := hv 9 rfl
      simp only [RfC] at e9
      go_simp
      exact hK.out _ _ (by simp [upd, e9]; try rfl) rfl
    · refine stepRJ [10] rfl rfl rfl (by kernel_rfl) fun d v u hv hS K hK => ?_
      clear hS
      have e10 := hv 10 rfl
      simp only [RfC] at e10
      go_simp
      exact hK.out _ _ (by simp [upd, e10]; try rfl) rfl
  · intro v u hv hS
    obtain ⟨r1, r2, r3⟩ : FeedAt w0 u f (ds.drop k) ∧ At u b t (splice cur o ((ds.take k).map B8)) ∧ Two w u f b := hS
    have R1 := Lib.hid r1
    have R2 := Lib.hid r2
    have R3 := Lib.hid r3
    have e11 : v 11 = .int .i64 (k : Int) := hv 11 (by decide)
    have e12 : v 12 = .nilIface := hv 12 (by decide)
    rw [e11, e12]
    clear hv r1 r2 r3 e11 e12
    go_wp2_with fail
    rw [rounds_succ]
    go_wp2_with fail
    have N2 := Lib.hid (fun v m => feedRead_no w0 (u.drewN m) f v (show FeedAt w0 (u.drewN m) f [] from DD.out ▸ R1.out))
    refine wp_region_rj (fun v => ⟨#[(Value.iface 76 (Value.pointer (some { block := f, off := 0 }))), (Value.slice (some { block := b, off := o }) n c), undef, undef, Value.int IntKind.i64 (k : Int), v 12, v 11, Value.int IntKind.i64 (k : Int), (Value.slice (some { block := b, off := o }) n c), Value.int IntKind.i64 (n : Int), Value.bool true, Value.bool true, Value.nilIface, Value.bool true, Value.bool true, v 8, v 0, v 1, v 2, v 3, v 4, v 5, v 6, v 7, v 9, v 10, Value.int IntKind.i64 0, Value.int IntKind.i64 (k : Int), Value.int IntKind.i64 (k : Int), undef, undef, undef, undef, undef, undef, undef, undef, undef, undef, undef, undef, undef, undef, undef, undef], []⟩)
      (RfC (Value.iface 76 (Value.pointer (some { block := f, off := 0 }))) (Value.slice (some { block := b, off := o }) n c) (.int .i64 k) (Value.slice (some { block := b, off := o + k }) (n - k) (c - k)) (.int .i64 0) eofV)
      (fun d x => if d then At x b t (splice cur o ((ds.take k).map B8)) ∧ Two w x f b else x = u.drewN 1) 7
      (fun j => if j = 0 then v 0 else if j = 1 then v 1 else if j = 2 then v 2 else if j = 3 then v 3 else if j = 4 then v 4 else if j = 5 then v 5 else if j = 6 then v 6 else if j = 7 then v 7 else if j = 8 then v 8 else if j = 9 then v 9 else if j = 10 then v 10 else if j = 11 then .int .i64 0 else if j = 12 then .nilIface else undef) [0, 1, 2, 3, 4, 5, 6, 7, 8, 9, 10, 11, 12] (by kernel_rfl) (by kernel_rfl) (by kernel_rfl) (by decide) rfl rfl ?_ ?_
    · refine AllI.cons ?_ (AllI.cons ?_ (AllI.cons ?_ (AllI.cons ?_ (AllI.cons ?_ (AllI.cons ?_ (AllI.cons ?_ (AllI.cons ?_ (AllI.cons ?_ (AllI.cons ?_ (AllI.cons ?_ (AllI.cons ?_ (AllI.cons ?_ AllI.nil))))))))))))
      · refine stepRJ [] rfl rfl rfl (by kernel_rfl) fun d v y hv hS K hK => ?_
        clear hS
        go_simp
        exact hK.out _ _ (by simp [upd]; try rfl) rfl
      · refine stepRJ [] rfl rfl rfl (by kernel_rfl) fun d v y hv hS K hK => ?_
        clear hS
        go_simp
        exact hK.out _ _ (by simp [upd]; try rfl) rfl
      · refine stepRJ [] rfl rfl rfl (by kernel_rfl) fun d v y hv hS K hK => ?_
        clear hS
        go_simp
        exact hK.out _ _ (by simp [upd]; try rfl) rfl
      · refine stepRJ [1, 2] rfl rfl rfl (by kernel_rfl) fun d v y hv hS K hK => ?_
        clear hS
        have e1 := hv 1 rfl
        simp only [RfC] at e1
        have e2 := hv 2 rfl
        simp only [RfC] at e2
        go_simp
        exact hK.out _ _ (by simp [upd, e1, e2]; try rfl) rfl
      · refine stepRJ [0] rfl rfl rfl (by kernel_rfl) fun d v y hv hS K hK => ?_
        clear hS
        have e0 := hv 0 rfl
        simp only [RfC] at e0
        go_simp
        exact hK.out _ _ (by simp [upd, e0]; try rfl) rfl
      · refine stepRJ [4] rfl rfl rfl (by kernel_rfl) fun d v y hv hS K hK => ?_
        clear hS
        have e4 := hv 4 rfl
        simp only [RfC] at e4
        go_simp
        exact hK.out _ _ (by simp [upd, e4]; try rfl) trivial
      · refine stepRJ [0, 4] rfl rfl rfl (by kernel_rfl) fun d v y hv hS K hK => ?_
        clear hS
        have e0 := hv 0 rfl
        simp only [RfC] at e0
        have e4 := hv 4 rfl
        simp only [RfC] at e4
        go_simp
        exact hK.out _ _ (by simp [upd, e0, e4]; try rfl) rfl
      · refine stepRJc [3, 6] rfl rfl (by kernel_rfl) fun v y hv hS K hK => ?_
        have e3 := hv 3 rfl
        have e6 := hv 6 rfl
        simp only [RfC] at e3 e6
        have hS : y = u.drewN 1 := hS
        subst hS
        go_simp
        go_at_call 91
        refine (N2.out _ 1).mono ?_
        rintro e u' ⟨rfl, rfl⟩
        go_wp2_with fail
        exact hK.out _ _ _ (by simp [upd, e3, e6]; try rfl) rfl ⟨R2.out, R3.out.drewN 1⟩
      · refine stepRJ [7] rfl rfl rfl (by kernel_rfl) fun d v y hv hS K hK => ?_
        clear hS
        have e7 := hv 7 rfl
        simp only [RfC] at e7
        go_simp
        exact hK.out _ _ (by simp [upd, e7]; try rfl) rfl
      · refine stepRJ [8] rfl rfl rfl (by kernel_rfl) fun d v y hv hS K hK => ?_
        clear hS
        have e8 := hv 8 rfl
        simp only [RfC] at e8
        go_simp
        exact hK.out _ _ (by simp [upd, e8]; try rfl) rfl
      · refine stepRJ [8] rfl rfl rfl (by kernel_rfl) fun d v y hv hS K hK => ?_
        clear hS
        have e8 := hv 8 rfl
        simp only [RfC] at e8
        go_simp
        exact hK.out _ _ (by simp [upd, e8]; try rfl) rfl
      · refine stepRJ [9] rfl rfl rfl (by kernel_rfl) fun d v y hv hS K hK => ?_
        clear hS
        have e9 := hv 9 rfl
        simp only [RfC] at e9
        go_simp
        exact hK.out _ _ (by simp [upd, e9]; try rfl) rfl
      · refine stepRJ [10] rfl rfl rfl (by kernel_rfl) fun d v y hv hS K hK => ?_
        clear hS
        have e10 := hv 10 rfl
        simp only [RfC] at e10
        go_simp
        exact hK.out _ _ (by simp [upd, e10]; try rfl) rfl
    · intro v' y hv hS
      obtain ⟨r2, r3⟩ : At y b t (splice cur o ((ds.take k).map B8)) ∧ Two w y f b := hS
      have Q2 := Lib.hid r2
      have Q3 := Lib.hid r3
      have e11 : v' 11 = .int .i64 0 := hv 11 (by decide)
      have e12 : v' 12 = eofV := hv 12 (by decide)
      rw [e11, e12]
      clear hv r2 r3 e11 e12
      unfold eofV
      go_wp2_with fail
      rw [rounds_succ]
      go_wp2_with fail
      refine (error_any eofS y).mono ?_
      rintro e y' ⟨rfl, rfl⟩
      go_wp2
      go_ret2
      exact ⟨⟨_, _, rfl⟩, ⟨_, LL.out, Q2.out⟩, Q3.out⟩
end Go.Proofs.Ytbojjpgekbljfaa
