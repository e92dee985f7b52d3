/-
  The thin package's XidParts.
-/
import Derived.Test.YtppcpidlnpencaaParts1
import Derived.Test.YtppcpidlnpencaaJoin
import Derived.Test.YtppcpidlnpencaaReg2
import Derived.IntWalk
namespace Go.Proofs.Ytppcpidlnpencaa
open Go.RowKit
set_option linter.unusedVariables false
def PaC (cs ts : List Value) (ms : List UInt8) (n p q : Int) (nil : Bool) (t : TypeId) (base : Nat) (j : Nat) (x : Value) (w : World) : Prop :=
  match j with
  | 0 | 4 | 7 | 10 | 13 => x = .agg cs.toArray
  | 1 => x = .agg ts.toArray
  | 2 | 15 => x = .int .i64 n
  | 3 => ∃ g, x = .slice (some ⟨g, 0, none⟩) 0 0 ∧ base ≤ g ∧ w.ownsRow base t 1 x 0 (List.map B8 []) ∧ g < w.heap.size
  | 5 => ∃ g, x = .slice (some ⟨g, 4, none⟩) 3 8 ∧ base ≤ g ∧ Byt w (some ⟨g, 4, none⟩) ms
  | 6 | 16 => ∃ g cap, x = .slice (some ⟨g, 0, none⟩) 3 cap ∧ base ≤ g ∧ Byt w (some ⟨g, 0, none⟩) ms
  | 8 => x = .int .u16 p
  | 9 | 17 => x = .int .i64 p
  | 11 => x = .int .i32 q
  | 12 | 18 => x = .int .i64 q
  | 14 | 19 => x = .bool nil
  | 20 => x = .bool true
  | _ => True
def PaS (cs : List Value) (t : TypeId) (gi base : Nat) (w0 w : World) : Prop := At w gi t cs ∧ Below w0.heap.size w0 w ∧ w0.heap.size ≤ gi ∧ gi < base ∧ base ≤ w.heap.size
def paGone : Nat → Option Nat
  | 3 | 5 => some 6
  | _ => none
theorem PaC.below {cs ts : List Value} {ms : List UInt8} {n p q : Int} {nil : Bool} {t : TypeId} {base : Nat} {w w' : World} (h : Below w.heap.size w w') (j : Nat) (x : Value) (hc : PaC cs ts ms n p q nil t base j x w) : PaC cs ts ms n p q nil t base j x w' := by
  unfold PaC at *
  split <;> simp only at hc ⊢ <;> try exact hc
  · obtain ⟨g, rfl, h2, h3, h4⟩ := hc
    exact ⟨g, rfl, h2, h3.kept (grown_of_below h none) (.inr (by simp [Value.ownBlock])), Nat.lt_of_lt_of_le h4 h.size⟩
  · obtain ⟨g, rfl, h2, h3⟩ := hc
    exact ⟨g, rfl, h2, h3.below h (Nat.le_refl _)⟩
  · obtain ⟨g, cap, rfl, h2, h3⟩ := hc
    exact ⟨g, cap, rfl, h2, h3.below h (Nat.le_refl _)⟩
  · obtain ⟨g, cap, rfl, h2, h3⟩ := hc
    exact ⟨g, cap, rfl, h2, h3.below h (Nat.le_refl _)⟩
theorem PaC.other {cs ts : List Value} {ms : List UInt8} {n p q : Int} {nil : Bool} {t : TypeId} {base : Nat} {w w' : World} (j : Nat) (x : Value) (hj : j ≠ 3 ∧ j ≠ 5 ∧ j ≠ 6 ∧ j ≠ 16) (hc : PaC cs ts ms n p q nil t base j x w) : PaC cs ts ms n p q nil t base j x w' := by
  unfold PaC at *
  split <;> simp only at hc ⊢ <;> first | exact hc | omega
theorem PaS.below {cs : List Value} {t : TypeId} {gi base : Nat} {w0 w w' : World} (h : Below w.heap.size w w') (hs : PaS cs t gi base w0 w) : PaS cs t gi base w0 w' :=
  ⟨hs.1.below h hs.1.lt, hs.2.1.trans (h.mono hs.2.1.size), hs.2.2.1, hs.2.2.2.1, Nat.le_trans hs.2.2.2.2 h.size⟩
theorem PaS.grown {cs : List Value} {t : TypeId} {gi base g : Nat} {w0 w w' : World} (h : w.grownBy w' (some g)) (hg : base ≤ g) (hs : PaS cs t gi base w0 w) : PaS cs t gi base w0 w' := by
  obtain ⟨h1, h2, h3, h4, h5⟩ := hs
  exact ⟨h1.grown h (by simp; omega), h2.grown h h2.size (by simp; omega), h3, h4, Nat.le_trans h5 h.size⟩
def PartsPost (n p q : Nat) (ms : List UInt8) (nil : Bool) (w : World) (e : Ending) (w' : World) : Prop :=
  ∃ g cap, e = .returned (.tuple #[.int .i64 n, .slice (some ⟨g, 0, none⟩) 3 cap, .int .i64 p, .int .i64 q, .bool nil, .bool true]) ∧ w.heap.size ≤ g ∧ Byt w' (some ⟨g, 0, none⟩) ms ∧ Below w.heap.size w w'
set_option maxRecDepth 100000 in
set_option maxHeartbeats 4000000 in
theorem xidParts_any (A : Option Addr) (c : Nat) (b0 b1 b2 b3 b4 b5 b6 b7 b8 b9 b10 b11 : UInt8) (w : World) (hb : Byt w A [b0, b1, b2, b3, b4, b5, b6, b7, b8, b9, b10, b11]) :
    Calls Try.prog 18 #[.slice A 12 c] w (PartsPost (numB [b0, b1, b2, b3]) (numB [b7, b8]) (numB [b9, b10, b11]) [b4, b5, b6] (decide ([b0, b1, b2, b3, b4, b5, b6, b7, b8, b9, b10, b11] = z12)) w) := by
  obtain ⟨bs, hbs⟩ : ∃ bs, bs = [b0, b1, b2, b3, b4, b5, b6, b7, b8, b9, b10, b11] := ⟨_, rfl⟩
  have hl : bs.length = 12 := by rw [hbs]; rfl
  obtain ⟨n, hn⟩ : ∃ n, n = numB [b0, b1, b2, b3] := ⟨_, rfl⟩
  obtain ⟨p, hp⟩ : ∃ p, p = numB [b7, b8] := ⟨_, rfl⟩
  obtain ⟨q, hq⟩ : ∃ q, q = numB [b9, b10, b11] := ⟨_, rfl⟩
  obtain ⟨nil, hnil⟩ : ∃ nil, nil = decide (bs = z12) := ⟨_, rfl⟩
  have nlt : n < 4294967296 := hn ▸ numB_4 b0 b1 b2 b3
  have plt : p < 65536 := hp ▸ numB_2 b7 b8
  have qlt : q < 16777216 := hq ▸ numB_3 b9 b10 b11
  obtain ⟨cs, hcs⟩ : ∃ cs, cs = bs.map B8 := ⟨_, rfl⟩
  obtain ⟨ts, hts⟩ : ∃ ts, ts = TimeV n 0 := ⟨_, rfl⟩
  rw [← hbs, ← hnil, ← hn, ← hp, ← hq]
  rw [← hbs] at hb
  have HL := Lib.hid hl
  have HB := Lib.hid hb
  have HC := Lib.hid hcs
  have HBS := Lib.hid (show (Try.prog.info? 54).map (·.size) = some cs.length by rw [hcs]; exact sizeI_of bs hl)
  have LC := Lib.hid (show cs.length = 12 by rw [hcs, List.length_map, hl])
  have OC := Lib.hid (show ∀ v ∈ cs, v.oneCell' = true by rw [hcs]; exact B8_one bs)
  have F1 := Lib.hid (show ∀ w, Calls Try.prog 36 #[.agg cs.toArray] w fun e w' => e = .returned (.agg ts.toArray) ∧ Below w.heap.size w w' from fun w => by rw [hts, hn, hcs, hbs]; exact idTime b0 b1 b2 b3 _ w)
  have F2 := Lib.hid (show ∀ w, Calls Try.prog 37 #[.agg ts.toArray] w fun e w' => e = .returned (.int .i64 n) ∧ Below w.heap.size w w' from fun w => by rw [hts]; exact timeUnix_any n 0 (by omega) (by omega) (by omega) (by omega) w)
  have F5 := Lib.hid (show ∀ w, Calls Try.prog 38 #[.agg cs.toArray] w fun e w' => e = .returned (.slice (some ⟨w.heap.size, 4, none⟩) 3 8) ∧ Byt w' (some ⟨w.heap.size, 4, none⟩) [b4, b5, b6] ∧ Below w.heap.size w w' from fun w => (hcs ▸ idMachine bs hl w).mono fun e w' ⟨h1, h2, h3⟩ => ⟨h1, (by
    rw [hcs] at h2
    have h4 := (h2.bytFrom 4).take 3
    rw [hbs] at h4
    exact h4), h3⟩)
  have F8 := Lib.hid (show ∀ w, Calls Try.prog 39 #[.agg cs.toArray] w fun e w' => e = .returned (.int .u16 p) ∧ Below w.heap.size w w' from fun w => by rw [hp, hcs, hbs]; exact idPid b0 b1 b2 b3 b4 b5 b6 b7 b8 _ w)
  have F11 := Lib.hid (show ∀ w, Calls Try.prog 40 #[.agg cs.toArray] w fun e w' => e = .returned (.int .i32 q) ∧ Below w.heap.size w w' from fun w => by rw [hq, hcs, hbs]; exact idCounter b0 b1 b2 b3 b4 b5 b6 b7 b8 b9 b10 b11 w)
  have F14 := Lib.hid (show ∀ w, Calls Try.prog 41 #[.agg cs.toArray] w fun e w' => e = .returned (.bool nil) ∧ Below w.heap.size w w' from fun w => by rw [hnil, hcs]; exact idNil bs hl w)
  obtain ⟨Z, hZ⟩ : ∃ Z, Z = z12.map B8 := ⟨_, rfl⟩
  have hz : ∀ w, (zeroValue 54).run Try.prog w = .ok (.agg Z.toArray) w := hZ ▸ Try.zeroI
  have HZ := Lib.hid (show Z.length = 12 by simp [hZ, z12])
  have WP := Lib.hid (show IntKind.i64.wrap (p : Int) = p from IntWalk.i64_in _ (by omega))
  have WQ := Lib.hid (show IntKind.i64.wrap (q : Int) = q from IntWalk.i64_in _ (by omega))
  have pi : (p : Int) < 65536 := by omega
  have qi : (q : Int) < 16777216 := by omega
  obtain ⟨ms, hms⟩ : ∃ ms, ms = [b4, b5, b6] := ⟨_, rfl⟩
  have HM := Lib.hid (show ms.length = 3 by rw [hms]; rfl)
  rw [← hms] at F5
  rw [← hms]
  clear hb hZ hcs hts hn hp hq hnil hl hbs nlt plt qlt hms
  go_enter Try.func18, Try.ntmps18
  go_wp2_with fail
  refine (xidBytes_yes A 12 c bs rfl HL.out w HB.out).mono ?_
  unfold XidYes
  rw [← HC.out]
  rintro e w1 ⟨rfl, bel1⟩
  have E1 := Lib.hid bel1
  clear bel1
  go_wp2_with (refine wpList_var rfl 54 rfl (.agg Z.toArray) Z hz rfl ?_)
  intro w2 h2
  have H2 := Lib.hid h2
  clear h2 hz
  go_wp2_with (refine wpList_put rfl 54 (.tmp 8) (.tmp 13) rfl w1.heap.size cs (by rfl) (by rfl) 54 Z H2.out.at_ HBS.out (by rw [HZ.out, LC.out]) OC.out ?_)
  intro w3 h3
  obtain ⟨gi, hgi⟩ : ∃ gi, gi = w1.heap.size := ⟨_, rfl⟩
  obtain ⟨base, hbase⟩ : ∃ base, base = w3.heap.size := ⟨_, rfl⟩
  have S3 := Lib.hid (show PaS cs 54 gi base w w3 from hgi ▸ hbase ▸ ⟨h3.at_, h3.below (H2.out.below E1.out E1.out.size) (by have := E1.out.size; have := H2.out.size; omega) E1.out.size, E1.out.size, h3.at_.lt, Nat.le_refl _⟩)
  clear h3
  rw [← hgi]
  clear hgi hbase
  go_wp2_with fail
  have hu := Lib.hid Try.underlying54
  refine wp_region_rg (fun v => ⟨#[Value.slice A 12 c, undef, v 15, v 16, v 17, v 18, v 19, v 20, Value.pointer (some { block := gi, off := 0 }), Value.nilIface, Value.tuple #[Value.agg cs.toArray, Value.nilIface], Value.slice A 12 c, Value.tuple #[Value.agg cs.toArray, Value.nilIface], Value.agg cs.toArray, Value.nilIface, Value.nilIface, Value.bool false, v 0, v 1, v 2, v 3, v 4, v 5, v 6, v 7, v 8, v 9, v 10, v 11, v 12, v 13, v 14], []⟩) (PaC cs ts ms n p q nil 5 base) (PaS cs 54 gi base w) paGone
    [0, 1, 2, 3, 4, 5, 6, 7, 8, 9, 10, 11, 12, 13, 14, 15, 16, 17, 18, 19, 20] (by kernel_rfl) (by kernel_rfl) (by kernel_rfl) ?_ ?_ ?_
  · refine (RG.start _ _ _ _ _ _ (fun j => if j = 15 then .int .i64 0 else if j = 16 then .slice none 0 0 else if j = 17 then .int .i64 0 else if j = 18 then .int .i64 0 else if j = 19 then .bool false else if j = 20 then .bool false else undef) _ ((show PaS cs 54 gi base w w3 from S3.out).below (below_drewN (Below.refl _ _) 1)))
  · refine AllI.cons ?_ (AllI.cons ?_ (AllI.cons ?_ (AllI.cons ?_ (AllI.cons ?_ (AllI.cons ?_ (AllI.cons ?_ (AllI.cons ?_ (AllI.cons ?_ (AllI.cons ?_ (AllI.cons ?_ (AllI.cons ?_ (AllI.cons ?_ (AllI.cons ?_ (AllI.cons ?_ (AllI.cons ?_ (AllI.cons ?_ (AllI.cons ?_ (AllI.cons ?_ (AllI.cons ?_ (AllI.cons ?_ AllI.nil))))))))))))))))))))
    · refine stepRG [] rfl rfl (by kernel_rfl) fun v u hv hS K hK => ?_
      have hi := HBS.out
      have hu' := hu.out
      refine wp_load_mid _ _ rfl _ _ rfl _ _ hS.1.range hu' rfl hi ?_
      exact hK.out _ _ _ rfl (fun _ _ _ _ _ h => h) rfl hS
    · refine stepRG [0] rfl rfl (by kernel_rfl) fun v u hv hS K hK => ?_
      have e0 : v 0 = .agg cs.toArray := hv 0 rfl
      go_simp
      go_at_call 36
      refine (F1.out _).mono ?_
      rintro e u' ⟨rfl, b4⟩
      go_wp2_with fail
      exact hK.out _ _ _ (by simp [upd, e0]) (fun j x _ _ _ h => PaC.below b4 j x h) rfl (hS.below b4)
    · refine stepRG [1] rfl rfl (by kernel_rfl) fun v u hv hS K hK => ?_
      have e1 : v 1 = .agg ts.toArray := hv 1 rfl
      go_simp
      go_at_call 37
      refine (F2.out _).mono ?_
      rintro e u' ⟨rfl, b4⟩
      go_wp2_with fail
      exact hK.out _ _ _ (by simp [upd, e1]) (fun j x _ _ _ h => PaC.below b4 j x h) rfl (hS.below b4)
    · refine stepRG [] rfl rfl (by kernel_rfl) fun v u hv hS K hK => ?_
      go_simp
      have nb := (Below.refl u.heap.size u).alloc (Nat.le_refl _) (.cells #[] 5)
      exact hK.out _ _ _ (by simp [upd]) (fun j x _ _ _ h => PaC.below nb j x h) ⟨u.heap.size, rfl, hS.2.2.2.2, own_empty u 5 base hS.2.2.2.2, by simp⟩ (hS.below nb)
    · refine stepRG [] rfl rfl (by kernel_rfl) fun v u hv hS K hK => ?_
      have hi := HBS.out
      have hu' := hu.out
      refine wp_load_mid _ _ rfl _ _ rfl _ _ hS.1.range hu' rfl hi ?_
      exact hK.out _ _ _ rfl (fun _ _ _ _ _ h => h) rfl hS
    · refine stepRG [4] rfl rfl (by kernel_rfl) fun v u hv hS K hK => ?_
      have e4 : v 4 = .agg cs.toArray := hv 4 rfl
      go_simp
      go_at_call 38
      refine (F5.out _).mono ?_
      rintro e u' ⟨rfl, y4, b4⟩
      go_wp2_with fail
      exact hK.out _ _ _ (by simp [upd, e4]) (fun j x _ _ _ h => PaC.below b4 j x h) ⟨u.heap.size, rfl, hS.2.2.2.2, y4⟩ (hS.below b4)
    · refine stepRG [3, 5] rfl rfl (by kernel_rfl) fun v u hv hS K hK => ?_
      obtain ⟨g3, e3, k3, ow, l3⟩ := hv 3 rfl
      obtain ⟨g5, e5, k5, y5⟩ := hv 5 rfl
      refine wp_appB (.tmp 20) (.tmp 22) 22 rfl base 5 Try.underlying22 Try.info8 (v 3) 0 [] rfl ow ⟨g5, 4, none⟩ 3 8 ms e5 y5 HM.out (by omega) hS.2.2.2.2 ?_
      intro v' u' o' g'
      obtain ⟨-, g, cap, e1, e2, e6⟩ := own_byt (bs := ms) o' (by omega)
      rw [e3] at g'
      exact hK.out _ v' _ (by simp [upd, Act.put]) (fun j x h1 h2 h3 h => PaC.other j x ⟨fun h => h2 (by rw [h]; rfl), fun h => h2 (by rw [h]; rfl), h1, fun h => by rw [h] at h3; revert h3; simp [Region.waitsFor, Region.binds]⟩ h) ⟨g, cap, e1, e2, e6⟩ (hS.grown g' k3)
    · refine stepRG [] rfl rfl (by kernel_rfl) fun v u hv hS K hK => ?_
      have hi := HBS.out
      have hu' := hu.out
      refine wp_load_mid _ _ rfl _ _ rfl _ _ hS.1.range hu' rfl hi ?_
      exact hK.out _ _ _ rfl (fun _ _ _ _ _ h => h) rfl hS
    · refine stepRG [7] rfl rfl (by kernel_rfl) fun v u hv hS K hK => ?_
      have e7 : v 7 = .agg cs.toArray := hv 7 rfl
      go_simp
      go_at_call 39
      refine (F8.out _).mono ?_
      rintro e u' ⟨rfl, b4⟩
      go_wp2_with fail
      exact hK.out _ _ _ (by simp [upd, e7]) (fun j x _ _ _ h => PaC.below b4 j x h) rfl (hS.below b4)
    · refine stepRG [8] rfl rfl (by kernel_rfl) fun v u hv hS K hK => ?_
      have e8 : v 8 = .int .u16 p := hv 8 rfl
      go_simp
      exact hK.out _ _ _ (by simp [upd, e8, WP.out]) (fun _ _ _ _ _ h => h) rfl hS
    · refine stepRG [] rfl rfl (by kernel_rfl) fun v u hv hS K hK => ?_
      have hi := HBS.out
      have hu' := hu.out
      refine wp_load_mid _ _ rfl _ _ rfl _ _ hS.1.range hu' rfl hi ?_
      exact hK.out _ _ _ rfl (fun _ _ _ _ _ h => h) rfl hS
    · refine stepRG [10] rfl rfl (by kernel_rfl) fun v u hv hS K hK => ?_
      have e10 : v 10 = .agg cs.toArray := hv 10 rfl
      go_simp
      go_at_call 40
      refine (F11.out _).mono ?_
      rintro e u' ⟨rfl, b4⟩
      go_wp2_with fail
      exact hK.out _ _ _ (by simp [upd, e10]) (fun j x _ _ _ h => PaC.below b4 j x h) rfl (hS.below b4)
    · refine stepRG [11] rfl rfl (by kernel_rfl) fun v u hv hS K hK => ?_
      have e11 : v 11 = .int .i32 q := hv 11 rfl
      go_simp
      exact hK.out _ _ _ (by simp [upd, e11, WQ.out]) (fun _ _ _ _ _ h => h) rfl hS
    · refine stepRG [] rfl rfl (by kernel_rfl) fun v u hv hS K hK => ?_
      have hi := HBS.out
      have hu' := hu.out
      refine wp_load_mid _ _ rfl _ _ rfl _ _ hS.1.range hu' rfl hi ?_
      exact hK.out _ _ _ rfl (fun _ _ _ _ _ h => h) rfl hS
    · refine stepRG [13] rfl rfl (by kernel_rfl) fun v u hv hS K hK => ?_
      have e13 : v 13 = .agg cs.toArray := hv 13 rfl
      go_simp
      go_at_call 41
      refine (F14.out _).mono ?_
      rintro e u' ⟨rfl, b4⟩
      go_wp2_with fail
      exact hK.out _ _ _ (by simp [upd, e13]) (fun j x _ _ _ h => PaC.below b4 j x h) rfl (hS.below b4)
    · refine stepRG [2] rfl rfl (by kernel_rfl) fun v u hv hS K hK => ?_
      have e2 : v 2 = .int .i64 n := hv 2 rfl
      go_simp
      exact hK.out _ _ _ (by simp [upd, e2]) (fun _ _ _ _ _ h => h) rfl hS
    · refine stepRG [6] rfl rfl (by kernel_rfl) fun v u hv hS K hK => ?_
      obtain ⟨g, cap, e6, h6⟩ := hv 6 rfl
      go_simp
      exact hK.out _ _ _ (by simp [upd, e6]) (fun _ _ _ _ _ h => h) ⟨g, cap, rfl, h6⟩ hS
    · refine stepRG [9] rfl rfl (by kernel_rfl) fun v u hv hS K hK => ?_
      have e9 : v 9 = .int .i64 p := hv 9 rfl
      go_simp
      exact hK.out _ _ _ (by simp [upd, e9]) (fun _ _ _ _ _ h => h) rfl hS
    · refine stepRG [12] rfl rfl (by kernel_rfl) fun v u hv hS K hK => ?_
      have e12 : v 12 = .int .i64 q := hv 12 rfl
      go_simp
      exact hK.out _ _ _ (by simp [upd, e12]) (fun _ _ _ _ _ h => h) rfl hS
    · refine stepRG [14] rfl rfl (by kernel_rfl) fun v u hv hS K hK => ?_
      have e14 : v 14 = .bool nil := hv 14 rfl
      go_simp
      exact hK.out _ _ _ (by simp [upd, e14]) (fun _ _ _ _ _ h => h) rfl hS
    · refine stepRG [] rfl rfl (by kernel_rfl) fun v u hv hS K hK => ?_
      go_simp
      exact hK.out _ _ _ (by simp [upd]) (fun _ _ _ _ _ h => h) rfl hS
  · intro v u hv hS
    have e15 : v 15 = .int .i64 n := hv 15 (by decide) rfl
    obtain ⟨g, cap, e16, k16, y16⟩ := hv 16 (by decide) rfl
    have e17 : v 17 = .int .i64 p := hv 17 (by decide) rfl
    have e18 : v 18 = .int .i64 q := hv 18 (by decide) rfl
    have e19 : v 19 = .bool nil := hv 19 (by decide) rfl
    have e20 : v 20 = .bool true := hv 20 (by decide) rfl
    have HS' := Lib.hid hS
    have K16 := Lib.hid k16
    have Y16 := Lib.hid y16
    clear hv hS k16 y16
    go_wp2
    refine bodyPost_ret (v := .tuple #[.int .i64 n, .slice (some ⟨g, 0, none⟩) 3 cap, .int .i64 p, .int .i64 q, .bool nil, .bool true]) (by simp [results, Try.results18, go_sem, e15, e16, e17, e18, e19, e20]) rfl ⟨g, cap, rfl, ?_, Y16.out, HS'.out.2.1⟩
    have := HS'.out.2.2
    have := K16.out
    omega
end Go.Proofs.Ytppcpidlnpencaa
