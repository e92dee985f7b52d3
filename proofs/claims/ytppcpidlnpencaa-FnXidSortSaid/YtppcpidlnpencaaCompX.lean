/-
  Compare of the package xid, and the thin package's XidCompare.
-/
import Derived.Test.YtppcpidlnpencaaXid
import Derived.Test.YtppcpidlnpencaaCmp
namespace Go.Proofs.Ytppcpidlnpencaa
open Go.RowKit
set_option linter.unusedVariables false
set_option maxRecDepth 100000 in
theorem cmpX_some (b1 o1 b2 o2 c1 c2 n : Nat) (xs ys : List UInt8) (h1 : xs.length = n) (h2 : ys.length = n) (hn : n ≤ 2147483647) (w : World)
    (hx : ∀ j (h : j < xs.length), w.cell? ⟨b1, o1 + j, none⟩ = some (B8 xs[j])) (hy : ∀ j (h : j < ys.length), w.cell? ⟨b2, o2 + j, none⟩ = some (B8 ys[j])) :
    Calls Try.prog 54 #[.slice (some ⟨b1, o1, none⟩) n c1, .slice (some ⟨b2, o2, none⟩) n c2] w (CmpPost (cmpB xs ys) w) := by
  have H1 := Lib.hid h1
  have H2 := Lib.hid h2
  have HX := Lib.hid hx
  have HY := Lib.hid hy
  clear h1 h2 hx hy
  go_enter Try.func54, Try.ntmps54
  go_wp2
  go_loopw [8] (fun i wr => ∃ k : Nat, k ≤ n ∧ i = .int .i64 k ∧ CmpAt xs ys k ∧ ∃ m, wr = w.drewN m) (fun i _ => n - (intOf i).toNat)
  case atStart => exact ⟨0, Nat.zero_le _, rfl, CmpAt.start xs ys, 0, rfl⟩
  case round =>
    obtain ⟨k, hk, rfl, hrel, m, rfl⟩ := hrel
    by_cases hlt : k < n
    · have l1 : k < xs.length := by have := H1.out; omega
      have l2 : k < ys.length := by have := H2.out; omega
      obtain ⟨x, ex⟩ : ∃ x, x = xs[k] := ⟨_, rfl⟩
      obtain ⟨y, ey⟩ : ∃ y, y = ys[k] := ⟨_, rfl⟩
      have cx : w.cell? ⟨b1, o1 + k, none⟩ = some (.int .u8 (x.toNat : Int)) := by rw [HX.out k l1, ex]; rfl
      have cy : w.cell? ⟨b2, o2 + k, none⟩ = some (.int .u8 (y.toNat : Int)) := by rw [HY.out k l2, ey]; rfl
      have EX := Lib.hid ex
      have EY := Lib.hid ey
      clear ex ey
      have p1 : (0 : Int) ≤ (k : Int) := by omega
      have p2 : (k : Int) < (n : Int) := by omega
      rcases Nat.lt_trichotomy x.toNat y.toNat with hxy | hxy | hxy
      · have t2 : (x.toNat : Int) < (y.toNat : Int) := by omega
        go_wp2
        go_quiet (fail)
        go_wp2
        go_ret
        refine ⟨?_, drewN2 _ _ _⟩
        rw [hrel.less l1 l2 (by rw [← EX.out, ← EY.out]; exact hxy)]
        rfl
      · have t2 : ¬ (x.toNat : Int) < (y.toNat : Int) := by omega
        have t3 : decide ((x.toNat : Int) < (y.toNat : Int)) = false := by simpa using t2
        have t4 : ¬ (y.toNat : Int) < (x.toNat : Int) := by omega
        have t5 : decide ((y.toNat : Int) < (x.toNat : Int)) = false := by simpa using t4
        have HXY := Lib.hid hxy
        clear hxy
        go_wp2
        go_quiet (fail)
        go_wp2
        go_quiet (fail)
        go_wp2
        go_roundw
        case rel => exact ⟨k + 1, by omega, by go_num, hrel.step l1 l2 (by rw [← EX.out, ← EY.out]; exact UInt8.toNat_inj.1 HXY.out), _, rfl⟩
        case measure => simp [intOf]; omega
      · have t2 : ¬ (x.toNat : Int) < (y.toNat : Int) := by omega
        have t3 : decide ((x.toNat : Int) < (y.toNat : Int)) = false := by simpa using t2
        have t4 : (y.toNat : Int) < (x.toNat : Int) := by omega
        go_wp2
        go_quiet (fail)
        go_wp2
        go_quiet (fail)
        go_wp2
        go_ret
        refine ⟨?_, drewN3 _ _ _ _⟩
        rw [hrel.more l1 l2 (by rw [← EX.out, ← EY.out]; exact hxy)]
        rfl
    · obtain rfl : k = n := by omega
      have hd := hrel.done (by have := H1.out; omega)
      have HD := Lib.hid hd
      clear hd
      go_wp2
      go_ret
      refine ⟨?_, _, rfl⟩
      rw [HD.out]
      rfl
set_option maxRecDepth 100000 in
theorem idCompare (xs ys : List UInt8) (h1 : xs.length = 12) (h2 : ys.length = 12) (w : World) :
    Calls Try.prog 42 #[.agg (xs.map B8).toArray, .agg (ys.map B8).toArray] w fun e w' => e = .returned (.int .i64 (cmpB xs ys)) ∧ Below w.heap.size w w' := by
  have HL1 := Lib.hid h1
  have HL2 := Lib.hid h2
  obtain ⟨r, hr⟩ : ∃ r, r = cmpB xs ys := ⟨_, rfl⟩
  rw [← hr]
  have HR := Lib.hid hr
  clear h1 h2 hr
  go_enter Try.func42, Try.ntmps42
  go_wp2_with (first | (refine wpList_boxed rfl 54 (.tmp 0) rfl (.agg (xs.map B8).toArray) (xs.map B8) (by rfl) rfl ?_) | fail)
  intro w1 hw1
  have H1 := Lib.hid hw1
  clear hw1
  go_wp2_with (first | (refine wpList_boxed rfl 54 (.tmp 1) rfl (.agg (ys.map B8).toArray) (ys.map B8) (by rfl) rfl ?_) | fail)
  intro w2 hw2
  have H2 := Lib.hid hw2
  clear hw2
  have CC : Hid (∀ w3, (∃ m, w3 = w2.drewN m) → Calls Try.prog 54 #[.slice (some ⟨w.heap.size, 0, none⟩) 12 12, .slice (some ⟨w1.heap.size, 0, none⟩) 12 12] w3 (CmpPost r w3)) := Lib.hid fun w3 h3 => by
    obtain ⟨m, rfl⟩ := h3
    rw [HR.out]
    have a1 : At (w2.drewN m) w.heap.size 54 (xs.map B8) := (H2.out.keep H1.out.at_).drewN m
    have a2 : At (w2.drewN m) w1.heap.size 54 (ys.map B8) := H2.out.at_.drewN m
    exact cmpX_some w.heap.size 0 w1.heap.size 0 12 12 12 xs ys HL1.out HL2.out (by omega) _ (fun j hj => by rw [Nat.zero_add, a1.cell j (by simpa using hj)]; simp) (fun j hj => by rw [Nat.zero_add, a2.cell j (by simpa using hj)]; simp)
  have BEL := Lib.hid (show Below w.heap.size w w2 from H2.out.below (H1.out.below (Below.refl _ _) (Nat.le_refl _)) (by have := H1.out.size; omega))
  go_wp2_with fail
  go_quiet ((go_at_call 54; exact Calls.quiet_of (CC.out _ ⟨_, rfl⟩)))
  go_wp2
  go_ret
  exact ⟨rfl, below_drewN BEL.out _⟩
set_option maxRecDepth 100000 in
set_option maxHeartbeats 1000000 in
theorem xidCompare_any (A1 A2 : Option Addr) (c1 c2 : Nat) (xs ys : List UInt8) (h1 : xs.length = 12) (h2 : ys.length = 12) (w : World) (hx : Byt w A1 xs) (hy : Byt w A2 ys) :
    Calls Try.prog 20 #[.slice A1 12 c1, .slice A2 12 c2] w fun e w' => e = .returned (.tuple #[.int .i64 (cmpB xs ys), .bool true]) ∧ Below w.heap.size w w' := by
  have HL1 := Lib.hid h1
  have HL2 := Lib.hid h2
  have HX := Lib.hid hx
  have HY := Lib.hid hy
  have HS1 := Lib.hid (sizeI_of xs h1)
  have HS2 := Lib.hid (sizeI_of ys h2)
  have HC := Lib.hid (fun w => idCompare xs ys h1 h2 w)
  obtain ⟨r, hr⟩ : ∃ r, r = cmpB xs ys := ⟨_, rfl⟩
  rw [← hr] at HC ⊢
  obtain ⟨Z, hZ⟩ : ∃ Z, Z = z12.map B8 := ⟨_, rfl⟩
  have hz : ∀ w, (zeroValue 54).run Try.prog w = .ok (.agg Z.toArray) w := hZ ▸ Try.zeroI
  have HZL := Lib.hid (show Z.length = 12 by simp [hZ, z12])
  clear h1 h2 hr hx hy hZ
  go_enter Try.func20, Try.ntmps20
  go_wp2_with fail
  refine (xidBytes_yes A1 12 c1 xs rfl HL1.out w HX.out).mono ?_
  unfold XidYes
  rintro e w1 ⟨rfl, b1⟩
  have B1 := Lib.hid b1
  clear b1
  go_wp2_with (refine wpList_var rfl 54 rfl (.agg Z.toArray) Z hz rfl ?_)
  intro w2 hw2
  have H2 := Lib.hid hw2
  clear hw2
  go_wp2_with (refine wpList_put rfl 54 (.tmp 6) (.tmp 13) rfl w1.heap.size (xs.map B8) (by rfl) (by rfl) 54 Z H2.out.at_ HS1.out (by rw [HZL.out, List.length_map, HL1.out]) (B8_one _) ?_)
  intro w3 hw3
  have A3 := Lib.hid hw3.at_
  have B3 := Lib.hid (hw3.below (H2.out.below B1.out B1.out.size) (by have := B1.out.size; have := H2.out.size; omega) B1.out.size)
  clear hw3
  go_wp2_with fail
  refine (xidBytes_yes A2 12 c2 ys rfl HL2.out w3 (HY.out.below B3.out (Nat.le_refl _))).mono ?_
  unfold XidYes
  rintro e w4 ⟨rfl, b4⟩
  have A4 := Lib.hid (A3.out.below b4 A3.out.lt)
  have B4 := Lib.hid (B3.out.trans (b4.mono B3.out.size))
  clear b4
  go_wp2_with (refine wpList_var rfl 54 rfl (.agg Z.toArray) Z hz rfl ?_)
  intro w5 hw5
  have H5 := Lib.hid hw5
  clear hw5 hz
  go_wp2_with (refine wpList_put rfl 54 (.tmp 8) (.tmp 18) rfl w4.heap.size (ys.map B8) (by rfl) (by rfl) 54 Z H5.out.at_ HS2.out (by rw [HZL.out, List.length_map, HL2.out]) (B8_one _) ?_)
  intro w6 hw6
  have A6 := Lib.hid ((hw6.keep (H5.out.keep A4.out) (by have := A4.out.lt; omega)))
  have Y6 := Lib.hid hw6.at_
  have B6 := Lib.hid (hw6.below (H5.out.below B4.out B4.out.size) (by have := B4.out.size; have := H5.out.size; omega) B4.out.size)
  clear hw6
  go_wp2_with (first
    | (refine wpList_get rfl 54 (.tmp 6) rfl w1.heap.size (by rfl) 54 (xs.map B8) _ A6.out Try.underlying54 rfl HS1.out ?_)
    | (refine wpList_get rfl 54 (.tmp 8) rfl w4.heap.size (by rfl) 54 (ys.map B8) _ Y6.out Try.underlying54 rfl HS2.out ?_)
    | (go_at_call 42; refine (HC.out w6).mono ?_; rintro e w7 ⟨rfl, b7⟩))
  go_ret2
  exact ⟨rfl, B6.out.trans (b7.mono B6.out.size)⟩
end Go.Proofs.Ytppcpidlnpencaa
