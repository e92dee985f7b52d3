/-
  spec.hex of thirty-two digits.
-/
import Derived.Test.YtnofmiinbmfbnaaSpecHex
namespace Go.Proofs.Ytnofmiinbmfbnaa
open Go.RowKit
set_option linter.unusedVariables false
set_option maxRecDepth 100000 in
set_option maxHeartbeats 4000000 in
theorem hex32 (S : ByteArray) (l : List UInt8) (hS : S.data.toList = l) (hl : l.length = 32) (w : World) :
    Calls Try.prog 57 #[.string S] w (HexPost (decPos (fun i => 2 * i) l) w) := by
  have sz : S.size = 32 := by rw [← hl, ← hS]; simp
  obtain ⟨S2, hS2⟩ : ∃ S2 : ByteArray, S2 = ⟨(S.data.toList.map lowC).toArray⟩ := ⟨_, rfl⟩
  have LO := Lib.hid (fun w => hS2 ▸ lower_any S (by omega) (by omega) w)
  have IX := Lib.hid (show ∀ j : Nat, j < 32 → ∀ w, (Instr.index 9 (.string S2) (.int .i64 (j : Int))).run Try.prog w = .ok (.int .u8 ((lowC (l.getD j 0)).toNat : Int)) w from fun j hj w => by
    have := str_index S2 j (by rw [hS2]; simp [hS, hl, hj]) w
    have e : S2.data.toList = l.map lowC := by rw [hS2, map_str, hS]
    rw [e, getD_map_low l j (by omega)] at this
    exact this)
  have HL := Lib.hid hl
  clear hS hS2 hl
  go_enter Try.func57, Try.ntmps57
  go_wp2_with fail
  have HO := Lib.hid (own_empty w 5 w.heap.size (Nat.le_refl _))
  have BA := Lib.hid (show Below w.heap.size w (w.alloc (.cells #[] 5)) from (Below.refl _ _).alloc (Nat.le_refl _) _)
  refine (LO.out _).mono ?_
  rintro e w1 ⟨rfl, b1⟩
  have O1 := Lib.hid (HO.out.kept (grown_of_below b1 none) (by simp [Value.ownBlock]))
  have B1 := Lib.hid (BA.out.trans (b1.mono BA.out.size))
  clear b1
  go_wp2
  go_loopw [4, 6] (fun v i wr => ∃ k p : Nat, p = 2 * k ∧ k ≤ 16 ∧ i = .int .i64 (p : Int) ∧ (∀ j, j < k → okAt l (2 * j) = true) ∧ wr.ownsRow w.heap.size 5 1 v k ((outP (fun i => 2 * i) l k).map B8) ∧ Below w.heap.size w wr) (fun _ i _ => 32 - (intOf i).toNat)
  case atStart => exact ⟨0, 0, rfl, by omega, rfl, (fun j hj => by omega), O1.out, B1.out⟩
  case round =>
    obtain ⟨k, p, hp, hk, rfl, hok, hown, hbel⟩ := hrel
    have HOK := Lib.hid hok
    have HW := Lib.hid hown
    have HBe := Lib.hid hbel
    have PP := Lib.hid hp
    clear hok hown hbel
    by_cases hlt : k < 16
    · obtain ⟨x1, e1⟩ : ∃ x, x = l.getD p 0 := ⟨_, rfl⟩
      obtain ⟨x2, e2⟩ : ∃ x, x = l.getD (p + 1) 0 := ⟨_, rfl⟩
      obtain ⟨c1, h1⟩ : ∃ c, c = lowC x1 := ⟨_, rfl⟩
      obtain ⟨c2, h2⟩ : ∃ c, c = lowC x2 := ⟨_, rfl⟩
      have i1 : ∀ w, (Instr.index 9 (.string S2) (.int .i64 (p : Int))).run Try.prog w = .ok (.int .u8 (c1.toNat : Int)) w := fun w => by rw [h1, e1]; exact IX.out p (by omega) w
      have i2 : ∀ w, (Instr.index 9 (.string S2) (.int .i64 ((p : Int) + 1))).run Try.prog w = .ok (.int .u8 (c2.toNat : Int)) w := fun w => by rw [h2, e2]; exact IX.out (p + 1) (by omega) w
      have P1 := place16_any c1
      have P2 := place16_any c2
      have q1 : plI c1 = if hexN x1 = 255 then -1 else (hexN x1 : Int) := by rw [h1, plI_low]
      have q2 : plI c2 = if hexN x2 = 255 then -1 else (hexN x2 : Int) := by rw [h2, plI_low]
      obtain ⟨z1, hz1⟩ : ∃ z, z = plI c1 := ⟨_, rfl⟩
      obtain ⟨z2, hz2⟩ : ∃ z, z = plI c2 := ⟨_, rfl⟩
      rw [← hz1] at P1 q1
      rw [← hz2] at P2 q2
      have HP1 := Lib.hid P1
      have HP2 := Lib.hid P2
      have sp := okAt_split l p
      have by' : byteAt l p = UInt8.ofNat (hexN x1 * 16 + hexN x2) := by rw [byteAt, ← e1, ← e2]
      rw [← e1, ← e2] at sp
      have pw : IntKind.i64.wrap ((p : Int) + 1) = (p : Int) + 1 := IntWalk.i64_in _ (by omega)
      have pi0 : (0 : Int) ≤ (p : Int) := by omega
      have pi1 : (p : Int) < 32 := by omega
      clear P1 P2 h1 h2 e1 e2 hz1 hz2 hp
      rcases sp with ⟨so, s1, s2⟩ | ⟨so, s1⟩
      · obtain ⟨v1, hv1⟩ : ∃ v, v = hexN x1 := ⟨_, rfl⟩
        obtain ⟨v2, hv2⟩ : ∃ v, v = hexN x2 := ⟨_, rfl⟩
        rw [← hv1] at s1 by' q1
        rw [← hv2] at s2 by' q2
        rw [if_neg (by omega)] at q1
        rw [if_neg (by omega)] at q2
        subst q1
        subst q2
        obtain ⟨b, hb⟩ : ∃ b, b = byteAt l p := ⟨_, rfl⟩
        rw [← hb] at by'
        have EB := Lib.hid (show B8 b = .int .u8 (16 * (v1 : Int) + (v2 : Int)) by
          rw [by', B8, UInt8.toNat_ofNat']
          congr 1
          omega)
        have HBB := Lib.hid hb
        have r1 : (v1 : Int) < 16 := by omega
        have r2 : (v2 : Int) < 16 := by omega
        have r3 : (0 : Int) ≤ (v1 : Int) := by omega
        have r4 : (0 : Int) ≤ (v2 : Int) := by omega
        have SO := Lib.hid so
        clear so s1 s2 by' hv1 hv2 hb
        go_wp2
        go_quiet ((first | (go_at_call 62; with_reducible exact Calls.quiet_of_same (HP1.out _)) | (go_at_call 62; with_reducible exact Calls.quiet_of_same (HP2.out _))))
        clear i1 i2 pw
        rename_i nq
        obtain ⟨u, hu⟩ : ∃ u, u = wr.drewN nq := ⟨_, rfl⟩
        rw [← hu]
        have W1 := Lib.hid (show u.ownsRow w.heap.size 5 1 u4 k ((outP (fun i => 2 * i) l k).map B8) by rw [hu]; exact HW.out)
        have B2 := Lib.hid (show Below w.heap.size w u by rw [hu]; exact below_drewN HBe.out nq)
        clear hu HW HBe
        have d1 : decide ((v1 : Int) < 0) = false := decide_eq_false (by omega)
        have d2 : decide ((v2 : Int) < 0) = false := decide_eq_false (by omega)
        have A8 := Lib.hid (show Below u.heap.size u (u.alloc (.cells #[.int .u8 (16 * (v1 : Int) + (v2 : Int))] 5)) from (Below.refl _ _).alloc (Nat.le_refl _) _)
        have W2 := Lib.hid (show (u.alloc (.cells #[.int .u8 (16 * (v1 : Int) + (v2 : Int))] 5)).ownsRow w.heap.size 5 1 u4 k ((outP (fun i => 2 * i) l k).map B8) from W1.out.alloc _)
        have B3 := Lib.hid (B2.out.trans (A8.out.mono B2.out.size))
        have Y3 := Lib.hid (show Byt (u.alloc (.cells #[.int .u8 (16 * (v1 : Int) + (v2 : Int))] 5)) (some ⟨u.heap.size, 0, none⟩) [b] by
          rw [← EB.out]
          exact (NewB.alloc u 5 ([b].map B8)).at_.byt)
        go_wp2_with (refine wpList_appB rfl (.tmp 37) (.tmp 43) 27 rfl w.heap.size 5 Try.underlying27 Try.info8 _ k (outP (fun i => 2 * i) l k) (by rfl) W2.out (some ⟨u.heap.size, 0, none⟩) 1 1 [b] (by rfl) Y3.out rfl (by simp) (by omega) B3.out.size ?_)
        intro v' w5 o5 g5
        have O5 := Lib.hid (show w5.ownsRow w.heap.size 5 1 v' (k + 1) ((outP (fun i => 2 * i) l (k + 1)).map B8) by
          rw [outP_succ]
          show w5.ownsRow w.heap.size 5 1 v' (k + 1) ((outP (fun i => 2 * i) l k ++ [byteAt l (2 * k)]).map B8)
          rw [← PP.out, ← HBB.out, List.map_append]
          exact o5)
        have B5 := Lib.hid (B3.out.grown g5 B3.out.size (fun k hk => (W2.out.lt k hk).1))
        clear o5 g5
        go_wp2
        go_roundw
        case rel => exact ⟨k + 1, p + 2, by have := PP.out; omega, by omega, by go_num, (fun j hj => by
          by_cases h : j < k
          · exact HOK.out j h
          · obtain rfl : j = k := by omega
            rw [← PP.out]; exact SO.out), O5.out, B5.out⟩
        case measure => simp [intOf]; omega
      · have PN := Lib.hid (decPos_none (fun i => 2 * i) l k hlt (by show okAt l (2 * k) = false; rw [← PP.out]; exact so))
        have DD : decide (z1 < 0) = true ∨ (decide (z1 < 0) = false ∧ decide (z2 < 0) = true) := by
          rcases s1 with s1 | s1
          · rw [if_pos s1] at q1
            left; exact decide_eq_true (by omega)
          · rw [if_pos s1] at q2
            by_cases hz : z1 < 0
            · left; exact decide_eq_true hz
            · right; exact ⟨decide_eq_false hz, decide_eq_true (by omega)⟩
        clear so s1 by' q1 q2
        rcases DD with d1 | ⟨d1, d2⟩
        all_goals
          go_wp2
          go_quiet ((first | (go_at_call 62; with_reducible exact Calls.quiet_of_same (HP1.out _)) | (go_at_call 62; with_reducible exact Calls.quiet_of_same (HP2.out _))))
          clear i1 i2 pw
          go_wp2
          go_ret2
          exact HexPost.no PN.out _ rfl (below_drewN HBe.out _)
    · obtain rfl : k = 16 := by omega
      subst hp
      have PY := Lib.hid (decPos_some (fun i => 2 * i) l HOK.out)
      clear hlt hk
      go_wp2
      go_ret2
      obtain ⟨en, g, cap, e1, e2, e3⟩ := own_byt (bs := outP (fun i => 2 * i) l 16) HW.out (by omega)
      exact HexPost.yes _ PY.out u4 rfl ⟨g, cap, by rw [e1, outP_length], e2, e3⟩ HBe.out
end Go.Proofs.Ytnofmiinbmfbnaa
