/-
  spec.Write with 16 digits.
-/
import Derived.Test.YtnofmiinbmfbnaaWrite
namespace Go.Proofs.Ytnofmiinbmfbnaa
open Go.RowKit
set_option linter.unusedVariables false
theorem step_div (P P' x L : Nat) (h : P' = P * 256 + x) (hx : x < 256) (hL : L = P % 16) : (L * 256 + x) / 16 = (P' / 16) % 256 ∧ (L * 256 + x) % 16 = P' % 16 := by omega
set_option maxRecDepth 100000 in
set_option maxHeartbeats 2000000 in
theorem write16 (S : ByteArray) (dig : Nat → UInt8) (hS : S.size = 16) (hd : ∀ n : Nat, n < 16 → ∀ w, (Instr.index 9 (.string S) (.int .i64 (n : Int))).run Try.prog w = .ok (.int .u8 ((dig n).toNat : Int)) w)
    (A : Option Addr) (n c m : Nat) (hA : A = none → c = 0) (hn : 0 < n) (hn2 : n ≤ 100) (hm : 0 < m) (hm2 : m ≤ 100) (bs : List UInt8) (hbs : bs.length = n) (w : World) (hb : Byt w A bs) :
    Calls Try.prog 41 #[.slice A n c, .string S, .int .i64 (m : Int)] w fun e w' => e = .returned (.string (writeS 16 dig (numB bs) m)) ∧ Below w.heap.size w w' := by
  have HL := Lib.hid hbs
  have HD := Lib.hid hd
  have HAA := Lib.hid hA
  have HO := Lib.hid (own_empty w 5 w.heap.size (Nat.le_refl _))
  have HB := Lib.hid (Byt.below hb (B := w.heap.size) ((Below.refl _ _).alloc (Nat.le_refl _) (.cells #[] 5)) (Nat.le_refl _))
  have EB := Lib.hid (bytesN_numB n bs hbs)
  have VB := Lib.hid (show numB bs < 256 ^ n by have := numB_lt bs n (by omega); rwa [List.take_of_length_le (by omega)] at this)
  obtain ⟨V0, hV0⟩ : ∃ V, V = numB bs := ⟨_, rfl⟩
  rw [← hV0] at EB VB ⊢
  obtain ⟨i, hi1, hi2, hi3, hi4⟩ := info_parts Try.info8
  have I1 := Lib.hid hi1
  have I2 := Lib.hid hi2
  have I3 := Lib.hid hi3
  have I4 := Lib.hid hi4
  clear hbs hd hA hb hV0 hi1 hi2 hi3 hi4
  go_enter Try.func41, Try.ntmps41
  go_wp2_with (refine wpList_appB rfl (.tmp 13) (.tmp 14) 27 rfl w.heap.size 5 Try.underlying27 Try.info8 _ 0 [] (by rfl) HO.out A n c bs (by rfl) HB.out HL.out HAA.out (by omega) (by simp) ?_)
  intro v' w1 h1 g1
  obtain ⟨-, gr, cap, rest, e1, e2, e3⟩ := own_at (bs := bs) h1 (by omega)
  have bel1 : Below w.heap.size w w1 := ((Below.refl w.heap.size w).alloc (Nat.le_refl _) (.cells #[] 5)).grown g1 (by simp) (by simp [Value.ownBlock])
  rw [e1]
  clear e1 h1 g1
  have R1 := Lib.hid e3
  have E2 := Lib.hid e2
  have B1 := Lib.hid bel1
  clear e2 e3 bel1
  go_wp2_with (refine wpList_make_row _ rfl (.tmp 16) (.tmp 16) 27 rfl 5 i (.int .u8 0) Try.underlying27 I1.out I2.out I3.out rfl .i64 .i64 m (by rfl) (by rfl) (by rw [I4.out]; omega) (by omega) ?_)
  rw [made_zero]
  have hw := NewB.alloc w1 5 ((List.replicate m (0 : UInt8)).map B8)
  generalize w1.alloc (.cells ((List.replicate m (0 : UInt8)).map B8).toArray 5) = w2 at hw ⊢
  obtain ⟨go, hgo⟩ : ∃ go, go = w1.heap.size := ⟨_, rfl⟩
  have O2 := Lib.hid (show At w2 go 5 ((outK 16 dig V0 m 0).map B8) by rw [hgo, outK_zero]; exact hw.at_)
  have R2 := Lib.hid (show At w2 gr 5 ((bytesN V0 n).map B8 ++ rest) by rw [EB.out]; exact hw.keep R1.out)
  have NE := Lib.hid (show gr ≠ go by have := R1.out.lt; omega)
  have GO := Lib.hid (show w.heap.size ≤ go by rw [hgo]; exact B1.out.size)
  have B2 := Lib.hid (hw.below B1.out B1.out.size)
  rw [← hgo]
  clear hw hgo
  go_wp2
  go_loopw [9] (fun i wr => ∃ k : Nat, k ≤ m ∧ i = .int .i64 ((m : Int) - 1 - (k : Int)) ∧ At wr gr 5 ((bytesN (V0 / 16 ^ k) n).map B8 ++ rest) ∧ At wr go 5 ((outK 16 dig V0 m k).map B8) ∧ Below w.heap.size w wr) (fun i _ => (intOf i + 1).toNat)
  case atStart => exact ⟨0, by omega, by simp, by simpa using R2.out, O2.out, B2.out⟩
  case round =>
    obtain ⟨k, hk, rfl, ha, ho, hbel⟩ := hrel
    by_cases hlt : k < m
    · obtain ⟨p, hp'⟩ : ∃ p : Nat, p = m - 1 - k := ⟨_, rfl⟩
      have ep : (m : Int) - 1 - (k : Int) = (p : Int) := by omega
      have pl : (p : Int) < (m : Int) := by omega
      rw [ep]
      obtain ⟨V, hV⟩ : ∃ V, V = V0 / 16 ^ k := ⟨_, rfl⟩
      have hV2 : V0 / 16 ^ (k + 1) = V / 16 := by rw [hV, Nat.div_div_eq_div_mul, Nat.pow_succ]
      have st := outK_step 16 dig V0 m k hlt
      rw [← hp', ← hV] at st
      rw [← hV] at ha
      have ln := outK_length 16 dig V0 m k hk
      have HA := Lib.hid ha
      have HOO := Lib.hid ho
      have HBe := Lib.hid hbel
      have HV2 := Lib.hid hV2
      have ST := Lib.hid st
      have LN := Lib.hid ln
      have EP := Lib.hid ep
      have HP := Lib.hid hp'
      have HK := Lib.hid hk
      have HLT := Lib.hid hlt
      have M0 := Lib.hid (mixB_zero V (V / 16) n)
      have PZ := Lib.hid (show V / 256 ^ (n - 0) % 16 = 0 by
        have : V < 256 ^ n := by rw [hV]; exact Nat.lt_of_le_of_lt (Nat.div_le_self _ _) VB.out
        rw [Nat.sub_zero, Nat.div_eq_of_lt this])
      clear ha ho hbel hV hV2 st ln ep hp' hk hlt
      go_wp2
      go_loopw [10, 26] (fun l i ws => ∃ j : Nat, j ≤ n ∧ i = .int .i64 (j : Int) ∧ l = .int .i64 ((V / 256 ^ (n - j) % 16 : Nat) : Int) ∧ At ws gr 5 ((mixB V (V / 16) n j).map B8 ++ rest) ∧ At ws go 5 ((outK 16 dig V0 m k).map B8) ∧ Below w.heap.size w ws) (fun _ i _ => n - (intOf i).toNat)
      case atStart => exact ⟨0, Nat.zero_le _, rfl, by rw [PZ.out]; rfl, by rw [M0.out]; exact HA.out, HOO.out, HBe.out⟩
      case round =>
        obtain ⟨j, hj, rfl, rfl, ha, ho, hbel⟩ := hrel
        clear HA HOO HBe PZ M0
        by_cases hlt : j < n
        · obtain ⟨P', hP'⟩ : ∃ P', P' = V / 256 ^ (n - 1 - j) := ⟨_, rfl⟩
          have ps := pow_split V n j hlt
          rw [← hP'] at ps
          rw [← ps]
          obtain ⟨x, hx⟩ : ∃ x, x = UInt8.ofNat P' := ⟨_, rfl⟩
          have xn : x.toNat = P' % 256 := by rw [hx, UInt8.toNat_ofNat']
          obtain ⟨L, hL⟩ : ∃ L, L = P' / 256 % 16 := ⟨_, rfl⟩
          rw [← hL]
          obtain ⟨sd1, sd2⟩ := step_div (P' / 256) P' x.toNat L (by omega) (by omega) hL
          have ms := mixB_step V (V / 16) n j hlt
          rw [show V / 16 / 256 ^ (n - 1 - j) = P' / 16 by rw [hP', Nat.div_div_eq_div_mul, Nat.div_div_eq_div_mul, Nat.mul_comm]] at ms
          have ml := mixB_length V (V / 16) n j hj
          have mg := mixB_get V (V / 16) n j hlt
          rw [← hP', ← hx] at mg
          have cx : Hid (_) := Lib.hid (show wr.cell? ⟨gr, j, none⟩ = some (.int .u8 (x.toNat : Int)) by rw [ha.cellPre j (by rw [ml]; exact hlt), mg])
          have LNX := Lib.hid (show n - (j + 1) = n - 1 - j by omega)
          have lb : (L : Int) < 16 := by rw [hL]; omega
          have xb : (x.toNat : Int) < 256 := by rw [xn]; omega
          have jb : (j : Int) < (n : Int) := by omega
          have HA := Lib.hid ha
          have HOO := Lib.hid ho
          have HBe := Lib.hid hbel
          have SD1 := Lib.hid sd1
          have SD2 := Lib.hid sd2
          have MS := Lib.hid ms
          have ML := Lib.hid ml
          have EP' := Lib.hid hP'
          clear ha ho hbel sd1 sd2 ms ml mg hP' ps hx xn hL hlt hj
          go_wp2_with (first
            | (refine wpList_getc rfl 5 (.tmp 29) rfl gr j (.int .u8 (x.toNat : Int)) (by rfl) cx.out _ Try.underlying5 rfl ?_)
            | (refine wpList_setc rfl 5 (.tmp 43) (.tmp 42) rfl gr j .u8 (((L : Int) * 256 + (x.toNat : Int)) / 16) (by rfl) (by rfl) 5 _ HA.out (by rw [List.length_append, List.length_map, ML.out]; omega) Try.size8 ?_))
          intro u hu
          have HU := Lib.hid hu
          clear hu
          go_wp2
          go_roundw
          case rel =>
            refine ⟨j + 1, by omega, by go_num, ?_, ?_, HU.out.keep HOO.out (Ne.symm NE.out), HU.out.below HBe.out HBe.out.size E2.out⟩
            · rw [LNX.out, ← EP'.out, ← SD2.out]; go_num
            · have := HU.out.at_
              rw [← MS.out, List.map_set, ← List.set_append_left _ _ (by simp [ML.out]; omega)]
              rw [show B8 (UInt8.ofNat (P' / 16)) = .int .u8 (((L : Int) * 256 + (x.toNat : Int)) / 16) by rw [B8, ofNat_u8]; congr 1; have := SD1.out; omega]
              exact this
          case measure => simp [intOf]; omega
        · obtain rfl : j = n := by omega
          rw [Nat.sub_self, Nat.pow_zero, Nat.div_one]
          rw [mixB_all] at ha
          have ix := HD.out (V % 16) (Nat.mod_lt _ (by omega))
          obtain ⟨L, hL⟩ : ∃ L, L = V % 16 := ⟨_, rfl⟩
          rw [← hL] at ix ⊢
          have HA := Lib.hid ha
          have HOO := Lib.hid ho
          have HBe := Lib.hid hbel
          have EL := Lib.hid hL
          have lb : (L : Int) < 16 := by rw [hL]; omega
          clear ha ho hbel hL hlt hj
          go_wp2_with (refine wpList_setc rfl 5 (.tmp 54) (.tmp 53) rfl go p .u8 ((dig L).toNat : Int) (by rfl) (by rfl) 5 _ HOO.out (by rw [List.length_map, LN.out]; omega) Try.size8 ?_)
          intro u hu
          have HU := Lib.hid hu
          clear hu ix
          go_wp2
          go_roundw
          case rel =>
            refine ⟨k + 1, by have := HLT.out; omega, by have := EP.out; have := HLT.out; go_num, by rw [HV2.out]; exact HU.out.keep HA.out NE.out, ?_, HU.out.below HBe.out HBe.out.size GO.out⟩
            have := HU.out.at_
            rw [← ST.out, ← EL.out, List.map_set]
            exact this
          case measure => simp [intOf] <;> (have := EP.out; omega)
    · obtain rfl : k = m := by omega
      rw [show (k : Int) - 1 - (k : Int) = -1 by omega]
      rw [outK_all] at ho
      have HOO := Lib.hid ho
      have HBe := Lib.hid hbel
      have LN := Lib.hid (digsN_length 16 dig V0 k)
      clear ha ho hbel hlt hk
      go_wp2_with (refine wpList_strB rfl 27 9 (.tmp 55) rfl 5 Try.underlying27 Try.underlying5 Try.underlying9 (some ⟨go, 0, none⟩) k k (digsN 16 dig V0 k) (by rfl) HOO.out.byt LN.out (by omega) ?_)
      go_ret
      exact ⟨rfl, HBe.out⟩
end Go.Proofs.Ytnofmiinbmfbnaa
