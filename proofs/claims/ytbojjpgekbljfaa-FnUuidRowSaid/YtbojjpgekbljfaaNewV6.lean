/-
  NewV6AtTime.
-/
import Derived.Test.YtbojjpgekbljfaaNewV1
import Derived.Test.YtbojjpgekbljfaaRegR
namespace Go.Proofs.Ytbojjpgekbljfaa
open Go.RowKit
set_option linter.unusedVariables false
def v6B (L M H : Nat) (r : UInt8) (rt : List UInt8) : List UInt8 :=
  UInt8.ofNat (L / 16777216) :: UInt8.ofNat (L / 65536) :: UInt8.ofNat (L / 256) :: UInt8.ofNat L :: UInt8.ofNat (M / 256) :: UInt8.ofNat M :: setVer (UInt8.ofNat (H / 256)) 6 :: UInt8.ofNat H :: setVar r (varMask 1) (varBits 1) :: rt
set_option maxRecDepth 100000 in
set_option linter.unusedSimpArgs false in
set_option pp.maxSteps 100000 in
set_option pp.deepTerms true in
theorem newV6_any (w0 w : World) (g f : Nat) (ep hw : Value) (sec nano : Int) (h1 : 0 ≤ sec) (h2 : sec < 5000000000) (h3 : 0 ≤ nano) (h4 : nano < 1000000000) (T : Nat) (hT : (T : Int) = 122192928000000000 + (sec * 1000000000 + nano) / 100) (L M H : Nat) (hL : L = T / 268435456) (hM : M = T / 4096 % 65536) (hH : H = T % 4096) (ds : List UInt8) (hd : 10 ≤ ds.length) (r : UInt8) (rt : List UInt8) (hr : (ds.drop 2).take 8 = r :: rt) (hdl : ds.length ≤ 70000) (hg : At w g 97 (genB (rdV f) ep hw)) (hf : FeedAt w0 w f ds) (hfg : f ≠ g) (h0 : Below w0.heap.size w0 w) (f0 : w0.heap.size ≤ f) (g0 : w0.heap.size ≤ g) :
    Calls Try.prog 28 #[.pointer (some ⟨g, 0, none⟩), .agg (TimeV sec nano).toArray] w (IdOk w0 w g f (v6B L M H r rt)) := by
  obtain ⟨Z, hZ⟩ : ∃ Z, Z = z16.map B8 := ⟨_, rfl⟩
  have hz : ∀ w, (zeroValue 56).run Try.prog w = .ok (.agg Z.toArray) w := hZ ▸ Try.zeroU
  have HZ := Lib.hid (show Z.length = 16 by simp [hZ, z16])
  have HZ1 := Lib.hid (show ∀ v ∈ Z, v.oneCell' = true from hZ ▸ B8_one z16)
  have HZS := Lib.hid (show (Try.prog.info? 56).map (·.size) = some Z.length by rw [HZ.out]; exact Try.sizeU)
  have HZE := Lib.hid hZ
  have hTb : T < 1000000000000000000 := by omega
  have CX := Lib.hid (fun w1 (hg : At w1 g 97 (genB (rdV f) ep hw)) (hf : FeedAt w0 w1 f ds) (h0 : Below w0.heap.size w0 w1) => clock_yes w0 w1 g f ep hw sec nano h1 h2 h3 h4 T hT ds (by omega) hdl hg hf hfg h0 f0 g0)
  obtain ⟨tv, htv⟩ : ∃ tv, tv = TimeV sec nano := ⟨_, rfl⟩
  have HTS := Lib.hid (show (Try.prog.info? 63).map (·.size) = some tv.length by rw [htv]; exact Try.sizeT sec nano)
  rw [← htv] at CX ⊢
  have eL : (T : Int) / 268435456 = (L : Int) := by omega
  have eM : IntKind.u16.wrap ((T : Int) / 4096) = (M : Int) := by rw [wrap_u16]; omega
  have eH : bits .and .u64 (T : Int) 4095 = (H : Int) := (bits_mask .u64 64 (by decide) wraps_u64 12 (by decide) (T : Int) (by omega) (by omega)).trans (by omega)
  have bL : L < 4294967296 := by omega
  have bM : M < 65536 := by omega
  have bH : H < 4096 := by omega
  have HG := Lib.hid hg
  have HF := Lib.hid hf
  have H0 := Lib.hid h0
  have LG := Lib.hid hg.lt
  have LF := Lib.hid hf.lt
  have HR := Lib.hid hr
  clear hZ hT htv hL hM hH hg hf h0 h1 h2 h3 h4 hr
  go_enter Try.func28, Try.ntmps28
  go_wp2_with (first
    | (refine wpList_boxed rfl 63 (.tmp 1) rfl (.agg tv.toArray) tv (by rfl) rfl ?_))
  intro w1 h1
  have H1 := Lib.hid h1
  clear h1
  go_wp2_with (first
    | (refine wpList_var rfl 56 rfl (.agg Z.toArray) Z hz rfl ?_))
  intro w2 h2
  have H2 := Lib.hid h2
  clear h2
  go_wp2_with (refine wpList_var rfl 56 rfl (.agg Z.toArray) Z hz rfl ?_)
  intro w4 h4
  have s1 := Lib.hid (show w1.heap.size = w.heap.size + 1 from H1.out.size)
  have s2 := Lib.hid (show w2.heap.size = w1.heap.size + 1 from H2.out.size)
  have A4 := Lib.hid h4.at_
  have gw3 := Lib.hid (show w.grownBy w4 none from grown_trans' (grown_trans' H1.out.grown H2.out.grown) h4.grown)
  have Tm4 := Lib.hid (h4.keep (H2.out.keep H1.out.at_))
  have O4 := Lib.hid (h4.keep H2.out.at_)
  have nb4 := Lib.hid (show ∀ k, k < w.heap.size → w4.heap[k]? = w.heap[k]? from fun k hk => gw3.out.block k hk (by simp))
  have G4 := Lib.hid (HG.out.eq (nb4.out g LG.out))
  have F4 := Lib.hid (HF.out.eq (nb4.out f LF.out))
  have Z4 := Lib.hid (show Below w0.heap.size w0 w4 from H0.out.grown gw3.out H0.out.size (by simp))
  have K4 := Lib.hid (show Two w w4 f g from Two.none gw3.out)
  clear h4
  obtain ⟨o, ho⟩ : ∃ o, o = w1.heap.size := ⟨_, rfl⟩
  obtain ⟨b, hb⟩ : ∃ b, b = w2.heap.size := ⟨_, rfl⟩
  have HO := Lib.hid (show o = w.heap.size + 1 by rw [ho, s1.out])
  have HB := Lib.hid (show b = w.heap.size + 2 by rw [hb, s2.out, s1.out])
  rw [← ho] at O4
  rw [← hb] at A4
  rw [← ho, ← hb]
  clear ho hb
  go_wp2_with (refine wpList_get rfl 63 (.tmp 3) rfl w.heap.size (by rfl) 63 tv _ Tm4.out Try.underlying63 rfl HTS.out ?_)
  refine (CX.out w4 G4.out F4.out Z4.out).mono ?_
  rintro e w5 ⟨rfl, g5, f5, t5⟩
  have NB := Lib.hid (show b ≠ f ∧ b ≠ g ∧ o ≠ f ∧ o ≠ g ∧ o ≠ b ∧ w0.heap.size ≤ b ∧ w0.heap.size ≤ o by have := HO.out; have := HB.out; have := LG.out; have := LF.out; have := H0.out.size; omega)
  have G5 := Lib.hid g5
  have A5 := Lib.hid (t5.at_ A4.out NB.out.1 NB.out.2.1)
  have O5 := Lib.hid (t5.at_ O4.out NB.out.2.2.1 NB.out.2.2.2.1)
  have Z5 := Lib.hid (t5.below Z4.out Z4.out.size f0 g0)
  have F5 := Lib.hid f5
  have K5 := Lib.hid (K4.out.trans t5)
  have WB := Lib.hid (show w.heap.size ≤ b ∧ w.heap.size ≤ o by have := HO.out; have := HB.out; omega)
  clear g5 f5 t5
  go_wp2_with fail
  try rw [eL]
  refine (put32_any b 0 16 16 56 z16 L bL (by omega) (by simp [z16]) w5 (HZE.out ▸ A5.out)).mono ?_
  rintro e w6 ⟨rfl, p6⟩
  have A6 := Lib.hid (show At w6 b 56 (([UInt8.ofNat (L / 16777216), UInt8.ofNat (L / 65536), UInt8.ofNat (L / 256), UInt8.ofNat L, 0, 0, 0, 0, 0, 0, 0, 0, 0, 0, 0, 0] : List UInt8).map B8) from p6.at_)
  have g6 := Lib.hid p6.grown
  clear p6
  go_wp2_with fail
  try rw [eM]
  refine (put16_any b 4 12 12 56 _ M bM (by omega) (by simp) w6 A6.out).mono ?_
  rintro e w7 ⟨rfl, p7⟩
  have A7 := Lib.hid (show At w7 b 56 (([UInt8.ofNat (L / 16777216), UInt8.ofNat (L / 65536), UInt8.ofNat (L / 256), UInt8.ofNat L, UInt8.ofNat (M / 256), UInt8.ofNat M, 0, 0, 0, 0, 0, 0, 0, 0, 0, 0] : List UInt8).map B8) from p7.at_)
  have g7 := Lib.hid (grown_trans' g6.out p7.grown)
  clear p7
  go_wp2_with fail
  try rw [eH]
  refine (put16_any b 6 10 10 56 _ H (by omega) (by omega) (by simp) w7 A7.out).mono ?_
  rintro e w8 ⟨rfl, p8⟩
  obtain ⟨H8L, hH8⟩ : ∃ H8L : List UInt8, H8L = [UInt8.ofNat (L / 16777216), UInt8.ofNat (L / 65536), UInt8.ofNat (L / 256), UInt8.ofNat L, UInt8.ofNat (M / 256), UInt8.ofNat M, UInt8.ofNat (H / 256), UInt8.ofNat H] := ⟨_, rfl⟩
  have HH8 := Lib.hid hH8
  have A8' := Lib.hid (show At w8 b 56 ((H8L ++ [0, 0, 0, 0, 0, 0, 0, 0]).map B8) by rw [hH8]; exact p8.at_)
  have g8 := Lib.hid (show w5.grownBy w8 (some b) from grown_trans' g7.out p8.grown)
  have LH8 := Lib.hid (show H8L.length = 8 by rw [hH8]; rfl)
  have LRT := Lib.hid (show rt.length = 7 by have h := congrArg List.length HR.out; rw [List.length_take, List.length_drop] at h; simp at h; omega)
  have SP := Lib.hid (show splice ((H8L ++ [0, 0, 0, 0, 0, 0, 0, 0]).map B8) 8 (((ds.drop 2).take 8).map B8) = (H8L ++ r :: rt).map B8 by
    rw [HR.out, splice, List.map_append, List.map_append, List.take_append_of_le_length (by rw [List.length_map, LH8.out]; omega), List.take_of_length_le (by rw [List.length_map, LH8.out]; omega), List.drop_append, List.drop_eq_nil_of_le (by rw [List.length_map, LH8.out]; simp [LRT.out])]
    simp [LH8.out, LRT.out])
  clear p8 hH8
  obtain ⟨cs, hcs⟩ : ∃ cs, cs = genC (rdV f) ep hw false T (numB (ds.take 2)) [0, 0, 0, 0, 0, 0] := ⟨_, rfl⟩
  have LC2 := Lib.hid (show 2 < cs.length by rw [hcs]; simp [genC])
  have HR2 := Lib.hid (show cs[2]'LC2.out = rdV f by subst hcs; rfl)
  have G3 := Lib.hid (show At w8 g 97 cs from hcs ▸ G5.out.grown g8.out (by simp; have := NB.out.2.1; omega))
  have O8 := Lib.hid (O5.out.grown g8.out (by simp; have := NB.out.2.2.2.2.1; omega))
  have F8 := Lib.hid (F5.out.eq (g8.out.block f F5.out.lt (by simp; have := NB.out.1; omega)))
  have K8 := Lib.hid (K5.out.put g8.out WB.out.1)
  have Z8 := Lib.hid (Z5.out.grown g8.out Z5.out.size (by simp; have := NB.out; omega))
  have NGF := Lib.hid (Ne.symm hfg)
  have NGB := Lib.hid (Ne.symm NB.out.2.1)
  have R := Lib.hid (fun m => readFull_yes w0 (w8.drewN m) f b 8 8 8 56 _ (ds.drop 2) (by omega) (by simp; omega) (by simp; omega) (by omega) (by rw [List.length_map, List.length_append, LH8.out]; simp) F8.out A8'.out (Ne.symm NB.out.1) (below_drewN Z8.out m))
  clear hcs
  go_wp2_with fail
  refine wp_region_rj (fun v => ⟨#[Value.pointer (some { block := g, off := 0 }), Value.agg tv.toArray, undef, Value.pointer (some { block := w.heap.size, off := 0 }), Value.pointer (some { block := o, off := 0 }), Value.nilIface, Value.pointer (some { block := b, off := 0 }), Value.int IntKind.u64 (T : Int), Value.int IntKind.u16 (numB (List.take 2 ds) : Int), v 9, Value.tuple #[Value.int IntKind.u64 (T : Int), Value.int IntKind.u16 (numB (List.take 2 ds) : Int), Value.nilIface], Value.pointer (some { block := g, off := 0 }), Value.agg tv.toArray, Value.tuple #[Value.int IntKind.u64 (T : Int), Value.int IntKind.u16 (numB (List.take 2 ds) : Int), Value.nilIface], Value.int IntKind.u64 (T : Int), Value.int IntKind.u16 (numB (List.take 2 ds) : Int), Value.nilIface, Value.nilIface, Value.bool false, undef, undef, Value.slice (some { block := b, off := 0 }) 16 16, Value.int IntKind.u64 (T : Int), Value.int IntKind.u64 (L : Int), Value.int IntKind.u32 (L : Int), Value.tuple #[], Value.slice (some { block := b, off := 4 }) 12 12, Value.int IntKind.u64 (T : Int), Value.int IntKind.u64 ((T : Int) / 4096), Value.int IntKind.u16 (M : Int), Value.tuple #[], Value.slice (some { block := b, off := 6 }) 10 10, Value.int IntKind.u64 (T : Int), Value.int IntKind.u64 (H : Int), Value.int IntKind.u16 (H : Int), Value.tuple #[], v 6, v 0, v 1, v 2, v 3, v 4, v 5, v 7, v 8, undef, undef, undef, undef, undef, undef, undef], []⟩) (RgC g f (.slice (some ⟨b, 8, none⟩) 8 8) (.int .i64 8) .nilIface 1)
    (fun d x => At x g 97 cs ∧ if d then FeedAt w0 x f ((ds.drop 2).drop 8) ∧ At x b 56 ((H8L ++ r :: rt).map B8) ∧ Two w8 x f b else x = w8.drewN 1) 5
    (fun j => if j = 9 then .nilIface else undef) [0, 1, 2, 3, 4, 5, 6, 7, 8, 9] (by kernel_rfl) (by kernel_rfl) (by kernel_rfl) (by decide) rfl ⟨G3.out, rfl⟩ ?_ ?_
  · refine AllI.cons ?_ (AllI.cons ?_ (AllI.cons ?_ (AllI.cons ?_ (AllI.cons ?_ (AllI.cons ?_ (AllI.cons ?_ (AllI.cons ?_ (AllI.cons ?_ (AllI.cons ?_ AllI.nil)))))))))
    · refine stepRJ [] rfl rfl rfl (by kernel_rfl) fun d v y hv hS K hK => ?_
      clear hS
      go_simp
      exact hK.out _ _ (by simp [upd]; try rfl) rfl
    · refine stepRJ [0] rfl rfl rfl (by kernel_rfl) fun d v y hv hS K hK => ?_
      clear hS
      have e0 := hv 0 rfl
      simp only [RgC, if_true, if_false] at e0
      go_simp
      exact hK.out _ _ (by simp [upd, e0]; try rfl) rfl
    · refine stepRJ [1] rfl rfl rfl (by kernel_rfl) fun d v y hv hS K hK => ?_
      clear hS
      have e1 := hv 1 rfl
      simp only [RgC, if_true, if_false] at e1
      go_simp
      exact hK.out _ _ (by simp [upd, e1]; try rfl) rfl
    · refine stepRJ [2] rfl rfl rfl (by kernel_rfl) fun d v y hv hS K hK => ?_
      have k1 : y.cell? ⟨g, 2, none⟩ = some (rdV f) := by rw [hS.1.cell 2 LC2.out, HR2.out]
      unfold rdV at k1
      clear hS
      have e2 := hv 2 rfl
      simp only [RgC, if_true, if_false] at e2
      go_simp
      exact hK.out _ _ (by simp [upd, e2]; try rfl) rfl
    · refine stepRJ [] rfl rfl rfl (by kernel_rfl) fun d v y hv hS K hK => ?_
      clear hS
      go_simp
      exact hK.out _ _ (by simp [upd]; try rfl) rfl
    · refine stepRJc [3, 4] rfl rfl (by kernel_rfl) fun v y hv hS K hK => ?_
      have e3 := hv 3 rfl
      have e4 := hv 4 rfl
      simp only [RgC, if_true, if_false] at e3 e4
      have hS2 : y = w8.drewN 1 := hS.2
      subst hS2
      clear hS
      unfold rdV at e3
      go_simp
      go_at_call 51
      refine (R.out 1).mono ?_
      rintro e y' ⟨rfl, r1, r2, r3⟩
      have R1 := Lib.hid r1
      have R2 := Lib.hid (show At y' b 56 ((H8L ++ r :: rt).map B8) by rw [← SP.out]; exact r2)
      have R3 := Lib.hid (show Two w8 y' f b from ⟨r3.os, r3.tape, r3.output, r3.size, r3.block⟩)
      clear r1 r2 r3
      go_wp2_with fail
      exact hK.out _ _ _ (by simp [upd, e3, e4]) rfl ⟨R3.out.at_ G3.out NGF.out NGB.out, R1.out, R2.out, R3.out⟩
    · refine stepRJ [5] rfl rfl rfl (by kernel_rfl) fun d v y hv hS K hK => ?_
      clear hS
      have e5 := hv 5 rfl
      simp only [RgC, if_true, if_false] at e5
      go_simp
      exact hK.out _ _ (by simp [upd, e5]; try rfl) rfl
    · refine stepRJ [6] rfl rfl rfl (by kernel_rfl) fun d v y hv hS K hK => ?_
      clear hS
      have e6 := hv 6 rfl
      simp only [RgC, if_true, if_false] at e6
      go_simp
      exact hK.out _ _ (by simp [upd, e6]; try rfl) rfl
    · refine stepRJ [6] rfl rfl rfl (by kernel_rfl) fun d v y hv hS K hK => ?_
      clear hS
      have e6 := hv 6 rfl
      simp only [RgC, if_true, if_false] at e6
      go_simp
      exact hK.out _ _ (by simp [upd, e6]; try rfl) rfl
    · refine stepRJ [8] rfl rfl rfl (by kernel_rfl) fun d v y hv hS K hK => ?_
      clear hS
      have e8 := hv 8 rfl
      simp only [RgC, if_true, if_false] at e8
      go_simp
      exact hK.out _ _ (by simp [upd, e8]; try rfl) rfl
  · intro v y hv hS
    obtain ⟨-, -, q2, q3⟩ : At y g 97 cs ∧ FeedAt w0 y f ((ds.drop 2).drop 8) ∧ At y b 56 ((H8L ++ r :: rt).map B8) ∧ Two w8 y f b := hS
    have e9 : v 9 = .nilIface := hv 9 (by decide)
    rw [e9]
    have A11 := Lib.hid q2
    have O11 := Lib.hid (q3.at_ O8.out NB.out.2.2.1 NB.out.2.2.2.2.1)
    have Z11 := Lib.hid (q3.below Z8.out Z8.out.size f0 NB.out.2.2.2.2.2.1)
    have LD := Lib.hid (show (H8L ++ r :: rt).length = 16 by rw [List.length_append, LH8.out]; simp [LRT.out])
    have K11 := Lib.hid (K8.out.put2 q3 WB.out.1)
    clear hv q2 q3 e9
    go_wp2_with fail
    refine (setVersion_any b 56 _ LD.out 6 y A11.out).mono ?_
    rintro e w12 ⟨rfl, p12⟩
    have O12 := Lib.hid (p12.keep O11.out NB.out.2.2.2.2.1)
    have Z12 := Lib.hid (p12.below Z11.out Z11.out.size NB.out.2.2.2.2.2.1)
    have A12 := Lib.hid p12.at_
    have K12 := Lib.hid (K11.out.put p12.grown WB.out.1)
    clear p12
    go_wp2_with fail
    refine (setVariant_1 b 56 _ (by rw [List.length_set]; exact LD.out) w12 A12.out).mono ?_
    obtain ⟨D3, hD3⟩ : ∃ D3, D3 = v6B L M H r rt := ⟨_, rfl⟩
    rw [show ((H8L ++ r :: rt).set 6 (setVer ((H8L ++ r :: rt).getD 6 0) 6)).set 8 (setVar (((H8L ++ r :: rt).set 6 (setVer ((H8L ++ r :: rt).getD 6 0) 6)).getD 8 0) (varMask 1) (varBits 1)) = D3 by rw [hD3, HH8.out]; rfl]
    have LD3 := Lib.hid (show D3.length = 16 by rw [hD3, v6B]; simp [LRT.out])
    have HD3 := Lib.hid hD3
    have HBS := Lib.hid (sizeU_of D3 LD3.out)
    clear hD3
    rintro e w13 ⟨rfl, p13⟩
    have P13 := Lib.hid p13
    have O13 := Lib.hid (p13.keep O12.out NB.out.2.2.2.2.1)
    have Z13 := Lib.hid (p13.below Z12.out Z12.out.size NB.out.2.2.2.2.2.1)
    have K13 := Lib.hid (K12.out.put p13.grown WB.out.1)
    clear p13
    go_wp2_with (first
      | (refine wpList_get rfl 56 (.tmp 6) rfl b (by rfl) 56 (D3.map B8) _ P13.out.at_ Try.underlying56 rfl HBS.out ?_)
      | (refine wpList_put rfl 56 (.tmp 4) (.tmp 51) rfl o (D3.map B8) (by rfl) (by rfl) 56 Z O13.out HBS.out (by rw [HZ.out, List.length_map, LD3.out]) (B8_one _) ?_))
    intro w14 h14
    have P14 := Lib.hid h14
    clear h14
    go_wp2
    refine ret_cell_tmp 4 56 5 rfl o 56 (D3.map B8) _ .nilIface rfl rfl P14.out.at_ Try.underlying56 rfl HBS.out rfl ?_
    exact ⟨by rw [← HD3.out], P14.out.below Z13.out Z13.out.size NB.out.2.2.2.2.2.2, K13.out.put P14.out.grown WB.out.2⟩
end Go.Proofs.Ytbojjpgekbljfaa
