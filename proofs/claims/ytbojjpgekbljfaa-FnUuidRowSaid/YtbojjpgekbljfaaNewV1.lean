/-
  NewV1AtTime.
-/
import Derived.Test.YtbojjpgekbljfaaHwAddr
import Derived.Test.YtbojjpgekbljfaaNewV8
namespace Go.Proofs.Ytbojjpgekbljfaa
open Go.RowKit
set_option linter.unusedVariables false
def v1B (L M H sq : Nat) (node : List UInt8) : List UInt8 :=
  UInt8.ofNat (L / 16777216) :: UInt8.ofNat (L / 65536) :: UInt8.ofNat (L / 256) :: UInt8.ofNat L :: UInt8.ofNat (M / 256) :: UInt8.ofNat M :: setVer (UInt8.ofNat (H / 256)) 1 :: UInt8.ofNat H :: setVar (UInt8.ofNat (sq / 256)) (varMask 1) (varBits 1) :: UInt8.ofNat sq :: node
def IdOk (w0 w : World) (g f : Nat) (bs : List UInt8) (e : Ending) (w' : World) : Prop := e = .returned (.tuple #[.agg (bs.map B8).toArray, .nilIface]) ∧ Below w0.heap.size w0 w' ∧ Two w w' f g
theorem Two.put {w u v : World} {f g b : Nat} (h : Two w u f g) (p : u.grownBy v (some b)) (hb : w.heap.size ≤ b) : Two w v f g :=
  ⟨p.os.trans h.os, p.tape.trans h.tape, p.output.trans h.output, Nat.le_trans h.size p.size, fun k hk h1 h2 => (p.block k (Nat.lt_of_lt_of_le hk h.size) (by simp; omega)).trans (h.block k hk h1 h2)⟩
theorem Two.put2 {w u v : World} {f g b : Nat} (h : Two w u f g) (p : Two u v f b) (hb : w.heap.size ≤ b) : Two w v f g :=
  ⟨p.os.trans h.os, p.tape.trans h.tape, p.output.trans h.output, Nat.le_trans h.size p.size, fun k hk h1 h2 => (p.block k (Nat.lt_of_lt_of_le hk h.size) h1 (by omega)).trans (h.block k hk h1 h2)⟩
theorem At.bytMid {w : World} {g : Nat} {t : TypeId} {cs : List Value} (h : At w g t cs) (o : Nat) (bs : List UInt8) (hb : (cs.drop o).take bs.length = bs.map B8) : Byt w (some ⟨g, o, none⟩) bs := fun _ =>
  ⟨g, o, rfl, h.lt, fun j hj => by
    have h1 : ((cs.drop o).take bs.length)[j]? = some (B8 bs[j]) := by rw [hb]; simp [hj]
    rw [List.getElem?_take_of_lt hj, List.getElem?_drop] at h1
    obtain ⟨h2, h3⟩ := List.getElem?_eq_some_iff.1 h1
    rw [h.cell (o + j) h2, h3]⟩
set_option maxRecDepth 100000 in
theorem newV1_any (w0 w : World) (g q f : Nat) (s n : Int) (N : Option Addr) (cN : Nat) (node : List UInt8) (hnl : node.length = 6) (hN : Byt w0 N node) (sec nano : Int) (h1 : 0 ≤ sec) (h2 : sec < 5000000000) (h3 : 0 ≤ nano) (h4 : nano < 1000000000) (T : Nat) (hT : (T : Int) = 122192928000000000 + (sec * 1000000000 + nano) / 100) (L M H : Nat) (hL : L = T % 4294967296) (hM : M = T / 4294967296 % 65536) (hH : H = T / 281474976710656) (ds : List UInt8) (sq : Nat) (hsq : sq = numB (ds.take 2)) (hd : 2 ≤ ds.length) (hdl : ds.length ≤ 70000) (hg : At w g 97 (genB (rdV f) (epV q) (hwV q))) (hf : FeedAt w0 w f ds) (hfg : f ≠ g) (hq : At w q 51 (WorB s n N 6 cN)) (hqg : q ≠ g) (hqf : q ≠ f) (h0 : Below w0.heap.size w0 w) (f0 : w0.heap.size ≤ f) (g0 : w0.heap.size ≤ g) :
    Calls Try.prog 26 #[.pointer (some ⟨g, 0, none⟩), .agg (TimeV sec nano).toArray] w (IdOk w0 w g f (v1B L M H sq node)) := by
  have bz : ∀ w, (Instr.build 56 #[]).run Try.prog w = .ok (.agg (z16.map B8).toArray) w := fun w => by kernel_rfl
  obtain ⟨Z, hZ⟩ : ∃ Z, Z = z16.map B8 := ⟨_, rfl⟩
  have hz : ∀ w, (zeroValue 56).run Try.prog w = .ok (.agg Z.toArray) w := hZ ▸ Try.zeroU
  have HZ := Lib.hid (show Z.length = 16 by simp [hZ, z16])
  have HZ1 := Lib.hid (show ∀ v ∈ Z, v.oneCell' = true from hZ ▸ B8_one z16)
  have HZS := Lib.hid (show (Try.prog.info? 56).map (·.size) = some Z.length by rw [HZ.out]; exact Try.sizeU)
  rw [← hZ] at bz
  have HZE := Lib.hid hZ
  have hTb : T < 1000000000000000000 := by omega
  have sqb : sq < 65536 := by
    rw [hsq]
    have := numB_lt ds 2 hd
    simpa using this
  have CX := Lib.hid (fun w1 (hg : At w1 g 97 (genB (rdV f) (epV q) (hwV q))) (hf : FeedAt w0 w1 f ds) (h0 : Below w0.heap.size w0 w1) => clock_yes w0 w1 g f (epV q) (hwV q) sec nano h1 h2 h3 h4 T hT ds hd hdl hg hf hfg h0 f0 g0)
  obtain ⟨tv, htv⟩ : ∃ tv, tv = TimeV sec nano := ⟨_, rfl⟩
  have HTS := Lib.hid (show (Try.prog.info? 63).map (·.size) = some tv.length by rw [htv]; exact Try.sizeT sec nano)
  rw [← htv] at CX ⊢
  have eL : (T : Int) % 4294967296 = (L : Int) := by omega
  have eM : IntKind.u16.wrap ((T : Int) / 4294967296) = (M : Int) := by rw [wrap_u16]; omega
  have eH : (T : Int) / 281474976710656 = (H : Int) := by omega
  have bL : L < 4294967296 := by omega
  have bM : M < 65536 := by omega
  have bH : H < 65536 := by omega
  have HSQ := Lib.hid hsq
  have HG := Lib.hid hg
  have HF := Lib.hid hf
  have HQ := Lib.hid hq
  have H0 := Lib.hid h0
  have HN := Lib.hid hN
  have LN := Lib.hid hnl
  have LG := Lib.hid hg.lt
  have LF := Lib.hid hf.lt
  have LQ := Lib.hid hq.lt
  have NQ := Lib.hid (And.intro hqg hqf)
  clear hZ hT htv hL hM hH hg hf hq h0 h1 h2 h3 h4 hN hsq hqg hqf hnl
  go_enter Try.func26, Try.ntmps26
  go_wp2_with (first
    | (refine wpList_boxed rfl 63 (.tmp 1) rfl (.agg tv.toArray) tv (by rfl) rfl ?_))
  intro w1 h1
  have H1 := Lib.hid h1
  clear h1
  go_wp2_with (first
    | (refine wpList_var rfl 56 rfl (.agg Z.toArray) Z hz rfl ?_))
  intro w2 h2
  have H2 := Lib.hid h2
  clear h2
  go_wp2_with (first
    | (refine wpList_build0 rfl 56 rfl (.agg Z.toArray) bz ?_)
    | (refine wpList_var rfl 56 rfl (.agg Z.toArray) Z hz rfl ?_))
  intro w3 h3
  have H3 := Lib.hid h3
  clear h3
  go_wp2_with (refine wpList_put rfl 56 (.tmp 6) (.tmp 11) rfl w2.heap.size Z (by rfl) (by rfl) 56 Z H3.out.at_ HZS.out rfl HZ1.out ?_)
  intro w4 h4
  have s1 := Lib.hid (show w1.heap.size = w.heap.size + 1 from H1.out.size)
  have s2 := Lib.hid (show w2.heap.size = w1.heap.size + 1 from H2.out.size)
  have s3 := Lib.hid (show w3.heap.size = w2.heap.size + 1 from H3.out.size)
  have g4 := Lib.hid h4.grown
  have A4 := Lib.hid h4.at_
  have gw3 := Lib.hid (show w.grownBy w3 none from grown_trans' (grown_trans' H1.out.grown H2.out.grown) H3.out.grown)
  have Tm4 := Lib.hid (h4.keep (H3.out.keep (H2.out.keep H1.out.at_)) (by have := s1.out; have := s2.out; omega))
  have O4 := Lib.hid (h4.keep (H3.out.keep H2.out.at_) (by have := s2.out; omega))
  have nb4 := Lib.hid (show ∀ k, k < w.heap.size → w4.heap[k]? = w.heap[k]? from fun k hk => (g4.out.block k (by have := s1.out; have := s2.out; have := s3.out; omega) (by have := s1.out; have := s2.out; simp; omega)).trans (gw3.out.block k hk (by simp)))
  have G4 := Lib.hid (HG.out.eq (nb4.out g LG.out))
  have Q4 := Lib.hid (HQ.out.eq (nb4.out q LQ.out))
  have F4 := Lib.hid (HF.out.eq (nb4.out f LF.out))
  have Z4 := Lib.hid (show Below w0.heap.size w0 w4 from h4.below (H0.out.grown gw3.out H0.out.size (by simp)) (by have := H0.out.size; have := gw3.out.size; omega) (by have := H0.out.size; have := s1.out; have := s2.out; omega))
  have K4 := Lib.hid (show Two w w4 f g from (Two.none gw3.out).put h4.grown (by have := s1.out; have := s2.out; omega))
  clear h4
  obtain ⟨o, ho⟩ : ∃ o, o = w1.heap.size := ⟨_, rfl⟩
  obtain ⟨b, hb⟩ : ∃ b, b = w2.heap.size := ⟨_, rfl⟩
  have HO := Lib.hid (show o = w.heap.size + 1 by rw [ho, s1.out])
  have HB := Lib.hid (show b = w.heap.size + 2 by rw [hb, s2.out, s1.out])
  rw [← ho] at O4
  rw [← hb] at A4
  rw [← ho, ← hb]
  clear ho hb
  go_wp2_with (refine wpList_get rfl 63 (.tmp 3) rfl w.heap.size (by rfl) 63 tv _ Tm4.out Try.underlying63 rfl HTS.out ?_)
  refine (CX.out w4 G4.out F4.out Z4.out).mono ?_
  rintro e w5 ⟨rfl, g5, f5, t5⟩
  have NB := Lib.hid (show b ≠ f ∧ b ≠ g ∧ o ≠ f ∧ o ≠ g ∧ o ≠ b ∧ w0.heap.size ≤ b ∧ w0.heap.size ≤ o ∧ q ≠ b by have := HO.out; have := HB.out; have := LG.out; have := LF.out; have := LQ.out; have := H0.out.size; omega)
  rw [← HSQ.out]
  rw [← HSQ.out] at g5
  have G5 := Lib.hid g5
  have Q5 := Lib.hid (t5.at_ Q4.out NQ.out.2 NQ.out.1)
  have A5 := Lib.hid (t5.at_ A4.out NB.out.1 NB.out.2.1)
  have O5 := Lib.hid (t5.at_ O4.out NB.out.2.2.1 NB.out.2.2.2.1)
  have Z5 := Lib.hid (t5.below Z4.out Z4.out.size f0 g0)
  have K5 := Lib.hid (K4.out.trans t5)
  have WB := Lib.hid (show w.heap.size ≤ b ∧ w.heap.size ≤ o by have := HO.out; have := HB.out; omega)
  clear g5 f5 t5
  go_wp2_with fail
  try rw [eL]
  refine (put32_any b 0 16 16 56 z16 L bL (by omega) (by simp [z16]) w5 (HZE.out ▸ A5.out)).mono ?_
  rintro e w6 ⟨rfl, p6⟩
  have A6 := Lib.hid (show At w6 b 56 (([UInt8.ofNat (L / 16777216), UInt8.ofNat (L / 65536), UInt8.ofNat (L / 256), UInt8.ofNat L, 0, 0, 0, 0, 0, 0, 0, 0, 0, 0, 0, 0] : List UInt8).map B8) from p6.at_)
  have g6 := Lib.hid p6.grown
  clear p6
  go_wp2_with fail
  try rw [eM]
  refine (put16_any b 4 12 12 56 _ M bM (by omega) (by simp) w6 A6.out).mono ?_
  rintro e w7 ⟨rfl, p7⟩
  have A7 := Lib.hid (show At w7 b 56 (([UInt8.ofNat (L / 16777216), UInt8.ofNat (L / 65536), UInt8.ofNat (L / 256), UInt8.ofNat L, UInt8.ofNat (M / 256), UInt8.ofNat M, 0, 0, 0, 0, 0, 0, 0, 0, 0, 0] : List UInt8).map B8) from p7.at_)
  have g7 := Lib.hid (grown_trans' g6.out p7.grown)
  clear p7
  go_wp2_with fail
  try rw [eH]
  refine (put16_any b 6 10 10 56 _ H bH (by omega) (by simp) w7 A7.out).mono ?_
  rintro e w8 ⟨rfl, p8⟩
  have A8 := Lib.hid (show At w8 b 56 (([UInt8.ofNat (L / 16777216), UInt8.ofNat (L / 65536), UInt8.ofNat (L / 256), UInt8.ofNat L, UInt8.ofNat (M / 256), UInt8.ofNat M, UInt8.ofNat (H / 256), UInt8.ofNat H, 0, 0, 0, 0, 0, 0, 0, 0] : List UInt8).map B8) from p8.at_)
  have g8 := Lib.hid (grown_trans' g7.out p8.grown)
  clear p8
  go_wp2_with fail
  refine (put16_any b 8 8 8 56 _ sq sqb (by omega) (by simp) w8 A8.out).mono ?_
  rintro e w9 ⟨rfl, p9⟩
  have A9 := Lib.hid (show At w9 b 56 (([UInt8.ofNat (L / 16777216), UInt8.ofNat (L / 65536), UInt8.ofNat (L / 256), UInt8.ofNat L, UInt8.ofNat (M / 256), UInt8.ofNat M, UInt8.ofNat (H / 256), UInt8.ofNat H, UInt8.ofNat (sq / 256), UInt8.ofNat sq, 0, 0, 0, 0, 0, 0] : List UInt8).map B8) from p9.at_)
  have g9 := Lib.hid (show w5.grownBy w9 (some b) from grown_trans' g8.out p9.grown)
  clear p9
  have G9 := Lib.hid (G5.out.grown g9.out (by simp; have := NB.out.2.1; omega))
  have Q9 := Lib.hid (Q5.out.grown g9.out (by simp; have := NB.out.2.2.2.2.2.2.2; omega))
  have O9 := Lib.hid (O5.out.grown g9.out (by simp; have := NB.out.2.2.2.2.1; omega))
  have K9 := Lib.hid (K5.out.put g9.out WB.out.1)
  have Z9 := Lib.hid (Z5.out.grown g9.out Z5.out.size (by simp; have := NB.out; omega))
  go_wp2_with fail
  refine (hw_yes w0 w9 g q f s n N cN node LN.out HN.out T sq G9.out Q9.out NQ.out.1 Z9.out g0).mono ?_
  rintro e w10 ⟨rfl, g10, r10⟩
  have Y10 := Lib.hid (g10.bytMid 7 node (by simp [genC, LN.out, List.drop_append]))
  have A10 := Lib.hid (A9.out.grown r10 (by simp; have := NB.out.2.1; omega))
  have O10 := Lib.hid (O9.out.grown r10 (by simp; have := NB.out.2.2.2.1; omega))
  have Z10 := Lib.hid (Z9.out.grown r10 Z9.out.size (by simp; omega))
  have K10 := Lib.hid (K9.out.trans (Two.right r10))
  clear g10 r10
  go_wp2_with (refine wpList_copyB rfl (.tmp 49) (.tmp 50) 22 22 rfl 5 Try.underlying22 Try.size8 b 10 6 6 6 6 (some ⟨g, 7, none⟩) (by rfl) (by rfl) _ 56 A10.out node Y10.out LN.out 6 (by rfl) node (by rw [List.take_of_length_le]; exact Nat.le_of_eq LN.out) (by simp) ?_)
  intro w11 p11
  obtain ⟨hd10, hhd⟩ : ∃ hd10 : List UInt8, hd10 = [UInt8.ofNat (L / 16777216), UInt8.ofNat (L / 65536), UInt8.ofNat (L / 256), UInt8.ofNat L, UInt8.ofNat (M / 256), UInt8.ofNat M, UInt8.ofNat (H / 256), UInt8.ofNat H, UInt8.ofNat (sq / 256), UInt8.ofNat sq] := ⟨_, rfl⟩
  have HHD := Lib.hid hhd
  have A11 := Lib.hid (show At w11 b 56 ((hd10 ++ node).map B8) by
    have h : At w11 b 56 (splice (([UInt8.ofNat (L / 16777216), UInt8.ofNat (L / 65536), UInt8.ofNat (L / 256), UInt8.ofNat L, UInt8.ofNat (M / 256), UInt8.ofNat M, UInt8.ofNat (H / 256), UInt8.ofNat H, UInt8.ofNat (sq / 256), UInt8.ofNat sq, 0, 0, 0, 0, 0, 0] : List UInt8).map B8) 10 (node.map B8)) := p11.at_
    rw [show splice (([UInt8.ofNat (L / 16777216), UInt8.ofNat (L / 65536), UInt8.ofNat (L / 256), UInt8.ofNat L, UInt8.ofNat (M / 256), UInt8.ofNat M, UInt8.ofNat (H / 256), UInt8.ofNat H, UInt8.ofNat (sq / 256), UInt8.ofNat sq, 0, 0, 0, 0, 0, 0] : List UInt8).map B8) 10 (node.map B8) = (hd10 ++ node).map B8 by rw [hhd]; simp [splice, LN.out]] at h
    exact h)
  have LD := Lib.hid (show (hd10 ++ node).length = 16 by rw [hhd]; simp [LN.out])
  have O11 := Lib.hid (p11.keep O10.out NB.out.2.2.2.2.1)
  have Z11 := Lib.hid (p11.below Z10.out Z10.out.size NB.out.2.2.2.2.2.1)
  have K11 := Lib.hid (K10.out.put p11.grown WB.out.1)
  clear p11 hhd
  go_wp2_with fail
  refine (setVersion_any b 56 _ LD.out 1 w11 A11.out).mono ?_
  rintro e w12 ⟨rfl, p12⟩
  have O12 := Lib.hid (p12.keep O11.out NB.out.2.2.2.2.1)
  have Z12 := Lib.hid (p12.below Z11.out Z11.out.size NB.out.2.2.2.2.2.1)
  have A12 := Lib.hid p12.at_
  have K12 := Lib.hid (K11.out.put p12.grown WB.out.1)
  clear p12
  go_wp2_with fail
  refine (setVariant_1 b 56 _ (by rw [List.length_set]; exact LD.out) w12 A12.out).mono ?_
  obtain ⟨D3, hD3⟩ : ∃ D3, D3 = v1B L M H sq node := ⟨_, rfl⟩
  rw [show ((hd10 ++ node).set 6 (setVer ((hd10 ++ node).getD 6 0) 1)).set 8 (setVar (((hd10 ++ node).set 6 (setVer ((hd10 ++ node).getD 6 0) 1)).getD 8 0) (varMask 1) (varBits 1)) = D3 by rw [hD3, HHD.out]; rfl]
  have LD3 := Lib.hid (show D3.length = 16 by rw [hD3, v1B]; simp [LN.out])
  have HD3 := Lib.hid hD3
  have HBS := Lib.hid (sizeU_of D3 LD3.out)
  clear hD3
  rintro e w13 ⟨rfl, p13⟩
  have P13 := Lib.hid p13
  have O13 := Lib.hid (p13.keep O12.out NB.out.2.2.2.2.1)
  have Z13 := Lib.hid (p13.below Z12.out Z12.out.size NB.out.2.2.2.2.2.1)
  have K13 := Lib.hid (K12.out.put p13.grown WB.out.1)
  clear p13
  go_wp2_with (first
    | (refine wpList_get rfl 56 (.tmp 6) rfl b (by rfl) 56 (D3.map B8) _ P13.out.at_ Try.underlying56 rfl HBS.out ?_)
    | (refine wpList_put rfl 56 (.tmp 4) (.tmp 54) rfl o (D3.map B8) (by rfl) (by rfl) 56 Z O13.out HBS.out (by rw [HZ.out, List.length_map, LD3.out]) (B8_one _) ?_))
  intro w14 h14
  have P14 := Lib.hid h14
  clear h14
  go_wp2
  refine ret_cell_tmp 4 56 5 rfl o 56 (D3.map B8) _ .nilIface rfl rfl P14.out.at_ Try.underlying56 rfl HBS.out rfl ?_
  exact ⟨by rw [← HD3.out], P14.out.below Z13.out Z13.out.size NB.out.2.2.2.2.2.2.1, K13.out.put P14.out.grown WB.out.2⟩
end Go.Proofs.Ytbojjpgekbljfaa
