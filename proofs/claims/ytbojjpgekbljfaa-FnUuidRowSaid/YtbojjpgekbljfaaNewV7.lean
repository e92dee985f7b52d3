/-
  newV7.
-/
import Derived.Test.YtbojjpgekbljfaaNext7
import Derived.Test.YtbojjpgekbljfaaTimeB
import Derived.Test.YtbojjpgekbljfaaNewV8
namespace Go.Proofs.Ytbojjpgekbljfaa
open Go.RowKit
set_option linter.unusedVariables false
def V7Step (ms lm ct : Nat) (sd cl : Bool) (ds : List UInt8) (m c : Nat) (ds' : List UInt8) : Prop :=
  ((sd = false ∨ (sd = true ∧ lm < ms)) ∧ m = ms ∧ c = numB (ds.take 2) % 2048 ∧ ds' = ds.drop 2) ∨
  (sd = true ∧ ms ≤ lm ∧ cl = true ∧ 4095 ≤ ct ∧ m = lm + 1 ∧ c = numB (ds.take 2) % 2048 ∧ ds' = ds.drop 2) ∨
  (sd = true ∧ ms ≤ lm ∧ cl = true ∧ ct < 4095 ∧ m = lm ∧ c = ct + 1 ∧ ds' = ds)
theorem next7_any (w0 w : World) (g f : Nat) (ep hw : Value) (lr lm ct : Nat) (ms : Nat) (sd cl : Bool) (ds ds' : List UInt8) (m c : Nat) (hst : V7Step ms lm ct sd cl ds m c ds') (hms : ms < 281474976710656) (hlm : lm < 281474976710656) (hlr : lr < 281474976710656) (hct : ct < 65536) (hd : 2 ≤ ds.length) (hdl : ds.length ≤ 70000) (hg : At w g 97 (gen7 (rdV f) ep hw lr lm ct sd)) (hf : FeedAt w0 w f ds) (hfg : f ≠ g) (h0 : Below w0.heap.size w0 w) (f0 : w0.heap.size ≤ f) (g0 : w0.heap.size ≤ g) :
    Calls Try.prog 65 #[.pointer (some ⟨g, 0, none⟩), .int .u64 (ms : Int), .bool cl] w (Next7 w0 w g f ds' ep hw m c ms) := by
  rcases hst with ⟨h, rfl, rfl, rfl⟩ | ⟨rfl, h1, rfl, h2, rfl, rfl, rfl⟩ | ⟨rfl, h1, rfl, h2, rfl, rfl, rfl⟩
  · rcases h with rfl | ⟨rfl, h⟩
    · exact next7_fresh w0 w g f ep hw lr lm ct m cl hms hlm hlr hct ds hd hdl hg hf hfg h0 f0 g0
    · exact next7_later w0 w g f ep hw lr lm ct m cl h hms hlm hlr hct ds hd hdl hg hf hfg h0 f0 g0
  · exact next7_full w0 w g f ep hw lr lm ct ms true h1 h2 hms hlm hlr hct ds hd hdl hg hf hfg h0 f0 g0
  · exact next7_more w0 w g f ep hw lr m ct ms true h1 h2 hms hlm hlr hct ds' hdl hg hf hfg h0 f0 g0
def v7B (m c : Nat) (r : UInt8) (rt : List UInt8) : List UInt8 :=
  UInt8.ofNat (m / 1099511627776) :: UInt8.ofNat (m / 4294967296) :: UInt8.ofNat (m / 16777216) :: UInt8.ofNat (m / 65536) :: UInt8.ofNat (m / 256) :: UInt8.ofNat m :: setVer (UInt8.ofNat (c / 256)) 7 :: UInt8.ofNat c :: setVar r (varMask 1) (varBits 1) :: rt
def V7Ok (w0 w : World) (g f : Nat) (ds : List UInt8) (ep hw : Value) (lr lm ct : Nat) (bs : List UInt8) (e : Ending) (w' : World) : Prop :=
  e = .returned (.tuple #[.agg (bs.map B8).toArray, .nilIface]) ∧ At w' g 97 (gen7 (rdV f) ep hw lr lm ct true) ∧ FeedAt w0 w' f ds ∧ Two w w' f g
set_option maxRecDepth 100000 in
set_option pp.maxSteps 100000 in
set_option pp.deepTerms true in
set_option linter.unusedSimpArgs false in
theorem newV7_any (w0 w : World) (g f : Nat) (ep hw : Value) (lr lm ct : Nat) (sec nano : Int) (h1 : 0 ≤ sec) (h2 : sec < 5000000000) (h3 : 0 ≤ nano) (h4 : nano < 1000000000) (ms : Nat) (hmse : (ms : Int) = sec * 1000 + nano / 1000000) (sd cl : Bool) (ds ds' : List UInt8) (m c : Nat) (hst : V7Step ms lm ct sd cl ds m c ds') (hm : m < 281474976710656) (hc : c < 4096) (r : UInt8) (rt : List UInt8) (hr : ds'.take 8 = r :: rt) (hd' : 8 ≤ ds'.length) (hms : ms < 281474976710656) (hlm : lm < 281474976710656) (hlr : lr < 281474976710656) (hct : ct < 65536) (hd : 2 ≤ ds.length) (hdl : ds.length ≤ 70000) (hdl' : ds'.length ≤ 70000) (hg : At w g 97 (gen7 (rdV f) ep hw lr lm ct sd)) (hf : FeedAt w0 w f ds) (hfg : f ≠ g) (h0 : Below w0.heap.size w0 w) (f0 : w0.heap.size ≤ f) (g0 : w0.heap.size ≤ g) :
    Calls Try.prog 52 #[.pointer (some ⟨g, 0, none⟩), .agg (TimeV sec nano).toArray, .bool cl] w (V7Ok w0 w g f (ds'.drop 8) ep hw ms m c (v7B m c r rt)) := by
  obtain ⟨Z, hZ⟩ : ∃ Z, Z = z16.map B8 := ⟨_, rfl⟩
  have hz : ∀ w, (zeroValue 56).run Try.prog w = .ok (.agg Z.toArray) w := hZ ▸ Try.zeroU
  have HZ := Lib.hid (show Z.length = 16 by simp [hZ, z16])
  have HZE := Lib.hid hZ
  obtain ⟨T, hT⟩ : ∃ T, T = TimeV sec nano := ⟨_, rfl⟩
  have LT := Lib.hid (show T.length = 3 by rw [hT]; rfl)
  have HTS := Lib.hid (show (Try.prog.info? 63).map (·.size) = some T.length by rw [hT]; exact Try.sizeT sec nano)
  have UM := Lib.hid (show ∀ w, Calls Try.prog 64 #[.agg T.toArray] w fun e w' => e = .returned (.int .i64 (ms : Int)) ∧ Below w.heap.size w w' from fun w => by rw [hT, hmse]; exact unixMilli_any sec nano (by omega) h2 (by omega) h3 h4 w)
  rw [← hT]
  have NX := Lib.hid (fun w1 (hg : At w1 g 97 (gen7 (rdV f) ep hw lr lm ct sd)) (hf : FeedAt w0 w1 f ds) (h0 : Below w0.heap.size w0 w1) => next7_any w0 w1 g f ep hw lr lm ct ms sd cl ds ds' m c hst hms hlm hlr hct hd hdl hg hf hfg h0 f0 g0)
  have HG := Lib.hid hg
  have HF := Lib.hid hf
  have H0 := Lib.hid h0
  have HR := Lib.hid hr
  clear hZ hT hg hf h0 hmse hr hst h1 h2 h3 h4
  go_enter Try.func52, Try.ntmps52
  go_wp2_with (first
    | (refine wpList_boxed rfl 63 (.tmp 1) rfl (.agg T.toArray) T (by rfl) rfl ?_)
    | (refine wpList_var rfl 56 rfl (.agg Z.toArray) Z hz rfl ?_))
  intro w1 h1
  have s1 := Lib.hid (show w1.heap.size = w.heap.size + 1 from h1.size)
  have H1 := Lib.hid h1
  clear h1
  go_wp2_with (first
    | (refine wpList_var rfl 56 rfl (.agg Z.toArray) Z hz rfl ?_))
  intro w2 h2
  have s2 := Lib.hid (show w2.heap.size = w1.heap.size + 1 from h2.size)
  have H2 := Lib.hid h2
  clear h2
  go_wp2_with (first
    | (refine wpList_var rfl 56 rfl (.agg Z.toArray) Z hz rfl ?_))
  intro w3 h3
  have s3 := Lib.hid (show w3.heap.size = w2.heap.size + 1 from h3.size)
  have H3 := Lib.hid h3
  have gw := Lib.hid (show w.grownBy w3 none from grown_trans' (grown_trans' H1.out.grown H2.out.grown) h3.grown)
  have T3 := Lib.hid (h3.keep (H2.out.keep H1.out.at_))
  have O3 := Lib.hid (h3.keep H2.out.at_)
  have A3 := Lib.hid h3.at_
  have G3 := Lib.hid (h3.keep (H2.out.keep (H1.out.keep HG.out)))
  have F3 := Lib.hid (HF.out.eq (gw.out.block f HF.out.lt (by simp)))
  have Z3 := Lib.hid (show Below w0.heap.size w0 w3 from H0.out.grown gw.out H0.out.size (by simp))
  clear h3 hz
  go_wp2_with (refine wpList_get rfl 63 (.tmp 4) rfl w.heap.size (by rfl) 63 T _ T3.out Try.underlying63 rfl HTS.out ?_)
  refine (UM.out w3).mono ?_
  rintro e w4 ⟨rfl, b4⟩
  obtain ⟨o, ho⟩ : ∃ o, o = w1.heap.size := ⟨_, rfl⟩
  obtain ⟨b, hb⟩ : ∃ b, b = w2.heap.size := ⟨_, rfl⟩
  have HO := Lib.hid (show o = w.heap.size + 1 by rw [ho, s1.out])
  have HB := Lib.hid (show b = w.heap.size + 2 by rw [hb, s2.out, s1.out])
  have LG := Lib.hid HG.out.lt
  have LF := Lib.hid HF.out.lt
  have g4 := grown_of_below b4 none
  have B4 := Lib.hid (show w.grownBy w4 none from grown_trans' gw.out g4)
  have O4 := Lib.hid (show At w4 o 56 Z from ho ▸ O3.out.below b4 O3.out.lt)
  have A4 := Lib.hid (show At w4 b 56 Z from hb ▸ A3.out.below b4 A3.out.lt)
  have G4 := Lib.hid (G3.out.below b4 G3.out.lt)
  have F4 := Lib.hid (F3.out.eq (b4.block f F3.out.lt))
  have Z4 := Lib.hid (show Below w0.heap.size w0 w4 from Z3.out.trans (b4.mono Z3.out.size))
  rw [← ho, ← hb]
  clear b4 g4 ho hb
  go_wp2_with fail
  refine (NX.out w4 G4.out F4.out Z4.out).mono ?_
  rintro e w5 ⟨rfl, g5, f5, t5⟩
  have G5 := Lib.hid g5
  have F5 := Lib.hid f5
  have T5 := Lib.hid t5
  have NBF := Lib.hid (show b ≠ f by have := HB.out; have := LF.out; omega)
  have NBG := Lib.hid (show b ≠ g by have := HB.out; have := LG.out; omega)
  have NOF := Lib.hid (show o ≠ f by have := HO.out; have := LF.out; omega)
  have NOG := Lib.hid (show o ≠ g by have := HO.out; have := LG.out; omega)
  have A5 := Lib.hid (t5.at_ A4.out NBF.out NBG.out)
  have O5 := Lib.hid (t5.at_ O4.out NOF.out NOG.out)
  have k0 : w5.cell? ⟨b, 0, none⟩ = some (.int .u8 0) := by rw [A5.out.cell 0 (by rw [HZ.out]; omega)]; simp [HZE.out, z16, B8]
  have k1 : w5.cell? ⟨b, 1, none⟩ = some (.int .u8 0) := by rw [A5.out.cell 1 (by rw [HZ.out]; omega)]; simp [HZE.out, z16, B8]
  have k2 : w5.cell? ⟨b, 2, none⟩ = some (.int .u8 0) := by rw [A5.out.cell 2 (by rw [HZ.out]; omega)]; simp [HZE.out, z16, B8]
  have k3 : w5.cell? ⟨b, 3, none⟩ = some (.int .u8 0) := by rw [A5.out.cell 3 (by rw [HZ.out]; omega)]; simp [HZE.out, z16, B8]
  have k4 : w5.cell? ⟨b, 4, none⟩ = some (.int .u8 0) := by rw [A5.out.cell 4 (by rw [HZ.out]; omega)]; simp [HZE.out, z16, B8]
  have k5 : w5.cell? ⟨b, 5, none⟩ = some (.int .u8 0) := by rw [A5.out.cell 5 (by rw [HZ.out]; omega)]; simp [HZE.out, z16, B8]
  have f0' := A5.out.frozen 0
  have f1' := A5.out.frozen 1
  have f2' := A5.out.frozen 2
  have f3' := A5.out.frozen 3
  have f4' := A5.out.frozen 4
  have f5' := A5.out.frozen 5
  clear g5 f5 t5
  go_wp2_with fail
  have e0 : (Value.int IntKind.u8 ((m : Int) / 1099511627776)) = B8 (UInt8.ofNat (m / 1099511627776)) := by rw [B8, UInt8.toNat_ofNat']; congr 1; try omega
  have e1 : (Value.int IntKind.u8 ((m : Int) / 4294967296 % 256)) = B8 (UInt8.ofNat (m / 4294967296)) := by rw [B8, UInt8.toNat_ofNat']; congr 1; try omega
  have e2 : (Value.int IntKind.u8 ((m : Int) / 16777216 % 256)) = B8 (UInt8.ofNat (m / 16777216)) := by rw [B8, UInt8.toNat_ofNat']; congr 1; try omega
  have e3 : (Value.int IntKind.u8 ((m : Int) / 65536 % 256)) = B8 (UInt8.ofNat (m / 65536)) := by rw [B8, UInt8.toNat_ofNat']; congr 1; try omega
  have e4 : (Value.int IntKind.u8 ((m : Int) / 256 % 256)) = B8 (UInt8.ofNat (m / 256)) := by rw [B8, UInt8.toNat_ofNat']; congr 1; try omega
  have e5 : (Value.int IntKind.u8 ((m : Int) % 256)) = B8 (UInt8.ofNat (m)) := by rw [B8, UInt8.toNat_ofNat']; congr 1; try omega
  rw [e0, e1, e2, e3, e4, e5]
  have P0 := PutB.setCell A5.out 0 (B8 (UInt8.ofNat (m / 1099511627776)))
  have P1 := P0.trans (PutB.setCell P0.at_ 1 (B8 (UInt8.ofNat (m / 4294967296))))
  have P2 := P1.trans (PutB.setCell P1.at_ 2 (B8 (UInt8.ofNat (m / 16777216))))
  have P3 := P2.trans (PutB.setCell P2.at_ 3 (B8 (UInt8.ofNat (m / 65536))))
  have P4 := P3.trans (PutB.setCell P3.at_ 4 (B8 (UInt8.ofNat (m / 256))))
  have P5 := P4.trans (PutB.setCell P4.at_ 5 (B8 (UInt8.ofNat (m))))
  generalize (((((w5.setCell ⟨b, 0, none⟩ (B8 (UInt8.ofNat (m / 1099511627776)))).setCell ⟨b, 1, none⟩ (B8 (UInt8.ofNat (m / 4294967296)))).setCell ⟨b, 2, none⟩ (B8 (UInt8.ofNat (m / 16777216)))).setCell ⟨b, 3, none⟩ (B8 (UInt8.ofNat (m / 65536)))).setCell ⟨b, 4, none⟩ (B8 (UInt8.ofNat (m / 256)))).setCell ⟨b, 5, none⟩ (B8 (UInt8.ofNat (m))) = w6 at P5 ⊢
  have A6 := Lib.hid (show At w6 b 56 (([UInt8.ofNat (m / 1099511627776), UInt8.ofNat (m / 4294967296), UInt8.ofNat (m / 16777216), UInt8.ofNat (m / 65536), UInt8.ofNat (m / 256), UInt8.ofNat m, 0, 0, 0, 0, 0, 0, 0, 0, 0, 0] : List UInt8).map B8) by have h := P5.at_; rw [HZE.out] at h; exact h)
  have gr6 := Lib.hid P5.grown
  clear P0 P1 P2 P3 P4 P5 e0 e1 e2 e3 e4 e5 k0 k1 k2 k3 k4 k5 f0' f1' f2' f3' f4' f5'
  obtain ⟨X, hX⟩ : ∃ X, X = UInt8.ofNat (m / 1099511627776) := ⟨_, rfl⟩
  have EX := Lib.hid hX
  refine (put16_any b 6 2 10 56 _ c (by omega) (by omega) (by simp) w6 A6.out).mono ?_
  rintro e w7 ⟨rfl, p7⟩
  have A7 := Lib.hid (show At w7 b 56 (([UInt8.ofNat (m / 1099511627776), UInt8.ofNat (m / 4294967296), UInt8.ofNat (m / 16777216), UInt8.ofNat (m / 65536), UInt8.ofNat (m / 256), UInt8.ofNat m, UInt8.ofNat (c / 256), UInt8.ofNat c, 0, 0, 0, 0, 0, 0, 0, 0] : List UInt8).map B8) from p7.at_)
  have gr7 := Lib.hid p7.grown
  clear p7
  go_wp2_with fail
  refine (setVersion_any b 56 _ (by simp) 7 w7 A7.out).mono ?_
  rintro e w8 ⟨rfl, p8⟩
  have A8 := Lib.hid (show At w8 b 56 (([UInt8.ofNat (m / 1099511627776), UInt8.ofNat (m / 4294967296), UInt8.ofNat (m / 16777216), UInt8.ofNat (m / 65536), UInt8.ofNat (m / 256), UInt8.ofNat m, setVer (UInt8.ofNat (c / 256)) 7, UInt8.ofNat c, 0, 0, 0, 0, 0, 0, 0, 0] : List UInt8).map B8) from p8.at_)
  have gr8 := Lib.hid (show w5.grownBy w8 (some b) from grown_trans' (grown_trans' gr6.out gr7.out) p8.grown)
  clear p8 hX
  have G8 := Lib.hid (G5.out.grown gr8.out (by simp; have := NBG.out; omega))
  have O8 := Lib.hid (O5.out.grown gr8.out (by simp; have := HO.out; have := HB.out; omega))
  have F8 := Lib.hid (F5.out.eq (gr8.out.block f F5.out.lt (by simp; have := NBF.out; omega)))
  have T8 := Lib.hid (show Two w4 w5 f g from T5.out)
  have Z5 := T5.out.below Z4.out Z4.out.size f0 g0
  have Z8 := Lib.hid (Z5.grown gr8.out Z5.size (by simp; have := HB.out; have := H0.out.size; omega))
  obtain ⟨H8L, hH8⟩ : ∃ H8L : List UInt8, H8L = [UInt8.ofNat (m / 1099511627776), UInt8.ofNat (m / 4294967296), UInt8.ofNat (m / 16777216), UInt8.ofNat (m / 65536), UInt8.ofNat (m / 256), UInt8.ofNat m, setVer (UInt8.ofNat (c / 256)) 7, UInt8.ofNat c] := ⟨_, rfl⟩
  have HH8 := Lib.hid hH8
  have A8' := Lib.hid (show At w8 b 56 ((H8L ++ [0, 0, 0, 0, 0, 0, 0, 0]).map B8) by rw [hH8]; exact A8.out)
  have LH8 := Lib.hid (show H8L.length = 8 by rw [hH8]; rfl)
  have LRT := Lib.hid (show rt.length = 7 by have h := congrArg List.length HR.out; rw [List.length_take] at h; simp at h; omega)
  have SP := Lib.hid (show splice ((H8L ++ [0, 0, 0, 0, 0, 0, 0, 0]).map B8) 8 ((ds'.take 8).map B8) = (H8L ++ r :: rt).map B8 by
    rw [HR.out, splice, List.map_append, List.map_append, List.take_append_of_le_length (by rw [List.length_map, LH8.out]; omega), List.take_of_length_le (by rw [List.length_map, LH8.out]; omega), List.drop_append, List.drop_eq_nil_of_le (by rw [List.length_map, LH8.out]; simp [LRT.out])]
    simp [LH8.out, LRT.out])
  clear hH8
  obtain ⟨cs, hcs⟩ : ∃ cs, cs = gen7 (rdV f) ep hw ms m c true := ⟨_, rfl⟩
  have LC2 := Lib.hid (show 2 < cs.length by rw [hcs]; simp [gen7])
  have HR2 := Lib.hid (show cs[2]'LC2.out = rdV f by subst hcs; rfl)
  have G3 := Lib.hid (show At w8 g 97 cs from hcs ▸ G8.out)
  have HCS := Lib.hid hcs
  have NGF := Lib.hid (Ne.symm hfg)
  have NGB := Lib.hid (Ne.symm NBG.out)
  have R := Lib.hid (fun m => readFull_yes w0 (w8.drewN m) f b 8 8 8 56 _ ds' (by omega) hd' hdl' (by omega) (by rw [List.length_map, List.length_append, LH8.out]; simp) F8.out A8'.out (Ne.symm NBF.out) (below_drewN Z8.out m))
  clear hcs
  go_wp2_with fail
  refine wp_region_rj (fun v => ⟨#[Value.pointer (some { block := g, off := 0 }), Value.agg T.toArray, Value.bool cl, undef, Value.pointer (some { block := w.heap.size, off := 0 }), undef, Value.pointer (some { block := o, off := 0 }), Value.nilIface, Value.pointer (some { block := b, off := 0 }), Value.int IntKind.u64 (ms : Int), Value.int IntKind.u64 (m : Int), Value.int IntKind.u16 (c : Int), v 9, Value.agg T.toArray, Value.int IntKind.i64 (ms : Int), Value.int IntKind.i64 (ms : Int), Value.int IntKind.u64 (ms : Int), Value.int IntKind.u64 (ms : Int), Value.tuple #[Value.int IntKind.u64 (m : Int), Value.int IntKind.u16 (c : Int), Value.nilIface], Value.pointer (some { block := g, off := 0 }), Value.int IntKind.u64 (ms : Int), Value.bool cl, Value.tuple #[Value.int IntKind.u64 (m : Int), Value.int IntKind.u16 (c : Int), Value.nilIface], Value.int IntKind.u64 (m : Int), Value.int IntKind.u16 (c : Int), Value.nilIface, Value.nilIface, Value.bool false, undef, undef, Value.int IntKind.u64 (m : Int), Value.int IntKind.u64 ((m : Int) / 1099511627776), B8 (UInt8.ofNat (m / 1099511627776)), Value.pointer (some { block := b, off := 0 }), Value.int IntKind.u64 (m : Int), Value.int IntKind.u64 ((m : Int) / 4294967296), B8 (UInt8.ofNat (m / 4294967296)), Value.pointer (some { block := b, off := 1 }), Value.int IntKind.u64 (m : Int), Value.int IntKind.u64 ((m : Int) / 16777216), B8 (UInt8.ofNat (m / 16777216)), Value.pointer (some { block := b, off := 2 }), Value.int IntKind.u64 (m : Int), Value.int IntKind.u64 ((m : Int) / 65536), B8 (UInt8.ofNat (m / 65536)), Value.pointer (some { block := b, off := 3 }), Value.int IntKind.u64 (m : Int), Value.int IntKind.u64 ((m : Int) / 256), B8 (UInt8.ofNat (m / 256)), Value.pointer (some { block := b, off := 4 }), Value.int IntKind.u64 (m : Int), B8 (UInt8.ofNat m), Value.pointer (some { block := b, off := 5 }), Value.slice (some { block := b, off := 6 }) 2 10, Value.int IntKind.u16 (c : Int), Value.tuple #[], Value.tuple #[], v 6, v 0, v 1, v 2, v 3, v 4, v 5, v 7, v 8, undef, undef, undef, undef, undef, undef], []⟩) (RgC g f (.slice (some ⟨b, 8, none⟩) 8 8) (.int .i64 8) .nilIface 1)
    (fun d x => At x g 97 cs ∧ if d then FeedAt w0 x f (ds'.drop 8) ∧ At x b 56 ((H8L ++ r :: rt).map B8) ∧ Two w8 x f b else x = w8.drewN 1) 5
    (fun j => if j = 9 then .nilIface else undef) [0, 1, 2, 3, 4, 5, 6, 7, 8, 9] (by kernel_rfl) (by kernel_rfl) (by kernel_rfl) (by decide) rfl ⟨G3.out, rfl⟩ ?_ ?_
  · refine AllI.cons ?_ (AllI.cons ?_ (AllI.cons ?_ (AllI.cons ?_ (AllI.cons ?_ (AllI.cons ?_ (AllI.cons ?_ (AllI.cons ?_ (AllI.cons ?_ (AllI.cons ?_ AllI.nil)))))))))
    · refine stepRJ [] rfl rfl rfl (by kernel_rfl) fun d v y hv hS K hK => ?_
      clear hS
      go_simp
      exact hK.out _ _ (by simp [upd]; try rfl) rfl
    · refine stepRJ [0] rfl rfl rfl (by kernel_rfl) fun d v y hv hS K hK => ?_
      clear hS
      have e0 := hv 0 rfl
      simp only [RgC, if_true, if_false] at e0
      go_simp
      exact hK.out _ _ (by simp [upd, e0]; try rfl) rfl
    · refine stepRJ [1] rfl rfl rfl (by kernel_rfl) fun d v y hv hS K hK => ?_
      clear hS
      have e1 := hv 1 rfl
      simp only [RgC, if_true, if_false] at e1
      go_simp
      exact hK.out _ _ (by simp [upd, e1]; try rfl) rfl
    · refine stepRJ [2] rfl rfl rfl (by kernel_rfl) fun d v y hv hS K hK => ?_
      have k1 : y.cell? ⟨g, 2, none⟩ = some (rdV f) := by rw [hS.1.cell 2 LC2.out, HR2.out]
      unfold rdV at k1
      clear hS
      have e2 := hv 2 rfl
      simp only [RgC, if_true, if_false] at e2
      go_simp
      exact hK.out _ _ (by simp [upd, e2]; try rfl) rfl
    · refine stepRJ [] rfl rfl rfl (by kernel_rfl) fun d v y hv hS K hK => ?_
      clear hS
      go_simp
      exact hK.out _ _ (by simp [upd]; try rfl) rfl
    · refine stepRJc [3, 4] rfl rfl (by kernel_rfl) fun v y hv hS K hK => ?_
      have e3 := hv 3 rfl
      have e4 := hv 4 rfl
      simp only [RgC, if_true, if_false] at e3 e4
      have hS2 : y = w8.drewN 1 := hS.2
      subst hS2
      clear hS
      unfold rdV at e3
      go_simp
      go_at_call 51
      refine (R.out 1).mono ?_
      rintro e y' ⟨rfl, r1, r2, r3⟩
      have R1 := Lib.hid r1
      have R2 := Lib.hid (show At y' b 56 ((H8L ++ r :: rt).map B8) by rw [← SP.out]; exact r2)
      have R3 := Lib.hid (show Two w8 y' f b from ⟨r3.os, r3.tape, r3.output, r3.size, r3.block⟩)
      clear r1 r2 r3
      go_wp2_with fail
      exact hK.out _ _ _ (by simp [upd, e3, e4]) rfl ⟨R3.out.at_ G3.out NGF.out NGB.out, R1.out, R2.out, R3.out⟩
    · refine stepRJ [5] rfl rfl rfl (by kernel_rfl) fun d v y hv hS K hK => ?_
      clear hS
      have e5 := hv 5 rfl
      simp only [RgC, if_true, if_false] at e5
      go_simp
      exact hK.out _ _ (by simp [upd, e5]; try rfl) rfl
    · refine stepRJ [6] rfl rfl rfl (by kernel_rfl) fun d v y hv hS K hK => ?_
      clear hS
      have e6 := hv 6 rfl
      simp only [RgC, if_true, if_false] at e6
      go_simp
      exact hK.out _ _ (by simp [upd, e6]; try rfl) rfl
    · refine stepRJ [6] rfl rfl rfl (by kernel_rfl) fun d v y hv hS K hK => ?_
      clear hS
      have e6 := hv 6 rfl
      simp only [RgC, if_true, if_false] at e6
      go_simp
      exact hK.out _ _ (by simp [upd, e6]; try rfl) rfl
    · refine stepRJ [8] rfl rfl rfl (by kernel_rfl) fun d v y hv hS K hK => ?_
      clear hS
      have e8 := hv 8 rfl
      simp only [RgC, if_true, if_false] at e8
      go_simp
      exact hK.out _ _ (by simp [upd, e8]; try rfl) rfl
  · intro v y hv hS
    obtain ⟨q0, q1, q2, q3⟩ : At y g 97 cs ∧ FeedAt w0 y f (ds'.drop 8) ∧ At y b 56 ((H8L ++ r :: rt).map B8) ∧ Two w8 y f b := hS
    have e9 : v 9 = .nilIface := hv 9 (by decide)
    rw [e9]
    have GY := Lib.hid q0
    have FY := Lib.hid q1
    have AY := Lib.hid q2
    have TY := Lib.hid q3
    have OY := Lib.hid (q3.at_ O8.out NOF.out (by have := HO.out; have := HB.out; omega))
    clear hv q0 q1 q2 q3 e9
    go_wp2_with fail
    refine (setVariant_1 b 56 (H8L ++ r :: rt) (by rw [List.length_append, LH8.out]; simp [LRT.out]) y AY.out).mono ?_
    obtain ⟨D3, hD3⟩ : ∃ D3, D3 = v7B m c r rt := ⟨_, rfl⟩
    rw [show (H8L ++ r :: rt).set 8 (setVar ((H8L ++ r :: rt).getD 8 0) (varMask 1) (varBits 1)) = D3 by rw [hD3, HH8.out]; rfl]
    have LD3 := Lib.hid (show D3.length = 16 by rw [hD3, v7B]; simp [LRT.out])
    have HD3 := Lib.hid hD3
    have HBS := Lib.hid (sizeU_of D3 LD3.out)
    clear hD3
    rintro e y2 ⟨rfl, p9⟩
    have P9 := Lib.hid p9
    have OY2 := Lib.hid (p9.keep OY.out (by have := HO.out; have := HB.out; omega))
    clear p9
    go_wp2_with (first
      | (refine wpList_get rfl 56 (.tmp 8) rfl b (by rfl) 56 (D3.map B8) _ P9.out.at_ Try.underlying56 rfl HBS.out ?_)
      | (refine wpList_put rfl 56 (.tmp 6) (.tmp 71) rfl o (D3.map B8) (by rfl) (by rfl) 56 Z OY2.out HBS.out (by rw [HZ.out, List.length_map, LD3.out]) (B8_one _) ?_))
    intro y3 h10
    have P10 := Lib.hid h10
    clear h10
    go_wp2
    refine ret_cell_tmp 6 56 7 rfl o 56 (D3.map B8) _ .nilIface rfl rfl P10.out.at_ Try.underlying56 rfl HBS.out rfl ?_
    have no := HO.out
    have nb := HB.out
    have lg := LG.out
    have lf := LF.out
    have l9 : w.heap.size ≤ w4.heap.size := B4.out.size
    have l5 := T5.out.size
    have e58 := gr8.out
    have ty := TY.out
    have g10 := P10.out.grown
    have g9 := P9.out.grown
    refine ⟨by rw [← HD3.out], ?_, ?_, ?_⟩
    · rw [← HCS.out]
      exact (GY.out.grown g9 (by simp; omega)).grown g10 (by simp; omega)
    · exact (FY.out.eq (g9.block f FY.out.lt (by simp; omega))).eq (g10.block f (Nat.lt_of_lt_of_le FY.out.lt g9.size) (by simp; omega))
    · refine ⟨?_, ?_, ?_, ?_, ?_⟩
      · rw [g10.os, g9.os, ty.os, e58.os, T5.out.os, B4.out.os]
      · rw [g10.tape, g9.tape, ty.tape, e58.tape, T5.out.tape, B4.out.tape]
      · rw [g10.output, g9.output, ty.output, e58.output, T5.out.output, B4.out.output]
      · have := g10.size; have := g9.size; have := ty.size; have := e58.size; omega
      · intro k hk n1 n2
        have := g9.size; have := ty.size; have := e58.size
        rw [g10.block k (by omega) (by simp; omega), g9.block k (by omega) (by simp; omega), ty.block k (by omega) n1 (by omega), e58.block k (by omega) (by simp; omega), T5.out.block k (by omega) n1 n2, B4.out.block k hk (by simp)]
end Go.Proofs.Ytbojjpgekbljfaa
