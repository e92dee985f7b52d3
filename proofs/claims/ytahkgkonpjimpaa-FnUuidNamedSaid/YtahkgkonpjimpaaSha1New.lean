/-
  sha1's Reset, New and Sum.
-/
import Derived.Test.YtahkgkonpjimpaaMd5New
namespace Go.Proofs.Ytahkgkonpjimpaa
open Go.RowKit
set_option linter.unusedVariables false
theorem cellsS_one (s : S5) : ∀ v ∈ cellsS s, v.oneCell' = true := by
  intro v hv
  unfold cellsS at hv
  simp at hv
  rcases hv with rfl | rfl | rfl | rfl | rfl <;> rfl
set_option maxRecDepth 100000 in
theorem sha1_reset (g : Nat) (s : S5) (X : List UInt8) (q ln : Nat) (hX : X.length = 64) (w0 : World) (hd : At w0 g 62 (DCg (cellsS s) X q ln)) :
    Calls Try.prog 29 #[(.pointer (some ⟨g, 0, none⟩))] w0 fun e w' => e = .returned (.tuple #[]) ∧ At w' g 62 (DCg (cellsS ivS) X 0 0) ∧ w0.grownBy w' (some g) := by
  have g0 : w0.grownBy w0 (some g) := grown_self w0 _
  go_enter Try.func29, Try.ntmps29
  refine fr_start 28 [(0, (.pointer (some ⟨g, 0, none⟩)))] ⟨by kernel_rfl, rfl, List.forall_mem_cons.2 ⟨by kernel_rfl, fun _ h => by cases h⟩⟩ fun fr0 hfr0 => ?_
  refine wp_seq (reg_store (Drawn w0) _ rfl 28 _ [(.pointer (some ⟨g, 0, none⟩)), (.pointer (some ⟨g, 0, none⟩)), (.pointer (some ⟨g, 0, none⟩)), (.pointer (some ⟨g, 0, none⟩))] [none, none, none, some (.sem (Instr.indexAt 60 (.pointer (some ⟨g, 0, none⟩)) (.int .i64 0)) (.pointer (some ⟨g, 0, none⟩)))] [0] [(.pointer (some ⟨g, 0, none⟩))] (by kernel_rfl) hfr0 (fun r w => by kernel_rfl) (fun r => by kernel_rfl) (Drawn.refl _) ⟨fun _ _ => by kernel_rfl, trivial⟩ rfl rfl (x := .tmp 5) (y := .const (.int .u32 1732584193)) rfl (b := g) (k := 0) (kd := .u32) (n := 1732584193) (fun r => by kernel_rfl) (fun r => by kernel_rfl) Try.size32 (fun w' hw' => At.there1 (hw'.at_ hd) 0 (by rw [DCg_len (sb := 5) rfl hX]; omega)) fun fr1 x1 hx hfr1 => ?_)
  show Code.wp _ _ _ _ _
  have hat1 : At (x1.setCell ⟨g, 0, none⟩ (.int .u32 1732584193)) g 62 (DCg (cellsS (1732584193, s.2.1, s.2.2.1, s.2.2.2.1, s.2.2.2.2)) X q ln) := (show At _ _ _ _ from At.set_ (hx.at_ hd) 0 (.int .u32 1732584193))
  have g1 : w0.grownBy (x1.setCell ⟨g, 0, none⟩ (.int .u32 1732584193)) (some g) := grown_trans' (hx.grown g0) (grown_set x1 g 0 (.int .u32 1732584193))
  obtain ⟨w1, hw⟩ : ∃ z, z = x1.setCell ⟨g, 0, none⟩ (.int .u32 1732584193) := ⟨_, rfl⟩
  rw [← hw] at hat1 g1 ⊢
  clear hw hx  g0
  refine wp_seq (reg_store (Drawn w1) _ rfl 28 _ [(.pointer (some ⟨g, 0, none⟩)), (.pointer (some ⟨g, 0, none⟩)), (.pointer (some ⟨g, 0, none⟩)), (.pointer (some ⟨g, 1, none⟩))] [none, none, none, some (.sem (Instr.indexAt 60 (.pointer (some ⟨g, 0, none⟩)) (.int .i64 1)) (.pointer (some ⟨g, 1, none⟩)))] [0] [(.pointer (some ⟨g, 0, none⟩))] (by kernel_rfl) hfr1 (fun r w => by kernel_rfl) (fun r => by kernel_rfl) (Drawn.refl _) ⟨fun _ _ => by kernel_rfl, trivial⟩ rfl rfl (x := .tmp 9) (y := .const (.int .u32 4023233417)) rfl (b := g) (k := 1) (kd := .u32) (n := 4023233417) (fun r => by kernel_rfl) (fun r => by kernel_rfl) Try.size32 (fun w' hw' => At.there1 (hw'.at_ hat1) 1 (by rw [DCg_len (sb := 5) rfl hX]; omega)) fun fr2 x2 hx hfr2 => ?_)
  show Code.wp _ _ _ _ _
  have hat2 : At (x2.setCell ⟨g, 1, none⟩ (.int .u32 4023233417)) g 62 (DCg (cellsS (1732584193, 4023233417, s.2.2.1, s.2.2.2.1, s.2.2.2.2)) X q ln) := (show At _ _ _ _ from At.set_ (hx.at_ hat1) 1 (.int .u32 4023233417))
  have g2 : w0.grownBy (x2.setCell ⟨g, 1, none⟩ (.int .u32 4023233417)) (some g) := grown_trans' (hx.grown g1) (grown_set x2 g 1 (.int .u32 4023233417))
  obtain ⟨w2, hw⟩ : ∃ z, z = x2.setCell ⟨g, 1, none⟩ (.int .u32 4023233417) := ⟨_, rfl⟩
  rw [← hw] at hat2 g2 ⊢
  clear hw hx hat1 g1
  refine wp_seq (reg_store (Drawn w2) _ rfl 28 _ [(.pointer (some ⟨g, 0, none⟩)), (.pointer (some ⟨g, 0, none⟩)), (.pointer (some ⟨g, 0, none⟩)), (.pointer (some ⟨g, 2, none⟩))] [none, none, none, some (.sem (Instr.indexAt 60 (.pointer (some ⟨g, 0, none⟩)) (.int .i64 2)) (.pointer (some ⟨g, 2, none⟩)))] [0] [(.pointer (some ⟨g, 0, none⟩))] (by kernel_rfl) hfr2 (fun r w => by kernel_rfl) (fun r => by kernel_rfl) (Drawn.refl _) ⟨fun _ _ => by kernel_rfl, trivial⟩ rfl rfl (x := .tmp 13) (y := .const (.int .u32 2562383102)) rfl (b := g) (k := 2) (kd := .u32) (n := 2562383102) (fun r => by kernel_rfl) (fun r => by kernel_rfl) Try.size32 (fun w' hw' => At.there1 (hw'.at_ hat2) 2 (by rw [DCg_len (sb := 5) rfl hX]; omega)) fun fr3 x3 hx hfr3 => ?_)
  show Code.wp _ _ _ _ _
  have hat3 : At (x3.setCell ⟨g, 2, none⟩ (.int .u32 2562383102)) g 62 (DCg (cellsS (1732584193, 4023233417, 2562383102, s.2.2.2.1, s.2.2.2.2)) X q ln) := (show At _ _ _ _ from At.set_ (hx.at_ hat2) 2 (.int .u32 2562383102))
  have g3 : w0.grownBy (x3.setCell ⟨g, 2, none⟩ (.int .u32 2562383102)) (some g) := grown_trans' (hx.grown g2) (grown_set x3 g 2 (.int .u32 2562383102))
  obtain ⟨w3, hw⟩ : ∃ z, z = x3.setCell ⟨g, 2, none⟩ (.int .u32 2562383102) := ⟨_, rfl⟩
  rw [← hw] at hat3 g3 ⊢
  clear hw hx hat2 g2
  refine wp_seq (reg_store (Drawn w3) _ rfl 28 _ [(.pointer (some ⟨g, 0, none⟩)), (.pointer (some ⟨g, 0, none⟩)), (.pointer (some ⟨g, 0, none⟩)), (.pointer (some ⟨g, 3, none⟩))] [none, none, none, some (.sem (Instr.indexAt 60 (.pointer (some ⟨g, 0, none⟩)) (.int .i64 3)) (.pointer (some ⟨g, 3, none⟩)))] [0] [(.pointer (some ⟨g, 0, none⟩))] (by kernel_rfl) hfr3 (fun r w => by kernel_rfl) (fun r => by kernel_rfl) (Drawn.refl _) ⟨fun _ _ => by kernel_rfl, trivial⟩ rfl rfl (x := .tmp 17) (y := .const (.int .u32 271733878)) rfl (b := g) (k := 3) (kd := .u32) (n := 271733878) (fun r => by kernel_rfl) (fun r => by kernel_rfl) Try.size32 (fun w' hw' => At.there1 (hw'.at_ hat3) 3 (by rw [DCg_len (sb := 5) rfl hX]; omega)) fun fr4 x4 hx hfr4 => ?_)
  show Code.wp _ _ _ _ _
  have hat4 : At (x4.setCell ⟨g, 3, none⟩ (.int .u32 271733878)) g 62 (DCg (cellsS (1732584193, 4023233417, 2562383102, 271733878, s.2.2.2.2)) X q ln) := (show At _ _ _ _ from At.set_ (hx.at_ hat3) 3 (.int .u32 271733878))
  have g4 : w0.grownBy (x4.setCell ⟨g, 3, none⟩ (.int .u32 271733878)) (some g) := grown_trans' (hx.grown g3) (grown_set x4 g 3 (.int .u32 271733878))
  obtain ⟨w4, hw⟩ : ∃ z, z = x4.setCell ⟨g, 3, none⟩ (.int .u32 271733878) := ⟨_, rfl⟩
  rw [← hw] at hat4 g4 ⊢
  clear hw hx hat3 g3
  refine wp_seq (reg_store (Drawn w4) _ rfl 28 _ [(.pointer (some ⟨g, 0, none⟩)), (.pointer (some ⟨g, 0, none⟩)), (.pointer (some ⟨g, 0, none⟩)), (.pointer (some ⟨g, 4, none⟩))] [none, none, none, some (.sem (Instr.indexAt 60 (.pointer (some ⟨g, 0, none⟩)) (.int .i64 4)) (.pointer (some ⟨g, 4, none⟩)))] [0] [(.pointer (some ⟨g, 0, none⟩))] (by kernel_rfl) hfr4 (fun r w => by kernel_rfl) (fun r => by kernel_rfl) (Drawn.refl _) ⟨fun _ _ => by kernel_rfl, trivial⟩ rfl rfl (x := .tmp 21) (y := .const (.int .u32 3285377520)) rfl (b := g) (k := 4) (kd := .u32) (n := 3285377520) (fun r => by kernel_rfl) (fun r => by kernel_rfl) Try.size32 (fun w' hw' => At.there1 (hw'.at_ hat4) 4 (by rw [DCg_len (sb := 5) rfl hX]; omega)) fun fr5 x5 hx hfr5 => ?_)
  show Code.wp _ _ _ _ _
  have hat5 : At (x5.setCell ⟨g, 4, none⟩ (.int .u32 3285377520)) g 62 (DCg (cellsS (1732584193, 4023233417, 2562383102, 271733878, 3285377520)) X q ln) := (show At _ _ _ _ from At.set_ (hx.at_ hat4) 4 (.int .u32 3285377520))
  have g5 : w0.grownBy (x5.setCell ⟨g, 4, none⟩ (.int .u32 3285377520)) (some g) := grown_trans' (hx.grown g4) (grown_set x5 g 4 (.int .u32 3285377520))
  obtain ⟨w5, hw⟩ : ∃ z, z = x5.setCell ⟨g, 4, none⟩ (.int .u32 3285377520) := ⟨_, rfl⟩
  rw [← hw] at hat5 g5 ⊢
  clear hw hx hat4 g4
  refine wp_seq (reg_store (Drawn w5) _ rfl 28 _ [(.pointer (some ⟨g, 0, none⟩)), (.pointer (some ⟨g, 0, none⟩)), (.pointer (some ⟨g, 69, none⟩))] [none, none, none] [0] [(.pointer (some ⟨g, 0, none⟩))] (by kernel_rfl) hfr5 (fun r w => by kernel_rfl) (fun r => by kernel_rfl) (Drawn.refl _) trivial rfl rfl (x := .tmp 24) (y := .const (.int .i64 0)) rfl (b := g) (k := 69) (kd := .i64) (n := 0) (fun r => by kernel_rfl) (fun r => by kernel_rfl) Try.sizeInt (fun w' hw' => At.there1 (hw'.at_ hat5) 69 (by rw [DCg_len (sb := 5) rfl hX]; omega)) fun fr6 x6 hx hfr6 => ?_)
  show Code.wp _ _ _ _ _
  have hat6 : At (x6.setCell ⟨g, 69, none⟩ (.int .i64 0)) g 62 (DCg (cellsS ivS) X 0 ln) := (DCg_set_nx (sb := 5) (hd := cellsS ivS) (q := q) (ln := ln) rfl hX 0 ▸ At.set_ (hx.at_ hat5) 69 (.int .i64 ((0 : Nat) : Int)))
  have g6 : w0.grownBy (x6.setCell ⟨g, 69, none⟩ (.int .i64 0)) (some g) := grown_trans' (hx.grown g5) (grown_set x6 g 69 (.int .i64 0))
  obtain ⟨w6, hw⟩ : ∃ z, z = x6.setCell ⟨g, 69, none⟩ (.int .i64 0) := ⟨_, rfl⟩
  rw [← hw] at hat6 g6 ⊢
  clear hw hx hat5 g5
  refine reg_store (Drawn w6) _ rfl 28 _ [(.pointer (some ⟨g, 0, none⟩)), (.pointer (some ⟨g, 0, none⟩)), (.pointer (some ⟨g, 70, none⟩))] [none, none, none] [0] [(.pointer (some ⟨g, 0, none⟩))] (by kernel_rfl) hfr6 (fun r w => by kernel_rfl) (fun r => by kernel_rfl) (Drawn.refl _) trivial rfl rfl (x := .tmp 27) (y := .const (.int .u64 0)) rfl (b := g) (k := 70) (kd := .u64) (n := 0) (fun r => by kernel_rfl) (fun r => by kernel_rfl) Try.size64 (fun w' hw' => At.there1 (hw'.at_ hat6) 70 (by rw [DCg_len (sb := 5) rfl hX]; omega)) fun fr7 x7 hx hfr7 => ?_
  have hat7 : At (x7.setCell ⟨g, 70, none⟩ (.int .u64 0)) g 62 (DCg (cellsS ivS) X 0 0) := (DCg_set_ln (sb := 5) (hd := cellsS ivS) (q := 0) (ln := ln) rfl hX 0 ▸ At.set_ (hx.at_ hat6) 70 (.int .u64 ((0 : Nat) : Int)))
  have g7 : w0.grownBy (x7.setCell ⟨g, 70, none⟩ (.int .u64 0)) (some g) := grown_trans' (hx.grown g6) (grown_set x7 g 70 (.int .u64 0))
  refine bodyPost_end (results_none rfl _ _ _) hfr7.2.1 ?_
  exact ⟨rfl, hat7, g7⟩
set_option maxRecDepth 100000 in
theorem sha1_new (w : World) : Calls Try.prog 16 #[] w fun e w' => e = .returned (.pointer (some ⟨w.heap.size, 0, none⟩)) ∧ Dg 62 cellsS sha1G ivS w' w.heap.size [] ∧ Below w.heap.size w w' := by
  obtain ⟨Z, hZ⟩ : ∃ Z, Z = DCg (cellsS (0, 0, 0, 0, 0)) (List.replicate 64 0) 0 0 := ⟨_, rfl⟩
  have hz : ∀ w, (zeroValue 62).run Try.prog w = .ok (.agg Z.toArray) w := fun w => by rw [hZ]; kernel_rfl
  have HZ := Lib.hid hZ
  clear hZ
  go_enter Try.func16, Try.ntmps16
  go_wp2_with (refine wpList_var rfl 62 rfl (.agg Z.toArray) Z hz rfl ?_)
  intro w1 h1
  have H1 := Lib.hid h1
  clear h1
  go_wp2_with fail
  refine (sha1_reset w.heap.size _ _ 0 0 (by simp) w1 (HZ.out ▸ H1.out.at_)).mono ?_
  rintro e w2 ⟨rfl, k1, k2⟩
  have K1 := Lib.hid k1
  have K2 := Lib.hid k2
  clear k1 k2
  go_wp2
  go_ret
  exact ⟨rfl, ⟨_, _, 0, Left.nil _ (by simp), K1.out⟩, (H1.out.below (Below.refl _ _) (Nat.le_refl _)).grown K2.out (by have := H1.out.size; omega) (by simp)⟩
set_option maxRecDepth 100000 in
theorem sha1_sumNil (g : Nat) (T : List UInt8) (hT : T.length ≤ 300) (w : World) (hd0 : Dg 62 cellsS sha1G ivS w g T) :
    Calls Try.prog 18 #[(.pointer (some ⟨g, 0, none⟩)), (.slice none 0 0)] w (CapNew (sumS1 T) w) := by
  obtain ⟨s, X, q, hL, hat0⟩ := hd0
  obtain ⟨cs, hcs⟩ : ∃ cs, cs = DCg (cellsS s) X q T.length := ⟨_, rfl⟩
  have hlen : cs.length = 71 := by rw [hcs, DCg_len (sb := 5) rfl hL.2.2.1]
  have hone : ∀ v ∈ cs, v.oneCell' = true := by rw [hcs]; exact DCg_one (cellsS_one s)
  rw [← hcs] at hat0
  have HAT := Lib.hid hat0
  have HL := Lib.hid hL
  have HCS := Lib.hid hcs
  have HLEN := Lib.hid hlen
  have HONE := Lib.hid hone
  have HT := Lib.hid hT
  have hsz : (Try.prog.info? 62).map (·.size) = some cs.length := by rw [hlen]; kernel_rfl
  have HSZ := Lib.hid hsz
  obtain ⟨Z, hZ⟩ : ∃ Z, Z = DCg (cellsS (0, 0, 0, 0, 0)) (List.replicate 64 0) 0 0 := ⟨_, rfl⟩
  have hz : ∀ w, (zeroValue 62).run Try.prog w = .ok (.agg Z.toArray) w := fun w => by rw [hZ]; kernel_rfl
  have HZL := Lib.hid (show Z.length = 71 by rw [hZ]; rfl)
  obtain ⟨R, hR⟩ : ∃ R : List Value, R = List.replicate 20 (.int .u8 0) := ⟨_, rfl⟩
  have hzr : ∀ w, (zeroValue 64).run Try.prog w = .ok (.agg R.toArray) w := fun w => by rw [hR]; kernel_rfl
  have HRL := Lib.hid (show R.length = 20 by rw [hR]; rfl)
  obtain ⟨bs, hbs⟩ : ∃ bs, bs = sumS1 T := ⟨_, rfl⟩
  have hbl : bs.length = 20 := by rw [hbs]; simp [sumS1, be4B]
  have HBL := Lib.hid hbl
  have HBS := Lib.hid hbs
  have hsr : (Try.prog.info? 64).map (·.size) = some (bs.map B8).length := by rw [List.length_map, hbl]; kernel_rfl
  have HSR := Lib.hid hsr
  rw [← hbs]
  clear hL hat0 hcs hlen hone hT hZ hR hsz hbs hbl hsr
  go_enter Try.func18, Try.ntmps18
  go_wp2_with (first | (refine wpList_get rfl 62 (.tmp 8) rfl g (by rfl) 62 cs _ HAT.out Try.underlying62 rfl HSZ.out ?_) | (refine wpList_var rfl 62 rfl (.agg Z.toArray) Z hz rfl ?_))
  intro w1 h1
  have H1 := Lib.hid h1
  clear h1 hz
  go_wp2_with (refine wpList_put rfl 62 (.tmp 5) (.tmp 9) rfl w.heap.size cs (by rfl) (by rfl) 62 Z H1.out.at_ HSZ.out (by rw [HZL.out, HLEN.out]) HONE.out ?_)
  intro w2 h2
  have H2 := Lib.hid h2
  clear h2
  go_wp2_with fail
  refine (sha1_checkSum w.heap.size T HT.out w2 ⟨s, X, q, HL.out, HCS.out ▸ H2.out.at_⟩).mono ?_
  rw [← HBS.out]
  rintro e w3 ⟨rfl, h3⟩
  have B3 := Lib.hid (((H2.out.below (H1.out.below (Below.refl w.heap.size w) (Nat.le_refl _)) (by have := H1.out.size; omega) (Nat.le_refl _))).grown h3 (by have := H1.out.size; have := H2.out.size; omega) (by simp))
  have S3 := Lib.hid (show w.heap.size + 1 ≤ w3.heap.size by have := H1.out.size; have := H2.out.size; have := h3.size; omega)
  clear h3
  go_wp2_with (refine wpList_var rfl 64 rfl (.agg R.toArray) R hzr rfl ?_)
  intro w4 h4
  have H4 := Lib.hid h4
  clear h4 hzr
  go_wp2_with (refine wpList_put rfl 64 (.tmp 6) (.tmp 10) rfl w3.heap.size (bs.map B8) (by rfl) (by rfl) 64 R H4.out.at_ HSR.out (by rw [HRL.out, List.length_map, HBL.out]) (B8_one bs) ?_)
  intro w5 h5
  have H5 := Lib.hid h5
  have B5 := Lib.hid (h5.below (H4.out.below B3.out B3.out.size) (by have := H4.out.size; have := B3.out.size; omega) B3.out.size)
  clear h5
  go_wp2_with (refine wpList_appB rfl (.tmp 11) (.tmp 12) 22 rfl w.heap.size 5 Try.underlying22 Try.info8 _ 0 [] (by rfl) (own_nil w5 5 w.heap.size) (some ⟨w3.heap.size, 0, none⟩) 20 20 bs (by rfl) H5.out.at_.byt HBL.out (by simp) (by omega) B5.out.size ?_)
  intro v' w6 h6 h7
  have H6 := Lib.hid h6
  have H7 := Lib.hid h7
  clear h6 h7
  go_wp2
  go_ret
  obtain ⟨en, g', cap, e1, e2, e3⟩ := own_byt (bs := bs) H6.out (by omega)
  exact ⟨g', cap, by rw [e1, HBL.out]; rfl, by rw [HBL.out]; exact own_capN H6.out g' cap e1, e2, e3, B5.out.grown H7.out B5.out.size (by simp [Value.ownBlock])⟩
set_option maxRecDepth 100000 in
theorem sha1_sumOwn (g : Nat) (T : List UInt8) (hT : T.length ≤ 300) (w : World) (hd0 : Dg 62 cellsS sha1G ivS w g T) (b : Nat) (hat : At w b 5 (List.replicate 20 (.int .u8 0))) (hbg : b ≠ g) :
    Calls Try.prog 18 #[(.pointer (some ⟨g, 0, none⟩)), (.slice (some ⟨b, 0, none⟩) 0 20)] w (fun e w' => e = .returned (.slice (some ⟨b, 0, none⟩) 20 20) ∧ At w' b 5 ((sumS1 T).map B8) ∧ w.grownBy w' (some b)) := by
  obtain ⟨s, X, q, hL, hat0⟩ := hd0
  obtain ⟨cs, hcs⟩ : ∃ cs, cs = DCg (cellsS s) X q T.length := ⟨_, rfl⟩
  have hlen : cs.length = 71 := by rw [hcs, DCg_len (sb := 5) rfl hL.2.2.1]
  have hone : ∀ v ∈ cs, v.oneCell' = true := by rw [hcs]; exact DCg_one (cellsS_one s)
  rw [← hcs] at hat0
  have HAT := Lib.hid hat0
  have HL := Lib.hid hL
  have HCS := Lib.hid hcs
  have HLEN := Lib.hid hlen
  have HONE := Lib.hid hone
  have HT := Lib.hid hT
  have hsz : (Try.prog.info? 62).map (·.size) = some cs.length := by rw [hlen]; kernel_rfl
  have HSZ := Lib.hid hsz
  obtain ⟨Z, hZ⟩ : ∃ Z, Z = DCg (cellsS (0, 0, 0, 0, 0)) (List.replicate 64 0) 0 0 := ⟨_, rfl⟩
  have hz : ∀ w, (zeroValue 62).run Try.prog w = .ok (.agg Z.toArray) w := fun w => by rw [hZ]; kernel_rfl
  have HZL := Lib.hid (show Z.length = 71 by rw [hZ]; rfl)
  obtain ⟨R, hR⟩ : ∃ R : List Value, R = List.replicate 20 (.int .u8 0) := ⟨_, rfl⟩
  have hzr : ∀ w, (zeroValue 64).run Try.prog w = .ok (.agg R.toArray) w := fun w => by rw [hR]; kernel_rfl
  have HRL := Lib.hid (show R.length = 20 by rw [hR]; rfl)
  obtain ⟨bs, hbs⟩ : ∃ bs, bs = sumS1 T := ⟨_, rfl⟩
  have hbl : bs.length = 20 := by rw [hbs]; simp [sumS1, be4B]
  have HBL := Lib.hid hbl
  have HBS := Lib.hid hbs
  have hsr : (Try.prog.info? 64).map (·.size) = some (bs.map B8).length := by rw [List.length_map, hbl]; kernel_rfl
  have HSR := Lib.hid hsr
  rw [← hbs]
  clear hL hat0 hcs hlen hone hT hZ hR hsz hbs hbl hsr 
  have HB := Lib.hid hat
  have HBG := Lib.hid hbg
  clear hat hbg
  go_enter Try.func18, Try.ntmps18
  go_wp2_with (first | (refine wpList_get rfl 62 (.tmp 8) rfl g (by rfl) 62 cs _ HAT.out Try.underlying62 rfl HSZ.out ?_) | (refine wpList_var rfl 62 rfl (.agg Z.toArray) Z hz rfl ?_))
  intro w1 h1
  have H1 := Lib.hid h1
  clear h1 hz
  go_wp2_with (refine wpList_put rfl 62 (.tmp 5) (.tmp 9) rfl w.heap.size cs (by rfl) (by rfl) 62 Z H1.out.at_ HSZ.out (by rw [HZL.out, HLEN.out]) HONE.out ?_)
  intro w2 h2
  have H2 := Lib.hid h2
  clear h2
  go_wp2_with fail
  refine (sha1_checkSum w.heap.size T HT.out w2 ⟨s, X, q, HL.out, HCS.out ▸ H2.out.at_⟩).mono ?_
  rw [← HBS.out]
  rintro e w3 ⟨rfl, h3⟩
  have B3 := Lib.hid (((H2.out.below (H1.out.below (Below.refl w.heap.size w) (Nat.le_refl _)) (by have := H1.out.size; omega) (Nat.le_refl _))).grown h3 (by have := H1.out.size; have := H2.out.size; omega) (by simp))
  have S3 := Lib.hid (show w.heap.size + 1 ≤ w3.heap.size by have := H1.out.size; have := H2.out.size; have := h3.size; omega)
  clear h3
  go_wp2_with (refine wpList_var rfl 64 rfl (.agg R.toArray) R hzr rfl ?_)
  intro w4 h4
  have H4 := Lib.hid h4
  clear h4 hzr
  go_wp2_with (refine wpList_put rfl 64 (.tmp 6) (.tmp 10) rfl w3.heap.size (bs.map B8) (by rfl) (by rfl) 64 R H4.out.at_ HSR.out (by rw [HRL.out, List.length_map, HBL.out]) (B8_one bs) ?_)
  intro w5 h5
  have H5 := Lib.hid h5
  have B5 := Lib.hid (h5.below (H4.out.below B3.out B3.out.size) (by have := H4.out.size; have := B3.out.size; omega) B3.out.size)
  clear h5
  have BA := Lib.hid (HB.out.below_ B5.out)
  obtain ⟨i, hi1, hi2, hi3, hi4⟩ := info_parts Try.info8
  go_wp2_with (refine wpList_append_arg w5 rfl (.tmp 11) (.tmp 12) 22 rfl 5 i _ 1 1 Try.underlying22 hi1 hi2 hi3 hi4 rfl (by omega) b 0 0 20 [] (by rfl) rfl (by simp) ⟨w3.heap.size, 0, none⟩ 20 20 (bs.map B8) (by rfl) (by rw [List.length_map, HBL.out]) (fun j u hu => by have := H5.out.at_.range j u hu; rwa [add_plain']) (B8_one bs) (fun _ j hj => by rw [List.length_map, HBL.out] at hj; simp only [Nat.zero_add, Nat.zero_mul]; exact ⟨by rw [BA.out.cell j (by simpa using hj)]; rfl, BA.out.frozen j⟩) (by simp [maxLen]) (by omega) (fun _ => ?_) (fun hc => absurd hc (by omega)))
  have P6 := PutB.setCells b 5 (bs.map B8) 0 _ w5 BA.out (by rw [List.length_map, HBL.out, List.length_replicate]; omega)
  rw [splice_all _ _ (by rw [List.length_map, HBL.out, List.length_replicate])] at P6
  obtain ⟨w6, hw6⟩ : ∃ z, z = w5.setCells b 0 (bs.map B8) := ⟨_, rfl⟩
  rw [← hw6] at P6 ⊢
  have H6 := Lib.hid P6
  clear P6 hw6
  go_ret
  exact ⟨rfl, H6.out.at_, grown_trans' (grown_of_below B5.out (some b)) H6.out.grown⟩
end Go.Proofs.Ytahkgkonpjimpaa
