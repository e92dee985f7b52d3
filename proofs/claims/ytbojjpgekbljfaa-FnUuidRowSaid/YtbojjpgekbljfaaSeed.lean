/-
  seedV7Counter.
-/
import Derived.Test.YtbojjpgekbljfaaRegR
import Derived.Test.YtbojjpgekbljfaaBeB
namespace Go.Proofs.Ytbojjpgekbljfaa
open Go.RowKit
set_option linter.unusedVariables false
set_option linter.unusedSimpArgs false
theorem zero2 (w : World) : (zeroValue 116).run Try.prog w = .ok (.agg ([(0 : UInt8), 0].map B8).toArray) w := by kernel_rfl
def SeedOk (w0 w : World) (f : Nat) (ds : List UInt8) (e : Ending) (w' : World) : Prop :=
  e = .returned (.tuple #[.int .u16 ((numB (ds.take 2) % 2048 : Nat) : Int), .nilIface]) ∧ FeedAt w0 w' f (ds.drop 2) ∧ w.grownBy w' (some f)
theorem u16_and11 (x : Nat) (h1 : x < 65536) : bits .and .u16 (x : Int) 2047 = ((x % 2048 : Nat) : Int) := by
  exact (bits_mask .u16 16 (by decide) wraps_u16 11 (by decide) (x : Int) (by omega) (by omega)).trans (by simp)
set_option maxRecDepth 100000 in
theorem seed_yes (w0 w : World) (g f : Nat) (cs : List Value) (hlc : 2 < cs.length) (hr : cs[2] = rdV f) (ds : List UInt8) (hd : 2 ≤ ds.length) (hdl : ds.length ≤ 70000) (hg : At w g 97 cs) (hf : FeedAt w0 w f ds) (hfg : f ≠ g) (h0 : Below w0.heap.size w0 w) (f0 : w0.heap.size ≤ f) :
    Calls Try.prog 69 #[.pointer (some ⟨g, 0, none⟩)] w (SeedOk w0 w f ds) := by
  obtain ⟨Z, hZ⟩ : ∃ Z, Z = [(0 : UInt8), 0].map B8 := ⟨_, rfl⟩
  have hz : ∀ w, (zeroValue 116).run Try.prog w = .ok (.agg Z.toArray) w := hZ ▸ zero2
  have HZ := Lib.hid (show Z.length = 2 by simp [hZ])
  obtain ⟨x0, x1, hx⟩ : ∃ x0 x1, ds.take 2 = [x0, x1] := by
    match ds, hd with
    | a :: b :: l, _ => exact ⟨a, b, rfl⟩
  have SP := Lib.hid (show splice Z 0 ((ds.take 2).map B8) = [B8 x0, B8 x1] by rw [hx]; exact splice_all _ _ (by simp [HZ.out]))
  have HX := Lib.hid hx
  have LC2 := Lib.hid hlc
  have HR2 := Lib.hid hr
  have HG := Lib.hid hg
  have HF := Lib.hid hf
  have H0 := Lib.hid h0
  have NGF := Lib.hid (Ne.symm hfg)
  clear hZ hg hf h0 hx hr
  go_enter Try.func69, Try.ntmps69
  go_wp2_with (refine wpList_var rfl 116 rfl (.agg Z.toArray) Z hz rfl ?_)
  intro w1 h1
  have s1 := Lib.hid (show w1.heap.size = w.heap.size + 1 from h1.size)
  have H1 := Lib.hid h1
  have G3 := Lib.hid (h1.keep HG.out)
  have B1 := h1.below (Below.refl w.heap.size w) (Nat.le_refl _)
  have F3 := Lib.hid (HF.out.eq (B1.block f HF.out.lt))
  have Z3 := Lib.hid (H0.out.trans (B1.mono H0.out.size))
  have NGB := Lib.hid (show g ≠ w.heap.size by have := HG.out.lt; omega)
  have NFB := Lib.hid (show f ≠ w.heap.size by have := HF.out.lt; omega)
  obtain ⟨b, hb⟩ : ∃ b, b = w.heap.size := ⟨_, rfl⟩
  have HB := Lib.hid hb
  rw [← hb] at NGB NFB
  have A3 := Lib.hid (show At w1 b 116 Z from hb ▸ h1.at_)
  clear h1 B1 hz
  rw [← hb]
  clear hb
  have R := Lib.hid (fun m => readFull_yes w0 (w1.drewN m) f b 0 2 2 116 Z ds (by omega) hd hdl (by omega) (by rw [HZ.out]; omega) F3.out A3.out NFB.out (below_drewN Z3.out m))
  go_wp2_with fail
  refine wp_region_rj (fun v => ⟨#[Value.pointer (some { block := g, off := 0 }), undef, Value.int IntKind.u16 0, Value.nilIface, Value.pointer (some { block := b, off := 0 }), v 9, v 10, v 6, v 0, v 1, v 2, v 3, v 4, v 5, v 7, v 8, undef, undef, undef, undef, undef, undef], []⟩) (RgC g f (.slice (some ⟨b, 0, none⟩) 2 2) (.int .i64 2) .nilIface 2)
    (fun d x => At x g 97 cs ∧ if d then FeedAt w0 x f (ds.drop 2) ∧ At x b 116 ([B8 x0, B8 x1]) ∧ Two w1 x f b else x = w1.drewN 1) 5
    (fun j => undef) [0, 1, 2, 3, 4, 5, 6, 7, 8, 9, 10] (by kernel_rfl) (by kernel_rfl) (by kernel_rfl) (by decide) rfl ⟨G3.out, rfl⟩ ?_ ?_
  · refine AllI.cons ?_ (AllI.cons ?_ (AllI.cons ?_ (AllI.cons ?_ (AllI.cons ?_ (AllI.cons ?_ (AllI.cons ?_ (AllI.cons ?_ (AllI.cons ?_ (AllI.cons ?_ (AllI.cons ?_ AllI.nil))))))))))
    · refine stepRJ [] rfl rfl rfl (by kernel_rfl) fun d v y hv hS K hK => ?_
      clear hS
      go_simp
      exact hK.out _ _ (by simp [upd]; try rfl) rfl
    · refine stepRJ [0] rfl rfl rfl (by kernel_rfl) fun d v y hv hS K hK => ?_
      clear hS
      have e0 := hv 0 rfl
      simp only [RgC, if_true, if_false] at e0
      go_simp
      exact hK.out _ _ (by simp [upd, e0]; try rfl) rfl
    · refine stepRJ [1] rfl rfl rfl (by kernel_rfl) fun d v y hv hS K hK => ?_
      clear hS
      have e1 := hv 1 rfl
      simp only [RgC, if_true, if_false] at e1
      go_simp
      exact hK.out _ _ (by simp [upd, e1]; try rfl) rfl
    · refine stepRJ [2] rfl rfl rfl (by kernel_rfl) fun d v y hv hS K hK => ?_
      have k1 : y.cell? ⟨g, 2, none⟩ = some (rdV f) := by rw [hS.1.cell 2 LC2.out, HR2.out]
      unfold rdV at k1
      clear hS
      have e2 := hv 2 rfl
      simp only [RgC, if_true, if_false] at e2
      go_simp
      exact hK.out _ _ (by simp [upd, e2]; try rfl) rfl
    · refine stepRJ [] rfl rfl rfl (by kernel_rfl) fun d v y hv hS K hK => ?_
      clear hS
      go_simp
      exact hK.out _ _ (by simp [upd]; try rfl) rfl
    · refine stepRJc [3, 4] rfl rfl (by kernel_rfl) fun v y hv hS K hK => ?_
      have e3 := hv 3 rfl
      have e4 := hv 4 rfl
      simp only [RgC, if_true, if_false] at e3 e4
      have hS2 : y = w1.drewN 1 := hS.2
      subst hS2
      clear hS
      unfold rdV at e3
      go_simp
      go_at_call 51
      refine (R.out 1).mono ?_
      rintro e y' ⟨rfl, r1, r2, r3⟩
      have R1 := Lib.hid r1
      have R2 := Lib.hid (show At y' b 116 ([B8 x0, B8 x1]) by rw [← SP.out]; exact r2)
      have R3 := Lib.hid (show Two w1 y' f b from ⟨r3.os, r3.tape, r3.output, r3.size, r3.block⟩)
      clear r1 r2 r3
      go_wp2_with fail
      exact hK.out _ _ _ (by simp [upd, e3, e4]) rfl ⟨R3.out.at_ G3.out NGF.out NGB.out, R1.out, R2.out, R3.out⟩
    · refine stepRJ [5] rfl rfl rfl (by kernel_rfl) fun d v y hv hS K hK => ?_
      clear hS
      have e5 := hv 5 rfl
      simp only [RgC, if_true, if_false] at e5
      go_simp
      exact hK.out _ _ (by simp [upd, e5]; try rfl) rfl
    · refine stepRJ [6] rfl rfl rfl (by kernel_rfl) fun d v y hv hS K hK => ?_
      clear hS
      have e6 := hv 6 rfl
      simp only [RgC, if_true, if_false] at e6
      go_simp
      exact hK.out _ _ (by simp [upd, e6]; try rfl) rfl
    · refine stepRJ [6] rfl rfl rfl (by kernel_rfl) fun d v y hv hS K hK => ?_
      clear hS
      have e6 := hv 6 rfl
      simp only [RgC, if_true, if_false] at e6
      go_simp
      exact hK.out _ _ (by simp [upd, e6]; try rfl) rfl
    · refine stepRJ [7] rfl rfl rfl (by kernel_rfl) fun d v y hv hS K hK => ?_
      clear hS
      have e7 := hv 7 rfl
      simp only [RgC, if_true, if_false] at e7
      go_simp
      exact hK.out _ _ (by simp [upd, e7]; try rfl) rfl
    · refine stepRJ [8] rfl rfl rfl (by kernel_rfl) fun d v y hv hS K hK => ?_
      clear hS
      have e8 := hv 8 rfl
      simp only [RgC, if_true, if_false] at e8
      go_simp
      exact hK.out _ _ (by simp [upd, e8]; try rfl) rfl
  · intro v y hv hS
    obtain ⟨-, r1, r2, r3⟩ : At y g 97 cs ∧ FeedAt w0 y f (ds.drop 2) ∧ At y b 116 [B8 x0, B8 x1] ∧ Two w1 y f b := hS
    have R1 := Lib.hid r1
    have R3 := Lib.hid r3
    have k0 : y.cell? ⟨b, 0, none⟩ = some (.int .u8 (x0.toNat : Int)) := r2.cell 0 (by simp)
    have k1 : y.cell? ⟨b, 0 + 1, none⟩ = some (.int .u8 (x1.toNat : Int)) := r2.cell 1 (by simp)
    have BE := Lib.hid (be16_any b 0 2 2 x0 x1 rfl y k0 k1)
    have nl : numB [x0, x1] < 65536 := by have := numB_lt [x0, x1] 2 (by simp); simpa using this
    have an := u16_and11 (numB [x0, x1]) nl
    have e9 : v 9 = .int .i64 2 := hv 9 (by decide)
    have e10 : v 10 = .nilIface := hv 10 (by decide)
    rw [e9, e10]
    clear hv r1 r2 r3 e9 e10 k0 k1
    go_wp2_with fail
    refine BE.out.mono ?_
    rintro e y2 ⟨rfl, b2⟩
    have B2 := Lib.hid b2
    clear b2
    go_wp2
    go_ret2
    have gr : w.grownBy y (some f) := Two.toGrown H1.out.grown R3.out (by rw [HB.out]; omega)
    exact ⟨by rw [HX.out]; exact congrArg (fun n => Ending.returned (.tuple #[.int .u16 n, .nilIface])) (by simp), R1.out.eq (B2.out.block f R1.out.lt), grown_trans' gr (grown_of_below B2.out _)⟩
end Go.Proofs.Ytbojjpgekbljfaa
