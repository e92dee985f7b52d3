/-
  The timestamps of UUIDs: TimestampFromV1, V6, V7.
-/
import Derived.Test.YtnofmiinbmfbnaaFromBytes
import Derived.Test.YtnofmiinbmfbnaaBeU
import Derived.Deep.QuietTactic
namespace Go.Proofs.Ytnofmiinbmfbnaa
open Go.RowKit
set_option linter.unusedVariables false
theorem At.get8 {w : World} {g : Nat} {t : TypeId} {bs : List UInt8} (h : At w g t (bs.map B8)) (i : Nat) (hi : i < bs.length) : w.cell? ⟨g, i, none⟩ = some (.int .u8 ((bs.getD i 0).toNat : Int)) := by
  rw [h.cell i (by simpa using hi)]; simp [B8, List.getD, hi]
def lowB (bs : List UInt8) : Nat := numB [bs.getD 0 0, bs.getD 1 0, bs.getD 2 0, bs.getD 3 0]
def midB (bs : List UInt8) : Nat := numB [bs.getD 4 0, bs.getD 5 0]
def hiB (bs : List UInt8) : Nat := numB [bs.getD 6 0, bs.getD 7 0]
theorem numB2_lt (a b : UInt8) : numB [a, b] < 65536 := by
  have := a.toNat_lt; have := b.toNat_lt; simp only [numB, List.foldl]; omega
theorem numB4_lt (a b c d : UInt8) : numB [a, b, c, d] < 4294967296 := by
  have := a.toNat_lt; have := b.toNat_lt; have := c.toNat_lt; have := d.toNat_lt; simp only [numB, List.foldl]; omega
theorem u16_and12 (x : Int) (h0 : 0 ≤ x) (h1 : x < 65536) : bits .and .u16 x 4095 = x % 4096 := bits_mask .u16 16 (by decide) wraps_u16 12 (by decide) x h0 h1
theorem u64_and12 (x : Int) (h0 : 0 ≤ x) (h1 : x < 18446744073709551616) : bits .and .u64 x 4095 = x % 4096 := bits_mask .u64 64 (by decide) wraps_u64 12 (by decide) x h0 h1
def stamp1 (bs : List UInt8) : Int := (lowB bs : Int) + (midB bs : Int) * 4294967296 + (hiB bs : Int) % 4096 * 281474976710656
def stamp6 (bs : List UInt8) : Int := (hiB bs : Int) % 4096 + (midB bs : Int) * 4096 + (lowB bs : Int) * 268435456
def stamp7 (bs : List UInt8) : Int := ((lowB bs : Int) * 65536 + (midB bs : Int)) * 10000 + 122192928000000000
set_option maxRecDepth 100000 in
theorem version_any (bs : List UInt8) (hbs : bs.length = 16) (x : UInt8) (hx : bs.getD 6 0 = x) (w : World) :
    Calls Try.prog 54 #[.agg (bs.map B8).toArray] w fun e w' => e = .returned (.int .u8 ((x.toNat : Int) / 16)) ∧ Below w.heap.size w w' := by
  have HL := Lib.hid hbs
  have HX := Lib.hid hx
  clear hbs hx
  go_enter Try.func54, Try.ntmps54
  go_wp2_with (refine wpList_boxed rfl 63 (.tmp 0) rfl (.agg (bs.map B8).toArray) (bs.map B8) (by rfl) rfl ?_)
  intro w1 h1
  have cx : w1.cell? ⟨w.heap.size, 6, none⟩ = some (.int .u8 (x.toNat : Int)) := by rw [h1.at_.get8 6 (by have := HL.out; omega), ← HX.out]
  have H1 := Lib.hid h1
  clear h1
  go_wp2
  go_ret
  exact ⟨rfl, H1.out.below (Below.refl _ _) (Nat.le_refl _)⟩
def StampYes (s : Int) (w : World) (e : Ending) (w' : World) : Prop := e = .returned (.tuple #[.int .u64 s, .nilIface]) ∧ Below w.heap.size w w'
def StampNo (w : World) (e : Ending) (w' : World) : Prop := (∃ T x, e = .returned (.tuple #[.int .u64 0, .iface T x])) ∧ Below w.heap.size w w'
set_option maxRecDepth 100000 in
theorem v1_yes (bs : List UInt8) (hbs : bs.length = 16) (x : UInt8) (hx : bs.getD 6 0 = x) (hv : (x.toNat : Int) / 16 = 1) (w : World) :
    Calls Try.prog 34 #[.agg (bs.map B8).toArray] w (StampYes (stamp1 bs) w) := by
  have HL := Lib.hid hbs
  have HX := Lib.hid hx
  obtain ⟨L, hL⟩ : ∃ L, L = lowB bs := ⟨_, rfl⟩
  obtain ⟨M, hM⟩ : ∃ M, M = midB bs := ⟨_, rfl⟩
  obtain ⟨H, hH⟩ : ∃ H, H = hiB bs := ⟨_, rfl⟩
  have q1 : (L : Int) < 4294967296 := by have := numB4_lt (bs.getD 0 0) (bs.getD 1 0) (bs.getD 2 0) (bs.getD 3 0); rw [hL, lowB]; omega
  have q2 : (M : Int) < 65536 := by have := numB2_lt (bs.getD 4 0) (bs.getD 5 0); rw [hM, midB]; omega
  have q3 : (H : Int) < 65536 := by have := numB2_lt (bs.getD 6 0) (bs.getD 7 0); rw [hH, hiB]; omega
  have ES : stamp1 bs = (L : Int) + (M : Int) * 4294967296 + (H : Int) % 4096 * 281474976710656 := by rw [stamp1, hL, hM, hH]
  rw [ES]
  have an := u16_and12 (H : Int) (by omega) q3
  have EL := Lib.hid hL
  have EM := Lib.hid hM
  have EH := Lib.hid hH
  clear hbs hx hL hM hH ES
  go_enter Try.func34, Try.ntmps34
  go_wp2_with (refine wpList_boxed rfl 63 (.tmp 0) rfl (.agg (bs.map B8).toArray) (bs.map B8) (by rfl) rfl ?_)
  intro w1 h1
  have H1 := Lib.hid h1
  clear h1
  go_wp2_with (refine wpList_get rfl 63 (.tmp 1) rfl w.heap.size (by rfl) 63 (bs.map B8) _ H1.out.at_ Try.underlying63 rfl (sizeU_of bs HL.out) ?_)
  go_wp2_with fail
  refine (version_any bs HL.out x HX.out w1).mono ?_
  rw [hv]
  rintro e w2 ⟨rfl, b2⟩
  have A2 := Lib.hid (H1.out.at_.below b2 (by have := H1.out.size; omega))
  have B2 := Lib.hid b2
  clear b2
  go_wp2_with fail
  have l16 := HL.out
  refine (be32_any w.heap.size 0 16 4 _ _ _ _ rfl w2 (A2.out.get8 0 (by omega)) (A2.out.get8 1 (by omega)) (A2.out.get8 2 (by omega)) (A2.out.get8 3 (by omega))).mono ?_
  rw [show numB [bs.getD 0 0, bs.getD 1 0, bs.getD 2 0, bs.getD 3 0] = L from EL.out.symm]
  rintro e w3 ⟨rfl, b3⟩
  clear l16
  have A3 := Lib.hid (A2.out.below b3 A2.out.lt)
  have B3 := Lib.hid b3
  clear b3
  go_wp2_with fail
  have l16 := HL.out
  refine (be16_any w.heap.size 4 12 2 _ _ rfl w3 (A3.out.get8 4 (by omega)) (A3.out.get8 5 (by omega))).mono ?_
  rw [show numB [bs.getD 4 0, bs.getD 5 0] = M from EM.out.symm]
  rintro e w4 ⟨rfl, b4⟩
  clear l16
  have A4 := Lib.hid (A3.out.below b4 A3.out.lt)
  have B4 := Lib.hid b4
  clear b4
  go_wp2_with fail
  have l16 := HL.out
  refine (be16_any w.heap.size 6 10 2 _ _ rfl w4 (A4.out.get8 6 (by omega)) (A4.out.get8 7 (by omega))).mono ?_
  rw [show numB [bs.getD 6 0, bs.getD 7 0] = H from EH.out.symm]
  rintro e w5 ⟨rfl, b5⟩
  clear l16
  have B5 := Lib.hid b5
  clear b5
  go_wp2
  go_ret2
  refine ⟨rfl, ?_⟩
  have s1 := H1.out.size
  have s2 := B2.out.size
  have s3 := B3.out.size
  have s4 := B4.out.size
  exact ((((H1.out.below (Below.refl _ _) (Nat.le_refl _)).trans (B2.out.mono (by omega))).trans (B3.out.mono (by omega))).trans (B4.out.mono (by omega))).trans (B5.out.mono (by omega))
set_option maxRecDepth 100000 in
theorem v6_yes (bs : List UInt8) (hbs : bs.length = 16) (x : UInt8) (hx : bs.getD 6 0 = x) (hv : (x.toNat : Int) / 16 = 6) (w : World) :
    Calls Try.prog 35 #[.agg (bs.map B8).toArray] w (StampYes (stamp6 bs) w) := by
  have HL := Lib.hid hbs
  have HX := Lib.hid hx
  obtain ⟨L, hL⟩ : ∃ L, L = lowB bs := ⟨_, rfl⟩
  obtain ⟨M, hM⟩ : ∃ M, M = midB bs := ⟨_, rfl⟩
  obtain ⟨H, hH⟩ : ∃ H, H = hiB bs := ⟨_, rfl⟩
  have q1 : (L : Int) < 4294967296 := by have := numB4_lt (bs.getD 0 0) (bs.getD 1 0) (bs.getD 2 0) (bs.getD 3 0); rw [hL, lowB]; omega
  have q2 : (M : Int) < 65536 := by have := numB2_lt (bs.getD 4 0) (bs.getD 5 0); rw [hM, midB]; omega
  have q3 : (H : Int) < 65536 := by have := numB2_lt (bs.getD 6 0) (bs.getD 7 0); rw [hH, hiB]; omega
  have ES : stamp6 bs = (H : Int) % 4096 + (M : Int) * 4096 + (L : Int) * 268435456 := by rw [stamp6, hL, hM, hH]
  rw [ES]
  have an := u16_and12 (H : Int) (by omega) q3
  have EL := Lib.hid hL
  have EM := Lib.hid hM
  have EH := Lib.hid hH
  clear hbs hx hL hM hH ES
  go_enter Try.func35, Try.ntmps35
  go_wp2_with (refine wpList_boxed rfl 63 (.tmp 0) rfl (.agg (bs.map B8).toArray) (bs.map B8) (by rfl) rfl ?_)
  intro w1 h1
  have H1 := Lib.hid h1
  clear h1
  go_wp2_with (refine wpList_get rfl 63 (.tmp 1) rfl w.heap.size (by rfl) 63 (bs.map B8) _ H1.out.at_ Try.underlying63 rfl (sizeU_of bs HL.out) ?_)
  go_wp2_with fail
  refine (version_any bs HL.out x HX.out w1).mono ?_
  rw [hv]
  rintro e w2 ⟨rfl, b2⟩
  have A2 := Lib.hid (H1.out.at_.below b2 (by have := H1.out.size; omega))
  have B2 := Lib.hid b2
  clear b2
  go_wp2_with fail
  have l16 := HL.out
  refine (be32_any w.heap.size 0 16 4 _ _ _ _ rfl w2 (A2.out.get8 0 (by omega)) (A2.out.get8 1 (by omega)) (A2.out.get8 2 (by omega)) (A2.out.get8 3 (by omega))).mono ?_
  rw [show numB [bs.getD 0 0, bs.getD 1 0, bs.getD 2 0, bs.getD 3 0] = L from EL.out.symm]
  rintro e w3 ⟨rfl, b3⟩
  clear l16
  have A3 := Lib.hid (A2.out.below b3 A2.out.lt)
  have B3 := Lib.hid b3
  clear b3
  go_wp2_with fail
  have l16 := HL.out
  refine (be16_any w.heap.size 4 12 2 _ _ rfl w3 (A3.out.get8 4 (by omega)) (A3.out.get8 5 (by omega))).mono ?_
  rw [show numB [bs.getD 4 0, bs.getD 5 0] = M from EM.out.symm]
  rintro e w4 ⟨rfl, b4⟩
  clear l16
  have A4 := Lib.hid (A3.out.below b4 A3.out.lt)
  have B4 := Lib.hid b4
  clear b4
  go_wp2_with fail
  have l16 := HL.out
  refine (be16_any w.heap.size 6 10 2 _ _ rfl w4 (A4.out.get8 6 (by omega)) (A4.out.get8 7 (by omega))).mono ?_
  rw [show numB [bs.getD 6 0, bs.getD 7 0] = H from EH.out.symm]
  rintro e w5 ⟨rfl, b5⟩
  clear l16
  have B5 := Lib.hid b5
  clear b5
  go_wp2
  go_ret2
  refine ⟨rfl, ?_⟩
  have s1 := H1.out.size
  have s2 := B2.out.size
  have s3 := B3.out.size
  have s4 := B4.out.size
  exact ((((H1.out.below (Below.refl _ _) (Nat.le_refl _)).trans (B2.out.mono (by omega))).trans (B3.out.mono (by omega))).trans (B4.out.mono (by omega))).trans (B5.out.mono (by omega))
set_option maxRecDepth 100000 in
theorem v1_no (bs : List UInt8) (hbs : bs.length = 16) (x : UInt8) (hx : bs.getD 6 0 = x) (hv : ((x.toNat : Int) / 16 == 1) = false) (w : World) :
    Calls Try.prog 34 #[.agg (bs.map B8).toArray] w (StampNo w) := by
  have HL := Lib.hid hbs
  have HX := Lib.hid hx
  obtain ⟨v, ev⟩ : ∃ v, v = (x.toNat : Int) / 16 := ⟨_, rfl⟩
  rw [← ev] at hv
  have EV := Lib.hid ev
  have t1 : (v != 1) = true := by rw [bne, hv]; rfl
  clear hbs hx ev
  go_enter Try.func34, Try.ntmps34
  go_wp2_with (refine wpList_boxed rfl 63 (.tmp 0) rfl (.agg (bs.map B8).toArray) (bs.map B8) (by rfl) rfl ?_)
  intro w1 h1
  have H1 := Lib.hid h1
  clear h1
  go_wp2_with (refine wpList_get rfl 63 (.tmp 1) rfl w.heap.size (by rfl) 63 (bs.map B8) _ H1.out.at_ Try.underlying63 rfl (sizeU_of bs HL.out) ?_)
  go_wp2_with fail
  refine (version_any bs HL.out x HX.out w1).mono ?_
  rw [← EV.out]
  rintro e w2 ⟨rfl, b2⟩
  have B2 := Lib.hid b2
  clear b2
  go_wp2
  go_ret2
  exact ⟨⟨_, _, rfl⟩, (H1.out.below (Below.refl _ _) (Nat.le_refl _)).trans (B2.out.mono (by have := H1.out.size; omega))⟩
set_option maxRecDepth 100000 in
theorem v6_no (bs : List UInt8) (hbs : bs.length = 16) (x : UInt8) (hx : bs.getD 6 0 = x) (hv : ((x.toNat : Int) / 16 == 6) = false) (w : World) :
    Calls Try.prog 35 #[.agg (bs.map B8).toArray] w (StampNo w) := by
  have HL := Lib.hid hbs
  have HX := Lib.hid hx
  obtain ⟨v, ev⟩ : ∃ v, v = (x.toNat : Int) / 16 := ⟨_, rfl⟩
  rw [← ev] at hv
  have EV := Lib.hid ev
  have t1 : (v != 6) = true := by rw [bne, hv]; rfl
  clear hbs hx ev
  go_enter Try.func35, Try.ntmps35
  go_wp2_with (refine wpList_boxed rfl 63 (.tmp 0) rfl (.agg (bs.map B8).toArray) (bs.map B8) (by rfl) rfl ?_)
  intro w1 h1
  have H1 := Lib.hid h1
  clear h1
  go_wp2_with (refine wpList_get rfl 63 (.tmp 1) rfl w.heap.size (by rfl) 63 (bs.map B8) _ H1.out.at_ Try.underlying63 rfl (sizeU_of bs HL.out) ?_)
  go_wp2_with fail
  refine (version_any bs HL.out x HX.out w1).mono ?_
  rw [← EV.out]
  rintro e w2 ⟨rfl, b2⟩
  have B2 := Lib.hid b2
  clear b2
  go_wp2
  go_ret2
  exact ⟨⟨_, _, rfl⟩, (H1.out.below (Below.refl _ _) (Nat.le_refl _)).trans (B2.out.mono (by have := H1.out.size; omega))⟩
set_option maxRecDepth 100000 in
theorem v7_no (bs : List UInt8) (hbs : bs.length = 16) (x : UInt8) (hx : bs.getD 6 0 = x) (hv : ((x.toNat : Int) / 16 == 7) = false) (w : World) :
    Calls Try.prog 36 #[.agg (bs.map B8).toArray] w (StampNo w) := by
  have HL := Lib.hid hbs
  have HX := Lib.hid hx
  obtain ⟨v, ev⟩ : ∃ v, v = (x.toNat : Int) / 16 := ⟨_, rfl⟩
  rw [← ev] at hv
  have EV := Lib.hid ev
  have t1 : (v != 7) = true := by rw [bne, hv]; rfl
  clear hbs hx ev
  go_enter Try.func36, Try.ntmps36
  go_wp2_with (refine wpList_boxed rfl 63 (.tmp 0) rfl (.agg (bs.map B8).toArray) (bs.map B8) (by rfl) rfl ?_)
  intro w1 h1
  have H1 := Lib.hid h1
  clear h1
  go_wp2_with (refine wpList_get rfl 63 (.tmp 1) rfl w.heap.size (by rfl) 63 (bs.map B8) _ H1.out.at_ Try.underlying63 rfl (sizeU_of bs HL.out) ?_)
  go_wp2_with fail
  refine (version_any bs HL.out x HX.out w1).mono ?_
  rw [← EV.out]
  rintro e w2 ⟨rfl, b2⟩
  have B2 := Lib.hid b2
  clear b2
  go_wp2
  go_ret2
  exact ⟨⟨_, _, rfl⟩, (H1.out.below (Below.refl _ _) (Nat.le_refl _)).trans (B2.out.mono (by have := H1.out.size; omega))⟩
end Go.Proofs.Ytnofmiinbmfbnaa
