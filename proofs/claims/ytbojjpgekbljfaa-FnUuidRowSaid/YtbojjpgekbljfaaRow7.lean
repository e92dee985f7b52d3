/-
  NewV7 of a generator that has made UUIDs before.
-/
import Derived.Test.YtbojjpgekbljfaaOrdLaw
namespace Go.Proofs.Ytbojjpgekbljfaa
open Go.RowKit
set_option linter.unusedVariables false
/-- The state of a generator of version 7. -/
structure St (w0 w : World) (g q f : Nat) (sec nano : Int) (N : Option Addr) (kN cN : Nat) (lr lm ct : Nat) (sd : Bool) (ds : List UInt8) : Prop where
  at_ : At w g 97 (gen7 (rdV f) (epV q) (hwV q) lr lm ct sd)
  feed : FeedAt w0 w f ds
  hfg : f ≠ g
  wor : At w q 51 (WorB sec nano N kN cN)
  hqg : q ≠ g
  hqf : q ≠ f
  h0 : Below w0.heap.size w0 w
  f0 : w0.heap.size ≤ f
  g0 : w0.heap.size ≤ g
  q0 : w0.heap.size ≤ q
theorem St.below {w0 w w' : World} {g q f : Nat} {sec nano : Int} {N : Option Addr} {kN cN : Nat} {lr lm ct : Nat} {sd : Bool} {ds : List UInt8} (h : St w0 w g q f sec nano N kN cN lr lm ct sd ds) (b : Below w.heap.size w w') : St w0 w' g q f sec nano N kN cN lr lm ct sd ds :=
  ⟨h.at_.below b h.at_.lt, h.feed.eq (b.block f h.feed.lt), h.hfg, h.wor.below b h.wor.lt, h.hqg, h.hqf, h.h0.trans (b.mono h.h0.size), h.f0, h.g0, h.q0⟩
def Made (w0 w : World) (g q f : Nat) (sec nano : Int) (N : Option Addr) (kN cN : Nat) (ms m c : Nat) (ds : List UInt8) (bs : List UInt8) (e : Ending) (w' : World) : Prop :=
  e = .returned (.tuple #[.agg (bs.map B8).toArray, .nilIface]) ∧ St w0 w' g q f sec nano N kN cN ms m c true ds ∧ Two w w' f g
set_option maxRecDepth 100000 in
theorem row7 {w0 w : World} {g q f : Nat} {sec nano : Int} {N : Option Addr} {kN cN : Nat} {lr lm ct : Nat} {sd : Bool} {ds ds' : List UInt8} (E : St w0 w g q f sec nano N kN cN lr lm ct sd ds) (h1 : 0 ≤ sec) (h2 : sec < 5000000000) (h3 : 0 ≤ nano) (h4 : nano < 1000000000) (ms m c : Nat) (hmse : (ms : Int) = sec * 1000 + nano / 1000000) (hst : V7Step ms lm ct sd true ds m c ds') (hm : m < 281474976710656) (hc : c < 4096) (r : UInt8) (rt : List UInt8) (hr : ds'.take 8 = r :: rt) (hd' : 8 ≤ ds'.length) (hms : ms < 281474976710656) (hlm : lm < 281474976710656) (hlr : lr < 281474976710656) (hct : ct < 65536) (hd : 2 ≤ ds.length) (hdl : ds.length ≤ 70000) (hdl' : ds'.length ≤ 70000) :
    Calls Try.prog 33 #[.pointer (some ⟨g, 0, none⟩)] w (Made w0 w g q f sec nano N kN cN ms m c (ds'.drop 8) (v7B m c r rt)) := by
  have F := Lib.hid (fun w1 (b : Below w.heap.size w w1) => newV7_any w0 w1 g f (epV q) (hwV q) lr lm ct sec nano h1 h2 h3 h4 ms hmse sd true ds ds' m c hst hm hc r rt hr hd' hms hlm hlr hct hd hdl hdl' (E.below b).at_ (E.below b).feed E.hfg (E.below b).h0 E.f0 E.g0)
  have NW := Lib.hid (fun w1 (b : Below w.heap.size w w1) => now_any q sec nano (by omega) (by omega) h3 h4 N kN cN w1 (E.below b).wor)
  have LRT : rt.length = 7 := by have h := congrArg List.length hr; rw [List.length_take] at h; simp at h; omega
  obtain ⟨D, hD⟩ : ∃ D, D = v7B m c r rt := ⟨_, rfl⟩
  have LD := Lib.hid (show D.length = 16 by rw [hD, v7B]; simp [LRT])
  have HBS := Lib.hid (sizeU_of D LD.out)
  obtain ⟨tv, htv⟩ : ∃ tv, tv = TimeV sec nano := ⟨_, rfl⟩
  rw [← hD, ← htv] at F
  rw [← htv] at NW
  rw [← hD]
  obtain ⟨Z, hZ⟩ : ∃ Z, Z = z16.map B8 := ⟨_, rfl⟩
  have hz : ∀ w, (zeroValue 56).run Try.prog w = .ok (.agg Z.toArray) w := hZ ▸ Try.zeroU
  have HZ := Lib.hid (show Z.length = 16 by simp [hZ, z16])
  have LG := Lib.hid E.at_.lt
  have LF := Lib.hid E.feed.lt
  have LQ := Lib.hid E.wor.lt
  have HG := Lib.hid E.at_
  have HE := Lib.hid E
  clear hZ hD htv hst hr hmse LRT E h1 h2 h3 h4
  go_enter Try.func33, Try.ntmps33
  go_wp2_with (refine wpList_var rfl 56 rfl (.agg Z.toArray) Z hz rfl ?_)
  intro w1 h1
  have H1 := Lib.hid h1
  have B1 := Lib.hid (h1.below (Below.refl w.heap.size w) (Nat.le_refl _))
  have k1 : w1.cell? ⟨g, 3, none⟩ = some (epV q) := (h1.keep HG.out).cell 3 (by simp [gen7])
  unfold epV at k1
  have X := Lib.hid (NW.out w1 B1.out)
  clear h1
  go_wp2_with fail
  refine X.out.mono ?_
  rintro e w2 ⟨rfl, b2⟩
  have B2 := Lib.hid (show Below w.heap.size w w2 from B1.out.trans (b2.mono B1.out.size))
  have Y := Lib.hid (F.out w2 B2.out)
  have E2 := Lib.hid (HE.out.below B2.out)
  have O2 := Lib.hid (H1.out.at_.below b2 (by have := H1.out.size; omega))
  have K2 := Lib.hid (show Two w w2 f g from (Two.none H1.out.grown).trans (Two.none (grown_of_below b2 _)))
  clear b2 k1
  go_wp2_with fail
  refine Y.out.mono ?_
  rintro e w3 ⟨rfl, a3, f3, t3⟩
  have O3 := Lib.hid (t3.at_ O2.out (by have := LF.out; omega) (by have := LG.out; omega))
  have K3 := Lib.hid (K2.out.trans t3)
  have E3 := Lib.hid (show St w0 w3 g q f sec nano N kN cN ms m c true (ds'.drop 8) from ⟨a3, f3, HE.out.hfg, t3.at_ E2.out.wor HE.out.hqf HE.out.hqg, HE.out.hqg, HE.out.hqf, t3.below E2.out.h0 E2.out.h0.size HE.out.f0 HE.out.g0, HE.out.f0, HE.out.g0, HE.out.q0⟩)
  clear a3 f3 t3
  go_wp2_with (refine wpList_put rfl 56 (.tmp 2) (.tmp 11) rfl w.heap.size (D.map B8) (by rfl) (by rfl) 56 Z O3.out HBS.out (by rw [HZ.out, List.length_map, LD.out]) (B8_one _) ?_)
  intro w4 h4
  have P4 := Lib.hid h4
  clear h4
  go_wp2
  refine ret_cell_tmp 2 56 3 rfl w.heap.size 56 (D.map B8) _ .nilIface rfl rfl P4.out.at_ Try.underlying56 rfl HBS.out rfl ?_
  have g4 := P4.out.grown
  have e3 := E3.out
  have lg := LG.out
  have lf := LF.out
  have lq := LQ.out
  exact ⟨rfl, ⟨e3.at_.grown g4 (by simp; omega), e3.feed.eq (g4.block f e3.feed.lt (by simp; omega)), e3.hfg, e3.wor.grown g4 (by simp; omega), e3.hqg, e3.hqf, e3.h0.grown g4 e3.h0.size (by simp; have := HE.out.h0.size; omega), e3.f0, e3.g0, e3.q0⟩, K3.out.put g4 (Nat.le_refl _)⟩
end Go.Proofs.Ytbojjpgekbljfaa
