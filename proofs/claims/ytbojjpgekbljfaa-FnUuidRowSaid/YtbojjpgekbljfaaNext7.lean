/-
  nextV7Sequence.
-/
import Derived.Test.YtbojjpgekbljfaaSeed
namespace Go.Proofs.Ytbojjpgekbljfaa
open Go.RowKit
set_option linter.unusedVariables false
def gen7 (r ep hw : Value) (lr lm ct : Nat) (sd : Bool) : List Value := [.bool false, .bool false, r, ep, hw, .int .u64 0, .int .u16 0, .int .u8 0, .int .u8 0, .int .u8 0, .int .u8 0, .int .u8 0, .int .u8 0, .int .u64 (lr : Int), .int .u64 (lm : Int), .int .u16 (ct : Int), .bool sd]
theorem genB_7 (r ep hw : Value) : genB r ep hw = gen7 r ep hw 0 0 0 false := rfl
def Next7 (w0 w : World) (g f : Nat) (ds : List UInt8) (ep hw : Value) (m c lr : Nat) (e : Ending) (w' : World) : Prop :=
  e = .returned (.tuple #[.int .u64 (m : Int), .int .u16 (c : Int), .nilIface]) ∧ At w' g 97 (gen7 (rdV f) ep hw lr m c true) ∧ FeedAt w0 w' f ds ∧ Two w w' f g
set_option maxRecDepth 100000 in
theorem next7_fresh (w0 w : World) (g f : Nat) (ep hw : Value) (lr lm ct : Nat) (ms : Nat) (cl : Bool)  (hms : ms < 281474976710656) (hlm : lm < 281474976710656) (hlr : lr < 281474976710656) (hct : ct < 65536) (ds : List UInt8) (hd : 2 ≤ ds.length) (hdl : ds.length ≤ 70000) (hg : At w g 97 (gen7 (rdV f) ep hw lr lm ct false)) (hf : FeedAt w0 w f ds) (hfg : f ≠ g) (h0 : Below w0.heap.size w0 w) (f0 : w0.heap.size ≤ f) (g0 : w0.heap.size ≤ g) :
    Calls Try.prog 65 #[.pointer (some ⟨g, 0, none⟩), .int .u64 (ms : Int), .bool cl] w (Next7 w0 w g f (ds.drop 2) ep hw ms (numB (ds.take 2) % 2048) ms) := by
  have HG := Lib.hid hg
  have HF := Lib.hid hf
  have H0 := Lib.hid h0
  have SX := Lib.hid (seed_yes w0 w g f (gen7 (rdV f) ep hw lr lm ct false) (by simp [gen7]) (by simp [gen7]) ds hd hdl hg hf hfg h0 f0)
  have CB := Lib.hid (show numB (ds.take 2) % 2048 < 2048 from Nat.mod_lt _ (by omega))
  obtain ⟨cn, hcn⟩ : ∃ cn, cn = numB (ds.take 2) % 2048 := ⟨_, rfl⟩
  have HCN := Lib.hid hcn
  rw [← hcn] at CB ⊢
  have CB' := CB.out
  clear hcn
  have k16 : w.cell? ⟨g, 16, none⟩ = some (.bool false) := hg.cell 16 (by simp [gen7])
  have k14 : w.cell? ⟨g, 14, none⟩ = some (.int .u64 (lm : Int)) := hg.cell 14 (by simp [gen7])
  have k13 : w.cell? ⟨g, 13, none⟩ = some (.int .u64 (lr : Int)) := hg.cell 13 (by simp [gen7])
  have k15 : w.cell? ⟨g, 15, none⟩ = some (.int .u16 (ct : Int)) := hg.cell 15 (by simp [gen7])
  clear hg hf h0
  go_enter Try.func65, Try.ntmps65
  go_wp2_with fail
  refine (SX.out).mono ?_
  rintro e w1 ⟨rfl, hf1, g1⟩
  rw [← HCN.out]
  have F1 := Lib.hid hf1
  have G1 := Lib.hid g1
  have A1 := HG.out.grown g1 (by simp; omega)
  have q13 := A1.frozen 13
  have q14 := A1.frozen 14
  have q15 := A1.frozen 15
  have q16 := A1.frozen 16
  have j13 : w1.cell? ⟨g, 13, none⟩ = some (.int .u64 (lr : Int)) := A1.cell 13 (by simp [gen7])
  have j14 : w1.cell? ⟨g, 14, none⟩ = some (.int .u64 (lm : Int)) := A1.cell 14 (by simp [gen7])
  have j15 : w1.cell? ⟨g, 15, none⟩ = some (.int .u16 (ct : Int)) := A1.cell 15 (by simp [gen7])
  have j16 : w1.cell? ⟨g, 16, none⟩ = some (.bool false) := A1.cell 16 (by simp [gen7])
  have HA1 := Lib.hid A1
  clear hf1 g1 k13 k14 k15 k16 A1
  go_wp2_with fail
  go_wp2
  go_ret3
  have P1 := PutB.setCell HA1.out 16 (.bool true)
  have P2 := P1.trans (PutB.setCell P1.at_ 14 (.int .u64 (ms : Int)))
  have P3 := P2.trans (PutB.setCell P2.at_ 13 (.int .u64 (ms : Int)))
  have P4 := P3.trans (PutB.setCell P3.at_ 15 (.int .u16 (cn : Int)))
  exact ⟨rfl, P4.at_, F1.out.eq (P4.grown.block f F1.out.lt (by simp; omega)), (Two.left G1.out).trans (Two.right P4.grown)⟩
set_option maxRecDepth 100000 in
theorem next7_later (w0 w : World) (g f : Nat) (ep hw : Value) (lr lm ct : Nat) (ms : Nat) (cl : Bool) (hgt : lm < ms) (hms : ms < 281474976710656) (hlm : lm < 281474976710656) (hlr : lr < 281474976710656) (hct : ct < 65536) (ds : List UInt8) (hd : 2 ≤ ds.length) (hdl : ds.length ≤ 70000) (hg : At w g 97 (gen7 (rdV f) ep hw lr lm ct true)) (hf : FeedAt w0 w f ds) (hfg : f ≠ g) (h0 : Below w0.heap.size w0 w) (f0 : w0.heap.size ≤ f) (g0 : w0.heap.size ≤ g) :
    Calls Try.prog 65 #[.pointer (some ⟨g, 0, none⟩), .int .u64 (ms : Int), .bool cl] w (Next7 w0 w g f (ds.drop 2) ep hw ms (numB (ds.take 2) % 2048) ms) := by
  have HG := Lib.hid hg
  have HF := Lib.hid hf
  have H0 := Lib.hid h0
  have SX := Lib.hid (seed_yes w0 w g f (gen7 (rdV f) ep hw lr lm ct true) (by simp [gen7]) (by simp [gen7]) ds hd hdl hg hf hfg h0 f0)
  have CB := Lib.hid (show numB (ds.take 2) % 2048 < 2048 from Nat.mod_lt _ (by omega))
  obtain ⟨cn, hcn⟩ : ∃ cn, cn = numB (ds.take 2) % 2048 := ⟨_, rfl⟩
  have HCN := Lib.hid hcn
  rw [← hcn] at CB ⊢
  have CB' := CB.out
  clear hcn
  have k16 : w.cell? ⟨g, 16, none⟩ = some (.bool true) := hg.cell 16 (by simp [gen7])
  have k14 : w.cell? ⟨g, 14, none⟩ = some (.int .u64 (lm : Int)) := hg.cell 14 (by simp [gen7])
  have k13 : w.cell? ⟨g, 13, none⟩ = some (.int .u64 (lr : Int)) := hg.cell 13 (by simp [gen7])
  have k15 : w.cell? ⟨g, 15, none⟩ = some (.int .u16 (ct : Int)) := hg.cell 15 (by simp [gen7])
  clear hg hf h0
  go_enter Try.func65, Try.ntmps65
  go_wp2_with fail
  refine (SX.out).mono ?_
  rintro e w1 ⟨rfl, hf1, g1⟩
  rw [← HCN.out]
  have F1 := Lib.hid hf1
  have G1 := Lib.hid g1
  have A1 := HG.out.grown g1 (by simp; omega)
  have q13 := A1.frozen 13
  have q14 := A1.frozen 14
  have q15 := A1.frozen 15
  have q16 := A1.frozen 16
  have j13 : w1.cell? ⟨g, 13, none⟩ = some (.int .u64 (lr : Int)) := A1.cell 13 (by simp [gen7])
  have j14 : w1.cell? ⟨g, 14, none⟩ = some (.int .u64 (lm : Int)) := A1.cell 14 (by simp [gen7])
  have j15 : w1.cell? ⟨g, 15, none⟩ = some (.int .u16 (ct : Int)) := A1.cell 15 (by simp [gen7])
  have j16 : w1.cell? ⟨g, 16, none⟩ = some (.bool true) := A1.cell 16 (by simp [gen7])
  have HA1 := Lib.hid A1
  clear hf1 g1 k13 k14 k15 k16 A1
  go_wp2_with fail
  go_wp2
  go_ret3
  have P1 := PutB.setCell HA1.out 16 (.bool true)
  have P2 := P1.trans (PutB.setCell P1.at_ 14 (.int .u64 (ms : Int)))
  have P3 := P2.trans (PutB.setCell P2.at_ 13 (.int .u64 (ms : Int)))
  have P4 := P3.trans (PutB.setCell P3.at_ 15 (.int .u16 (cn : Int)))
  exact ⟨rfl, P4.at_, F1.out.eq (P4.grown.block f F1.out.lt (by simp; omega)), (Two.left G1.out).trans (Two.right P4.grown)⟩
set_option maxRecDepth 100000 in
theorem next7_full (w0 w : World) (g f : Nat) (ep hw : Value) (lr lm ct : Nat) (ms : Nat) (cl : Bool) (hle : ms ≤ lm) (hct2 : 4095 ≤ ct) (hms : ms < 281474976710656) (hlm : lm < 281474976710656) (hlr : lr < 281474976710656) (hct : ct < 65536) (ds : List UInt8) (hd : 2 ≤ ds.length) (hdl : ds.length ≤ 70000) (hg : At w g 97 (gen7 (rdV f) ep hw lr lm ct true)) (hf : FeedAt w0 w f ds) (hfg : f ≠ g) (h0 : Below w0.heap.size w0 w) (f0 : w0.heap.size ≤ f) (g0 : w0.heap.size ≤ g) :
    Calls Try.prog 65 #[.pointer (some ⟨g, 0, none⟩), .int .u64 (ms : Int), .bool true] w (Next7 w0 w g f (ds.drop 2) ep hw (lm + 1) (numB (ds.take 2) % 2048) ms) := by
  have HG := Lib.hid hg
  have HF := Lib.hid hf
  have H0 := Lib.hid h0
  have SX := Lib.hid (seed_yes w0 w g f (gen7 (rdV f) ep hw lr lm ct true) (by simp [gen7]) (by simp [gen7]) ds hd hdl hg hf hfg h0 f0)
  have CB := Lib.hid (show numB (ds.take 2) % 2048 < 2048 from Nat.mod_lt _ (by omega))
  obtain ⟨cn, hcn⟩ : ∃ cn, cn = numB (ds.take 2) % 2048 := ⟨_, rfl⟩
  have HCN := Lib.hid hcn
  rw [← hcn] at CB ⊢
  have CB' := CB.out
  clear hcn
  have k16 : w.cell? ⟨g, 16, none⟩ = some (.bool true) := hg.cell 16 (by simp [gen7])
  have k14 : w.cell? ⟨g, 14, none⟩ = some (.int .u64 (lm : Int)) := hg.cell 14 (by simp [gen7])
  have k13 : w.cell? ⟨g, 13, none⟩ = some (.int .u64 (lr : Int)) := hg.cell 13 (by simp [gen7])
  have k15 : w.cell? ⟨g, 15, none⟩ = some (.int .u16 (ct : Int)) := hg.cell 15 (by simp [gen7])
  clear hg hf h0
  go_enter Try.func65, Try.ntmps65
  go_wp2_with fail
  refine (SX.out).mono ?_
  rintro e w1 ⟨rfl, hf1, g1⟩
  rw [← HCN.out]
  have F1 := Lib.hid hf1
  have G1 := Lib.hid g1
  have A1 := HG.out.grown g1 (by simp; omega)
  have q13 := A1.frozen 13
  have q14 := A1.frozen 14
  have q15 := A1.frozen 15
  have q16 := A1.frozen 16
  have j13 : w1.cell? ⟨g, 13, none⟩ = some (.int .u64 (lr : Int)) := A1.cell 13 (by simp [gen7])
  have j14 : w1.cell? ⟨g, 14, none⟩ = some (.int .u64 (lm : Int)) := A1.cell 14 (by simp [gen7])
  have j15 : w1.cell? ⟨g, 15, none⟩ = some (.int .u16 (ct : Int)) := A1.cell 15 (by simp [gen7])
  have j16 : w1.cell? ⟨g, 16, none⟩ = some (.bool true) := A1.cell 16 (by simp [gen7])
  have HA1 := Lib.hid A1
  clear hf1 g1 k13 k14 k15 k16 A1
  go_wp2_with fail
  have P1 := PutB.setCell HA1.out 14 (.int .u64 ((lm : Int) + 1))
  have P2 := P1.trans (PutB.setCell P1.at_ 15 (.int .u16 (cn : Int)))
  have P3 := P2.trans (PutB.setCell P2.at_ 13 (.int .u64 (ms : Int)))
  generalize ((w1.setCell ⟨g, 14, none⟩ (.int .u64 ((lm : Int) + 1))).setCell ⟨g, 15, none⟩ (.int .u16 (cn : Int))).setCell ⟨g, 13, none⟩ (.int .u64 (ms : Int)) = w3 at P3 ⊢
  have A3 : At w3 g 97 (gen7 (rdV f) ep hw ms (lm + 1) cn true) := P3.at_
  have F3 := Lib.hid (F1.out.eq (P3.grown.block f F1.out.lt (by simp; omega)))
  have T3 := Lib.hid (show Two w w3 f g from (Two.left G1.out).trans (Two.right P3.grown))
  clear P1 P2 P3 j13 j14 j15 j16 q13 q14 q15 q16
  have a13 : w3.cell? ⟨g, 14, none⟩ = some (.int .u64 ((lm + 1 : Nat) : Int)) := A3.cell 14 (by simp [gen7])
  have a15 : w3.cell? ⟨g, 15, none⟩ = some (.int .u16 (cn : Int)) := A3.cell 15 (by simp [gen7])
  have HA3 := Lib.hid A3
  clear A3
  go_quiet (fail)
  go_wp2
  go_ret3
  refine ⟨rfl, HA3.out.drewN _, F3.out, T3.out.drewN _⟩
set_option maxRecDepth 100000 in
theorem next7_more (w0 w : World) (g f : Nat) (ep hw : Value) (lr lm ct : Nat) (ms : Nat) (cl : Bool) (hle : ms ≤ lm) (hct2 : ct < 4095) (hms : ms < 281474976710656) (hlm : lm < 281474976710656) (hlr : lr < 281474976710656) (hct : ct < 65536) (ds : List UInt8) (hdl : ds.length ≤ 70000) (hg : At w g 97 (gen7 (rdV f) ep hw lr lm ct true)) (hf : FeedAt w0 w f ds) (hfg : f ≠ g) (h0 : Below w0.heap.size w0 w) (f0 : w0.heap.size ≤ f) (g0 : w0.heap.size ≤ g) :
    Calls Try.prog 65 #[.pointer (some ⟨g, 0, none⟩), .int .u64 (ms : Int), .bool true] w (Next7 w0 w g f ds ep hw lm (ct + 1) ms) := by
  have HG := Lib.hid hg
  have HF := Lib.hid hf
  have H0 := Lib.hid h0
  have k16 : w.cell? ⟨g, 16, none⟩ = some (.bool true) := hg.cell 16 (by simp [gen7])
  have k14 : w.cell? ⟨g, 14, none⟩ = some (.int .u64 (lm : Int)) := hg.cell 14 (by simp [gen7])
  have k13 : w.cell? ⟨g, 13, none⟩ = some (.int .u64 (lr : Int)) := hg.cell 13 (by simp [gen7])
  have k15 : w.cell? ⟨g, 15, none⟩ = some (.int .u16 (ct : Int)) := hg.cell 15 (by simp [gen7])
  have q13 := hg.frozen 13
  have q15 := hg.frozen 15
  clear hg hf h0
  go_enter Try.func65, Try.ntmps65
  go_wp2_with fail
  have P1 := PutB.setCell HG.out 15 (.int .u16 ((ct : Int) + 1))
  have P3 := P1.trans (PutB.setCell P1.at_ 13 (.int .u64 (ms : Int)))
  generalize (w.setCell ⟨g, 15, none⟩ (.int .u16 ((ct : Int) + 1))).setCell ⟨g, 13, none⟩ (.int .u64 (ms : Int)) = w3 at P3 ⊢
  have A3 : At w3 g 97 (gen7 (rdV f) ep hw ms lm (ct + 1) true) := P3.at_
  have F3 := Lib.hid (HF.out.eq (P3.grown.block f HF.out.lt (by simp; omega)))
  have T3 := Lib.hid (show Two w w3 f g from Two.right P3.grown)
  clear P1 P3 k13 k14 k15 k16 q13 q15
  have a13 : w3.cell? ⟨g, 14, none⟩ = some (.int .u64 (lm : Int)) := A3.cell 14 (by simp [gen7])
  have a15 : w3.cell? ⟨g, 15, none⟩ = some (.int .u16 ((ct + 1 : Nat) : Int)) := A3.cell 15 (by simp [gen7])
  have HA3 := Lib.hid A3
  clear A3
  go_quiet (fail)
  go_wp2
  go_ret3
  refine ⟨rfl, HA3.out.drewN _, F3.out, T3.out.drewN _⟩
end Go.Proofs.Ytbojjpgekbljfaa
