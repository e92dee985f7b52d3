/-
  getHardwareAddr.
-/
import Derived.Test.YtbojjpgekbljfaaClock
import Derived.Test.YtbojjpgekbljfaaNow
import Derived.Test.YtbojjpgekbljfaaMaker
namespace Go.Proofs.Ytbojjpgekbljfaa
open Go.RowKit
set_option linter.unusedVariables false
set_option maxRecDepth 100000 in
theorem hw1_yes (w0 w : World) (g q pp pe : Nat) (s n : Int) (N : Option Addr) (cN : Nat) (node : List UInt8) (hnl : node.length = 6) (hN : Byt w0 N node) (cs : List Value) (hlc : cs.length = 17) (hr : cs[4] = hwV q) (hg : At w g 97 cs) (hq : At w q 51 (WorB s n N 6 cN)) (hp : At w pp 52 [.pointer (some ⟨g, 0, none⟩)]) (he : At w pe 58 [.nilIface]) (npg : pp ≠ g) (neg : pe ≠ g) (npe : pp ≠ pe) (nqe : q ≠ pe) (h0 : Below w0.heap.size w0 w) (g0 : w0.heap.size ≤ g) (e0 : w0.heap.size ≤ pe) :
    Calls Try.prog 62 #[.pointer (some ⟨pp, 0, none⟩), .pointer (some ⟨pe, 0, none⟩)] w fun e w' => e = .returned (.tuple #[]) ∧ PutB w w' g 97 (splice cs 7 (node.map B8)) := by
  have k1 : w.cell? ⟨pp, 0, none⟩ = some (.pointer (some ⟨g, 0, none⟩)) := hp.cell 0 (by simp)
  have k2 : w.cell? ⟨g, 4, none⟩ = some (hwV q) := by rw [hg.cell 4 (by omega), hr]
  have k3 : w.cell? ⟨pe, 0, none⟩ = some .nilIface := he.cell 0 (by simp)
  have f3 := he.frozen 0
  unfold hwV at k2
  have AD := Lib.hid (address_any q s n N 6 cN w hq)
  have PE := Lib.hid (PutB.setCell he 0 .nilIface)
  have HN := Lib.hid (hN.below (PE.out.below h0 h0.size e0) (Nat.le_refl _))
  have GE := Lib.hid (PE.out.keep hg (Ne.symm neg))
  have HG := Lib.hid hg
  have HP := Lib.hid hp
  have HE := Lib.hid he
  have LN := Lib.hid hnl
  have LC := Lib.hid hlc
  clear hg hq hp he hN h0
  go_enter Try.func62, Try.ntmps62
  go_wp2_with fail
  refine AD.out.mono ?_
  rintro e w1 ⟨rfl, rfl⟩
  go_wp2_with (refine wpList_copyB rfl (.tmp 16) (.tmp 17) 22 22 rfl 5 Try.underlying22 Try.size8 g 7 6 6 6 cN N (by rfl) (by rfl) cs 97 GE.out node HN.out LN.out 6 (by rfl) node (by rw [List.take_of_length_le]; exact Nat.le_of_eq LN.out) (by rw [LC.out]; omega) ?_)
  intro w2 h2
  have H2 := Lib.hid h2
  clear h2
  go_wp2
  refine bodyPost_ret (results_none rfl _ _ _) rfl ?_
  refine ⟨rfl, ⟨⟨?_, ?_, ?_, ?_, ?_⟩, ?_, H2.out.at_⟩⟩
  · rw [H2.out.grown.os]; rfl
  · rw [H2.out.grown.tape]; rfl
  · rw [H2.out.grown.output]; rfl
  · have := H2.out.grown.size; have := PE.out.size; omega
  · intro k hk hne
    have := PE.out.size
    rw [H2.out.grown.block k (by omega) hne]
    by_cases hke : k = pe
    · rw [hke]; exact PE.out.at_.trans (show w1.heap[pe]? = _ from HE.out).symm
    · exact PE.out.grown.block k hk (by simp; omega)
  · rw [H2.out.size, PE.out.size]
theorem genC_hw (r ep hw : Value) (lt sq : Nat) (node : List UInt8) (hl : node.length = 6) : splice ((genC r ep hw false lt sq [0, 0, 0, 0, 0, 0]).set 1 (.bool true)) 7 (node.map B8) = genC r ep hw true lt sq node := by
  have e : (genC r ep hw false lt sq [0, 0, 0, 0, 0, 0]).set 1 (.bool true) = [.bool true, .bool true, r, ep, hw, .int .u64 (lt : Int), .int .u16 (sq : Int), B8 0, B8 0, B8 0, B8 0, B8 0, B8 0, .int .u64 0, .int .u64 0, .int .u16 0, .bool false] := rfl
  rw [e]
  simp [splice, genC, hl]
def HwOk (w : World) (g q f : Nat) (T sq : Nat) (node : List UInt8) (e : Ending) (w' : World) : Prop :=
  e = .returned (.tuple #[.slice (some ⟨g, 7, none⟩) 6 6, .nilIface]) ∧ At w' g 97 (genC (rdV f) (epV q) (hwV q) true T sq node) ∧ w.grownBy w' (some g)
set_option maxRecDepth 100000 in
theorem hw_yes (w0 w : World) (g q f : Nat) (s n : Int) (N : Option Addr) (cN : Nat) (node : List UInt8) (hnl : node.length = 6) (hN : Byt w0 N node) (T sq : Nat) (hg : At w g 97 (genC (rdV f) (epV q) (hwV q) false T sq [0, 0, 0, 0, 0, 0])) (hq : At w q 51 (WorB s n N 6 cN)) (hqg : q ≠ g) (h0 : Below w0.heap.size w0 w) (g0 : w0.heap.size ≤ g) :
    Calls Try.prog 47 #[.pointer (some ⟨g, 0, none⟩)] w (HwOk w g q f T sq node) := by
  have hmf := Try.hmf
  have HG := Lib.hid hg
  have HQ := Lib.hid hq
  have H0 := Lib.hid h0
  have HN := Lib.hid hN
  have LG := Lib.hid hg.lt
  have LQ := Lib.hid hq.lt
  clear hg hq h0 hN
  go_enter Try.func47, Try.ntmps47
  go_wp2_with (refine wpList_boxed rfl 52 (.tmp 0) rfl (.pointer (some ⟨g, 0, none⟩)) [.pointer (some ⟨g, 0, none⟩)] (by rfl) rfl ?_)
  intro w1 h1
  have H1 := Lib.hid h1
  clear h1
  go_wp2_with (refine wpList_var rfl 58 rfl .nilIface [.nilIface] (fun w => by kernel_rfl) rfl ?_)
  intro w2 h2
  have s1 := Lib.hid (show w1.heap.size = w.heap.size + 1 from H1.out.size)
  have gw := Lib.hid (show w.grownBy w2 none from grown_trans' H1.out.grown h2.grown)
  have P2 := Lib.hid (h2.keep H1.out.at_)
  have E2 := Lib.hid h2.at_
  have G2 := Lib.hid (h2.keep (H1.out.keep HG.out))
  have Q2 := Lib.hid (h2.keep (H1.out.keep HQ.out))
  have Z2 := Lib.hid (show Below w0.heap.size w0 w2 from H0.out.grown gw.out H0.out.size (by simp))
  clear h2
  obtain ⟨pp, hpp⟩ : ∃ pp, pp = w.heap.size := ⟨_, rfl⟩
  obtain ⟨pe, hpe⟩ : ∃ pe, pe = w1.heap.size := ⟨_, rfl⟩
  have ePP := Lib.hid hpp
  have ePE := Lib.hid (show pe = w.heap.size + 1 by rw [hpe, s1.out])
  rw [← hpp] at P2
  rw [← hpe] at E2
  rw [← hpp, ← hpe]
  clear hpp hpe
  have k1 : w2.cell? ⟨pp, 0, none⟩ = some (.pointer (some ⟨g, 0, none⟩)) := P2.out.cell 0 (by simp)
  have k2 : w2.cell? ⟨g, 1, none⟩ = some (.bool false) := G2.out.cell 1 (by simp [genC])
  have k3 := G2.out.frozen 1
  go_wp2_with fail
  have P4 := PutB.setCell G2.out 1 (.bool true)
  generalize w2.setCell ⟨g, 1, none⟩ (.bool true) = w4 at P4 ⊢
  have g4 := Lib.hid P4.grown
  have G4 := Lib.hid P4.at_
  have Z4 := Lib.hid (Z2.out.grown P4.grown Z2.out.size (by simp; omega))
  have NP := Lib.hid (show pp ≠ g ∧ pe ≠ g ∧ pp ≠ pe ∧ q ≠ pe ∧ w0.heap.size ≤ pe by have := ePP.out; have := ePE.out; have := LG.out; have := LQ.out; have := H0.out.size; omega)
  have Q4 := Lib.hid (P4.keep Q2.out hqg)
  have R4 := Lib.hid (P4.keep P2.out NP.out.1)
  have E4 := Lib.hid (P4.keep E2.out NP.out.2.1)
  clear P4 k1 k2 k3
  refine (hw1_yes w0 w4 g q pp pe s n N cN node hnl HN.out _ (by simp [genC]) (by rfl) G4.out Q4.out R4.out E4.out NP.out.1 NP.out.2.1 NP.out.2.2.1 NP.out.2.2.2.1 Z4.out g0 NP.out.2.2.2.2).mono ?_
  rintro e w5 ⟨rfl, p5⟩
  rw [genC_hw _ _ _ _ _ _ hnl] at p5
  have G5 := Lib.hid p5.at_
  have g5 := Lib.hid p5.grown
  have k1 : w5.cell? ⟨pp, 0, none⟩ = some (.pointer (some ⟨g, 0, none⟩)) := (p5.keep R4.out NP.out.1).cell 0 (by simp)
  have k2 : w5.cell? ⟨pe, 0, none⟩ = some .nilIface := (p5.keep E4.out NP.out.2.1).cell 0 (by simp)
  clear p5
  go_wp2
  go_ret2
  exact ⟨rfl, G5.out, grown_trans' (World.grownBy_mono' gw.out) (grown_trans' g4.out g5.out)⟩
end Go.Proofs.Ytbojjpgekbljfaa
