/-
  The canonical text of a UUID: what encodeCanonical writes, by its definition, and that it does.
-/
import Derived.Test.YtnofmiinbmfbnaaUuid
namespace Go.Proofs.Ytnofmiinbmfbnaa
open Go.RowKit
set_option linter.unusedVariables false
def posN (k : Nat) : Nat := [0, 2, 4, 6, 9, 11, 14, 16, 19, 21, 24, 26, 28, 30, 32, 34].getD k 0
def hexd (n : Nat) : UInt8 := [48, 49, 50, 51, 52, 53, 54, 55, 56, 57, 97, 98, 99, 100, 101, 102].getD n 48
def encStep (cur : List UInt8) (p : Nat) (b : UInt8) : List UInt8 := (cur.set p (hexd (b.toNat / 16))).set (p + 1) (hexd (b.toNat % 16))
def dashes : List UInt8 := (((((List.replicate 36 (0 : UInt8)).set 8 45).set 13 45).set 18 45).set 23 45)
def encK (bs : List UInt8) : Nat → List UInt8
  | 0 => dashes
  | k + 1 => encStep (encK bs k) (posN k) (bs.getD k 0)
theorem encK_length (bs : List UInt8) : ∀ k, (encK bs k).length = 36
  | 0 => by simp [encK, dashes]
  | k + 1 => by simp [encK, encStep, encK_length bs k]
theorem posN_le (k : Nat) (h : k < 16) : posN k ≤ 34 := by
  have : ∀ k : Fin 16, posN k.val ≤ 34 := by decide
  exact this ⟨k, h⟩
theorem hex_hi (b : UInt8) (w : World) : (Instr.index 9 (.string ⟨#[48, 49, 50, 51, 52, 53, 54, 55, 56, 57, 97, 98, 99, 100, 101, 102]⟩) (.int .u8 ((b.toNat : Int) / 16))).run Try.prog w = .ok (.int .u8 ((hexd (b.toNat / 16)).toNat : Int)) w := by
  have hb : b.toNat / 16 < 16 := by have := b.toNat_lt; omega
  rw [show ((b.toNat : Int) / 16) = ((b.toNat / 16 : Nat) : Int) by omega]
  generalize b.toNat / 16 = n at hb
  have h : n = 0 ∨ n = 1 ∨ n = 2 ∨ n = 3 ∨ n = 4 ∨ n = 5 ∨ n = 6 ∨ n = 7 ∨ n = 8 ∨ n = 9 ∨ n = 10 ∨ n = 11 ∨ n = 12 ∨ n = 13 ∨ n = 14 ∨ n = 15 := by omega
  rcases h with rfl | rfl | rfl | rfl | rfl | rfl | rfl | rfl | rfl | rfl | rfl | rfl | rfl | rfl | rfl | rfl <;> (show _ = _; kernel_rfl)
theorem hex_lo (b : UInt8) (w : World) : (Instr.index 9 (.string ⟨#[48, 49, 50, 51, 52, 53, 54, 55, 56, 57, 97, 98, 99, 100, 101, 102]⟩) (.int .u8 ((b.toNat : Int) % 16))).run Try.prog w = .ok (.int .u8 ((hexd (b.toNat % 16)).toNat : Int)) w := by
  have hb : b.toNat % 16 < 16 := by omega
  rw [show ((b.toNat : Int) % 16) = ((b.toNat % 16 : Nat) : Int) by omega]
  generalize b.toNat % 16 = n at hb
  have h : n = 0 ∨ n = 1 ∨ n = 2 ∨ n = 3 ∨ n = 4 ∨ n = 5 ∨ n = 6 ∨ n = 7 ∨ n = 8 ∨ n = 9 ∨ n = 10 ∨ n = 11 ∨ n = 12 ∨ n = 13 ∨ n = 14 ∨ n = 15 := by omega
  rcases h with rfl | rfl | rfl | rfl | rfl | rfl | rfl | rfl | rfl | rfl | rfl | rfl | rfl | rfl | rfl | rfl <;> (show _ = _; kernel_rfl)
theorem and_15 (b : UInt8) : bits .and .u8 (b.toNat : Int) 15 = (b.toNat : Int) % 16 := by
  rw [show (15 : Int) = ((15 : UInt8).toNat : Int) from rfl, u8_and]
  exact forall_u8 (p := fun b => ((b &&& 15).toNat : Int) = (b.toNat : Int) % 16) (by decide +kernel) b
abbrev posArr : Value := .agg #[.int .u8 0, .int .u8 2, .int .u8 4, .int .u8 6, .int .u8 9, .int .u8 11, .int .u8 14, .int .u8 16, .int .u8 19, .int .u8 21, .int .u8 24, .int .u8 26, .int .u8 28, .int .u8 30, .int .u8 32, .int .u8 34]
theorem pos_at (k : Nat) (hk : k < 16) (w : World) : (Instr.index 62 posArr (.int .i64 (k : Int))).run Try.prog w = .ok (.int .u8 (posN k : Int)) w := by
  have h : k = 0 ∨ k = 1 ∨ k = 2 ∨ k = 3 ∨ k = 4 ∨ k = 5 ∨ k = 6 ∨ k = 7 ∨ k = 8 ∨ k = 9 ∨ k = 10 ∨ k = 11 ∨ k = 12 ∨ k = 13 ∨ k = 14 ∨ k = 15 := by omega
  rcases h with rfl | rfl | rfl | rfl | rfl | rfl | rfl | rfl | rfl | rfl | rfl | rfl | rfl | rfl | rfl | rfl <;> (show _ = _; kernel_rfl)
set_option maxRecDepth 100000 in
theorem encode_any (g : Nat) (t : TypeId) (bs : List UInt8) (hbs : bs.length = 16) (w : World) (hg : At w g t ((List.replicate 36 (0 : UInt8)).map B8)) :
    Calls Try.prog 53 #[.slice (some ⟨g, 0, none⟩) 36 36, .agg (bs.map B8).toArray] w fun e w' => e = .returned (.tuple #[]) ∧ At w' g t ((encK bs 16).map B8) ∧ w.grownBy w' (some g) := by
  have HG := Lib.hid hg
  have HL := Lib.hid hbs
  clear hg hbs
  go_enter Try.func53, Try.ntmps53
  go_wp2_with (refine wpList_boxed rfl 63 (.tmp 1) rfl (.agg (bs.map B8).toArray) (bs.map B8) (by rfl) rfl ?_)
  intro w1 h1
  have c8 : w1.cell? ⟨g, 8, none⟩ = some (.int .u8 0) := by rw [(h1.keep HG.out).cell 8 (by simp)]; simp [B8]
  have c13 : w1.cell? ⟨g, 13, none⟩ = some (.int .u8 0) := by rw [(h1.keep HG.out).cell 13 (by simp)]; simp [B8]
  have c18 : w1.cell? ⟨g, 18, none⟩ = some (.int .u8 0) := by rw [(h1.keep HG.out).cell 18 (by simp)]; simp [B8]
  have c23 : w1.cell? ⟨g, 23, none⟩ = some (.int .u8 0) := by rw [(h1.keep HG.out).cell 23 (by simp)]; simp [B8]
  have f8 := (h1.keep HG.out).frozen 8
  have f13 := (h1.keep HG.out).frozen 13
  have f18 := (h1.keep HG.out).frozen 18
  have f23 := (h1.keep HG.out).frozen 23
  have H1 := Lib.hid h1
  have A1 := Lib.hid (h1.keep HG.out)
  have B1 := Lib.hid (h1.at_)
  have N1 := Lib.hid (show g ≠ w.heap.size from Nat.ne_of_lt HG.out.lt)
  clear h1
  go_wp2_with fail
  have P1 := PutB.setCell A1.out 8 (.int .u8 45)
  have P2 := P1.trans (PutB.setCell P1.at_ 13 (.int .u8 45))
  have P3 := P2.trans (PutB.setCell P2.at_ 18 (.int .u8 45))
  have P4 := P3.trans (PutB.setCell P3.at_ 23 (.int .u8 45))
  generalize (((w1.setCell ⟨g, 8, none⟩ (.int .u8 45)).setCell ⟨g, 13, none⟩ (.int .u8 45)).setCell ⟨g, 18, none⟩ (.int .u8 45)).setCell ⟨g, 23, none⟩ (.int .u8 45) = w2 at P4 ⊢
  have H4 := Lib.hid P4
  clear P1 P2 P3 P4 c8 c13 c18 c23 f8 f13 f18 f23
  have A2 : At w2 g t ((encK bs 0).map B8) := H4.out.at_
  have G2 : w.grownBy w2 (some g) := grown_trans' (World.grownBy_mono' H1.out.grown) H4.out.grown
  have B2 : At w2 w.heap.size 63 (bs.map B8) := H4.out.keep B1.out (Ne.symm N1.out)
  go_loopw [16] (fun i wr => ∃ k : Nat, k ≤ 16 ∧ i = .int .i64 k ∧ At wr g t ((encK bs k).map B8) ∧ At wr w.heap.size 63 (bs.map B8) ∧ w.grownBy wr (some g)) (fun i _ => 16 - (intOf i).toNat)
  case atStart => exact ⟨0, by omega, rfl, A2, B2, G2⟩
  case round =>
    obtain ⟨k, hk, rfl, ha, hb, hg⟩ := hrel
    by_cases hlt : k < 16
    · have hp := posN_le k hlt
      have ix := pos_at k hlt
      have lb : k < bs.length := by rw [HL.out]; exact hlt
      obtain ⟨b, eb⟩ : ∃ b, b = bs.getD k 0 := ⟨_, rfl⟩
      have cb : wr.cell? ⟨w.heap.size, k, none⟩ = some (.int .u8 (b.toNat : Int)) := by rw [hb.cell k (by simpa using lb), eb]; simp [B8, List.getD, lb]
      have le := encK_length bs k
      obtain ⟨p, ep⟩ : ∃ p, p = posN k := ⟨_, rfl⟩
      rw [← ep] at hp ix
      have cp1 : wr.cell? ⟨g, p, none⟩ = some (B8 ((encK bs k)[p]'(by omega))) := by rw [ha.cell p (by simp; omega)]; simp
      have cp2 : wr.cell? ⟨g, p + 1, none⟩ = some (B8 ((encK bs k)[p + 1]'(by omega))) := by rw [ha.cell (p + 1) (by simp; omega)]; simp
      have fp1 := ha.frozen p
      have fp2 := ha.frozen (p + 1)
      generalize B8 ((encK bs k)[p]'(by omega)) = v1 at cp1
      generalize B8 ((encK bs k)[p + 1]'(by omega)) = v2 at cp2
      have hi := hex_hi b
      have lo := hex_lo b
      have an := and_15 b
      have q1 : (0 : Int) ≤ (k : Int) := by omega
      have q2 : (k : Int) < 16 := by omega
      have q3 : (p : Int) ≤ 34 := by omega
      have q4 : (b.toNat : Int) < 256 := by have := b.toNat_lt; omega
      have HA := Lib.hid ha
      have HB := Lib.hid hb
      have HGr := Lib.hid hg
      have EB := Lib.hid eb
      have EP := Lib.hid ep
      have LE := Lib.hid le
      clear ha hb hg eb ep le lb
      go_wp2
      go_roundw
      case rel =>
        have P1 := PutB.setCell HA.out p (B8 (hexd (b.toNat / 16)))
        have P2 := PutB.setCell P1.at_ (p + 1) (B8 (hexd (b.toNat % 16)))
        have PP := P1.trans P2
        have e : encK bs (k + 1) = encStep (encK bs k) p b := by rw [encK, ← EP.out, ← EB.out]
        refine ⟨k + 1, by omega, by go_num, ?_, PP.keep HB.out (Ne.symm N1.out), grown_trans' HGr.out PP.grown⟩
        rw [e, encStep, List.map_set, List.map_set]
        exact PP.at_
      case measure => simp [intOf]; omega
    · obtain rfl : k = 16 := by omega
      have HA := Lib.hid ha
      have HGr := Lib.hid hg
      clear ha hb hg hlt hk
      go_wp2
      go_end0
      exact ⟨rfl, HA.out, HGr.out⟩
end Go.Proofs.Ytnofmiinbmfbnaa
