/-
  spec.Form (seat d's share of XForm, cut by gen/cutd.py).
-/
import Derived.Test.YtahkgkonpjimpaaUuid
import Derived.Test.YtahkgkonpjimpaaSet
import Derived.Deep.OwnRows
namespace Go.Proofs.Ytahkgkonpjimpaa
open Go.RowKit
set_option linter.unusedVariables false
def CapOk (bs : List UInt8) (w : World) (e : Ending) (w' : World) : Prop := ∃ g cap, e = .returned (.slice (some ⟨g, 0, none⟩) bs.length cap) ∧ bs.length ≤ cap ∧ w.heap.size ≤ g ∧ Byt w' (some ⟨g, 0, none⟩) bs ∧ Below w.heap.size w w'
theorem own_cap {w : World} {base : Nat} {e : TypeId} {v : Value} {n : Nat} {cs : List Value} (h : w.ownsRow base e 1 v n cs) (g cap : Nat) (hv : v = .slice (some ⟨g, 0, none⟩) n cap) : n ≤ cap := by
  rcases h.2 with ⟨hs, -⟩ | ⟨g', cap', cur, rfl, hb, hg, h1, h2, h3, h4⟩
  · subst hs; cases hv
  · injection hv with e1 e2 e3
    omega
def NewOk (bs : List UInt8) (w : World) (e : Ending) (w' : World) : Prop := ∃ v, e = .returned v ∧ NewBytes w w' v bs ∧ Below w.heap.size w w'
theorem own_block {w : World} {base : Nat} {e : TypeId} {v : Value} {n : Nat} {cs : List Value} (h : w.ownsRow base e 1 v n cs) : ∀ k, v.ownBlock = some k → base ≤ k := by
  intro k hk
  rcases h.2 with ⟨hv, -⟩ | ⟨g, cap, cur, rfl, hb, -⟩
  · subst hv; simp [Value.ownBlock] at hk
  · simp [Value.ownBlock] at hk; omega
def formN (bs : List UInt8) (v : UInt8) : List UInt8 := (bs.set 6 (setVer (bs.getD 6 0) v)).set 8 (setVar (bs.getD 8 0) (varMask 1) (varBits 1))
set_option maxRecDepth 100000 in
theorem form_any (A : Option Addr) (n c : Nat) (hn : 16 ≤ n) (bs : List UInt8) (hl : bs.length = n) (v : UInt8) (hv : v.toNat < 16) (hc : A = none → c = 0) (w : World) (hb : Byt w A bs) (hcap : n ≤ c) :
    Calls Try.prog 7 #[.slice A n c, .int .i64 (v.toNat : Int)] w (NewOk (formN (bs.take 16) v) w) := by
  obtain ⟨ts, hts⟩ : ∃ ts, ts = bs.take 16 := ⟨_, rfl⟩
  rw [← hts]
  have TL := Lib.hid (show ts.length = 16 by rw [hts, List.length_take]; omega)
  have hbt : Byt w A ts := hts ▸ hb.take 16
  have HC := Lib.hid hc
  have HO := Lib.hid (own_empty w 5 w.heap.size (Nat.le_refl _))
  have BT := Lib.hid (hbt.below (B := w.heap.size) ((Below.refl _ _).alloc (Nat.le_refl _) (.cells #[] 5)) (Nat.le_refl _))
  obtain ⟨x, hx⟩ : ∃ x, x = ts.getD 6 0 := ⟨_, rfl⟩
  obtain ⟨y, hy⟩ : ∃ y, y = ts.getD 8 0 := ⟨_, rfl⟩
  have HX := Lib.hid hx
  have HY := Lib.hid hy
  clear hb hts hbt hc hx hy
  go_enter Try.func7, Try.ntmps7
  go_wp2_with (refine wpList_appB rfl (.tmp 6) (.tmp 8) 22 rfl w.heap.size 5 Try.underlying22 Try.info8 _ 0 [] (by rfl) HO.out A 16 c ts (by rfl) BT.out TL.out HC.out (by omega) (by simp) ?_)
  intro v' w2 h2 h3
  obtain ⟨-, g, cap, rest, e1, e2, e3⟩ := own_at (bs := ts) h2 (by omega)
  rw [e1]
  clear e1
  have l6 : 6 < ts.length := by rw [TL.out]; omega
  have l8 : 8 < ts.length := by rw [TL.out]; omega
  have c6 : w2.cell? ⟨g, 6, none⟩ = some (.int .u8 (x.toNat : Int)) := by rw [e3.cellPre 6 l6, HX.out]; simp [List.getD, l6]
  have c8 : w2.cell? ⟨g, 8, none⟩ = some (.int .u8 (y.toNat : Int)) := by rw [e3.cellPre 8 l8, HY.out]; simp [List.getD, l8]
  have f6 := e3.frozen 6
  have f8 := e3.frozen 8
  have H3 := Lib.hid h3
  have E2 := Lib.hid e2
  have E3 := Lib.hid e3
  have L6 := Lib.hid l6
  have L8 := Lib.hid l8
  clear h2 h3 e2 e3 l6 l8
  go_wp2
  go_ret
  rw [setVer_walk' x v hv, setVar_walk y (varMask 1) (varBits 1) 63 128 rfl rfl]
  have P6 := E3.out.setPre 6 L6.out (setVer x v)
  have P8 := P6.at_.setPre 8 (by rw [List.length_set]; exact L8.out) (setVar y (varMask 1) (varBits 1))
  have e : formN ts v = (ts.set 6 (setVer x v)).set 8 (setVar y (varMask 1) (varBits 1)) := by rw [formN, HX.out, HY.out]
  have hs := H3.out.size
  simp at hs
  refine ⟨_, rfl, ⟨g, cap, by rw [e, List.length_set, List.length_set, TL.out]; rfl, E2.out, by rw [e]; exact P8.at_.bytPre⟩, ?_⟩
  have b3 : Below w.heap.size w w2 := ((Below.refl _ _).alloc (Nat.le_refl _) _).grown H3.out (by simp) (by simp [Value.ownBlock])
  exact P8.below (P6.below b3 (by omega) E2.out) (by rw [P6.size]; omega) E2.out
end Go.Proofs.Ytahkgkonpjimpaa
