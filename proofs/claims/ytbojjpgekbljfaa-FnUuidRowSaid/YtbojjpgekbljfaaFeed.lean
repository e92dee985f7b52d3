/-
  The reader of some bytes: feed.Read.
-/
import Derived.Test.YtbojjpgekbljfaaGen
namespace Go.Proofs.Ytbojjpgekbljfaa
open Go.RowKit
set_option linter.unusedVariables false
/-- Of the blocks that were there only f and b may have changed. -/
structure Two (w w' : World) (f b : Nat) : Prop where
  os : w'.os = w.os
  tape : w'.tape = w.tape
  output : w'.output = w.output
  size : w.heap.size ≤ w'.heap.size
  block : ∀ k, k < w.heap.size → k ≠ f → k ≠ b → w'.heap[k]? = w.heap[k]?
theorem Two.refl (w : World) (f b : Nat) : Two w w f b := ⟨rfl, rfl, rfl, Nat.le_refl _, fun _ _ _ _ => rfl⟩
theorem Two.trans {u v w : World} {f b : Nat} (h : Two u v f b) (k : Two v w f b) : Two u w f b :=
  ⟨k.os.trans h.os, k.tape.trans h.tape, k.output.trans h.output, Nat.le_trans h.size k.size, fun i hi h1 h2 => (k.block i (Nat.lt_of_lt_of_le hi h.size) h1 h2).trans (h.block i hi h1 h2)⟩
theorem Two.drewN {u v : World} {f b : Nat} (h : Two u v f b) (n : Nat) : Two u (v.drewN n) f b := ⟨h.os, h.tape, h.output, h.size, h.block⟩
theorem Two.left {u v : World} {f b : Nat} (h : u.grownBy v (some f)) : Two u v f b := ⟨h.os, h.tape, h.output, h.size, fun k hk h1 _ => h.block k hk (by simpa using h1)⟩
theorem Two.right {u v : World} {f b : Nat} (h : u.grownBy v (some b)) : Two u v f b := ⟨h.os, h.tape, h.output, h.size, fun k hk _ h1 => h.block k hk (by simpa using h1)⟩
theorem Two.none {u v : World} {f b : Nat} (h : u.grownBy v none) : Two u v f b := ⟨h.os, h.tape, h.output, h.size, fun k hk _ _ => h.block k hk (by simp)⟩
theorem Two.at_ {u v : World} {f b g : Nat} {t : TypeId} {cs : List Value} (h : Two u v f b) (a : At u g t cs) (h1 : g ≠ f) (h2 : g ≠ b) : At v g t cs := (h.block g a.lt h1 h2).trans a
theorem Two.below {a u v : World} {f b B : Nat} (h : Two u v f b) (k : Below B a u) (hB : B ≤ u.heap.size) (h1 : B ≤ f) (h2 : B ≤ b) : Below B a v :=
  ⟨h.os.trans k.os, h.tape.trans k.tape, h.output.trans k.output, Nat.le_trans k.size h.size, fun i hi => (h.block i (by omega) (by omega) (by omega)).trans (k.block i hi)⟩
/-- Block f is a feed of which the bytes ds are still to come; they lie where they lay in w0. -/
def FeedAt (w0 w : World) (f : Nat) (ds : List UInt8) : Prop := ∃ A n c, At w f 78 [.slice A n c] ∧ ds.length = n ∧ Byt w0 A ds ∧ (A = none → c = 0) ∧ n ≤ c
theorem FeedAt.lt {w0 w : World} {f : Nat} {ds : List UInt8} (h : FeedAt w0 w f ds) : f < w.heap.size := by obtain ⟨A, n, c, h1, -⟩ := h; exact h1.lt
theorem FeedAt.eq {w0 w w' : World} {f : Nat} {ds : List UInt8} (h : FeedAt w0 w f ds) (he : w'.heap[f]? = w.heap[f]?) : FeedAt w0 w' f ds := by
  obtain ⟨A, n, c, h1, h2⟩ := h; exact ⟨A, n, c, he.trans h1, h2⟩
def ReadYes (w0 w : World) (f b o : Nat) (t : TypeId) (cur : List Value) (ds : List UInt8) (k : Nat) (e : Ending) (w' : World) : Prop :=
  e = .returned (.tuple #[.int .i64 (k : Int), .nilIface]) ∧ FeedAt w0 w' f (ds.drop k) ∧ At w' b t (splice cur o ((ds.take k).map B8)) ∧ Two w w' f b
set_option maxRecDepth 100000 in
theorem feedRead_yes (w0 w : World) (f b o n c : Nat) (t : TypeId) (cur : List Value) (ds : List UInt8) (k : Nat) (hk : k = Nat.min ds.length n) (hn : 0 < n) (hd : 0 < ds.length) (hdl : ds.length ≤ 70000) (hnl : n ≤ 70000) (hfit : o + n ≤ cur.length) (hf : FeedAt w0 w f ds) (hb : At w b t cur) (hfb : f ≠ b) (h0 : Below w0.heap.size w0 w) :
    Calls Try.prog 91 #[.pointer (some ⟨f, 0, none⟩), .slice (some ⟨b, o, none⟩) n c] w (ReadYes w0 w f b o t cur ds k) := by
  obtain ⟨A, m, cm, ha, hm, hy, hc, hmc⟩ := hf
  obtain ⟨b0, off, rfl, hlt, hcells⟩ := hy hd
  have HY := Lib.hid hy
  have Hy := Lib.hid (hy.below h0 (Nat.le_refl _))
  have HA := Lib.hid ha
  have HB := Lib.hid hb
  have HM := Lib.hid hm
  have k1 := ha.cell 0 (by simp)
  have hkm : k ≤ m := by rw [hk, hm]; exact Nat.min_le_left _ _
  have hkn : k ≤ n := by rw [hk]; exact Nat.min_le_right _ _
  have HK := Lib.hid (show k = Nat.min m n by rw [hk, hm])
  have m0 : 0 < m := by omega
  have z1 : ((m : Int) == 0) = false := by simp; omega
  clear hk ha hb hy hcells
  have LT := Lib.hid (show (ds.take k).length = k by rw [List.length_take]; omega)
  go_enter Try.func91, Try.ntmps91
  go_wp2_with (refine wpList_copyB rfl (.tmp 14) (.tmp 18) 22 22 rfl 5 Try.underlying22 Try.size8 b o n c m cm (some ⟨b0, off, none⟩) (by rfl) (by rfl) cur t HB.out ds Hy.out HM.out k HK.out (ds.take k) rfl (by omega) ?_)
  intro w1 h1
  have H1 := Lib.hid h1
  have A1 := Lib.hid (h1.keep HA.out hfb)
  have k2 := A1.out.cell 0 (by simp)
  have f2 := A1.out.frozen 0
  clear h1 k1
  have TW := Two.right (f := f) H1.out.grown
  have e1 : splice cur o ((ds.take k).map B8) = splice cur o (List.take k (List.map B8 ds)) := by rw [List.map_take]
  go_wp2
  · go_ret2
    have P := PutB.setCell A1.out 0 (.slice (some ⟨b0, off, none⟩) (m - k) 0)
    refine ⟨rfl, ⟨some ⟨b0, off, none⟩, m - k, 0, P.at_, by simp; omega, ?_, by simp, by omega⟩, by rw [e1]; exact P.keep H1.out.at_ (Ne.symm hfb), TW.trans (Two.left P.grown)⟩
    rw [List.drop_eq_nil_of_le (by omega)]
    exact Byt.nil _ _
  · go_ret2
    have P := PutB.setCell A1.out 0 (.slice (some ⟨b0, off + k, none⟩) (m - k) (cm - k))
    exact ⟨rfl, ⟨some ⟨b0, off + k, none⟩, m - k, cm - k, P.at_, by simp; omega, HY.out.drop k, by simp, by omega⟩, by rw [e1]; exact P.keep H1.out.at_ (Ne.symm hfb), TW.trans (Two.left P.grown)⟩
set_option maxRecDepth 100000 in
theorem feedRead_no (w0 w : World) (f : Nat) (v : Value) (hf : FeedAt w0 w f []) :
    Calls Try.prog 91 #[.pointer (some ⟨f, 0, none⟩), v] w fun e w' => e = .returned (.tuple #[.int .i64 0, .iface 100 (.string ⟨#[117, 110, 101, 120, 112, 101, 99, 116, 101, 100, 32, 69, 79, 70]⟩)]) ∧ w' = w := by
  obtain ⟨A, m, cm, ha, hm, hy, hc, hmc⟩ := hf
  obtain rfl : m = 0 := by simpa using hm.symm
  have k1 := ha.cell 0 (by simp)
  clear ha hy hm
  go_enter Try.func91, Try.ntmps91
  go_wp2
  go_ret2
  exact ⟨rfl, rfl⟩
end Go.Proofs.Ytbojjpgekbljfaa
