/-
  told (seat d's share of XTold, cut by gen/cutd.py).
-/
import Derived.Test.YtahkgkonpjimpaaUuid
import Derived.Test.YtahkgkonpjimpaaFormD
namespace Go.Proofs.Ytahkgkonpjimpaa
open Go.RowKit
set_option linter.unusedVariables false
def ToldC (bs : List UInt8) (w : World) (e : Ending) (w' : World) : Prop := ∃ g cap, e = .returned (.tuple #[.slice (some ⟨g, 0, none⟩) bs.length cap, .bool true]) ∧ bs.length ≤ cap ∧ w.heap.size ≤ g ∧ Byt w' (some ⟨g, 0, none⟩) bs ∧ Below w.heap.size w w'
set_option maxRecDepth 100000 in
theorem told_cap (bs : List UInt8) (hbs : bs.length = 16) (w : World) : Calls Try.prog 9 #[.agg (bs.map B8).toArray, .nilIface] w (ToldC bs w) := by
  have HL := Lib.hid hbs
  clear hbs
  go_enter Try.func9, Try.ntmps9
  go_wp2_with (refine wpList_boxed rfl 30 (.tmp 0) rfl (.agg (bs.map B8).toArray) (bs.map B8) (by rfl) rfl ?_)
  intro w1 h1
  have H1 := Lib.hid h1
  clear h1
  have HO := Lib.hid (own_empty w1 5 w1.heap.size (Nat.le_refl _))
  have HB := Lib.hid ((H1.out.at_.byt).below (B := w1.heap.size) ((Below.refl _ _).alloc (Nat.le_refl _) (.cells #[] 5)) (Nat.le_refl _))
  go_wp2_with (refine wpList_appB rfl (.tmp 8) (.tmp 9) 22 rfl w1.heap.size 5 Try.underlying22 Try.info8 _ 0 [] (by rfl) HO.out (some ⟨w.heap.size, 0, none⟩) 16 16 bs (by rfl) HB.out HL.out (by simp) (by omega) (by simp) ?_)
  intro v' w2 h2 h3
  have H2 := Lib.hid h2
  have H3 := Lib.hid h3
  clear h2 h3
  go_wp2
  go_ret2
  obtain ⟨_, g, cap, e1, e2, e3⟩ := own_byt (bs := bs) H2.out (by omega)
  refine ⟨g, cap, by rw [e1, HL.out]; rfl, by have := own_cap H2.out g cap e1; rw [HL.out]; omega, by have := H1.out.size; omega, e3, ?_⟩
  exact ((H1.out.below (Below.refl _ _) (Nat.le_refl _)).alloc (by have := H1.out.size; omega) _).grown H3.out (by have := H1.out.size; simp; omega) (by have := H1.out.size; simp [Value.ownBlock]; omega)
end Go.Proofs.Ytahkgkonpjimpaa
