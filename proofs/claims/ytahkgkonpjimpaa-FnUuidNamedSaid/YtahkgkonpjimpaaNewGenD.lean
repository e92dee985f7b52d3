/-
  NewGen (seat d's share of XNewGen, cut by gen/cutd.py).
-/
import Derived.Test.YtahkgkonpjimpaaGenD
namespace Go.Proofs.Ytahkgkonpjimpaa
open Go.RowKit
set_option linter.unusedVariables false
theorem GenOk.from {r ep hw : Value} {w w1 : World} {e : Ending} {w' : World} (b : Below w.heap.size w w1) (h : GenOk r ep hw w1 e w') : GenOk r ep hw w e w' := by
  obtain ⟨g, h1, h2, h3, h4⟩ := h
  exact ⟨g, h1, Nat.le_trans b.size h2, h3, b.trans (h4.mono b.size)⟩
set_option maxRecDepth 100000 in
theorem newGenHW_any (fn : Fn) (x y : Array Value) (w : World) : Calls Try.prog 21 #[.func fn x y] w (GenOk rd0 ep0 (.func fn x y) w) := by
  go_enter Try.func21, Try.ntmps21
  go_wp2_with fail
  refine (withHW_any fn x y w).mono ?_
  rintro e w1 ⟨rfl, h1⟩
  have H1 := Lib.hid h1
  clear h1
  have H2 := Lib.hid (NewB.alloc w1 72 [.func (.func 43) #[] #[.pointer (some ⟨w.heap.size, 0, none⟩)]])
  go_wp2_with fail
  refine (genOpts1 w1.heap.size w.heap.size 1 fn x y _ H2.out.at_ (H2.out.keep H1.out.at_)).mono ?_
  intro e w3 h3
  have h4 := h3.from (H2.out.below (H1.out.below (Below.refl w.heap.size w) (Nat.le_refl _)) (by have := H1.out.size; omega))
  clear h3
  obtain ⟨g, rfl, h⟩ := h4
  go_wp2
  go_ret
  exact ⟨g, rfl, h⟩
set_option maxRecDepth 100000 in
theorem newGen_any (w : World) : Calls Try.prog 10 #[] w (GenOk rd0 ep0 hw0 w) := by
  go_enter Try.func10, Try.ntmps10
  go_wp2_with fail
  refine (newGenHW_any (.func 22) #[] #[] w).mono ?_
  rintro e w1 ⟨g, rfl, h⟩
  go_wp2
  go_ret
  exact ⟨g, rfl, h⟩
end Go.Proofs.Ytahkgkonpjimpaa
