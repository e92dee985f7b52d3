/-
  Generators (seat d's share of XGen, cut by gen/cutd.py).
-/
import Derived.Test.YtahkgkonpjimpaaUuid
import Derived.Test.YtahkgkonpjimpaaBuild
import Derived.Laws.EntriesVeiled
import Derived.WideLaws
namespace Go.Proofs.Ytahkgkonpjimpaa
open Go.RowKit
set_option linter.unusedVariables false
theorem Try.hmf (fn : Fn) (first cap : Array Value) (w : World) : (Instr.makeFunc fn first cap).run Try.prog w = .ok (.func fn first cap) w := rfl
theorem Try.eqHW (fn : Fn) (x y : Array Value) (w : World) : (binOp .eql 69 (.func fn x y) .nilFunc).run Try.prog w = .ok (.bool false) w := by kernel_rfl
set_option maxRecDepth 100000 in
theorem withHW_any (fn : Fn) (x y : Array Value) (w : World) : Calls Try.prog 34 #[.func fn x y] w fun e w' =>
    e = .returned (.func (.func 43) #[] #[.pointer (some ⟨w.heap.size, 0, none⟩)]) ∧ NewB w w' 69 [.func fn x y] := by
  have hmf := Try.hmf
  go_enter Try.func34, Try.ntmps34
  go_wp2_with (refine wpList_boxed rfl 69 (.tmp 0) rfl (.func fn x y) [.func fn x y] (by rfl) rfl ?_)
  intro w1 h1
  have H1 := Lib.hid h1
  clear h1
  go_wp2
  go_ret
  exact ⟨rfl, H1.out⟩
set_option maxRecDepth 100000 in
theorem optHW (g c : Nat) (cs : List Value) (hl : cs.length = 17) (fn : Fn) (x y : Array Value) (w : World) (hg : At w g 89 cs) (hc : At w c 69 [.func fn x y]) :
    Calls Try.prog 43 #[.pointer (some ⟨g, 0, none⟩), .pointer (some ⟨c, 0, none⟩)] w fun e w' => e = .returned (.tuple #[]) ∧ PutB w w' g 89 (cs.set 4 (.func fn x y)) := by
  have k1 : w.cell? ⟨c, 0, none⟩ = some (.func fn x y) := by rw [hc.cell 0 (by simp)]; rfl
  have f1 := hg.frozen 4
  have k2 := hg.cell 4 (by omega)
  have HG := Lib.hid hg
  have he := Try.eqHW
  clear hg hc
  go_enter Try.func43, Try.ntmps43
  go_wp2
  go_end0
  exact ⟨rfl, PutB.setCell HG.out 4 (.func fn x y)⟩
def genB (r : Value) (ep hw : Value) : List Value := [.bool false, .bool false, r, ep, hw, .int .u64 0, .int .u16 0, .int .u8 0, .int .u8 0, .int .u8 0, .int .u8 0, .int .u8 0, .int .u8 0, .int .u64 0, .int .u64 0, .int .u16 0, .bool false]
def rd0 : Value := .iface 82 (.agg #[])
def ep0 : Value := .func (.func 42) #[] #[]
def hw0 : Value := .func (.func 22) #[] #[]
theorem gen0_build (w : World) : (Instr.build 89 #[(3, ep0), (4, hw0), (2, rd0)]).run Try.prog w = .ok (.agg (genB rd0 ep0 hw0).toArray) w := by kernel_rfl
theorem noReader_build (w : World) : (Instr.build 82 #[]).run Try.prog w = .ok (.agg #[]) w := by kernel_rfl
def GenOk (r ep hw : Value) (w : World) (e : Ending) (w' : World) : Prop := ∃ g, e = .returned (.pointer (some ⟨g, 0, none⟩)) ∧ w.heap.size ≤ g ∧ At w' g 89 (genB r ep hw) ∧ Below w.heap.size w w'
set_option maxRecDepth 100000 in
theorem genOpts1 (s c cap : Nat) (fn : Fn) (x y : Array Value) (w : World) (hs : At w s 72 [.func (.func 43) #[] #[.pointer (some ⟨c, 0, none⟩)]]) (hc : At w c 69 [.func fn x y]) :
    Calls Try.prog 33 #[.slice (some ⟨s, 0, none⟩) 1 cap] w (GenOk rd0 ep0 (.func fn x y) w) := by
  have HS := Lib.hid hs
  have HC := Lib.hid hc
  clear hs hc
  go_enter Try.func33, Try.ntmps33
  go_wp2_with (first
    | (refine wpList_buildC rfl 82 _ #[] rfl (by rfl) (.agg #[]) noReader_build ?_)
    | (refine wpList_buildC rfl 89 _ #[(3, ep0), (4, hw0), (2, rd0)] rfl (by rfl) (.agg (genB rd0 ep0 hw0).toArray) gen0_build ?_)
    | (refine wpList_boxed rfl 89 (.tmp 8) rfl (.agg (genB rd0 ep0 hw0).toArray) (genB rd0 ep0 hw0) (by rfl) rfl ?_))
  intro w1 h1
  have S1 := HS.out.grown h1.grown (by simp)
  have k1 := S1.cell 0 (by simp)
  have H1 := Lib.hid h1
  clear h1 S1
  go_wp2_with (refine wp_loop_rounds 2 ?_)
  rw [rounds_succ]
  go_wp2_with fail
  refine (optHW w.heap.size c _ rfl fn x y w1 H1.out.at_ (HC.out.grown H1.out.grown (by simp))).mono ?_
  rintro e w2 ⟨rfl, h2⟩
  have H2 := Lib.hid h2
  clear h2 k1
  go_wp2_with fail
  rw [rounds_succ]
  go_wp2
  go_ret
  exact ⟨_, rfl, Nat.le_refl _, H2.out.at_, H2.out.below (H1.out.below (Below.refl _ _) (Nat.le_refl _)) (by have := H1.out.size; omega) (Nat.le_refl _)⟩
end Go.Proofs.Ytahkgkonpjimpaa
