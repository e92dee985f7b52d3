/-
  UUIDs of bytes: FromBytes, and the thin package's told.
-/
import Derived.Test.YtahkgkonpjimpaaBase
namespace Go.Proofs.Ytahkgkonpjimpaa
open Go.RowKit
set_option linter.unusedVariables false
theorem Try.size8 : (Try.prog.info? 5).map (·.size) = some 1 := by kernel_rfl
theorem Try.sizeU : (Try.prog.info? 30).map (·.size) = some 16 := by kernel_rfl
theorem Try.info8 : (Try.prog.info? 5).map (fun i => (i.zero, i.size, i.bytes)) = some (some (.int .u8 0), 1, 1) := by kernel_rfl
def z16 : List UInt8 := List.replicate 16 0
theorem Try.zeroU (w : World) : (zeroValue 30).run Try.prog w = .ok (.agg (z16.map B8).toArray) w := by kernel_rfl
theorem Try.buildU (w : World) : (Instr.build 30 #[]).run Try.prog w = .ok (.agg (z16.map B8).toArray) w := by kernel_rfl
theorem sizeU_of (bs : List UInt8) (h : bs.length = 16) : (Try.prog.info? 30).map (·.size) = some (bs.map B8).length := by rw [List.length_map, h]; exact Try.sizeU

def ToldOk (bs : List UInt8) (w : World) (e : Ending) (w' : World) : Prop := ∃ v, e = .returned (.tuple #[v, .bool true]) ∧ NewBytes w w' v bs ∧ Below w.heap.size w w'

set_option maxRecDepth 100000 in
theorem told_yes (bs : List UInt8) (hbs : bs.length = 16) (w : World) : Calls Try.prog 9 #[.agg (bs.map B8).toArray, .nilIface] w (ToldOk bs w) := by
  have HL := Lib.hid hbs
  clear hbs
  go_enter Try.func9, Try.ntmps9
  go_wp2_with (refine wpList_boxed rfl 30 (.tmp 0) rfl (.agg (bs.map B8).toArray) (bs.map B8) (by rfl) rfl ?_)
  intro w1 h1
  have H1 := Lib.hid h1
  clear h1
  have HO := Lib.hid (own_empty w1 5 w1.heap.size (Nat.le_refl _))
  have HB := Lib.hid ((H1.out.at_.byt).below (B := w1.heap.size) ((Below.refl _ _).alloc (Nat.le_refl _) (.cells #[] 5)) (Nat.le_refl _))
  go_wp2_with (refine wpList_appB rfl (.tmp 8) (.tmp 9) 22 rfl w1.heap.size 5 Try.underlying22 Try.info8 _ 0 [] (by rfl) HO.out (some ⟨w.heap.size, 0, none⟩) 16 16 bs (by rfl) HB.out HL.out (by simp) (by omega) (by simp) ?_)
  intro v' w2 h2 h3
  have H2 := Lib.hid h2
  have H3 := Lib.hid h3
  clear h2 h3
  go_wp2
  go_ret2
  obtain ⟨_, g, cap, e1, e2, e3⟩ := own_byt (bs := bs) H2.out (by omega)
  refine ⟨v', rfl, ⟨g, cap, by rw [e1, HL.out], by have := H1.out.size; omega, e3⟩, ?_⟩
  exact ((H1.out.below (Below.refl _ _) (Nat.le_refl _)).alloc (by have := H1.out.size; omega) _).grown H3.out (by have := H1.out.size; simp; omega) (by have := H1.out.size; simp [Value.ownBlock]; omega)

set_option maxRecDepth 100000 in
theorem told_no (cs : Array Value) (T : TypeId) (x : Value) (w : World) : Calls Try.prog 9 #[.agg cs, .iface T x] w fun e w' => e = .returned (.tuple #[.slice none 0 0, .bool false]) ∧ Below w.heap.size w w' := by
  go_enter Try.func9, Try.ntmps9
  go_wp2_with (refine wpList_boxed rfl 30 (.tmp 0) rfl (.agg cs) cs.toList (by rfl) (by simp [Value.cells]) ?_)
  intro w1 h1
  have H1 := Lib.hid h1
  clear h1
  go_wp2
  go_ret2
  exact ⟨rfl, H1.out.below (Below.refl _ _) (Nat.le_refl _)⟩
end Go.Proofs.Ytahkgkonpjimpaa
