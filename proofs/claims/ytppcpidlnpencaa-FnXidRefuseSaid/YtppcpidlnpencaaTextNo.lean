/-
  The thin package's XidText of bytes that are not twelve.
-/
import Derived.Test.YtppcpidlnpencaaTextI
namespace Go.Proofs.Ytppcpidlnpencaa
open Go.RowKit
set_option linter.unusedVariables false
theorem z12_one : ∀ v ∈ z12.map B8, v.oneCell' = true := B8_one z12
set_option maxRecDepth 100000 in
theorem xidText_no (A : Option Addr) (n c : Nat) (hn : n ≠ 12) (w : World) :
    Calls Try.prog 21 #[.slice A n c] w fun e w' => e = .returned (.tuple #[.string ⟨#[]⟩, .string ⟨#[]⟩, .bool false]) ∧ Below w.heap.size w w' := by
  have HF := Lib.hid (xidBytes_no A n c hn w)
  obtain ⟨Z, hZ⟩ : ∃ Z, Z = z12.map B8 := ⟨_, rfl⟩
  have hz : ∀ w, (zeroValue 54).run Try.prog w = .ok (.agg Z.toArray) w := hZ ▸ Try.zeroI
  have HZL := Lib.hid (show Z.length = 12 by simp [hZ, z12])
  have HZ1 := Lib.hid (show ∀ v ∈ Z, v.oneCell' = true from hZ ▸ B8_one z12)
  have HE := Lib.hid hZ
  have HZS := Lib.hid (show (Try.prog.info? 54).map (·.size) = some Z.length by rw [HZL.out]; exact Try.sizeI)
  clear hZ hn
  go_enter Try.func21, Try.ntmps21
  go_wp2_with fail
  refine HF.out.mono ?_
  unfold XidNo
  rw [← HE.out]
  rintro e w1 ⟨⟨T, x, rfl⟩, bel1⟩
  have B1 := Lib.hid bel1
  clear bel1
  go_wp2_with (refine wpList_var rfl 54 rfl (.agg Z.toArray) Z hz rfl ?_)
  intro w2 h2
  have H2 := Lib.hid h2
  clear h2 hz
  go_wp2_with (refine wpList_put rfl 54 (.tmp 5) (.tmp 10) rfl w1.heap.size Z (by rfl) (by rfl) 54 Z H2.out.at_ HZS.out rfl HZ1.out ?_)
  intro w3 h3
  have H3 := Lib.hid h3
  clear h3
  go_wp2
  go_ret3
  exact ⟨rfl, H3.out.below (H2.out.below B1.out B1.out.size) (by have := B1.out.size; have := H2.out.size; omega) B1.out.size⟩
end Go.Proofs.Ytppcpidlnpencaa
