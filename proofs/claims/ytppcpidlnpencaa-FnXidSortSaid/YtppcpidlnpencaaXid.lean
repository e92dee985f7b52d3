/-
  IDs of bytes: FromBytes of the package xid.
-/
import Derived.Test.YtppcpidlnpencaaBase
namespace Go.Proofs.Ytppcpidlnpencaa
open Go.RowKit
set_option linter.unusedVariables false
theorem Try.size8 : (Try.prog.info? 5).map (·.size) = some 1 := by kernel_rfl
theorem Try.sizeI : (Try.prog.info? 54).map (·.size) = some 12 := by kernel_rfl
theorem Try.info8 : (Try.prog.info? 5).map (fun i => (i.zero, i.size, i.bytes)) = some (some (.int .u8 0), 1, 1) := by kernel_rfl
def z12 : List UInt8 := List.replicate 12 0
theorem Try.zeroI (w : World) : (zeroValue 54).run Try.prog w = .ok (.agg (z12.map B8).toArray) w := by kernel_rfl
theorem sizeI_of (bs : List UInt8) (h : bs.length = 12) : (Try.prog.info? 54).map (·.size) = some (bs.map B8).length := by rw [List.length_map, h]; exact Try.sizeI
def XidYes (bs : List UInt8) (w : World) (e : Ending) (w' : World) : Prop := e = .returned (.tuple #[.agg (bs.map B8).toArray, .nilIface]) ∧ Below w.heap.size w w'
def XidNo (w : World) (e : Ending) (w' : World) : Prop := (∃ T x, e = .returned (.tuple #[.agg (z12.map B8).toArray, .iface T x])) ∧ Below w.heap.size w w'
set_option maxRecDepth 100000 in
theorem xidBytes_yes (A : Option Addr) (n c : Nat) (bs : List UInt8) (hn : n = 12) (hbs : bs.length = 12) (w : World) (hb : Byt w A bs) :
    Calls Try.prog 35 #[.slice A n c] w (XidYes bs w) := by
  subst hn
  have HL := Lib.hid hbs
  have HB := Lib.hid hb
  clear hbs hb
  obtain ⟨Z, hZ⟩ : ∃ Z, Z = z12.map B8 := ⟨_, rfl⟩
  have hz : ∀ w, (zeroValue 54).run Try.prog w = .ok (.agg Z.toArray) w := hZ ▸ Try.zeroI
  have HZ := Lib.hid (show Z.length = 12 by simp [hZ, z12])
  have HBS := Lib.hid (sizeI_of bs HL.out)
  clear hZ
  go_enter Try.func35, Try.ntmps35
  go_wp2_with (refine wpList_var rfl 54 rfl (.agg Z.toArray) Z hz rfl ?_)
  intro w1 h1
  have H1 := Lib.hid h1
  clear h1
  go_wp2_with (refine wpList_var rfl 54 rfl (.agg Z.toArray) Z hz rfl ?_)
  intro w2 h2
  have H2 := Lib.hid h2
  have A2 := Lib.hid (H1.out.at_.grown h2.grown (by simp))
  clear h2
  have B2 := Lib.hid (H2.out.byt (H1.out.byt HB.out))
  go_wp2_with (refine wpList_copyB rfl (.tmp 10) (.tmp 11) 22 22 rfl 5 Try.underlying22 Try.size8 w1.heap.size 0 12 12 12 c A rfl rfl Z 54 H2.out.at_ bs B2.out HL.out 12 rfl bs (List.take_of_length_le (by have := HL.out; omega)) (by have := HZ.out; omega) ?_)
  intro w3 h3
  rw [splice_all _ _ (by have := HL.out; have := HZ.out; simp; omega)] at h3
  have H3 := Lib.hid h3
  have A3 := Lib.hid (A2.out.grown h3.grown (by have := H1.out.size; simp; omega))
  clear h3
  go_wp2_with (first
    | (refine wpList_get rfl 54 (.tmp 4) rfl w1.heap.size (by rfl) 54 (bs.map B8) _ H3.out.at_ Try.underlying54 rfl HBS.out ?_)
    | (refine wpList_put rfl 54 (.tmp 2) (.tmp 13) rfl w.heap.size (bs.map B8) (by rfl) (by rfl) 54 Z A3.out HBS.out (by rw [HZ.out, List.length_map, HL.out]) (B8_one _) ?_))
  intro w4 h4
  have H4 := Lib.hid h4
  clear h4
  go_wp2
  refine ret_cell_tmp 2 54 3 rfl w.heap.size 54 (bs.map B8) _ .nilIface rfl rfl H4.out.at_ Try.underlying54 rfl HBS.out rfl ⟨rfl, ?_⟩
  have s1 := H1.out.size
  have s2 := H2.out.size
  have s3 := H3.out.size
  exact H4.out.below (H3.out.below (H2.out.below (H1.out.below (Below.refl _ _) (Nat.le_refl _)) (by omega)) (by omega) (by omega)) (by omega) (by omega)
set_option maxRecDepth 100000 in
theorem xidBytes_no (A : Option Addr) (n c : Nat) (hn : n ≠ 12) (w : World) : Calls Try.prog 35 #[.slice A n c] w (XidNo w) := by
  have t1 : ((n : Int) != 12) = true := by rw [bne_iff_ne]; omega
  obtain ⟨Z, hZ⟩ : ∃ Z, Z = z12.map B8 := ⟨_, rfl⟩
  have hz : ∀ w, (zeroValue 54).run Try.prog w = .ok (.agg Z.toArray) w := hZ ▸ Try.zeroI
  have hZ1 : ∀ v ∈ Z, v.oneCell' = true := hZ ▸ B8_one z12
  have HZ := Lib.hid (show Z.length = 12 by simp [hZ, z12])
  have HZS := Lib.hid (show (Try.prog.info? 54).map (·.size) = some Z.length by rw [HZ.out]; exact Try.sizeI)
  have HZ1 := Lib.hid hZ1
  have HE := Lib.hid hZ
  clear hZ hZ1 hn
  go_enter Try.func35, Try.ntmps35
  go_wp2_with (refine wpList_var rfl 54 rfl (.agg Z.toArray) Z hz rfl ?_)
  intro w1 h1
  have H1 := Lib.hid h1
  clear h1
  go_wp2_with (refine wpList_var rfl 54 rfl (.agg Z.toArray) Z hz rfl ?_)
  intro w2 h2
  have H2 := Lib.hid h2
  have A2 := Lib.hid (H1.out.at_.grown h2.grown (by simp))
  clear h2
  go_wp2_with (first
    | (refine wpList_get rfl 54 (.tmp 4) rfl w1.heap.size (by rfl) 54 Z _ H2.out.at_ Try.underlying54 rfl HZS.out ?_)
    | (refine wpList_put rfl 54 (.tmp 2) (.tmp 8) rfl w.heap.size Z (by rfl) (by rfl) 54 Z A2.out HZS.out rfl HZ1.out ?_))
  intro w4 h4
  have H4 := Lib.hid h4
  clear h4
  go_wp2
  refine ret_cell_tmp 2 54 3 rfl w.heap.size 54 Z _ _ rfl rfl H4.out.at_ Try.underlying54 rfl HZS.out rfl ⟨⟨_, _, by rw [HE.out]; rfl⟩, ?_⟩
  have s1 := H1.out.size
  have s2 := H2.out.size
  exact H4.out.below (H2.out.below (H1.out.below (Below.refl _ _) (Nat.le_refl _)) (by omega)) (by omega) (by omega)
end Go.Proofs.Ytppcpidlnpencaa
