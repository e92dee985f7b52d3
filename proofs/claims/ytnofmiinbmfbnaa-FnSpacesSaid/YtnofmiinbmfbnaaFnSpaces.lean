/-
  The walk of FnSpaces.
-/
import Derived.Test.YtnofmiinbmfbnaaSpacesI
import Derived.Test.YtnofmiinbmfbnaaHexLaw
import Derived.Test.YtnofmiinbmfbnaaCmp
namespace Go.Proofs.Ytnofmiinbmfbnaa
open Go.RowKit
set_option linter.unusedVariables false
def spaceT : List ByteArray := [dnsT, urlT, oidT, x500T, ⟨#[48, 48, 48, 48, 48, 48, 48, 48, 45, 48, 48, 48, 48, 45, 48, 48, 48, 48, 45, 48, 48, 48, 48, 45, 48, 48, 48, 48, 48, 48, 48, 48, 48, 48, 48, 48]⟩, ⟨#[102, 102, 102, 102, 102, 102, 102, 102, 45, 102, 102, 102, 102, 45, 102, 102, 102, 102, 45, 102, 102, 102, 102, 45, 102, 102, 102, 102, 102, 102, 102, 102, 102, 102, 102, 102]⟩]
theorem enc_spaces : spaceL.map (fun b => encK b 16) = spaceT.map (fun T => T.data.toList) := by decide +kernel
theorem str_ext (S T : ByteArray) (h : S.data.toList = T.data.toList) : S = T := by
  obtain ⟨⟨x⟩⟩ := S
  obtain ⟨⟨y⟩⟩ := T
  have : x = y := h
  rw [this]
theorem space_text (k : Nat) (L : List UInt8) (T : ByteArray) (hL : spaceL[k]? = some L) (hT : spaceT[k]? = some T) : uuidStr L = T := by
  apply str_ext
  have e := congrArg (fun l => l[k]?) enc_spaces
  simp only [List.getElem?_map, hL, hT, Option.map_some, Option.some.injEq] at e
  rw [← e]
  unfold uuidStr
  generalize encK L 16 = E
  rfl
def SpS (b g2 i gL cap : Nat) (L : List UInt8) (T : ByteArray) (w0 u : World) : Prop :=
  u.cell? ⟨b, i, none⟩ = some (.slice (some ⟨gL, 0, none⟩) 16 cap) ∧ u.cell? ⟨g2, i, none⟩ = some (.string T) ∧ Byt u (some ⟨gL, 0, none⟩) L ∧ Below w0.heap.size w0 u
set_option maxRecDepth 100000 in
set_option maxHeartbeats 1000000 in
theorem spaces_law (k : Nat) (hk : k < 256) (w : World) :
    Calls Try.prog 9 #[.int .u8 (k : Int)] w fun e w' => e = .returned (.bool true) ∧ Below w.heap.size w w' := by
  obtain ⟨i, hi⟩ : ∃ i, i = k % 6 := ⟨_, rfl⟩
  have hi6 : i < 6 := by omega
  have ei : (k : Int) % 6 = (i : Int) := by omega
  have ki : (k : Int) < 256 := by omega
  have k0 : (0 : Int) ≤ (k : Int) := by omega
  have SI := Lib.hid (spaces_any w)
  have HI := Lib.hid hi6
  clear hi hk hi6
  go_enter Try.func9, Try.ntmps9
  go_wp2_with fail
  refine SI.out.mono ?_
  rintro e w1 ⟨v, rfl, rows, b1⟩
  obtain ⟨b, cap, rfl, -, hc⟩ := rows.cell (by omega)
  obtain ⟨L, hL⟩ : ∃ L, spaceL[i]? = some L := ⟨spaceL[i]'(show i < 6 from HI.out), List.getElem?_eq_getElem (show i < spaceL.length from HI.out)⟩
  obtain ⟨T, hT⟩ : ∃ T, spaceT[i]? = some T := ⟨spaceT[i]'(show i < 6 from HI.out), List.getElem?_eq_getElem (show i < spaceT.length from HI.out)⟩
  have hst := space_text i L T hL hT
  obtain ⟨u0, cu, iu⟩ := hc i L hL
  obtain ⟨gL, capL, rfl, -, -, yL⟩ := iu.byt
  have lL : L.length = 16 := by
    have := space_len i HI.out
    simp only [List.getD, hL, Option.getD_some] at this
    exact this
  rw [lL] at cu
  have CU := Lib.hid cu
  have YL := Lib.hid yL
  have B1 := Lib.hid b1
  have HT := Lib.hid hT
  have US := Lib.hid (show ∀ u, Byt u (some ⟨gL, 0, none⟩) L → Calls Try.prog 22 #[.slice (some ⟨gL, 0, none⟩) 16 capL] u fun e u' => e = .returned (.string T) ∧ Below u.heap.size u u' from fun u h => by
    have := specU (some ⟨gL, 0, none⟩) capL (by simp) L lL u h
    rw [← uuidStr_spec L lL, hst] at this
    exact this)
  clear rows hc hL hT hst iu yL lL b1 cu
  go_wp2_with fail
  change Code.wp _ _ _ _ (w1.alloc (.cells (spaceT.map Value.string).toArray 9))
  have nb := NewB.alloc w1 9 (spaceT.map Value.string)
  generalize w1.alloc (.cells (spaceT.map Value.string).toArray 9) = w2 at nb ⊢
  have bb : Below w1.heap.size w1 w2.drew := below_drewN (nb.below (Below.refl _ _) (Nat.le_refl _)) 1
  have S0 := Lib.hid (show w2.drew.cell? ⟨b, i, none⟩ = some (.slice (some ⟨gL, 0, none⟩) 16 capL) ∧ w2.drew.cell? ⟨w1.heap.size, i, none⟩ = some (.string T) ∧ Byt w2.drew (some ⟨gL, 0, none⟩) L ∧ Below w.heap.size w w2.drew from by
    refine ⟨nb.grown.cell CU.out (by simp), ?_, YL.out.below bb (Nat.le_refl _), B1.out.trans (bb.mono B1.out.size)⟩
    have hl : i < (spaceT.map Value.string).length := HI.out
    have := nb.at_.cell i hl
    obtain ⟨h1, h2⟩ := List.getElem?_eq_some_iff.1 HT.out
    rw [List.getElem_map, h2] at this
    exact this)
  have SK := Lib.hid (show ∀ u u', (u.cell? ⟨b, i, none⟩ = some (.slice (some ⟨gL, 0, none⟩) 16 capL) ∧ u.cell? ⟨w1.heap.size, i, none⟩ = some (.string T) ∧ Byt u (some ⟨gL, 0, none⟩) L ∧ Below w.heap.size w u) → Below u.heap.size u u' →
      (u'.cell? ⟨b, i, none⟩ = some (.slice (some ⟨gL, 0, none⟩) 16 capL) ∧ u'.cell? ⟨w1.heap.size, i, none⟩ = some (.string T) ∧ Byt u' (some ⟨gL, 0, none⟩) L ∧ Below w.heap.size w u') from fun u u' h hb =>
    ⟨(hb.cell (World.block_lt_of_cell? u _ h.1)).trans h.1, (hb.cell (World.block_lt_of_cell? u _ h.2.1)).trans h.2.1, h.2.2.1.below hb (Nat.le_refl _), h.2.2.2.trans (hb.mono h.2.2.2.size)⟩)
  have i0 : (0 : Int) ≤ (i : Int) := by omega
  have i6 : (i : Int) < 6 := by have := HI.out; omega
  clear nb bb
  go_region_held3 (fun u => u.cell? ⟨b, i, none⟩ = some (.slice (some ⟨gL, 0, none⟩) 16 capL) ∧ u.cell? ⟨w1.heap.size, i, none⟩ = some (.string T) ∧ Byt u (some ⟨gL, 0, none⟩) L ∧ Below w.heap.size w u)
    (first | exact S0.out | exact SK.out _ _ (by assumption) (by assumption))
    (first | (go_at_call 22; refine (US.out _ (And.left (And.right (And.right (by assumption))))).mono ?_; rintro e u9 ⟨rfl, b9⟩))
  have BE := Lib.hid (show Below w.heap.size w u9 from (And.right (And.right (And.right (by assumption : u9.cell? ⟨b, i, none⟩ = some (.slice (some ⟨gL, 0, none⟩) 16 capL) ∧ u9.cell? ⟨w1.heap.size, i, none⟩ = some (.string T) ∧ Byt u9 (some ⟨gL, 0, none⟩) L ∧ Below w.heap.size w u9)))))
  go_wp2
  go_ret
  exact ⟨rfl, BE.out⟩
theorem u8_wf (n : Int) (h : (Lit.int .u8 n).wf = true) : 0 ≤ n ∧ n < 256 := by
  have h1 : IntKind.u8.min = 0 := rfl
  have h2 : IntKind.u8.max = 255 := rfl
  simp only [Lit.wf, Bool.and_eq_true, decide_eq_true_eq] at h
  omega
theorem walk_FnSpaces (a0 : Int) (w : World) (w0 : (Lit.int .u8 a0).wf = true) :
    Calls Try.prog 9 #[.int .u8 a0] w fun e w' => e = .returned (.bool true) ∧ Below w.heap.size w w' := by
  obtain ⟨p1, p2⟩ := u8_wf a0 w0
  obtain ⟨k, rfl⟩ := Int.eq_ofNat_of_zero_le p1
  exact spaces_law k (by omega) w
end Go.Proofs.Ytnofmiinbmfbnaa
