/-
  A slice of slices of bytes that came in, as a list of lists.
-/
import Derived.Test.YtppcpidlnpencaaSort5
import Derived.Test.YtppcpidlnpencaaRow
import Derived.Deep.Matrix
namespace Go.Proofs.Ytppcpidlnpencaa
open Go.RowKit
set_option linter.unusedVariables false
theorem lstB_of {w : World} {a : Addr} {len cap : Nat} {A : Nat → Option Addr} {L C : Nat → Nat} {Z : Nat → List Int} (hl : len ≤ cap) (hm : cap ≤ maxLen)
    (hr : ∀ r, r < cap → w.cell? (a.add r) = some (.slice (A r) (L r) (C r)) ∧ L r ≤ C r ∧ C r ≤ maxLen ∧ (Z r).length = C r ∧ (∀ n ∈ Z r, (Lit.int .u8 n).wf = true) ∧ (A r = none → C r = 0) ∧
        ∀ a', A r = some a' → 0 ≤ a'.block ∧ ∀ c, c < C r → w.cell? (a'.add c) = some (.int .u8 ((Z r).getD c 0))) :
    ∃ Ls : List (List UInt8), Ls.length = len ∧ len ≤ maxLen ∧ LstB w (some a) Ls := by
  have each : ∀ r, ∃ bs : List UInt8, r < len → bs.length = L r ∧ Byt w (A r) bs := fun r => by
    by_cases hlt : r < len
    · obtain ⟨h1, h2, h3, h4, h5, h6, h7⟩ := hr r (by omega)
      have hrow : IsRow .u8 w (A r) (L r) (C r) (Z r) := by
        cases hA : A r with
        | none =>
          have hc := h6 hA
          exact .inl ⟨rfl, by omega, hc, List.eq_nil_of_length_eq_zero (by omega)⟩
        | some x => exact .inr ⟨x, rfl, h2, h3, h4, fun i hi => (h7 x hA).2 i (by omega), h5⟩
      obtain ⟨bs, k1, k2, -⟩ := bytes_of_row hrow
      exact ⟨bs, fun _ => ⟨k1, k2⟩⟩
    · exact ⟨[], fun h => absurd h hlt⟩
  have hf : ∃ f : Nat → List UInt8, ∀ r, r < len → (f r).length = L r ∧ Byt w (A r) (f r) := ⟨fun r => Classical.choose (each r), fun r => Classical.choose_spec (each r)⟩
  obtain ⟨f, hf⟩ := hf
  refine ⟨(List.range len).map f, by simp, by omega, fun hp => ?_⟩
  have hp' : 0 < len := by simpa using hp
  obtain ⟨b, off, spot⟩ := a
  have hc := (hr 0 (by omega)).1
  have hspot : spot = none := by simpa [Addr.add] using World.cell?_spot hc
  subst hspot
  refine ⟨b, off, rfl, by simpa [Addr.add] using block_lt_of_cell hc, fun j X hj => ?_⟩
  obtain ⟨hj1, hj2⟩ := List.getElem?_eq_some_iff.1 hj
  have hj' : j < len := by simpa using hj1
  have hX : X = f j := by rw [← hj2]; simp
  obtain ⟨e1, e2⟩ := hf j hj'
  have hcj := (hr j (by omega)).1
  rw [add_plain'] at hcj
  refine ⟨A j, C j, ?_, by rw [hX]; exact e2⟩
  rw [hX, e1]
  exact hcj
end Go.Proofs.Ytppcpidlnpencaa
